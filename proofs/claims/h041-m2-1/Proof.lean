import JvmDerived
import JvmDerived.Pilot.@@N@@Statement
import JvmDerived.Pilot.@@N@@Code
set_option linter.unusedVariables false
set_option linter.unusedSimpArgs false
namespace Jvm.Wk9
open Sem ClassFile Op Lib Jvm.Stand Jvm.Free Jvm.LawKit Jvm.RoadKit
/-- the end of a walk; narrow (nothing interned) where wd is false -/
def FinE (wd : Bool) (s : State) (o : Outcome) (t : State) (L : List Loc) (k n : Nat) : Prop :=
  (wd = false → FrameEnd s o t L k n) ∧ ReturnedEndW s o t L k n
/-- what the walk keeps of the tables at hand and of the booked literals; mine: the cells it may write -/
def Vi (wd : Bool) (Z s : State) (EL : List (String × Nat)) (m0 mine : List Addr) (locs : List Loc) (vm : Vm) (h : Heap) : Prop :=
  ((wd = false → vm = s.vm) ∧ Z.Warmed39 vm ∧ (∃ k0, s.Since vm k0 ∧ k0 ≤ h.size) ∧ CHr Z EL s.vm s.heap vm h) ∧ (∀ x ∈ mine, x < h.size ∧ Safe Z EL vm h x ∧ Z.heap.size ≤ x ∧ (x ∈ m0 ∨ s.heap.size ≤ x)) ∧ Ext Z.heap h ∧ Keep s.heap h m0 ∧ Fr Z.heap.size locs
/-- from this frame over this heap the invocation comes to an end of which Q holds -/
def Go (wd : Bool) (p : Program) (l : Launch) (e : Env) (R : Room) (s : State) (m : MethodId) (args : Array Value) (below : List Frame) (meth : Method) (c : Code) (Z : State) (EL : List (String × Nat)) (Q : Option Value → Heap → Prop) (kc ks : Nat) (m0 mine : List Addr) (h : Heap) (locs : List Loc) (cells slots : Nat) (g : JFrame) : Prop :=
  ∀ (T : State) (vm0 : Vm), Stand p l e R (s.setVm vm0) m args below meth c T locs cells slots → T.heap = h → Vi wd Z s EL m0 mine locs vm0 h →
    ∃ (s₂ : State) (o : Outcome), Steps p.tables e below (T.setTop g) s₂ ∧ s₂.status = .running ∧ Ended s₂ below o ∧ ∃ (v : Option Value) (L : List Loc), o = .returned v ∧ Q v s₂.heap ∧ CHr Z EL s.vm s.heap s₂.vm s₂.heap ∧ FinE wd s o s₂ L kc ks ∧ Ext Z.heap s₂.heap ∧ Keep s.heap s₂.heap m0 ∧ Fr Z.heap.size L
/-- what is known of the method that is walked -/
def Cx (wd : Bool) (p : Program) (s : State) (m : MethodId) (meth : Method) (c : Code) (Z : State) (a0 : Array Value) (EL : List (String × Nat)) (own : String) (bytes : ByteArray) (ml : Nat) (ret : Option FieldType) (nm : String) : Prop :=
  p.tables.exec = Jvm.exec ∧ s.vm.findClass own = some m.cls ∧ c.code = bytes ∧ c.maxLocals = ml ∧ meth.sig.returnType = ret ∧ meth.locks = false ∧ EW Z a0 EL ∧ (wd = false → EL = []) ∧ meth.name = nm
/-- a contract: of the method y at these arguments, over the heap h -/
def MetW (wd : Bool) (l : Launch) (Z : State) (EL : List (String × Nat)) (y : MethodName) (bytes : ByteArray) (ml : Nat) (ret : Option FieldType) (ws : List Cond) (rm : Room) (as' : Array Value) (m0 : List Addr) (h : Heap) (Q : Option Value → Heap → Prop) : Prop :=
  MetFree l y (head1 (Cond.code y bytes ml ret :: ws) rm) (fun a U => a = as' ∧ Z.Warmed39 U.vm ∧ U.heap = h ∧ CHv Z EL U.vm h ∧ (∀ x ∈ m0, x < h.size ∧ Safe Z EL U.vm h x ∧ Z.heap.size ≤ x) ∧ Ext Z.heap h) (fun _ _ _ _ _ => True)
    (fun _ U o U' => ∃ v L, o = .returned v ∧ Q v U'.heap ∧ CHr Z EL U.vm U.heap U'.vm U'.heap ∧ FinE wd U o U' L rm.cells rm.slots ∧ Ext Z.heap U'.heap ∧ Keep U.heap U'.heap m0 ∧ Fr Z.heap.size L)
/-- an array whose places hold just vs -/
def Av (Z : State) (h : Heap) (a : Addr) (ty : FieldType) (vs : List Value) : Prop :=
  ∃ c : Cell, Arr Z h a c ty ∧ c.slots.toList = vs ∧ vs.length < 2147483648 ∧ ∀ v ∈ vs, fits ty v = true
section K
variable {wd : Bool} {p : Program} {l : Launch} {e : Env} {R : Room} {s : State} {m : MethodId} {args : Array Value} {below : List Frame} {meth : Method} {c : Code} {Z : State} {a0 : Array Value} {EL : List (String × Nat)} {Q : Option Value → Heap → Prop} {kc ks : Nat} {m0 mine : List Addr} {h h' : Heap} {locs : List Loc} {cells slots : Nat} {own nm : String} {bytes : ByteArray} {ml : Nat} {ret : Option FieldType} {pc : Nat} {Ls : Array Slot} {st : List Value} {a b : Addr} {ty : FieldType} {vs : List Value} {vm : Vm} {ws : List Addr} {v : Value} {sl : Nat}
theorem Cx.hx (C : Cx wd p s m meth c Z a0 EL own bytes ml ret nm) : p.tables.exec = Jvm.exec := C.1
theorem Cx.hown (C : Cx wd p s m meth c Z a0 EL own bytes ml ret nm) : s.vm.findClass own = some m.cls := C.2.1
theorem Cx.hby (C : Cx wd p s m meth c Z a0 EL own bytes ml ret nm) : c.code = bytes := C.2.2.1
theorem Cx.hml (C : Cx wd p s m meth c Z a0 EL own bytes ml ret nm) : c.maxLocals = ml := C.2.2.2.1
theorem Cx.hret (C : Cx wd p s m meth c Z a0 EL own bytes ml ret nm) : meth.sig.returnType = ret := C.2.2.2.2.1
theorem Cx.hlk (C : Cx wd p s m meth c Z a0 EL own bytes ml ret nm) : meth.locks = false := C.2.2.2.2.2.1
theorem Cx.hEW (C : Cx wd p s m meth c Z a0 EL own bytes ml ret nm) : EW Z a0 EL := C.2.2.2.2.2.2.1
theorem Cx.hwd (C : Cx wd p s m meth c Z a0 EL own bytes ml ret nm) : wd = false → EL = [] := C.2.2.2.2.2.2.2.1
theorem Cx.hnm (C : Cx wd p s m meth c Z a0 EL own bytes ml ret nm) : meth.name = nm := C.2.2.2.2.2.2.2.2
theorem Vi.hZ (V : Vi wd Z s EL m0 mine locs vm h) : Z.Warmed39 vm := V.1.2.1
theorem Vi.hZ' (V : Vi wd Z s EL m0 mine locs vm h) : Z.Warmed39 (s.setVm vm).vm := V.1.2.1
theorem Vi.held (V : Vi wd Z s EL m0 mine locs vm h) : CHv Z EL vm h := V.1.2.2.2.1
theorem Vi.fr (V : Vi wd Z s EL m0 mine locs vm h) : Fr Z.heap.size locs := V.2.2.2.2
theorem Vi.old (V : Vi wd Z s EL m0 mine locs vm h) : Ext Z.heap h := V.2.2.1
theorem Vi.hown (C : Cx wd p s m meth c Z a0 EL own bytes ml ret nm) (V : Vi wd Z s EL m0 mine locs vm h) : (s.setVm vm).vm.findClass own = some m.cls := by
  obtain ⟨⟨-, -, ⟨k0, hS, -⟩, -⟩, -⟩ := V
  show vm.findClass own = some m.cls
  rw [hS.1.alike.findClass]; exact C.hown
theorem Vi.hown' (C : Cx wd p s m meth c Z a0 EL own bytes ml ret nm) (V : Vi wd Z s EL m0 mine locs vm h) : vm.findClass own = some m.cls := V.hown C
theorem Vi.keep {locs' : List Loc} (K : Keep h h' ws) (hw : ∀ x ∈ ws, x ∈ mine) (hF : Fr Z.heap.size locs') (V : Vi wd Z s EL m0 mine locs vm h) : Vi wd Z s EL m0 mine locs' vm h' := by
  obtain ⟨⟨v1, v2, ⟨k0, v3, v4⟩, v5⟩, v6, v7, v8, v9⟩ := V
  have sf : ∀ x ∈ ws, Safe Z EL vm h x := fun x hx => (v6 x (hw x hx)).2.1
  have R2 : CHr Z EL vm h vm h' := CHr.keep K sf v5.1
  exact ⟨⟨v1, v2, ⟨k0, v3, Nat.le_trans v4 K.1⟩, v5.trans R2⟩, fun x hx => ⟨Nat.lt_of_lt_of_le (v6 x hx).1 K.1, R2.safe (v6 x hx).1 (v6 x hx).2.1, (v6 x hx).2.2⟩,
    (Old.keep (n0 := Z.heap.size) ⟨rfl, v7⟩ K (fun x hx => (v6 x (hw x hx)).2.2.1)).2, v8.trans K (fun x hx => (v6 x (hw x hx)).2.2.2), hF⟩
theorem keep_ext (E : Ext h h') : Keep h h' [] := (Keep.refl h []).ext E
theorem Vi.ext (E : Ext h h') (V : Vi wd Z s EL m0 mine locs vm h) : Vi wd Z s EL m0 mine locs vm h' := V.keep (keep_ext E) (fun _ q => nomatch q) V.fr
theorem Vi.new (E : Ext h h') (hlt : h.size < h'.size) (V : Vi wd Z s EL m0 mine locs vm h) : Vi wd Z s EL m0 (h.size :: mine) locs vm h' := by
  have V' := V.ext E
  refine ⟨V'.1, fun x hx => ?_, V'.2.2⟩
  rcases List.mem_cons.mp hx with rfl | hx
  · exact ⟨hlt, Safe.ext E V.held (Safe.new (Nat.le_refl _)), V.2.2.1.1, Or.inr V.2.2.2.1.1⟩
  · exact V'.2.1 x hx
theorem Vi.less {mine' : List Addr} (hm : ∀ x ∈ mine', x ∈ mine) (V : Vi wd Z s EL m0 mine locs vm h) : Vi wd Z s EL m0 mine' locs vm h :=
  ⟨V.1, fun x hx => V.2.1 x (hm x hx), V.2.2⟩
theorem Vi.wr1 (V : Vi wd Z s EL m0 mine locs vm h) (hm : a ∈ mine) : Fr Z.heap.size (locs ++ [⟨a, sl⟩]) := fun y hy => by
  rcases List.mem_append.mp hy with q | q
  · exact V.fr y q
  · rw [List.mem_singleton.mp q]; exact (V.2.1 a hm).2.2.1
theorem Go.less {mine' : List Addr} {g : JFrame} (hm : ∀ x ∈ mine', x ∈ mine) (nx : Go wd p l e R s m args below meth c Z EL Q kc ks m0 mine' h locs cells slots g) : Go wd p l e R s m args below meth c Z EL Q kc ks m0 mine h locs cells slots g :=
  fun T vm0 X eT V => nx T vm0 X eT (V.less hm)
theorem Go.join {α : Sort _} {P : α → JFrame} {g : JFrame} (k : ∀ x, Go wd p l e R s m args below meth c Z EL Q kc ks m0 mine h locs cells slots (P x)) (u : (∀ x, Go wd p l e R s m args below meth c Z EL Q kc ks m0 mine h locs cells slots (P x)) → Go wd p l e R s m args below meth c Z EL Q kc ks m0 mine h locs cells slots g) : Go wd p l e R s m args below meth c Z EL Q kc ks m0 mine h locs cells slots g := u k
/-- what the walk knows besides, brought to light -/
theorem Go.know {g : JFrame} (nx : Ext Z.heap h → Keep s.heap h m0 → (∀ x ∈ mine, x < h.size ∧ Z.heap.size ≤ x) → Go wd p l e R s m args below meth c Z EL Q kc ks m0 mine h locs cells slots g) : Go wd p l e R s m args below meth c Z EL Q kc ks m0 mine h locs cells slots g :=
  fun T vm0 X eT V => nx V.2.2.1 V.2.2.2.1 (fun x hx => ⟨(V.2.1 x hx).1, (V.2.1 x hx).2.2.1⟩) T vm0 X eT V
theorem FinE.mono {o : Outcome} {t : State} {L : List Loc} {k n k' n' : Nat} (F : FinE wd s o t L k n) (h1 : k ≤ k') (h2 : n ≤ n') : FinE wd s o t L k' n' :=
  ⟨fun q => ⟨(F.1 q).1, (F.1 q).2.1, (F.1 q).2.2.mono h1 h2⟩, F.2.1, F.2.2.1, F.2.2.2.1, F.2.2.2.2.mono h1 h2⟩
theorem MetW.post {y : MethodName} {wsc : List Cond} {rm : Room} {as' : Array Value} {Q' : Option Value → Heap → Prop} (M : MetW wd l Z EL y bytes ml ret wsc rm as' m0 h Q) (hq : ∀ v h', Q v h' → Keep h h' m0 → Q' v h') : MetW wd l Z EL y bytes ml ret wsc rm as' m0 h Q' :=
  MetFree.mono M (fun _ _ q => q) (fun _ _ _ _ _ q => q) (fun _ _ _ _ hP ⟨v, L, q1, q2, q3, q4, q5, q6, q7⟩ => ⟨v, L, q1, hq _ _ q2 (by rw [← hP.2.2.1]; exact q6), q3, q4, q5, q6, q7⟩)
/-- the entry of a method -/
theorem MetW.of {y : MethodName} {wsc : List Cond} {rm : Room} {as' : Array Value} (hpn : plainName y.cls = true) (hef : ∀ m : MethodId, entryFrame m as' ml = mkF m 0 Ls []) (hEW : EW Z a0 EL) (hwd : wd = false → EL = [])
    (body : ∀ (p : Program) (e : Env) (s : State) (m : MethodId) (below : List Frame) (meth : Method) (c : Code), s.heap = h → Cx wd p s m meth c Z a0 EL y.cls bytes ml ret y.name → Go wd p l e rm s m as' below meth c Z EL Q rm.cells rm.slots m0 m0 h [] 0 0 (mkF m 0 Ls [])) :
    MetW wd l Z EL y bytes ml ret wsc rm as' m0 h Q := by
  refine MetFree.of_bodySF (plainFor_of_name hpn) hisR ?_
  intro p e s m args below meth c s₁ Bd hml0 hP hK
  obtain ⟨rfl, hZ, hh, H, hm, hold⟩ := hP
  have X0 : Stand p l e rm s m args below meth c s₁ [] 0 0 := Stand.of_body Bd
  have e0 : s₁.heap = h := by rw [← hh, Bd.state]; rfl
  have hlk : meth.locks = false := by first | exact BodyLoose.notSynchronized Bd | exact Body.notSynchronized Bd
  have C : Cx wd p s m meth c Z a0 EL y.cls bytes ml ret y.name := ⟨Bd.exec, findClass_of_methodNamed Bd.named, Bd.bytes, hml0, Bd.returns, hlk, hEW, hwd, (name_of_methodNamed Bd.named Bd.method).1⟩
  have V : Vi wd Z s EL m0 m0 [] s.vm h := ⟨⟨fun _ => rfl, hZ, ⟨h.size, ⟨State.Warmed39.refl s, fun j q hj hq => absurd (Array.getElem?_eq_some_iff.mp hq).1 (Nat.not_lt.mpr hj)⟩, Nat.le_refl _⟩, by rw [hh]; exact CHr.refl H⟩, fun x hx => ⟨(hm x hx).1, (hm x hx).2.1, (hm x hx).2.2, Or.inl hx⟩, hold, by rw [hh]; exact Keep.refl _ _, Fr.nil _⟩
  obtain ⟨s₂, o, k, r1, r2, v, L, r3, r4, r5, r6⟩ := body p e s m below meth c hh C s₁ s.vm X0 e0 V
  exact ⟨s₂, o, castTop (hef m) k, r1, r2, v, L, r3, r4, r5, r6⟩
theorem Go.pure {g g' : JFrame} (nx : Go wd p l e R s m args below meth c Z EL Q kc ks m0 mine h locs cells slots g') (stp : ∀ (T target : State), At T m c below → Steps p.tables e below (T.setTop g') target → Steps p.tables e below (T.setTop g) target) : Go wd p l e R s m args below meth c Z EL Q kc ks m0 mine h locs cells slots g :=
  fun T vm0 X eT V => by
    obtain ⟨s₂, o, k, r⟩ := nx T vm0 X eT V
    exact ⟨s₂, o, stp T s₂ X.here k, r⟩
def hC (cd : ClassFile.Cond) (x y : Int32) : Prop := match cd with | .eq => x = y | .ne => ¬ x = y | .lt => x < y | .ge => ¬ x < y | .gt => y < x | .le => ¬ y < x
def nC (cd : ClassFile.Cond) (x y : Int32) : Prop := match cd with | .eq => ¬ x = y | .ne => x = y | .lt => ¬ x < y | .ge => x < y | .gt => ¬ y < x | .le => y < x
theorem hC_t {cd : ClassFile.Cond} {x y : Int32} (q : hC cd x y) : if_icmp.holds cd x y = true := by
  cases cd
  · exact (teq q).1
  · exact (feq q).2
  · exact (tlt q).1
  · exact (flt q).2.1
  · exact (tlt q).2.2.1
  · exact (flt q).2.2.2
theorem nC_f {cd : ClassFile.Cond} {x y : Int32} (q : nC cd x y) : if_icmp.holds cd x y = false := by
  cases cd
  · exact (feq q).1
  · exact (teq q).2
  · exact (flt q).1
  · exact (tlt q).2.1
  · exact (flt q).2.2.1
  · exact (tlt q).2.2.2
def aC (cd : ClassFile.ACond) (x y : Value) : Prop := match cd with | .eq => x = y | .ne => ¬ x = y
def aN (cd : ClassFile.ACond) (x y : Value) : Prop := match cd with | .eq => ¬ x = y | .ne => x = y
theorem aC_t {cd : ClassFile.ACond} {x y : Value} (q : aC cd x y) : XT.acmp cd x y = true := by
  cases cd
  · exact XT.aa_eq_t q
  · exact XT.aa_ne_t q
theorem aN_f {cd : ClassFile.ACond} {x y : Value} (q : aN cd x y) : XT.acmp cd x y = false := by
  cases cd
  · exact XT.aa_eq_f q
  · exact XT.aa_ne_f q
theorem g_aloadN {k : Fin 4} {v : Value} (C : Cx wd p s m meth c Z a0 EL own bytes ml ret nm) (hd : decode bytes pc = .ok (.aload_n k, 1)) (hl : Ls[k.val]? = some (.val v)) (hv : v.isRef = true) (nx : Go wd p l e R s m args below meth c Z EL Q kc ks m0 mine h locs cells slots (mkF m (pc + 1) Ls (v :: st))) : Go wd p l e R s m args below meth c Z EL Q kc ks m0 mine h locs cells slots (mkF m pc Ls (st)) := nx.pure fun T t H hr => XS.aloadN H C.hx rfl (hb C.hby hd) hl hv hr
theorem g_aload {k : Nat} {v : Value} (C : Cx wd p s m meth c Z a0 EL own bytes ml ret nm) (hd : decode bytes pc = .ok (.aload k, 2)) (hl : Ls[k]? = some (.val v)) (hv : v.isRef = true) (nx : Go wd p l e R s m args below meth c Z EL Q kc ks m0 mine h locs cells slots (mkF m (pc + 2) Ls (v :: st))) : Go wd p l e R s m args below meth c Z EL Q kc ks m0 mine h locs cells slots (mkF m pc Ls (st)) := nx.pure fun T t H hr => XS.aload H C.hx rfl (hb C.hby hd) hl hv hr
theorem g_iloadN {k : Fin 4} {x : Int32} (C : Cx wd p s m meth c Z a0 EL own bytes ml ret nm) (hd : decode bytes pc = .ok (.iload_n k, 1)) (hl : Ls[k.val]? = some (.val (.int x))) (nx : Go wd p l e R s m args below meth c Z EL Q kc ks m0 mine h locs cells slots (mkF m (pc + 1) Ls (.int x :: st))) : Go wd p l e R s m args below meth c Z EL Q kc ks m0 mine h locs cells slots (mkF m pc Ls (st)) := nx.pure fun T t H hr => XS.iloadN H C.hx rfl (hb C.hby hd) hl hr
theorem g_iload {k : Nat} {x : Int32} (C : Cx wd p s m meth c Z a0 EL own bytes ml ret nm) (hd : decode bytes pc = .ok (.iload k, 2)) (hl : Ls[k]? = some (.val (.int x))) (nx : Go wd p l e R s m args below meth c Z EL Q kc ks m0 mine h locs cells slots (mkF m (pc + 2) Ls (.int x :: st))) : Go wd p l e R s m args below meth c Z EL Q kc ks m0 mine h locs cells slots (mkF m pc Ls (st)) := nx.pure fun T t H hr => XS.iload H C.hx rfl (hb C.hby hd) hl hr
theorem g_lloadN {k : Fin 4} {x : Int64} (C : Cx wd p s m meth c Z a0 EL own bytes ml ret nm) (hd : decode bytes pc = .ok (.lload_n k, 1)) (hl : Ls[k.val]? = some (.val (.long x))) (nx : Go wd p l e R s m args below meth c Z EL Q kc ks m0 mine h locs cells slots (mkF m (pc + 1) Ls (.long x :: st))) : Go wd p l e R s m args below meth c Z EL Q kc ks m0 mine h locs cells slots (mkF m pc Ls (st)) := nx.pure fun T t H hr => XT.lloadN H C.hx rfl (hb C.hby hd) hl hr
theorem g_lload {k : Nat} {x : Int64} (C : Cx wd p s m meth c Z a0 EL own bytes ml ret nm) (hd : decode bytes pc = .ok (.lload k, 2)) (hl : Ls[k]? = some (.val (.long x))) (nx : Go wd p l e R s m args below meth c Z EL Q kc ks m0 mine h locs cells slots (mkF m (pc + 2) Ls (.long x :: st))) : Go wd p l e R s m args below meth c Z EL Q kc ks m0 mine h locs cells slots (mkF m pc Ls (st)) := nx.pure fun T t H hr => XT.lload H C.hx rfl (hb C.hby hd) hl hr
theorem g_istoreN {k : Fin 4} {x : Int32} (l' : Array Slot) (C : Cx wd p s m meth c Z a0 EL own bytes ml ret nm) (hd : decode bytes pc = .ok (.istore_n k, 1)) (hl : storeLocals Ls k.val (.int x) = some l') (nx : Go wd p l e R s m args below meth c Z EL Q kc ks m0 mine h locs cells slots (mkF m (pc + 1) l' (st))) : Go wd p l e R s m args below meth c Z EL Q kc ks m0 mine h locs cells slots (mkF m pc Ls (.int x :: st)) := nx.pure fun T t H hr => XS.istoreN H C.hx rfl (hb C.hby hd) rfl hl hr
theorem g_istore {k : Nat} {x : Int32} (l' : Array Slot) (C : Cx wd p s m meth c Z a0 EL own bytes ml ret nm) (hd : decode bytes pc = .ok (.istore k, 2)) (hl : storeLocals Ls k (.int x) = some l') (nx : Go wd p l e R s m args below meth c Z EL Q kc ks m0 mine h locs cells slots (mkF m (pc + 2) l' (st))) : Go wd p l e R s m args below meth c Z EL Q kc ks m0 mine h locs cells slots (mkF m pc Ls (.int x :: st)) := nx.pure fun T t H hr => XS.istore H C.hx rfl (hb C.hby hd) rfl hl hr
theorem g_lstoreN {k : Fin 4} {x : Int64} (l' : Array Slot) (C : Cx wd p s m meth c Z a0 EL own bytes ml ret nm) (hd : decode bytes pc = .ok (.lstore_n k, 1)) (hl : storeLocals Ls k.val (.long x) = some l') (nx : Go wd p l e R s m args below meth c Z EL Q kc ks m0 mine h locs cells slots (mkF m (pc + 1) l' (st))) : Go wd p l e R s m args below meth c Z EL Q kc ks m0 mine h locs cells slots (mkF m pc Ls (.long x :: st)) := nx.pure fun T t H hr => XT.lstoreN H C.hx rfl (hb C.hby hd) rfl hl hr
theorem g_lstore {k : Nat} {x : Int64} (l' : Array Slot) (C : Cx wd p s m meth c Z a0 EL own bytes ml ret nm) (hd : decode bytes pc = .ok (.lstore k, 2)) (hl : storeLocals Ls k (.long x) = some l') (nx : Go wd p l e R s m args below meth c Z EL Q kc ks m0 mine h locs cells slots (mkF m (pc + 2) l' (st))) : Go wd p l e R s m args below meth c Z EL Q kc ks m0 mine h locs cells slots (mkF m pc Ls (.long x :: st)) := nx.pure fun T t H hr => XT.lstore H C.hx rfl (hb C.hby hd) rfl hl hr
theorem g_astoreN {k : Fin 4} {x : Value} (l' : Array Slot) (C : Cx wd p s m meth c Z a0 EL own bytes ml ret nm) (hd : decode bytes pc = .ok (.astore_n k, 1)) (hv : x.isRef = true) (hl : storeLocals Ls k.val x = some l') (nx : Go wd p l e R s m args below meth c Z EL Q kc ks m0 mine h locs cells slots (mkF m (pc + 1) l' (st))) : Go wd p l e R s m args below meth c Z EL Q kc ks m0 mine h locs cells slots (mkF m pc Ls (x :: st)) := nx.pure fun T t H hr => XS.astoreN H C.hx rfl (hb C.hby hd) rfl hv hl hr
theorem g_astore {k : Nat} {x : Value} (l' : Array Slot) (C : Cx wd p s m meth c Z a0 EL own bytes ml ret nm) (hd : decode bytes pc = .ok (.astore k, 2)) (hv : x.isRef = true) (hl : storeLocals Ls k x = some l') (nx : Go wd p l e R s m args below meth c Z EL Q kc ks m0 mine h locs cells slots (mkF m (pc + 2) l' (st))) : Go wd p l e R s m args below meth c Z EL Q kc ks m0 mine h locs cells slots (mkF m pc Ls (x :: st)) := nx.pure fun T t H hr => XS.astore H C.hx rfl (hb C.hby hd) rfl hv hl hr
theorem g_iconst {i : Int} (z : Int32) (C : Cx wd p s m meth c Z a0 EL own bytes ml ret nm) (hd : decode bytes pc = .ok (.iconst i, 1)) (hz : Int32.ofInt i = z) (nx : Go wd p l e R s m args below meth c Z EL Q kc ks m0 mine h locs cells slots (mkF m (pc + 1) Ls (.int z :: st))) : Go wd p l e R s m args below meth c Z EL Q kc ks m0 mine h locs cells slots (mkF m pc Ls (st)) := nx.pure fun T t H hr => XT.iconstV H C.hx rfl z (hb C.hby hd) hz hr
theorem g_bipush {i : Int} (z : Int32) (C : Cx wd p s m meth c Z a0 EL own bytes ml ret nm) (hd : decode bytes pc = .ok (.bipush i, 2)) (hz : (Int8.ofInt i).toInt32 = z) (nx : Go wd p l e R s m args below meth c Z EL Q kc ks m0 mine h locs cells slots (mkF m (pc + 2) Ls (.int z :: st))) : Go wd p l e R s m args below meth c Z EL Q kc ks m0 mine h locs cells slots (mkF m pc Ls (st)) := nx.pure fun T t H hr => XT.bipushV H C.hx rfl z (hb C.hby hd) hz hr
theorem g_sipush {i : Int} (z : Int32) (C : Cx wd p s m meth c Z a0 EL own bytes ml ret nm) (hd : decode bytes pc = .ok (.sipush i, 3)) (hz : (Int16.ofInt i).toInt32 = z) (nx : Go wd p l e R s m args below meth c Z EL Q kc ks m0 mine h locs cells slots (mkF m (pc + 3) Ls (.int z :: st))) : Go wd p l e R s m args below meth c Z EL Q kc ks m0 mine h locs cells slots (mkF m pc Ls (st)) := nx.pure fun T t H hr => XT.sipushV H C.hx rfl z (hb C.hby hd) hz hr
theorem g_lconst {k : Fin 2} (z : Int64) (C : Cx wd p s m meth c Z a0 EL own bytes ml ret nm) (hd : decode bytes pc = .ok (.lconst k, 1)) (hz : Int64.ofNat k = z) (nx : Go wd p l e R s m args below meth c Z EL Q kc ks m0 mine h locs cells slots (mkF m (pc + 1) Ls (.long z :: st))) : Go wd p l e R s m args below meth c Z EL Q kc ks m0 mine h locs cells slots (mkF m pc Ls (st)) := nx.pure fun T t H hr => XT.lconstV H C.hx rfl z (hb C.hby hd) hz hr
theorem g_aconstNull  (C : Cx wd p s m meth c Z a0 EL own bytes ml ret nm) (hd : decode bytes pc = .ok (.aconst_null, 1))  (nx : Go wd p l e R s m args below meth c Z EL Q kc ks m0 mine h locs cells slots (mkF m (pc + 1) Ls (.null :: st))) : Go wd p l e R s m args below meth c Z EL Q kc ks m0 mine h locs cells slots (mkF m pc Ls (st)) := nx.pure fun T t H hr => XS.aconstNull H C.hx rfl (hb C.hby hd) hr
theorem g_iadd {x y : Int32} (z : Int32) (C : Cx wd p s m meth c Z a0 EL own bytes ml ret nm) (hd : decode bytes pc = .ok (.iadd, 1)) (hz : x + y = z) (nx : Go wd p l e R s m args below meth c Z EL Q kc ks m0 mine h locs cells slots (mkF m (pc + 1) Ls (.int z :: st))) : Go wd p l e R s m args below meth c Z EL Q kc ks m0 mine h locs cells slots (mkF m pc Ls (.int y :: .int x :: st)) := by subst hz; exact nx.pure fun T t H hr => XS.iadd H C.hx rfl (hb C.hby hd) rfl hr
theorem g_isub {x y : Int32} (z : Int32) (C : Cx wd p s m meth c Z a0 EL own bytes ml ret nm) (hd : decode bytes pc = .ok (.isub, 1)) (hz : x - y = z) (nx : Go wd p l e R s m args below meth c Z EL Q kc ks m0 mine h locs cells slots (mkF m (pc + 1) Ls (.int z :: st))) : Go wd p l e R s m args below meth c Z EL Q kc ks m0 mine h locs cells slots (mkF m pc Ls (.int y :: .int x :: st)) := by subst hz; exact nx.pure fun T t H hr => XS.isub H C.hx rfl (hb C.hby hd) rfl hr
theorem g_iand {x y : Int32} (z : Int32) (C : Cx wd p s m meth c Z a0 EL own bytes ml ret nm) (hd : decode bytes pc = .ok (.iand, 1)) (hz : x &&& y = z) (nx : Go wd p l e R s m args below meth c Z EL Q kc ks m0 mine h locs cells slots (mkF m (pc + 1) Ls (.int z :: st))) : Go wd p l e R s m args below meth c Z EL Q kc ks m0 mine h locs cells slots (mkF m pc Ls (.int y :: .int x :: st)) := by subst hz; exact nx.pure fun T t H hr => XS.iand H C.hx rfl (hb C.hby hd) rfl hr
theorem g_imul {x y : Int32} (z : Int32) (C : Cx wd p s m meth c Z a0 EL own bytes ml ret nm) (hd : decode bytes pc = .ok (.imul, 1)) (hz : x * y = z) (nx : Go wd p l e R s m args below meth c Z EL Q kc ks m0 mine h locs cells slots (mkF m (pc + 1) Ls (.int z :: st))) : Go wd p l e R s m args below meth c Z EL Q kc ks m0 mine h locs cells slots (mkF m pc Ls (.int y :: .int x :: st)) := by subst hz; exact nx.pure fun T t H hr => XS.imul H C.hx rfl (hb C.hby hd) rfl hr
theorem g_ixor {x y : Int32} (z : Int32) (C : Cx wd p s m meth c Z a0 EL own bytes ml ret nm) (hd : decode bytes pc = .ok (.ixor, 1)) (hz : x ^^^ y = z) (nx : Go wd p l e R s m args below meth c Z EL Q kc ks m0 mine h locs cells slots (mkF m (pc + 1) Ls (.int z :: st))) : Go wd p l e R s m args below meth c Z EL Q kc ks m0 mine h locs cells slots (mkF m pc Ls (.int y :: .int x :: st)) := by subst hz; exact nx.pure fun T t H hr => XT.ixor H C.hx rfl (hb C.hby hd) rfl hr
theorem g_ior {x y : Int32} (z : Int32) (C : Cx wd p s m meth c Z a0 EL own bytes ml ret nm) (hd : decode bytes pc = .ok (.ior, 1)) (hz : x ||| y = z) (nx : Go wd p l e R s m args below meth c Z EL Q kc ks m0 mine h locs cells slots (mkF m (pc + 1) Ls (.int z :: st))) : Go wd p l e R s m args below meth c Z EL Q kc ks m0 mine h locs cells slots (mkF m pc Ls (.int y :: .int x :: st)) := by subst hz; exact nx.pure fun T t H hr => XT.ior H C.hx rfl (hb C.hby hd) rfl hr
theorem g_ishl {x y : Int32} (z : Int32) (C : Cx wd p s m meth c Z a0 EL own bytes ml ret nm) (hd : decode bytes pc = .ok (.ishl, 1)) (hz : x <<< (y &&& 31) = z) (nx : Go wd p l e R s m args below meth c Z EL Q kc ks m0 mine h locs cells slots (mkF m (pc + 1) Ls (.int z :: st))) : Go wd p l e R s m args below meth c Z EL Q kc ks m0 mine h locs cells slots (mkF m pc Ls (.int y :: .int x :: st)) := by subst hz; exact nx.pure fun T t H hr => XT.ishl H C.hx rfl (hb C.hby hd) rfl hr
theorem g_ishr {x y : Int32} (z : Int32) (C : Cx wd p s m meth c Z a0 EL own bytes ml ret nm) (hd : decode bytes pc = .ok (.ishr, 1)) (hz : x >>> (y &&& 31) = z) (nx : Go wd p l e R s m args below meth c Z EL Q kc ks m0 mine h locs cells slots (mkF m (pc + 1) Ls (.int z :: st))) : Go wd p l e R s m args below meth c Z EL Q kc ks m0 mine h locs cells slots (mkF m pc Ls (.int y :: .int x :: st)) := by subst hz; exact nx.pure fun T t H hr => XT.ishr H C.hx rfl (hb C.hby hd) rfl hr
theorem g_iushr {x y : Int32} (z : Int32) (C : Cx wd p s m meth c Z a0 EL own bytes ml ret nm) (hd : decode bytes pc = .ok (.iushr, 1)) (hz : XT.ushr x y = z) (nx : Go wd p l e R s m args below meth c Z EL Q kc ks m0 mine h locs cells slots (mkF m (pc + 1) Ls (.int z :: st))) : Go wd p l e R s m args below meth c Z EL Q kc ks m0 mine h locs cells slots (mkF m pc Ls (.int y :: .int x :: st)) := by subst hz; exact nx.pure fun T t H hr => XT.iushr H C.hx rfl (hb C.hby hd) rfl hr
theorem g_idiv {x y : Int32} (z : Int32) (C : Cx wd p s m meth c Z a0 EL own bytes ml ret nm) (hd : decode bytes pc = .ok (.idiv, 1)) (hy : y ≠ 0) (hz : x / y = z) (nx : Go wd p l e R s m args below meth c Z EL Q kc ks m0 mine h locs cells slots (mkF m (pc + 1) Ls (.int z :: st))) : Go wd p l e R s m args below meth c Z EL Q kc ks m0 mine h locs cells slots (mkF m pc Ls (.int y :: .int x :: st)) := by subst hz; exact nx.pure fun T t H hr => XS.idiv H C.hx rfl (hb C.hby hd) rfl hy hr
theorem g_irem {x y : Int32} (z : Int32) (C : Cx wd p s m meth c Z a0 EL own bytes ml ret nm) (hd : decode bytes pc = .ok (.irem, 1)) (hy : y ≠ 0) (hz : x - (x / y) * y = z) (nx : Go wd p l e R s m args below meth c Z EL Q kc ks m0 mine h locs cells slots (mkF m (pc + 1) Ls (.int z :: st))) : Go wd p l e R s m args below meth c Z EL Q kc ks m0 mine h locs cells slots (mkF m pc Ls (.int y :: .int x :: st)) := by subst hz; exact nx.pure fun T t H hr => XS.irem H C.hx rfl (hb C.hby hd) rfl hy hr
theorem g_ineg {x : Int32} (z : Int32) (C : Cx wd p s m meth c Z a0 EL own bytes ml ret nm) (hd : decode bytes pc = .ok (.ineg, 1)) (hz : -x = z) (nx : Go wd p l e R s m args below meth c Z EL Q kc ks m0 mine h locs cells slots (mkF m (pc + 1) Ls (.int z :: st))) : Go wd p l e R s m args below meth c Z EL Q kc ks m0 mine h locs cells slots (mkF m pc Ls (.int x :: st)) := by subst hz; exact nx.pure fun T t H hr => XS.ineg H C.hx rfl (hb C.hby hd) rfl hr
theorem g_i2b {x : Int32} (z : Int32) (C : Cx wd p s m meth c Z a0 EL own bytes ml ret nm) (hd : decode bytes pc = .ok (.i2b, 1)) (hz : x.toInt8.toInt32 = z) (nx : Go wd p l e R s m args below meth c Z EL Q kc ks m0 mine h locs cells slots (mkF m (pc + 1) Ls (.int z :: st))) : Go wd p l e R s m args below meth c Z EL Q kc ks m0 mine h locs cells slots (mkF m pc Ls (.int x :: st)) := by subst hz; exact nx.pure fun T t H hr => XT.i2b H C.hx rfl (hb C.hby hd) rfl hr
theorem g_i2c {x : Int32} (z : Int32) (C : Cx wd p s m meth c Z a0 EL own bytes ml ret nm) (hd : decode bytes pc = .ok (.i2c, 1)) (hz : x.toUInt32.toUInt16.toUInt32.toInt32 = z) (nx : Go wd p l e R s m args below meth c Z EL Q kc ks m0 mine h locs cells slots (mkF m (pc + 1) Ls (.int z :: st))) : Go wd p l e R s m args below meth c Z EL Q kc ks m0 mine h locs cells slots (mkF m pc Ls (.int x :: st)) := by subst hz; exact nx.pure fun T t H hr => XT.i2c H C.hx rfl (hb C.hby hd) rfl hr
theorem g_i2s {x : Int32} (z : Int32) (C : Cx wd p s m meth c Z a0 EL own bytes ml ret nm) (hd : decode bytes pc = .ok (.i2s, 1)) (hz : x.toInt16.toInt32 = z) (nx : Go wd p l e R s m args below meth c Z EL Q kc ks m0 mine h locs cells slots (mkF m (pc + 1) Ls (.int z :: st))) : Go wd p l e R s m args below meth c Z EL Q kc ks m0 mine h locs cells slots (mkF m pc Ls (.int x :: st)) := by subst hz; exact nx.pure fun T t H hr => XT.i2s H C.hx rfl (hb C.hby hd) rfl hr
theorem g_i2l {x : Int32} (z : Int64) (C : Cx wd p s m meth c Z a0 EL own bytes ml ret nm) (hd : decode bytes pc = .ok (.i2l, 1)) (hz : x.toInt64 = z) (nx : Go wd p l e R s m args below meth c Z EL Q kc ks m0 mine h locs cells slots (mkF m (pc + 1) Ls (.long z :: st))) : Go wd p l e R s m args below meth c Z EL Q kc ks m0 mine h locs cells slots (mkF m pc Ls (.int x :: st)) := by subst hz; exact nx.pure fun T t H hr => XT.i2l H C.hx rfl (hb C.hby hd) rfl hr
theorem g_l2i {x : Int64} (z : Int32) (C : Cx wd p s m meth c Z a0 EL own bytes ml ret nm) (hd : decode bytes pc = .ok (.l2i, 1)) (hz : x.toInt32 = z) (nx : Go wd p l e R s m args below meth c Z EL Q kc ks m0 mine h locs cells slots (mkF m (pc + 1) Ls (.int z :: st))) : Go wd p l e R s m args below meth c Z EL Q kc ks m0 mine h locs cells slots (mkF m pc Ls (.long x :: st)) := by subst hz; exact nx.pure fun T t H hr => XT.l2i H C.hx rfl (hb C.hby hd) rfl hr
theorem g_ladd {x y : Int64} (z : Int64) (C : Cx wd p s m meth c Z a0 EL own bytes ml ret nm) (hd : decode bytes pc = .ok (.ladd, 1)) (hz : x + y = z) (nx : Go wd p l e R s m args below meth c Z EL Q kc ks m0 mine h locs cells slots (mkF m (pc + 1) Ls (.long z :: st))) : Go wd p l e R s m args below meth c Z EL Q kc ks m0 mine h locs cells slots (mkF m pc Ls (.long y :: .long x :: st)) := by subst hz; exact nx.pure fun T t H hr => XT.ladd H C.hx rfl (hb C.hby hd) rfl hr
theorem g_lsub {x y : Int64} (z : Int64) (C : Cx wd p s m meth c Z a0 EL own bytes ml ret nm) (hd : decode bytes pc = .ok (.lsub, 1)) (hz : x - y = z) (nx : Go wd p l e R s m args below meth c Z EL Q kc ks m0 mine h locs cells slots (mkF m (pc + 1) Ls (.long z :: st))) : Go wd p l e R s m args below meth c Z EL Q kc ks m0 mine h locs cells slots (mkF m pc Ls (.long y :: .long x :: st)) := by subst hz; exact nx.pure fun T t H hr => XT.lsub H C.hx rfl (hb C.hby hd) rfl hr
theorem g_lmul {x y : Int64} (z : Int64) (C : Cx wd p s m meth c Z a0 EL own bytes ml ret nm) (hd : decode bytes pc = .ok (.lmul, 1)) (hz : x * y = z) (nx : Go wd p l e R s m args below meth c Z EL Q kc ks m0 mine h locs cells slots (mkF m (pc + 1) Ls (.long z :: st))) : Go wd p l e R s m args below meth c Z EL Q kc ks m0 mine h locs cells slots (mkF m pc Ls (.long y :: .long x :: st)) := by subst hz; exact nx.pure fun T t H hr => XT.lmul H C.hx rfl (hb C.hby hd) rfl hr
theorem g_land {x y : Int64} (z : Int64) (C : Cx wd p s m meth c Z a0 EL own bytes ml ret nm) (hd : decode bytes pc = .ok (.land, 1)) (hz : x &&& y = z) (nx : Go wd p l e R s m args below meth c Z EL Q kc ks m0 mine h locs cells slots (mkF m (pc + 1) Ls (.long z :: st))) : Go wd p l e R s m args below meth c Z EL Q kc ks m0 mine h locs cells slots (mkF m pc Ls (.long y :: .long x :: st)) := by subst hz; exact nx.pure fun T t H hr => XT.land H C.hx rfl (hb C.hby hd) rfl hr
theorem g_lor {x y : Int64} (z : Int64) (C : Cx wd p s m meth c Z a0 EL own bytes ml ret nm) (hd : decode bytes pc = .ok (.lor, 1)) (hz : x ||| y = z) (nx : Go wd p l e R s m args below meth c Z EL Q kc ks m0 mine h locs cells slots (mkF m (pc + 1) Ls (.long z :: st))) : Go wd p l e R s m args below meth c Z EL Q kc ks m0 mine h locs cells slots (mkF m pc Ls (.long y :: .long x :: st)) := by subst hz; exact nx.pure fun T t H hr => XT.lor H C.hx rfl (hb C.hby hd) rfl hr
theorem g_lxor {x y : Int64} (z : Int64) (C : Cx wd p s m meth c Z a0 EL own bytes ml ret nm) (hd : decode bytes pc = .ok (.lxor, 1)) (hz : x ^^^ y = z) (nx : Go wd p l e R s m args below meth c Z EL Q kc ks m0 mine h locs cells slots (mkF m (pc + 1) Ls (.long z :: st))) : Go wd p l e R s m args below meth c Z EL Q kc ks m0 mine h locs cells slots (mkF m pc Ls (.long y :: .long x :: st)) := by subst hz; exact nx.pure fun T t H hr => XT.lxor H C.hx rfl (hb C.hby hd) rfl hr
theorem g_ldiv {x y : Int64} (z : Int64) (C : Cx wd p s m meth c Z a0 EL own bytes ml ret nm) (hd : decode bytes pc = .ok (.ldiv, 1)) (hy : y ≠ 0) (hz : x / y = z) (nx : Go wd p l e R s m args below meth c Z EL Q kc ks m0 mine h locs cells slots (mkF m (pc + 1) Ls (.long z :: st))) : Go wd p l e R s m args below meth c Z EL Q kc ks m0 mine h locs cells slots (mkF m pc Ls (.long y :: .long x :: st)) := by subst hz; exact nx.pure fun T t H hr => XT.ldiv H C.hx rfl (hb C.hby hd) rfl hy hr
theorem g_lrem {x y : Int64} (z : Int64) (C : Cx wd p s m meth c Z a0 EL own bytes ml ret nm) (hd : decode bytes pc = .ok (.lrem, 1)) (hy : y ≠ 0) (hz : x - (x / y) * y = z) (nx : Go wd p l e R s m args below meth c Z EL Q kc ks m0 mine h locs cells slots (mkF m (pc + 1) Ls (.long z :: st))) : Go wd p l e R s m args below meth c Z EL Q kc ks m0 mine h locs cells slots (mkF m pc Ls (.long y :: .long x :: st)) := by subst hz; exact nx.pure fun T t H hr => XT.lrem H C.hx rfl (hb C.hby hd) rfl hy hr
theorem g_lshl {x : Int64} {y : Int32} (z : Int64) (C : Cx wd p s m meth c Z a0 EL own bytes ml ret nm) (hd : decode bytes pc = .ok (.lshl, 1)) (hz : x <<< (y.toInt64 &&& 63) = z) (nx : Go wd p l e R s m args below meth c Z EL Q kc ks m0 mine h locs cells slots (mkF m (pc + 1) Ls (.long z :: st))) : Go wd p l e R s m args below meth c Z EL Q kc ks m0 mine h locs cells slots (mkF m pc Ls (.int y :: .long x :: st)) := by subst hz; exact nx.pure fun T t H hr => XT.lshl H C.hx rfl (hb C.hby hd) rfl hr
theorem g_lshr {x : Int64} {y : Int32} (z : Int64) (C : Cx wd p s m meth c Z a0 EL own bytes ml ret nm) (hd : decode bytes pc = .ok (.lshr, 1)) (hz : x >>> (y.toInt64 &&& 63) = z) (nx : Go wd p l e R s m args below meth c Z EL Q kc ks m0 mine h locs cells slots (mkF m (pc + 1) Ls (.long z :: st))) : Go wd p l e R s m args below meth c Z EL Q kc ks m0 mine h locs cells slots (mkF m pc Ls (.int y :: .long x :: st)) := by subst hz; exact nx.pure fun T t H hr => XT.lshr H C.hx rfl (hb C.hby hd) rfl hr
theorem g_lushr {x : Int64} {y : Int32} (z : Int64) (C : Cx wd p s m meth c Z a0 EL own bytes ml ret nm) (hd : decode bytes pc = .ok (.lushr, 1)) (hz : XT.ushrL x y = z) (nx : Go wd p l e R s m args below meth c Z EL Q kc ks m0 mine h locs cells slots (mkF m (pc + 1) Ls (.long z :: st))) : Go wd p l e R s m args below meth c Z EL Q kc ks m0 mine h locs cells slots (mkF m pc Ls (.int y :: .long x :: st)) := by subst hz; exact nx.pure fun T t H hr => XT.lushr H C.hx rfl (hb C.hby hd) rfl hr
theorem g_lneg {x : Int64} (z : Int64) (C : Cx wd p s m meth c Z a0 EL own bytes ml ret nm) (hd : decode bytes pc = .ok (.lneg, 1)) (hz : -x = z) (nx : Go wd p l e R s m args below meth c Z EL Q kc ks m0 mine h locs cells slots (mkF m (pc + 1) Ls (.long z :: st))) : Go wd p l e R s m args below meth c Z EL Q kc ks m0 mine h locs cells slots (mkF m pc Ls (.long x :: st)) := by subst hz; exact nx.pure fun T t H hr => XT.lneg H C.hx rfl (hb C.hby hd) rfl hr
theorem g_lcmp {x y : Int64} (C : Cx wd p s m meth c Z a0 EL own bytes ml ret nm) (hd : decode bytes pc = .ok (.lcmp, 1))  (nx : Go wd p l e R s m args below meth c Z EL Q kc ks m0 mine h locs cells slots (mkF m (pc + 1) Ls (.int (XT.cmpL x y) :: st))) : Go wd p l e R s m args below meth c Z EL Q kc ks m0 mine h locs cells slots (mkF m pc Ls (.long y :: .long x :: st)) := nx.pure fun T t H hr => XT.lcmp H C.hx rfl (hb C.hby hd) rfl hr
theorem g_iinc {k : Nat} {cst : Int} {x : Int32} (z : Int32) (l' : Array Slot) (C : Cx wd p s m meth c Z a0 EL own bytes ml ret nm) (hd : decode bytes pc = .ok (.iinc k cst, 3)) (hl : Ls[k]? = some (.val (.int x))) (hz : x + Int32.ofInt cst = z) (hl' : storeLocals Ls k (.int z) = some l') (nx : Go wd p l e R s m args below meth c Z EL Q kc ks m0 mine h locs cells slots (mkF m (pc + 3) l' (st))) : Go wd p l e R s m args below meth c Z EL Q kc ks m0 mine h locs cells slots (mkF m pc Ls (st)) := by subst hz; exact nx.pure fun T t H hr => XS.iinc H C.hx rfl (hb C.hby hd) hl hl' hr
theorem g_dup {x : Value} (C : Cx wd p s m meth c Z a0 EL own bytes ml ret nm) (hd : decode bytes pc = .ok (.dup, 1)) (hc : x.category = 1) (nx : Go wd p l e R s m args below meth c Z EL Q kc ks m0 mine h locs cells slots (mkF m (pc + 1) Ls (x :: x :: st))) : Go wd p l e R s m args below meth c Z EL Q kc ks m0 mine h locs cells slots (mkF m pc Ls (x :: st)) := nx.pure fun T t H hr => XS.dup H C.hx rfl (hb C.hby hd) rfl hc hr
theorem g_pop {x : Value} (C : Cx wd p s m meth c Z a0 EL own bytes ml ret nm) (hd : decode bytes pc = .ok (.pop, 1)) (hc : x.category = 1) (nx : Go wd p l e R s m args below meth c Z EL Q kc ks m0 mine h locs cells slots (mkF m (pc + 1) Ls (st))) : Go wd p l e R s m args below meth c Z EL Q kc ks m0 mine h locs cells slots (mkF m pc Ls (x :: st)) := nx.pure fun T t H hr => XT.pop H C.hx rfl (hb C.hby hd) rfl hc hr
theorem g_dupX1 {x y : Value} (C : Cx wd p s m meth c Z a0 EL own bytes ml ret nm) (hd : decode bytes pc = .ok (.dup_x1, 1)) (hc : x.category = 1) (hc' : y.category = 1) (nx : Go wd p l e R s m args below meth c Z EL Q kc ks m0 mine h locs cells slots (mkF m (pc + 1) Ls (x :: y :: x :: st))) : Go wd p l e R s m args below meth c Z EL Q kc ks m0 mine h locs cells slots (mkF m pc Ls (x :: y :: st)) := nx.pure fun T t H hr => XT.dupX1 H C.hx rfl (hb C.hby hd) rfl hc hc' hr
theorem g_dup2 {x y : Value} (C : Cx wd p s m meth c Z a0 EL own bytes ml ret nm) (hd : decode bytes pc = .ok (.dup2, 1)) (hc : x.category = 1) (hc' : y.category = 1) (nx : Go wd p l e R s m args below meth c Z EL Q kc ks m0 mine h locs cells slots (mkF m (pc + 1) Ls (x :: y :: x :: y :: st))) : Go wd p l e R s m args below meth c Z EL Q kc ks m0 mine h locs cells slots (mkF m pc Ls (x :: y :: st)) := nx.pure fun T t H hr => XT.dup2 H C.hx rfl (hb C.hby hd) rfl hc hc' hr
theorem g_dup2L {x : Int64} (C : Cx wd p s m meth c Z a0 EL own bytes ml ret nm) (hd : decode bytes pc = .ok (.dup2, 1))  (nx : Go wd p l e R s m args below meth c Z EL Q kc ks m0 mine h locs cells slots (mkF m (pc + 1) Ls (.long x :: .long x :: st))) : Go wd p l e R s m args below meth c Z EL Q kc ks m0 mine h locs cells slots (mkF m pc Ls (.long x :: st)) := nx.pure fun T t H hr => XT.dup2L H C.hx rfl (hb C.hby hd) rfl hr
theorem g_goto {o : Int} (pc' : Nat) (C : Cx wd p s m meth c Z a0 EL own bytes ml ret nm) (hd : decode bytes pc = .ok (.goto o, 3)) (ho : 0 ≤ (pc : Int) + o) (hp : ((pc : Int) + o).toNat = pc') (nx : Go wd p l e R s m args below meth c Z EL Q kc ks m0 mine h locs cells slots (mkF m pc' Ls (st))) : Go wd p l e R s m args below meth c Z EL Q kc ks m0 mine h locs cells slots (mkF m pc Ls (st)) := nx.pure fun T t H hr => XS.goto H C.hx rfl rfl (hb C.hby hd) ho hp hr
theorem g_ifT {cd : ClassFile.Cond} {x : Int32} {o : Int} (pc' : Nat) (C : Cx wd p s m meth c Z a0 EL own bytes ml ret nm) (hd : decode bytes pc = .ok (.ifCond cd o, 3)) (hc : hC cd x 0) (ho : 0 ≤ (pc : Int) + o) (hp : ((pc : Int) + o).toNat = pc') (nx : Go wd p l e R s m args below meth c Z EL Q kc ks m0 mine h locs cells slots (mkF m pc' Ls (st))) : Go wd p l e R s m args below meth c Z EL Q kc ks m0 mine h locs cells slots (mkF m pc Ls (.int x :: st)) := nx.pure fun T t H hr => XS.ifYes H C.hx rfl rfl (hb C.hby hd) rfl (by rw [if0]; exact hC_t hc) ho hp hr
theorem g_ifF {cd : ClassFile.Cond} {x : Int32} {o : Int} (C : Cx wd p s m meth c Z a0 EL own bytes ml ret nm) (hd : decode bytes pc = .ok (.ifCond cd o, 3)) (hc : nC cd x 0) (nx : Go wd p l e R s m args below meth c Z EL Q kc ks m0 mine h locs cells slots (mkF m (pc + 3) Ls (st))) : Go wd p l e R s m args below meth c Z EL Q kc ks m0 mine h locs cells slots (mkF m pc Ls (.int x :: st)) := nx.pure fun T t H hr => XS.ifNo H C.hx rfl (hb C.hby hd) rfl (by rw [if0]; exact nC_f hc) hr
theorem g_icmpT {cd : ClassFile.Cond} {x y : Int32} {o : Int} (pc' : Nat) (C : Cx wd p s m meth c Z a0 EL own bytes ml ret nm) (hd : decode bytes pc = .ok (.if_icmp cd o, 3)) (hc : hC cd x y) (ho : 0 ≤ (pc : Int) + o) (hp : ((pc : Int) + o).toNat = pc') (nx : Go wd p l e R s m args below meth c Z EL Q kc ks m0 mine h locs cells slots (mkF m pc' Ls (st))) : Go wd p l e R s m args below meth c Z EL Q kc ks m0 mine h locs cells slots (mkF m pc Ls (.int y :: .int x :: st)) := nx.pure fun T t H hr => XS.icmpYes H C.hx rfl rfl (hb C.hby hd) rfl (hC_t hc) ho hp hr
theorem g_icmpF {cd : ClassFile.Cond} {x y : Int32} {o : Int} (C : Cx wd p s m meth c Z a0 EL own bytes ml ret nm) (hd : decode bytes pc = .ok (.if_icmp cd o, 3)) (hc : nC cd x y) (nx : Go wd p l e R s m args below meth c Z EL Q kc ks m0 mine h locs cells slots (mkF m (pc + 3) Ls (st))) : Go wd p l e R s m args below meth c Z EL Q kc ks m0 mine h locs cells slots (mkF m pc Ls (.int y :: .int x :: st)) := nx.pure fun T t H hr => XS.icmpNo H C.hx rfl (hb C.hby hd) rfl (nC_f hc) hr
theorem g_acmpT {cd : ClassFile.ACond} {x y : Value} {o : Int} (pc' : Nat) (C : Cx wd p s m meth c Z a0 EL own bytes ml ret nm) (hd : decode bytes pc = .ok (.if_acmp cd o, 3)) (hx : x.isRef = true) (hy : y.isRef = true) (hc : aC cd x y) (ho : 0 ≤ (pc : Int) + o) (hp : ((pc : Int) + o).toNat = pc') (nx : Go wd p l e R s m args below meth c Z EL Q kc ks m0 mine h locs cells slots (mkF m pc' Ls (st))) : Go wd p l e R s m args below meth c Z EL Q kc ks m0 mine h locs cells slots (mkF m pc Ls (y :: x :: st)) := nx.pure fun T t H hr => XT.acmpYes H C.hx rfl rfl (hb C.hby hd) rfl hx hy (aC_t hc) ho hp hr
theorem g_acmpF {cd : ClassFile.ACond} {x y : Value} {o : Int} (C : Cx wd p s m meth c Z a0 EL own bytes ml ret nm) (hd : decode bytes pc = .ok (.if_acmp cd o, 3)) (hx : x.isRef = true) (hy : y.isRef = true) (hc : aN cd x y) (nx : Go wd p l e R s m args below meth c Z EL Q kc ks m0 mine h locs cells slots (mkF m (pc + 3) Ls (st))) : Go wd p l e R s m args below meth c Z EL Q kc ks m0 mine h locs cells slots (mkF m pc Ls (y :: x :: st)) := nx.pure fun T t H hr => XT.acmpNo H C.hx rfl (hb C.hby hd) rfl hx hy (aN_f hc) hr
theorem g_ifnullT {o : Int} (pc' : Nat) (C : Cx wd p s m meth c Z a0 EL own bytes ml ret nm) (hd : decode bytes pc = .ok (.ifnull o, 3)) (ho : 0 ≤ (pc : Int) + o) (hp : ((pc : Int) + o).toNat = pc') (nx : Go wd p l e R s m args below meth c Z EL Q kc ks m0 mine h locs cells slots (mkF m pc' Ls (st))) : Go wd p l e R s m args below meth c Z EL Q kc ks m0 mine h locs cells slots (mkF m pc Ls (.null :: st)) := nx.pure fun T t H hr => XS.ifnullYes H C.hx rfl rfl (hb C.hby hd) rfl ho hp hr
theorem g_ifnullF {o : Int} {b : Addr} (C : Cx wd p s m meth c Z a0 EL own bytes ml ret nm) (hd : decode bytes pc = .ok (.ifnull o, 3))  (nx : Go wd p l e R s m args below meth c Z EL Q kc ks m0 mine h locs cells slots (mkF m (pc + 3) Ls (st))) : Go wd p l e R s m args below meth c Z EL Q kc ks m0 mine h locs cells slots (mkF m pc Ls (.ref b :: st)) := nx.pure fun T t H hr => XS.ifnullNo H C.hx rfl (hb C.hby hd) rfl hr
theorem g_ifnonnullT {o : Int} {b : Addr} (pc' : Nat) (C : Cx wd p s m meth c Z a0 EL own bytes ml ret nm) (hd : decode bytes pc = .ok (.ifnonnull o, 3)) (ho : 0 ≤ (pc : Int) + o) (hp : ((pc : Int) + o).toNat = pc') (nx : Go wd p l e R s m args below meth c Z EL Q kc ks m0 mine h locs cells slots (mkF m pc' Ls (st))) : Go wd p l e R s m args below meth c Z EL Q kc ks m0 mine h locs cells slots (mkF m pc Ls (.ref b :: st)) := nx.pure fun T t H hr => XT.ifnonnullYes H C.hx rfl rfl (hb C.hby hd) rfl ho hp hr
theorem g_ifnonnullF {o : Int} (C : Cx wd p s m meth c Z a0 EL own bytes ml ret nm) (hd : decode bytes pc = .ok (.ifnonnull o, 3))  (nx : Go wd p l e R s m args below meth c Z EL Q kc ks m0 mine h locs cells slots (mkF m (pc + 3) Ls (st))) : Go wd p l e R s m args below meth c Z EL Q kc ks m0 mine h locs cells slots (mkF m pc Ls (.null :: st)) := nx.pure fun T t H hr => XT.ifnonnullNo H C.hx rfl (hb C.hby hd) rfl hr
theorem g_leave_ {v : Option Value} {g : JFrame} (C : Cx wd p s m meth c Z a0 EL own bytes ml ret nm) (hv : meth.sig.returnType = none → v = none) (hq : Q v h) (hc : cells ≤ kc) (hs : slots ≤ ks)
    (stp : ∀ (T : State) (vm0 : Vm) (fs : List Frame), Stand p l e R (s.setVm vm0) m args below meth c T locs cells slots → (∀ (f : JFrame) (acts : List Action), f.method = m → f.locked = none → f.entered = [] → (doReturn e (T.setTop f) acts v).1 = T.setFrames fs) → Steps p.tables e below (T.setTop g) (T.setFrames fs)) :
    Go wd p l e R s m args below meth c Z EL Q kc ks m0 mine h locs cells slots g := fun T vm0 X eT V => by
  obtain ⟨⟨v1, v2, ⟨k0, v3, v4⟩, v5⟩, v6, v7, v8, v9⟩ := V
  have hlk := C.hlk
  obtain ⟨fs, hr, hrun, hended, hW, hsame⟩ := X.leave hv hlk
  obtain ⟨u1, u2, u3⟩ := v3.ended (U := T.setFrames fs) hW (by show k0 ≤ T.heap.size; rw [eT]; exact v4) hsame
  have hC : CHr Z EL vm0 h T.vm h := CHv.at X v2 C.hEW v5.1
  refine ⟨_, _, stp T vm0 fs X hr, hrun, hended, v, locs, rfl, ?_, ?_, FinE.mono ⟨fun q => ?_, ⟨v, rfl⟩, u1, u2, u3⟩ hc hs, ?_, ?_, v9⟩
  · show Q v T.heap
    rw [eT]; exact hq
  · show CHr Z EL s.vm s.heap T.vm T.heap
    rw [eT]; exact v5.trans hC
  · have e1 : vm0 = s.vm := v1 q
    subst e1
    exact ⟨⟨v, rfl⟩, hW, hsame⟩
  · show Ext Z.heap T.heap
    rw [eT]; exact v7
  · show Keep s.heap T.heap m0
    rw [eT]; exact v8
theorem g_retV {i : Instr} {t : FieldType} {w : Value} (C : Cx wd p s m meth c Z a0 EL own bytes ml (some t) nm) (hd : decode bytes pc = .ok (i, 1)) (hn : narrow t w = w)
    (hi : (i = .ireturn ∧ (t = .int ∨ t = .boolean ∨ t = .byte ∨ t = .char ∨ t = .short) ∧ ∃ z, w = .int z) ∨ (i = .lreturn ∧ t = .long ∧ ∃ z, w = .long z) ∨ (i = .dreturn ∧ t = .double ∧ ∃ z, w = .double z) ∨ (i = .freturn ∧ t = .float ∧ ∃ z, w = .float z) ∨ (i = .areturn ∧ t.isReference = true ∧ w.isRef = true))
    (hq : Q (some w) h) (hc : cells ≤ kc) (hs : slots ≤ ks) : Go wd p l e R s m args below meth c Z EL Q kc ks m0 mine h locs cells slots (mkF m pc Ls (w :: st)) :=
  g_leave_ C (fun q => by rw [C.hret] at q; cases q) hq hc hs fun T vm0 fs X hr => retOut X C.hx C.hret hn hi (hb C.hby hd) hr
theorem g_retI {z : Int32} (C : Cx wd p s m meth c Z a0 EL own bytes ml (some .int) nm) (hd : decode bytes pc = .ok (.ireturn, 1)) (hq : Q (some (.int z)) h) (hc : cells ≤ kc) (hs : slots ≤ ks) : Go wd p l e R s m args below meth c Z EL Q kc ks m0 mine h locs cells slots (mkF m pc Ls (.int z :: st)) :=
  g_retV C hd rfl (Or.inl ⟨rfl, Or.inl rfl, z, rfl⟩) hq hc hs
theorem g_retJ {z : Int64} (C : Cx wd p s m meth c Z a0 EL own bytes ml (some .long) nm) (hd : decode bytes pc = .ok (.lreturn, 1)) (hq : Q (some (.long z)) h) (hc : cells ≤ kc) (hs : slots ≤ ks) : Go wd p l e R s m args below meth c Z EL Q kc ks m0 mine h locs cells slots (mkF m pc Ls (.long z :: st)) :=
  g_retV C hd rfl (Or.inr (Or.inl ⟨rfl, rfl, z, rfl⟩)) hq hc hs
theorem g_retA {t : FieldType} {w : Value} (C : Cx wd p s m meth c Z a0 EL own bytes ml (some t) nm) (hd : decode bytes pc = .ok (.areturn, 1)) (ht : t.isReference = true) (hw : w.isRef = true) (hq : Q (some w) h) (hc : cells ≤ kc) (hs : slots ≤ ks) : Go wd p l e R s m args below meth c Z EL Q kc ks m0 mine h locs cells slots (mkF m pc Ls (w :: st)) :=
  g_retV C hd (by cases t <;> first | (simp [FieldType.isReference] at ht; done) | rfl) (Or.inr (Or.inr (Or.inr (Or.inr ⟨rfl, ht, hw⟩)))) hq hc hs
/-- boolean, byte, char, short: what is left of z -/
theorem g_retN {z : Int32} {t : FieldType} (C : Cx wd p s m meth c Z a0 EL own bytes ml (some t) nm) (hd : decode bytes pc = .ok (.ireturn, 1)) (ht : t = .boolean ∨ t = .byte ∨ t = .char ∨ t = .short) (hq : Q (some (.int (nar t z))) h) (hc : cells ≤ kc) (hs : slots ≤ ks) : Go wd p l e R s m args below meth c Z EL Q kc ks m0 mine h locs cells slots (mkF m pc Ls (.int z :: st)) :=
  g_leave_ C (fun q => by rw [C.hret] at q; cases q) hq hc hs fun T vm0 fs X hr => RoadKit.retN X C.hx C.hret ht (hb C.hby hd) hr
theorem g_retU (C : Cx wd p s m meth c Z a0 EL own bytes ml none nm) (hd : decode bytes pc = .ok (.return_, 1)) (hq : Q none h) (hc : cells ≤ kc) (hs : slots ≤ ks) : Go wd p l e R s m args below meth c Z EL Q kc ks m0 mine h locs cells slots (mkF m pc Ls []) :=
  g_leave_ C (fun _ => rfl) hq hc hs fun T vm0 fs X hr => X.returnOut C.hx C.hret (hb C.hby hd) hr
theorem g_getfield {idx : Nat} {R0 O n d host : String} {v : Value} (C : Cx wd p s m meth c Z a0 EL own bytes ml ret nm) (hd : decode bytes pc = .ok (.getfield idx, 3)) (w : (Cond.fieldLink own idx R0 n d).before a0 Z = true ∨ (Cond.fieldLinkNest own idx R0 n d host).before a0 Z = true) (via : Via Z R0 O n d) (F : Fld Z h a O n d v)
    (nx : Go wd p l e R s m args below meth c Z EL Q kc ks m0 mine h locs cells slots (mkF m (pc + 3) Ls (v :: st))) : Go wd p l e R s m args below meth c Z EL Q kc ks m0 mine h locs cells slots (mkF m pc Ls (.ref a :: st)) := fun T vm0 X eT V => by
  obtain ⟨T', X', e', k1⟩ := RoadKit.getF X C.hx V.hZ' (V.hown C) w via eT F (g := mkF m pc Ls (.ref a :: st)) rfl rfl (hb C.hby hd)
  obtain ⟨s₂, o, k, r⟩ := nx T' vm0 X' e' V
  exact ⟨s₂, o, k1 _ k, r⟩
theorem g_getstatic {idx : Nat} {R0 O n d host : String} {v : Value} (C : Cx wd p s m meth c Z a0 EL own bytes ml ret nm) (hd : decode bytes pc = .ok (.getstatic idx, 3)) (w : (Cond.fieldLink own idx R0 n d).before a0 Z = true ∨ (Cond.fieldLinkNest own idx R0 n d host).before a0 Z = true) (via : Via Z R0 O n d) (F : Sta Z Z.heap O n d v)
    (nx : Go wd p l e R s m args below meth c Z EL Q kc ks m0 mine h locs cells slots (mkF m (pc + 3) Ls (v :: st))) : Go wd p l e R s m args below meth c Z EL Q kc ks m0 mine h locs cells slots (mkF m pc Ls st) := fun T vm0 X eT V => by
  obtain ⟨T', X', e', k1⟩ := getS2 X C.hx V.hZ' (V.hown C) w via eT (Sta.ext V.old F) (g := mkF m pc Ls st) rfl (hb C.hby hd)
  obtain ⟨s₂, o, k, r⟩ := nx T' vm0 X' e' V
  exact ⟨s₂, o, k1 _ k, r⟩
theorem g_putfield {idx kk : Nat} {R0 O n d host Cn : String} {v old : Value} {ty : FieldType} (C : Cx wd p s m meth c Z a0 EL own bytes ml ret nm) (hd : decode bytes pc = .ok (.putfield idx, 3)) (w : (Cond.fieldLink own idx R0 n d).before a0 Z = true ∨ (Cond.fieldLinkNest own idx R0 n d host).before a0 Z = true) (via : Via Z R0 O n d) (F : Fld Z h a O n d old) (E : Exa Z h a Cn)
    (L : (Cond.lays Cn O n d).before a0 Z = true ∨ ((Cond.laysFinal Cn O n d).before a0 Z = true ∧ own = O ∧ nm = "<init>")) (wi : (Cond.instantiable Cn kk).before a0 Z = true) (hty : parseFieldDescriptor d = some ty) (hn : narrow ty v = v) (hf : fits ty v = true) (hm : a ∈ mine)
    (nx : ∀ h', Wr h h' a (RoadKit.slotOf Z O n d) v → Keep h h' [a] → Go wd p l e R s m args below meth c Z EL Q kc ks m0 mine h' (locs ++ [⟨a, RoadKit.slotOf Z O n d⟩]) cells slots (mkF m (pc + 3) Ls st)) : Go wd p l e R s m args below meth c Z EL Q kc ks m0 mine h locs cells slots (mkF m pc Ls (v :: .ref a :: st)) := fun T vm0 X eT V => by
  have L' : (Cond.lays Cn O n d).before a0 Z = true ∨ ((Cond.laysFinal Cn O n d).before a0 Z = true ∧ own = O ∧ meth.name = "<init>") := L.imp id fun q => ⟨q.1, q.2.1, by rw [C.hnm]; exact q.2.2⟩
  obtain ⟨T', h', X', e', W, k1⟩ := putF X C.hx V.hZ' (V.hown C) w via eT F E L' wi hty hn hf (g := mkF m pc Ls (v :: .ref a :: st)) rfl rfl (hb C.hby hd)
  obtain ⟨s₂, o, k, r⟩ := nx h' W (Keep.of_wr W) T' vm0 X' e' (V.keep (Keep.of_wr W) (fun x hx => by rw [List.mem_singleton.mp hx]; exact hm) (V.wr1 hm))
  exact ⟨s₂, o, k1 _ k, r⟩
theorem g_new_ {idx kk : Nat} {Cn : String} (C : Cx wd p s m meth c Z a0 EL own bytes ml ret nm) (hd : decode bytes pc = .ok (.new idx, 3)) (w : (Cond.classLink own idx Cn).before a0 Z = true) (wi : (Cond.instantiable Cn kk).before a0 Z = true) (wz : (Cond.initialized Cn).before a0 Z = true) (hc : cells + 1 ≤ R.cells) (hs : slots + kk ≤ R.slots)
    (nx : ∀ (a : Addr) (h' : Heap), a = h.size → Ext h h' → a < h'.size → Exa Z h' a Cn → (∀ {O n d : String} {ty : FieldType}, Laid Z a0 Cn O n d → parseFieldDescriptor d = some ty → Fld Z h' a O n d (defaultValue ty)) → Go wd p l e R s m args below meth c Z EL Q kc ks m0 (a :: mine) h' locs (cells + 1) (slots + kk) (mkF m (pc + 3) Ls (.ref a :: st))) : Go wd p l e R s m args below meth c Z EL Q kc ks m0 mine h locs cells slots (mkF m pc Ls st) := fun T vm0 X eT V => by
  obtain ⟨T', h', X', e', E, A, D, -, k1⟩ := newO X C.hx V.hZ' (V.hown C) w wi wz eT (g := mkF m pc Ls st) rfl (hb C.hby hd) hc hs
  obtain ⟨s₂, o, k, r⟩ := nx h.size h' rfl E A.lt A D T' vm0 X' e' (V.new E A.lt)
  exact ⟨s₂, o, k1 _ k, r⟩
theorem g_objInit {idx : Nat} (C : Cx wd p s m meth c Z a0 EL own bytes ml ret nm) (hd : decode bytes pc = .ok (.invokespecial idx, 3)) (w1 : (Cond.methodLink own idx Lib.objectInit).before a0 Z = true) (w2 : (Cond.instanceMethod Lib.objectInit).before a0 Z = true) (w3 : (Cond.code Lib.objectInit ⟨#[0xb1]⟩ 1 none).before a0 Z = true)
    (hsz : Ls.size = ml) (hf : 1 ≤ R.frames) (hl : (st.map fun v => v.category).sum + 12 ≤ R.locals) (nx : Go wd p l e R s m args below meth c Z EL Q kc ks m0 mine h locs cells slots (mkF m (pc + 3) Ls st)) : Go wd p l e R s m args below meth c Z EL Q kc ks m0 mine h locs cells slots (mkF m pc Ls (.ref a :: st)) := fun T vm0 X eT V => by
  obtain ⟨T', X', e', k1⟩ := initO X C.hx V.hZ' (V.hown C) w1 w2 w3 eT (g := mkF m pc Ls (.ref a :: st)) rfl (by rw [C.hml]; exact hsz) rfl (hb C.hby hd) hf (W := (st.map fun v => v.category).sum) (by show 2 * 0 + _ ≤ _; omega) hl
  obtain ⟨s₂, o, k, r⟩ := nx T' vm0 X' e' V
  exact ⟨s₂, o, k1 _ k, r⟩
theorem g_castY {idx : Nat} {K : String} (C : Cx wd p s m meth c Z a0 EL own bytes ml ret nm) (hd : decode bytes pc = .ok (.checkcast idx, 3)) (w : (Cond.classLink own idx K).before a0 Z = true) (I : Ins Z h a K true) (nx : Go wd p l e R s m args below meth c Z EL Q kc ks m0 mine h locs cells slots (mkF m (pc + 3) Ls (.ref a :: st))) : Go wd p l e R s m args below meth c Z EL Q kc ks m0 mine h locs cells slots (mkF m pc Ls (.ref a :: st)) := fun T vm0 X eT V => by
  obtain ⟨T', X', e', k1⟩ := RoadKit.castY X C.hx V.hZ' (V.hown C) w eT I (g := mkF m pc Ls (.ref a :: st)) rfl rfl (hb C.hby hd)
  obtain ⟨s₂, o, k, r⟩ := nx T' vm0 X' e' V
  exact ⟨s₂, o, k1 _ k, r⟩
theorem g_instY {idx : Nat} {K : String} (C : Cx wd p s m meth c Z a0 EL own bytes ml ret nm) (hd : decode bytes pc = .ok (.instanceof idx, 3)) (w : (Cond.classLink own idx K).before a0 Z = true) (I : Ins Z h a K true) (nx : Go wd p l e R s m args below meth c Z EL Q kc ks m0 mine h locs cells slots (mkF m (pc + 3) Ls (.int 1 :: st))) : Go wd p l e R s m args below meth c Z EL Q kc ks m0 mine h locs cells slots (mkF m pc Ls (.ref a :: st)) := fun T vm0 X eT V => by
  obtain ⟨T', X', e', k1⟩ := RoadKit.instY X C.hx V.hZ' (V.hown C) w eT I (g := mkF m pc Ls (.ref a :: st)) rfl rfl (hb C.hby hd)
  obtain ⟨s₂, o, k, r⟩ := nx T' vm0 X' e' V
  exact ⟨s₂, o, k1 _ k, r⟩
/-- not an instance: the object is exactly of a class Cn that isn't assignable to K -/
theorem g_instNo {idx : Nat} {K Cn : String} (C : Cx wd p s m meth c Z a0 EL own bytes ml ret nm) (hd : decode bytes pc = .ok (.instanceof idx, 3)) (w : (Cond.classLink own idx K).before a0 Z = true) (I : Ins Z h a K false) (E : Exa Z h a Cn) (nx : Go wd p l e R s m args below meth c Z EL Q kc ks m0 mine h locs cells slots (mkF m (pc + 3) Ls (.int 0 :: st))) : Go wd p l e R s m args below meth c Z EL Q kc ks m0 mine h locs cells slots (mkF m pc Ls (.ref a :: st)) := fun T vm0 X eT V => by
  obtain ⟨cell, cT, h1, h2, h3⟩ := I
  obtain ⟨cell', k, e1, -, e3, e4, -⟩ := E
  cases h1.symm.trans e1
  obtain ⟨k', q, -⟩ := V.hZ'.alike.2.2 _ _ e3
  obtain ⟨vm', X', k1⟩ := Sym.instanceofNoAt X C.hx (V.hown C) (mv V.hZ' w) (by rw [eT]; exact h1) e4 q (by rw [V.hZ'.alike.findClass]; exact h2) (by rw [V.hZ'.alike.assignable]; simpa [e4] using h3) (g := mkF m pc Ls (.ref a :: st)) rfl rfl (hb C.hby hd)
  obtain ⟨s₂, o, k, r⟩ := nx _ vm0 X' eT V
  exact ⟨s₂, o, k1 _ k, r⟩
theorem g_instNull {idx : Nat} (C : Cx wd p s m meth c Z a0 EL own bytes ml ret nm) (hd : decode bytes pc = .ok (.instanceof idx, 3)) (nx : Go wd p l e R s m args below meth c Z EL Q kc ks m0 mine h locs cells slots (mkF m (pc + 3) Ls (.int 0 :: st))) : Go wd p l e R s m args below meth c Z EL Q kc ks m0 mine h locs cells slots (mkF m pc Ls (.null :: st)) := fun T vm0 X eT V => by
  obtain ⟨s₂, o, k, r⟩ := nx T vm0 X eT V
  exact ⟨s₂, o, X.instanceofNull C.hx (g := mkF m pc Ls (.null :: st)) rfl rfl (hb C.hby hd) _ k, r⟩
theorem g_castNull {idx : Nat} (C : Cx wd p s m meth c Z a0 EL own bytes ml ret nm) (hd : decode bytes pc = .ok (.checkcast idx, 3)) (nx : Go wd p l e R s m args below meth c Z EL Q kc ks m0 mine h locs cells slots (mkF m (pc + 3) Ls (.null :: st))) : Go wd p l e R s m args below meth c Z EL Q kc ks m0 mine h locs cells slots (mkF m pc Ls (.null :: st)) := fun T vm0 X eT V => by
  obtain ⟨s₂, o, k, r⟩ := nx T vm0 X eT V
  exact ⟨s₂, o, X.checkcastNull C.hx (g := mkF m pc Ls (.null :: st)) rfl rfl (hb C.hby hd) _ k, r⟩
theorem Av.lt (A : Av Z h a ty vs) : a < h.size := by obtain ⟨c, A, -⟩ := A; exact A.lt
theorem Av.keep (A : Av Z h a ty vs) (K : Keep h h' ws) (q : a ∉ ws) : Av Z h' a ty vs := by
  obtain ⟨c, A, r⟩ := A
  exact ⟨c, ⟨K.2.1 _ _ A.1 q, A.2⟩, r⟩
theorem Av.ext (A : Av Z h a ty vs) (E : Ext h h') : Av Z h' a ty vs := A.keep (keep_ext E) (fun q => nomatch q)
theorem Av.set {i : Nat} (A : Av Z h a ty vs) (W : Wr h h' a i v) (hf : fits ty v = true) : Av Z h' a ty (vs.set i v) := by
  obtain ⟨c, A, rfl, h2, h3⟩ := A
  refine ⟨c.setSlot i v, A.same W, by simp [Cell.setSlot], by simpa using h2, fun w hw => ?_⟩
  rcases List.mem_or_eq_of_mem_set hw with q | rfl
  · exact h3 w q
  · exact hf
theorem Av.of_arv {k : ClassId} {z : Int32} {d : Value} (A : Arv Z h a k ty z vs d) (hl : z.toNatClampNeg = vs.length) : Av Z h a ty vs := by
  obtain ⟨c, A, -, hs, hz, H, G⟩ := A
  have e1 : c.slots.toList = vs := by
    apply List.ext_getElem?
    intro i
    rw [Array.getElem?_toList]
    by_cases q : i < c.slots.size
    · rw [H i q, List.getD_eq_getElem?_getD, List.getElem?_eq_getElem (by omega)]; rfl
    · rw [Array.getElem?_eq_none (by omega), List.getElem?_eq_none (by omega)]
  refine ⟨c, A, e1, ?_, fun w hw => ?_⟩
  · have := (back32 hz).2; omega
  · obtain ⟨i, hi, rfl⟩ := List.mem_iff_getElem.mp hw
    have := G i (by omega)
    rwa [List.getD_eq_getElem?_getD, List.getElem?_eq_getElem hi] at this
theorem toNat_ofNat {n : Nat} (hn : n < 2147483648) : (Int32.ofNat n).toNatClampNeg = n ∧ ¬ Int32.ofNat n < 0 := by
  have e := Int32.toInt_ofNat_small (n := n) hn
  refine ⟨by simp only [Int32.toNatClampNeg, e]; omega, fun q => ?_⟩
  have := Int32.lt_iff_toInt_lt.mp q
  rw [e] at this
  simp at this
  omega
theorem Arv.of_av {d : Value} (A : Av Z h a ty vs) : ∃ k, Arv Z h a k ty (Int32.ofNat vs.length) vs d := by
  obtain ⟨c, A, rfl, h2, h3⟩ := A
  obtain ⟨q1, q2⟩ := toNat_ofNat h2
  refine ⟨c.cls, c, A, rfl, by rw [q1]; simp, q2, fun i hi => ?_, fun i hi => ?_⟩
  · rw [List.getD_eq_getElem?_getD, Array.getElem?_toList, Array.getElem?_eq_getElem hi]; rfl
  · rw [List.getD_eq_getElem?_getD, Array.getElem?_toList, Array.getElem?_eq_getElem hi]
    exact h3 _ (Array.mem_toList_iff.mpr (Array.getElem_mem hi))
theorem g_alen {z : Int32} (C : Cx wd p s m meth c Z a0 EL own bytes ml ret nm) (hd : decode bytes pc = .ok (.arraylength, 1)) (A : Av Z h a ty vs) (hz : Int32.ofNat vs.length = z) (nx : Go wd p l e R s m args below meth c Z EL Q kc ks m0 mine h locs cells slots (mkF m (pc + 1) Ls (.int z :: st))) : Go wd p l e R s m args below meth c Z EL Q kc ks m0 mine h locs cells slots (mkF m pc Ls (.ref a :: st)) := fun T vm0 X eT V => by
  obtain ⟨cl, Ar, rfl, -, -⟩ := A
  obtain ⟨s₂, o, k, r⟩ := nx T vm0 X eT V
  refine ⟨s₂, o, X.arraylength C.hx (by rw [eT]; exact Ar.1) (State.isArrayOf_alike V.hZ'.alike Ar.2.1) (g := mkF m pc Ls (.ref a :: st)) rfl rfl (hb C.hby hd) _ ?_, r⟩
  have e1 : cl.slots.size.toInt32 = z := by rw [← hz, Array.length_toList]
  rw [e1]; exact k
theorem g_iaload {j : Int32} {v : Value} (i : Nat) (C : Cx wd p s m meth c Z a0 EL own bytes ml ret nm) (hd : decode bytes pc = .ok (.iaload, 1)) (A : Av Z h a .int vs) (hj : ¬ j < 0) (hi : j.toNatClampNeg = i) (hv : vs[i]? = some v) (nx : Go wd p l e R s m args below meth c Z EL Q kc ks m0 mine h locs cells slots (mkF m (pc + 1) Ls (v :: st))) : Go wd p l e R s m args below meth c Z EL Q kc ks m0 mine h locs cells slots (mkF m pc Ls (.int j :: .ref a :: st)) := fun T vm0 X eT V => by
  obtain ⟨cl, Ar, rfl, -, -⟩ := A
  obtain ⟨s₂, o, k, r⟩ := nx T vm0 X eT V
  rw [Array.getElem?_toList] at hv
  have hlt := (Array.getElem?_eq_some_iff.mp hv).1
  exact ⟨s₂, o, X.iaload C.hx (by rw [eT]; exact Ar.1) (State.isArrayOf_alike V.hZ'.alike Ar.2.1) Ar.2.2 (fun q => q.elim hj (by omega)) (by rw [hi]; exact hv) (g := mkF m pc Ls (.int j :: .ref a :: st)) rfl rfl (hb C.hby hd) _ k, r⟩
theorem g_laload {j : Int32} {v : Value} (i : Nat) (C : Cx wd p s m meth c Z a0 EL own bytes ml ret nm) (hd : decode bytes pc = .ok (.laload, 1)) (A : Av Z h a .long vs) (hj : ¬ j < 0) (hi : j.toNatClampNeg = i) (hv : vs[i]? = some v) (nx : Go wd p l e R s m args below meth c Z EL Q kc ks m0 mine h locs cells slots (mkF m (pc + 1) Ls (v :: st))) : Go wd p l e R s m args below meth c Z EL Q kc ks m0 mine h locs cells slots (mkF m pc Ls (.int j :: .ref a :: st)) := fun T vm0 X eT V => by
  obtain ⟨cl, Ar, rfl, -, -⟩ := A
  obtain ⟨s₂, o, k, r⟩ := nx T vm0 X eT V
  rw [Array.getElem?_toList] at hv
  have hlt := (Array.getElem?_eq_some_iff.mp hv).1
  exact ⟨s₂, o, X.laload C.hx (by rw [eT]; exact Ar.1) (State.isArrayOf_alike V.hZ'.alike Ar.2.1) Ar.2.2 (fun q => q.elim hj (by omega)) (by rw [hi]; exact hv) (g := mkF m pc Ls (.int j :: .ref a :: st)) rfl rfl (hb C.hby hd) _ k, r⟩
theorem g_caload {j : Int32} {v : Value} (i : Nat) (C : Cx wd p s m meth c Z a0 EL own bytes ml ret nm) (hd : decode bytes pc = .ok (.caload, 1)) (A : Av Z h a .char vs) (hj : ¬ j < 0) (hi : j.toNatClampNeg = i) (hv : vs[i]? = some v) (nx : Go wd p l e R s m args below meth c Z EL Q kc ks m0 mine h locs cells slots (mkF m (pc + 1) Ls (v :: st))) : Go wd p l e R s m args below meth c Z EL Q kc ks m0 mine h locs cells slots (mkF m pc Ls (.int j :: .ref a :: st)) := fun T vm0 X eT V => by
  obtain ⟨cl, Ar, rfl, -, -⟩ := A
  obtain ⟨s₂, o, k, r⟩ := nx T vm0 X eT V
  rw [Array.getElem?_toList] at hv
  have hlt := (Array.getElem?_eq_some_iff.mp hv).1
  exact ⟨s₂, o, X.caload C.hx (by rw [eT]; exact Ar.1) (State.isArrayOf_alike V.hZ'.alike Ar.2.1) Ar.2.2 (fun q => q.elim hj (by omega)) (by rw [hi]; exact hv) (g := mkF m pc Ls (.int j :: .ref a :: st)) rfl rfl (hb C.hby hd) _ k, r⟩
theorem g_baload {j : Int32} {v : Value} (i : Nat) (C : Cx wd p s m meth c Z a0 EL own bytes ml ret nm) (hd : decode bytes pc = .ok (.baload, 1)) (A : Av Z h a .byte vs) (hj : ¬ j < 0) (hi : j.toNatClampNeg = i) (hv : vs[i]? = some v) (nx : Go wd p l e R s m args below meth c Z EL Q kc ks m0 mine h locs cells slots (mkF m (pc + 1) Ls (v :: st))) : Go wd p l e R s m args below meth c Z EL Q kc ks m0 mine h locs cells slots (mkF m pc Ls (.int j :: .ref a :: st)) := fun T vm0 X eT V => by
  obtain ⟨cl, Ar, rfl, -, -⟩ := A
  obtain ⟨s₂, o, k, r⟩ := nx T vm0 X eT V
  rw [Array.getElem?_toList] at hv
  have hlt := (Array.getElem?_eq_some_iff.mp hv).1
  exact ⟨s₂, o, X.baloadBytes C.hx (by rw [eT]; exact Ar.1) (State.isArrayOf_alike V.hZ'.alike Ar.2.1) Ar.2.2 (fun q => q.elim hj (by omega)) (by rw [hi]; exact hv) (g := mkF m pc Ls (.int j :: .ref a :: st)) rfl rfl (hb C.hby hd) _ k, r⟩
theorem g_aaload {j : Int32} {v : Value} (i : Nat) (C : Cx wd p s m meth c Z a0 EL own bytes ml ret nm) (hd : decode bytes pc = .ok (.aaload, 1)) (A : Av Z h a ty vs) (hty : ty.isReference = true) (hj : ¬ j < 0) (hi : j.toNatClampNeg = i) (hv : vs[i]? = some v) (nx : Go wd p l e R s m args below meth c Z EL Q kc ks m0 mine h locs cells slots (mkF m (pc + 1) Ls (v :: st))) : Go wd p l e R s m args below meth c Z EL Q kc ks m0 mine h locs cells slots (mkF m pc Ls (.int j :: .ref a :: st)) := fun T vm0 X eT V => by
  obtain ⟨cl, Ar, rfl, -, -⟩ := A
  obtain ⟨s₂, o, k, r⟩ := nx T vm0 X eT V
  rw [Array.getElem?_toList] at hv
  have hlt := (Array.getElem?_eq_some_iff.mp hv).1
  exact ⟨s₂, o, X.aaload C.hx (by rw [eT]; exact Ar.1) (State.isArrayOf_alike V.hZ'.alike Ar.2.1) hty Ar.2.2 (fun q => q.elim hj (by omega)) (by rw [hi]; exact hv) (g := mkF m pc Ls (.int j :: .ref a :: st)) rfl rfl (hb C.hby hd) _ k, r⟩
theorem g_castore {j : Int32} {x : Int32} (i : Nat) (C : Cx wd p s m meth c Z a0 EL own bytes ml ret nm) (hd : decode bytes pc = .ok (.castore, 1)) (A : Av Z h a .char vs) (hj : ¬ j < 0) (hi : j.toNatClampNeg = i) (hlt : i < vs.length) (hm : a ∈ mine) (nx : ∀ h', Keep h h' [a] → h'.size = h.size → Av Z h' a .char (vs.set i (.int (nar .char x))) → Go wd p l e R s m args below meth c Z EL Q kc ks m0 mine h' (locs ++ [⟨a, i⟩]) cells slots (mkF m (pc + 1) Ls st)) : Go wd p l e R s m args below meth c Z EL Q kc ks m0 mine h locs cells slots (mkF m pc Ls (.int x :: .int j :: .ref a :: st)) := fun T vm0 X eT V => by
  have A' := A
  obtain ⟨cl, Ar, e1, -, -⟩ := A
  subst hi
  obtain ⟨T', h', X', e', W, k1⟩ := stC X C.hx V.hZ' eT Ar (j := j) (x := x) (fun q => q.elim hj (by rw [← Array.length_toList, e1]; omega)) (g := mkF m pc Ls (.int x :: .int j :: .ref a :: st)) rfl rfl (hb C.hby hd)
  obtain ⟨s₂, o, k, r⟩ := nx h' (Keep.of_wr W) W.size (A'.set W (fits_nar_char x)) T' vm0 X' e' (V.keep (Keep.of_wr W) (fun x hx => by rw [List.mem_singleton.mp hx]; exact hm) (V.wr1 hm))
  exact ⟨s₂, o, k1 _ k, r⟩
theorem g_bastore {j : Int32} {x : Int32} (i : Nat) (C : Cx wd p s m meth c Z a0 EL own bytes ml ret nm) (hd : decode bytes pc = .ok (.bastore, 1)) (A : Av Z h a .byte vs) (hj : ¬ j < 0) (hi : j.toNatClampNeg = i) (hlt : i < vs.length) (hm : a ∈ mine) (nx : ∀ h', Keep h h' [a] → h'.size = h.size → Av Z h' a .byte (vs.set i (.int (nar .byte x))) → Go wd p l e R s m args below meth c Z EL Q kc ks m0 mine h' (locs ++ [⟨a, i⟩]) cells slots (mkF m (pc + 1) Ls st)) : Go wd p l e R s m args below meth c Z EL Q kc ks m0 mine h locs cells slots (mkF m pc Ls (.int x :: .int j :: .ref a :: st)) := fun T vm0 X eT V => by
  have A' := A
  obtain ⟨cl, Ar, e1, -, -⟩ := A
  subst hi
  obtain ⟨T', h', X', e', W, k1⟩ := stB X C.hx V.hZ' eT Ar (j := j) (x := x) (fun q => q.elim hj (by rw [← Array.length_toList, e1]; omega)) (g := mkF m pc Ls (.int x :: .int j :: .ref a :: st)) rfl rfl (hb C.hby hd)
  obtain ⟨s₂, o, k, r⟩ := nx h' (Keep.of_wr W) W.size (A'.set W (fits_nar_byte x)) T' vm0 X' e' (V.keep (Keep.of_wr W) (fun x hx => by rw [List.mem_singleton.mp hx]; exact hm) (V.wr1 hm))
  exact ⟨s₂, o, k1 _ k, r⟩
theorem g_iastore {j : Int32} {x : Int32} (i : Nat) (C : Cx wd p s m meth c Z a0 EL own bytes ml ret nm) (hd : decode bytes pc = .ok (.iastore, 1)) (A : Av Z h a .int vs) (hj : ¬ j < 0) (hi : j.toNatClampNeg = i) (hlt : i < vs.length) (hm : a ∈ mine) (nx : ∀ h', Keep h h' [a] → h'.size = h.size → Av Z h' a .int (vs.set i (.int x)) → Go wd p l e R s m args below meth c Z EL Q kc ks m0 mine h' (locs ++ [⟨a, i⟩]) cells slots (mkF m (pc + 1) Ls st)) : Go wd p l e R s m args below meth c Z EL Q kc ks m0 mine h locs cells slots (mkF m pc Ls (.int x :: .int j :: .ref a :: st)) := fun T vm0 X eT V => by
  have A' := A
  obtain ⟨cl, Ar, e1, -, -⟩ := A
  subst hi
  obtain ⟨T', h', X', e', W, k1⟩ := stI X C.hx V.hZ' eT Ar (j := j) (x := x) (fun q => q.elim hj (by rw [← Array.length_toList, e1]; omega)) (g := mkF m pc Ls (.int x :: .int j :: .ref a :: st)) rfl rfl (hb C.hby hd)
  obtain ⟨s₂, o, k, r⟩ := nx h' (Keep.of_wr W) W.size (A'.set W rfl) T' vm0 X' e' (V.keep (Keep.of_wr W) (fun x hx => by rw [List.mem_singleton.mp hx]; exact hm) (V.wr1 hm))
  exact ⟨s₂, o, k1 _ k, r⟩
theorem g_lastore {j : Int32} {x : Int64} (i : Nat) (C : Cx wd p s m meth c Z a0 EL own bytes ml ret nm) (hd : decode bytes pc = .ok (.lastore, 1)) (A : Av Z h a .long vs) (hj : ¬ j < 0) (hi : j.toNatClampNeg = i) (hlt : i < vs.length) (hm : a ∈ mine) (nx : ∀ h', Keep h h' [a] → h'.size = h.size → Av Z h' a .long (vs.set i (.long x)) → Go wd p l e R s m args below meth c Z EL Q kc ks m0 mine h' (locs ++ [⟨a, i⟩]) cells slots (mkF m (pc + 1) Ls st)) : Go wd p l e R s m args below meth c Z EL Q kc ks m0 mine h locs cells slots (mkF m pc Ls (.long x :: .int j :: .ref a :: st)) := fun T vm0 X eT V => by
  have A' := A
  obtain ⟨cl, Ar, e1, -, -⟩ := A
  subst hi
  obtain ⟨T', h', X', e', W, k1⟩ := stJ X C.hx V.hZ' eT Ar (j := j) (x := x) (fun q => q.elim hj (by rw [← Array.length_toList, e1]; omega)) (g := mkF m pc Ls (.long x :: .int j :: .ref a :: st)) rfl rfl (hb C.hby hd)
  obtain ⟨s₂, o, k, r⟩ := nx h' (Keep.of_wr W) W.size (A'.set W rfl) T' vm0 X' e' (V.keep (Keep.of_wr W) (fun x hx => by rw [List.mem_singleton.mp hx]; exact hm) (V.wr1 hm))
  exact ⟨s₂, o, k1 _ k, r⟩
theorem g_aastore {j : Int32} {x : Value} (i : Nat) (C : Cx wd p s m meth c Z a0 EL own bytes ml ret nm) (hd : decode bytes pc = .ok (.aastore, 1)) (A : Av Z h a ty vs) (hty : ty.isReference = true) (hx : x.isRef = true) (S : Sto Z h a x) (hj : ¬ j < 0) (hi : j.toNatClampNeg = i) (hlt : i < vs.length) (hm : a ∈ mine) (nx : ∀ h', Keep h h' [a] → h'.size = h.size → Av Z h' a ty (vs.set i x) → Go wd p l e R s m args below meth c Z EL Q kc ks m0 mine h' (locs ++ [⟨a, i⟩]) cells slots (mkF m (pc + 1) Ls st)) : Go wd p l e R s m args below meth c Z EL Q kc ks m0 mine h locs cells slots (mkF m pc Ls (x :: .int j :: .ref a :: st)) := fun T vm0 X eT V => by
  have A' := A
  obtain ⟨cl, Ar, e1, -, -⟩ := A
  subst hi
  obtain ⟨T', h', X', e', W, k1⟩ := stR X C.hx V.hZ' eT Ar (j := j) (v := x) (fun q => q.elim hj (by rw [← Array.length_toList, e1]; omega)) hty S (g := mkF m pc Ls (x :: .int j :: .ref a :: st)) rfl rfl (hb C.hby hd)
  have hf : fits ty x = true := by rcases ref_cases hx with rfl | ⟨q, rfl⟩ <;> cases ty <;> first | rfl | (simp [FieldType.isReference] at hty; done)
  obtain ⟨s₂, o, k, r⟩ := nx h' (Keep.of_wr W) W.size (A'.set W hf) T' vm0 X' e' (V.keep (Keep.of_wr W) (fun x hx => by rw [List.mem_singleton.mp hx]; exact hm) (V.wr1 hm))
  exact ⟨s₂, o, k1 _ k, r⟩
theorem g_newarray_ {aty : ArrayType} {n : Int32} {ad : String} (cap : Nat) (vs : List Value) (C : Cx wd p s m meth c Z a0 EL own bytes ml ret nm) (hd : decode bytes pc = .ok (.newarray aty, 2)) (w : (Cond.arrayClass (newarray.typeOf aty)).before a0 Z = true) (hn : ¬ n < 0) (hcap : n.toNatClampNeg ≤ cap) (hbig : cap * 8 ≤ 536870912) (had : "[" ++ (newarray.typeOf aty).toString = ad) (hvs : List.replicate n.toNatClampNeg (defaultValue (newarray.typeOf aty)) = vs) (hc : cells + 1 ≤ R.cells) (hs : slots + cap ≤ R.slots)
    (nx : ∀ (a : Addr) (h' : Heap), a = h.size → Ext h h' → a < h'.size → Exa Z h' a ad → Av Z h' a (newarray.typeOf aty) vs → Go wd p l e R s m args below meth c Z EL Q kc ks m0 (a :: mine) h' locs (cells + 1) (slots + cap) (mkF m (pc + 2) Ls (.ref a :: st))) : Go wd p l e R s m args below meth c Z EL Q kc ks m0 mine h locs cells slots (mkF m pc Ls (.int n :: st)) := fun T vm0 X eT V => by
  obtain ⟨T', h', cA, X', e', E, A, A2, k1⟩ := newPE X C.hx V.hZ' w eT (g := mkF m pc Ls (.int n :: st)) rfl (hb C.hby hd) rfl hn hcap hbig hc hs had
  have hav : Av Z h' h.size (newarray.typeOf aty) vs := by
    refine ⟨_, A, by rw [← hvs]; simp [newA], ?_, fun w hw => ?_⟩
    · rw [← hvs]; simp; have := (back32 hn).2; omega
    · rw [← hvs] at hw
      rw [(List.mem_replicate.mp hw).2]; cases aty <;> rfl
  obtain ⟨s₂, o, k, r⟩ := nx h.size h' rfl E A.lt A2 hav T' vm0 X' e' (V.new E A.lt)
  exact ⟨s₂, o, k1 _ k, r⟩
theorem g_anewarray_ {idx : Nat} {n : Int32} {ad Cn : String} (cap : Nat) (vs : List Value) (C : Cx wd p s m meth c Z a0 EL own bytes ml ret nm) (hd : decode bytes pc = .ok (.anewarray idx, 3)) (w1 : (Cond.classLink own idx Cn).before a0 Z = true) (w2 : (Cond.arrayOver (.object Cn)).before a0 Z = true) (hn : ¬ n < 0) (hcap : n.toNatClampNeg ≤ cap) (hbig : cap * 8 ≤ 536870912) (had : "[" ++ (FieldType.object Cn).toString = ad) (hvs : List.replicate n.toNatClampNeg Value.null = vs) (hc : cells + 1 ≤ R.cells) (hs : slots + cap ≤ R.slots)
    (nx : ∀ (a : Addr) (h' : Heap), a = h.size → Ext h h' → a < h'.size → Exa Z h' a ad → Av Z h' a (.object Cn) vs → (∃ cA cl, h'[a]? = some cl ∧ cl.cls = cA ∧ Ovr Z cA Cn) → Go wd p l e R s m args below meth c Z EL Q kc ks m0 (a :: mine) h' locs (cells + 1) (slots + cap) (mkF m (pc + 3) Ls (.ref a :: st))) : Go wd p l e R s m args below meth c Z EL Q kc ks m0 mine h locs cells slots (mkF m pc Ls (.int n :: st)) := fun T vm0 X eT V => by
  obtain ⟨T', h', cA, X', e', E, A, A2, O, k1⟩ := newRE X C.hx V.hZ' (V.hown C) w1 w2 eT (g := mkF m pc Ls (.int n :: st)) rfl (hb C.hby hd) rfl hn hcap hbig hc hs had
  have hav : Av Z h' h.size (.object Cn) vs := by
    refine ⟨_, A, by rw [← hvs]; simp [newA, defaultValue], ?_, fun w hw => ?_⟩
    · rw [← hvs]; simp; have := (back32 hn).2; omega
    · rw [← hvs] at hw
      rw [(List.mem_replicate.mp hw).2]; rfl
  obtain ⟨s₂, o, k, r⟩ := nx h.size h' rfl E A.lt A2 hav ⟨cA, _, A.1, rfl, O⟩ T' vm0 X' e' (V.new E A.lt)
  exact ⟨s₂, o, k1 _ k, r⟩
theorem Sto.ofAv {y : Addr} {Cn : String} (A : Av Z h a ty vs) (O : ∃ cA cl, h[a]? = some cl ∧ cl.cls = cA ∧ Ovr Z cA Cn) (I : Ins Z h y Cn true) : Sto Z h a (.ref y) := by
  obtain ⟨c, A, -⟩ := A
  obtain ⟨cA, cl, q1, q2, O⟩ := O
  cases A.1.symm.trans q1
  exact Sto.ofV A q2 O I
theorem g_clone_ {idx : Nat} {ad : String} (cap : Nat) (C : Cx wd p s m meth c Z a0 EL own bytes ml ret nm) (hd : decode bytes pc = .ok (.invokevirtual idx, 3)) (w1 : (Cond.methodLink own idx ⟨ad, "clone", "()Ljava/lang/Object;"⟩).before a0 Z = true) (w2 : (Cond.sameMethod ad "java/lang/Object" "clone" "()Ljava/lang/Object;").before a0 Z = true) (w3 : (Cond.native ⟨"java/lang/Object", "clone", "()Ljava/lang/Object;"⟩).before a0 Z = true)
    (w4 : (Cond.instanceMethod ⟨"java/lang/Object", "clone", "()Ljava/lang/Object;"⟩).before a0 Z = true) (w5 : (Cond.selects ad ⟨ad, "clone", "()Ljava/lang/Object;"⟩ ⟨"java/lang/Object", "clone", "()Ljava/lang/Object;"⟩).before a0 Z = true) (w6 : (Cond.castable ad "java/lang/Cloneable").before a0 Z = true)
    (A : Av Z h a ty vs) (E : Exa Z h a ad) (hcap : vs.length ≤ cap) (hsz : Ls.size = ml) (hf : 1 ≤ R.frames) (hl : (st.map fun v => v.category).sum + 14 ≤ R.locals) (hc : cells + 1 ≤ R.cells) (hs : slots + cap ≤ R.slots)
    (nx : ∀ (b : Addr) (h' : Heap), b = h.size → Ext h h' → b < h'.size → Exa Z h' b ad → Av Z h' b ty vs → Go wd p l e R s m args below meth c Z EL Q kc ks m0 (b :: mine) h' locs (cells + 1) (slots + cap) (mkF m (pc + 3) Ls (.ref b :: st))) : Go wd p l e R s m args below meth c Z EL Q kc ks m0 mine h locs cells slots (mkF m pc Ls (.ref a :: st)) := fun T vm0 X eT V => by
  obtain ⟨cl, Ar, rfl, h2, h3⟩ := A
  have FC : FitC Z cl := fitC_of Ar fun i hi v hv => h3 v (by rw [Array.getElem?_eq_getElem hi] at hv; cases hv; exact Array.mem_toList_iff.mpr (Array.getElem_mem hi))
  obtain ⟨T', h', X', e', E', A', A2, k1⟩ := cloneA X C.hx V.hZ' (V.hown C) w1 w2 w3 w4 w5 w6 eT Ar E FC (g := mkF m pc Ls (.ref a :: st)) rfl (by rw [C.hml]; exact hsz) rfl (hb C.hby hd) hf (W := (st.map fun v => v.category).sum) (by show 2 * 0 + _ ≤ _; omega) hl (by rw [← Array.length_toList]; exact hcap) hc hs
  obtain ⟨s₂, o, k, r⟩ := nx h.size h' rfl E' A'.lt A2 ⟨_, A', rfl, h2, h3⟩ T' vm0 X' e' (V.new E' A'.lt)
  exact ⟨s₂, o, k1 _ k, r⟩
/-! calls -/
theorem safe0 {x : Addr} : Safe Z [] vm h x := fun ⟨_, q, _⟩ => nomatch q
theorem chv0 : CHv Z [] vm h := fun _ q => nomatch q
variable {y z : MethodName} {bytes' : ByteArray} {ml' : Nat} {ret' : Option FieldType} {rm : Room} {Q' : Option Value → Heap → Prop} {mine' : List Addr} {as' : Array Value} {len W : Nat}
theorem backN (M : MetW false l Z [] y bytes' ml' ret' [] rm as' mine' h Q') (hZ : Z.Warmed39 s.vm) (wc : (Cond.code y bytes' ml' ret').before a0 Z = true) (wz : (Cond.initialized y.cls).before a0 Z = true) (hf : rm.frames + 1 ≤ R.frames) (hl : W + (ml' + 11) + rm.locals ≤ R.locals) (hm : ∀ x ∈ mine', x < h.size ∧ Z.heap.size ≤ x) (hold : Ext Z.heap h) :
    Back l R p e below s args y len W (fun A a => a = as' ∧ A.U.heap = h ∧ A.cells + rm.cells ≤ R.cells ∧ A.slots + rm.slots ≤ R.slots)
      (fun A _ v B => ∃ L, Q' v B.U.heap ∧ B.locs = A.locs ++ L ∧ B.cells = A.cells + rm.cells ∧ B.slots = A.slots + rm.slots ∧ Keep h B.U.heap mine' ∧ Fr Z.heap.size L) :=
  Back.of_free (bytes := bytes') (maxL := ml') (ret := ret') (E := fun _ first o t L k n => k = rm.cells ∧ n = rm.slots ∧ (∃ v, o = .returned v ∧ Q' v t.heap) ∧ Keep first.heap t.heap mine' ∧ Fr Z.heap.size L) M hf hl
    (fun m meth c A a Y hp => have hU : Z.Warmed39 A.U.vm := wtrans hZ Y.warmed
      ⟨by show (Cond.and _ .tt).before a A.U = true; rw [Cond.before_and, mv hU wc]; rfl, mv hU wc, mv hU wz, hp.2.2.1, hp.2.2.2⟩)
    (fun m meth c A a g mk Y hp => ⟨hp.1, wtrans hZ Y.warmed, hp.2.1, chv0, fun x hx => ⟨(hm x hx).1, safe0, (hm x hx).2⟩, hold⟩) (fun _ _ _ _ _ _ _ _ _ => trivial)
    (fun _ _ _ _ ⟨v, L, h1, h2, h3, h4, h5, h6, h7⟩ => ⟨L, _, _, h4.1 rfl, rfl, rfl, ⟨v, h1, h2⟩, h6, h7⟩)
    (fun m meth c A a g mk v t L k n Y hp _ _ ⟨e1, e2, ⟨v', e3, e4⟩, e5, e6⟩ => by
      cases e3; subst e1 e2
      refine ⟨L, e4, rfl, rfl, rfl, ?_, e6⟩
      rw [← hp.2.1]; exact e5)
theorem backW {vm0 : Vm} (M : MetW true l Z EL y bytes' ml' ret' [] rm as' mine' h Q') (hZ : Z.Warmed39 vm0) (wc : (Cond.code y bytes' ml' ret').before a0 Z = true) (wz : (Cond.initialized y.cls).before a0 Z = true) (hf : rm.frames + 1 ≤ R.frames) (hl : W + (ml' + 11) + rm.locals ≤ R.locals) (hEL : EW Z a0 EL) (H : CHv Z EL vm0 h) (hm : ∀ x ∈ mine', x < h.size ∧ Safe Z EL vm0 h x ∧ Z.heap.size ≤ x) (hold : Ext Z.heap h) :
    BackS l R p e below (s.setVm vm0) args y len W (fun A a => a = as' ∧ A.U.heap = h ∧ A.cells + rm.cells ≤ R.cells ∧ A.slots + rm.slots ≤ R.slots)
      (fun A _ v B => ∃ L, Q' v B.U.heap ∧ B.locs = A.locs ++ L ∧ B.cells = A.cells + rm.cells ∧ B.slots = A.slots + rm.slots ∧ CHr Z EL vm0 h B.U.vm B.U.heap ∧ Keep h B.U.heap mine' ∧ Fr Z.heap.size L) :=
  BackS.of_freeW (bytes := bytes') (maxL := ml') (ret := ret') (E := fun _ first o t L k n => k = rm.cells ∧ n = rm.slots ∧ (∃ v, o = .returned v ∧ Q' v t.heap) ∧ CHr Z EL first.vm first.heap t.vm t.heap ∧ Keep first.heap t.heap mine' ∧ Fr Z.heap.size L) M hf hl
    (fun m meth c A a Y hp => have hU : Z.Warmed39 A.U.vm := wtrans (s := s.setVm vm0) hZ Y.warmed
      ⟨by show (Cond.and _ .tt).before a A.U = true; rw [Cond.before_and, mv hU wc]; rfl, mv hU wc, mv hU wz, hp.2.2.1, hp.2.2.2⟩)
    (fun m meth c A a g mk Y hp => ⟨hp.1, wtrans (s := s.setVm vm0) hZ Y.warmed, hp.2.1, (CHv.at Y hZ hEL H).1, fun x hx => ⟨(hm x hx).1, (CHv.at Y hZ hEL H).safe (hm x hx).1 (hm x hx).2.1, (hm x hx).2.2⟩, hold⟩) (fun _ _ _ _ _ _ _ _ _ => trivial)
    (fun _ _ _ _ ⟨v, L, h1, h2, h3, h4, h5, h6, h7⟩ => ⟨L, _, _, h4.2, rfl, rfl, ⟨v, h1, h2⟩, h3, h6, h7⟩)
    (fun m meth c A a g mk v t L k n Y hp _ _ ⟨e1, e2, ⟨v', e3, e4⟩, e5, e6, e7⟩ => by
      cases e3; subst e1 e2
      refine ⟨L, e4, rfl, rfl, rfl, (CHv.at Y hZ hEL H).trans ?_, ?_, e7⟩
      · rw [← hp.2.1]; exact e5
      · rw [← hp.2.1]; exact e6)
theorem Vi.call {vm0 vm1 : Vm} {n : Nat} {locs' : List Loc} (V : Vi true Z s EL m0 mine locs vm0 h) (hS : (s.setVm vm0).Since vm1 n) (hn : n ≤ h'.size) (hg : h.size ≤ n) (R2 : CHr Z EL vm0 h vm1 h') (K : Keep h h' ws) (hw : ∀ x ∈ ws, x ∈ mine) (hF : Fr Z.heap.size locs') : Vi true Z s EL m0 mine locs' vm1 h' := by
  have V' := V.keep K hw hF
  obtain ⟨⟨v1, v2, ⟨k0, v3, v4⟩, v5⟩, v6, v7, v8, v9⟩ := V
  exact ⟨⟨fun q => (nomatch q), State.Warmed39.trans (t := s.setVm vm0) v2 hS.1, ⟨n, v3.trans hS (Nat.le_trans v4 hg), hn⟩, v5.trans R2⟩, fun x hx => ⟨(V'.2.1 x hx).1, R2.safe (v6 x hx).1 (v6 x hx).2.1, (V'.2.1 x hx).2.2⟩, V'.2.2⟩
theorem Fr.both {L L' : List Loc} {n : Nat} (A : Fr n L) (B : Fr n L') : Fr n (L ++ L') := Fr.app A B
theorem g_invokestatic {idx : Nat} {st0 : List Value} (argsL rest : List Value) (W : Nat) (C : Cx wd p s m meth c Z a0 EL own bytes ml ret nm) (hd : decode bytes pc = .ok (.invokestatic idx, 3)) (w1 : (Cond.methodLink own idx y).before a0 Z = true) (w2 : (Cond.static y).before a0 Z = true) (w3 : (Cond.initialized y.cls).before a0 Z = true) (w4 : (Cond.code y bytes' ml' ret').before a0 Z = true) (hy : y.cls ≠ "java/lang/invoke/MethodHandle" ∧ y.cls ≠ "java/lang/invoke/VarHandle") (M : MetW wd l Z EL y bytes' ml' ret' [] rm argsL.toArray mine' h Q') (hlen : ∀ sig, parseMethodDescriptor y.desc = some sig → argsL.length = sig.parameters.length) (hst : st0 = argsL.reverse ++ rest) (hsz : Ls.size = ml) (hW : (rest.map fun v => v.category).sum ≤ W) (hf : rm.frames + 1 ≤ R.frames) (hl : W + (ml' + 11) + rm.locals ≤ R.locals) (hc : cells + rm.cells ≤ R.cells) (hs : slots + rm.slots ≤ R.slots) (hm : ∀ x ∈ mine', x ∈ mine) (nx : ∀ (v : Option Value) (h' : Heap) (L : List Loc), Q' v h' → Keep h h' mine' → Go wd p l e R s m args below meth c Z EL Q kc ks m0 mine h' (locs ++ L) (cells + rm.cells) (slots + rm.slots) (mkF m (pc + 3) Ls (v.toList ++ rest))) : Go wd p l e R s m args below meth c Z EL Q kc ks m0 mine h locs cells slots (mkF m pc Ls st0) := fun T vm0 X eT V => by
  subst hst
  have h2W : 2 * 0 + (rest.map fun v => v.category).sum ≤ W := by omega
  cases wd with
  | false =>
    have hE := C.hwd rfl
    subst hE
    have e1 : vm0 = s.vm := V.1.1 rfl
    subst e1
    obtain ⟨v, vm₁, ⟨T', L', k', n'⟩, -, X', ⟨L, hq, l1, l2, l3, hK, hF⟩, k1⟩ := Jvm.LawKit.callS X C.hx (V.hown C) (mvT V.hZ' w1) (mvT V.hZ' w2) (mvT V.hZ' w3) (mvT V.hZ' w4) hy (backN (len := 3) (W := W) M V.hZ' w4 w3 hf hl (fun x hx => ⟨(V.2.1 x (hm x hx)).1, (V.2.1 x (hm x hx)).2.2.1⟩) V.old) (g := mkF m pc Ls _) rfl (by rw [C.hml]; exact hsz) hlen rfl h2W (hb C.hby hd) (fun _ _ => ⟨rfl, eT, hc, hs⟩)
    dsimp only [Pt.U, Pt.locs, Pt.cells, Pt.slots] at X' l1 l2 l3 k1 hq hK
    subst l1 l2 l3
    obtain ⟨s₂, o, k, r⟩ := nx v _ L hq hK T' s.vm X' rfl (V.keep hK hm (Fr.app V.fr hF))
    exact ⟨s₂, o, k1 _ k, r⟩
  | true =>
    obtain ⟨v, vm₁, ⟨T', L', k', n'⟩, -, X', hS, hg, ⟨L, hq, l1, l2, l3, hR, hK, hF⟩, k1⟩ := callSS X C.hx (V.hown C) (mvT V.hZ' w1) (mvT V.hZ' w2) (mvT V.hZ' w3) (mvT V.hZ' w4) hy (backW (len := 3) (W := W) M V.hZ w4 w3 hf hl C.hEW V.held (fun x hx => ⟨(V.2.1 x (hm x hx)).1, (V.2.1 x (hm x hx)).2.1, (V.2.1 x (hm x hx)).2.2.1⟩) V.old) (g := mkF m pc Ls _) rfl (by rw [C.hml]; exact hsz) hlen rfl h2W (hb C.hby hd) (fun _ _ => ⟨rfl, eT, hc, hs⟩)
    dsimp only [Pt.U, Pt.locs, Pt.cells, Pt.slots] at X' l1 l2 l3 k1 hq hg hS hR hK
    subst l1 l2 l3
    rw [eT] at hg
    obtain ⟨s₂, o, k, r⟩ := nx v _ L hq hK T' T'.vm X' rfl (V.call hS (Nat.le_refl _) hg hR hK hm (Fr.app V.fr hF))
    exact ⟨s₂, o, k1.trans k, r⟩
theorem g_invokespecial {idx : Nat} {st0 : List Value} (argsL rest : List Value) (W : Nat) (C : Cx wd p s m meth c Z a0 EL own bytes ml ret nm) (hd : decode bytes pc = .ok (.invokespecial idx, 3)) (hyi : y.name = "<init>") (w1 : (Cond.methodLink own idx y).before a0 Z = true) (w2 : (Cond.instanceMethod y).before a0 Z = true) (w3 : (Cond.initialized y.cls).before a0 Z = true) (w4 : (Cond.code y bytes' ml' none).before a0 Z = true) (hy : y.cls ≠ "java/lang/invoke/MethodHandle" ∧ y.cls ≠ "java/lang/invoke/VarHandle") (M : MetW wd l Z EL y bytes' ml' none [] rm (.ref a :: argsL).toArray mine' h Q') (hlen : ∀ sig, parseMethodDescriptor y.desc = some sig → argsL.length = sig.parameters.length) (hst : st0 = argsL.reverse ++ .ref a :: rest) (hsz : Ls.size = ml) (hW : (rest.map fun v => v.category).sum ≤ W) (hf : rm.frames + 1 ≤ R.frames) (hl : W + (ml' + 11) + rm.locals ≤ R.locals) (hc : cells + rm.cells ≤ R.cells) (hs : slots + rm.slots ≤ R.slots) (hm : ∀ x ∈ mine', x ∈ mine) (nx : ∀ (v : Option Value) (h' : Heap) (L : List Loc), Q' v h' → Keep h h' mine' → Go wd p l e R s m args below meth c Z EL Q kc ks m0 mine h' (locs ++ L) (cells + rm.cells) (slots + rm.slots) (mkF m (pc + 3) Ls (v.toList ++ rest))) : Go wd p l e R s m args below meth c Z EL Q kc ks m0 mine h locs cells slots (mkF m pc Ls st0) := fun T vm0 X eT V => by
  subst hst
  have h2W : 2 * 0 + (rest.map fun v => v.category).sum ≤ W := by omega
  cases wd with
  | false =>
    have hE := C.hwd rfl
    subst hE
    have e1 : vm0 = s.vm := V.1.1 rfl
    subst e1
    obtain ⟨v, vm₁, ⟨T', L', k', n'⟩, -, X', ⟨L, hq, l1, l2, l3, hK, hF⟩, k1⟩ := X.specialBack C.hx hyi (V.hown C) (mvT V.hZ' w1) (mvT V.hZ' w2) (mvT V.hZ' w4) hy (backN (len := 3) (W := W) M V.hZ' w4 w3 hf hl (fun x hx => ⟨(V.2.1 x (hm x hx)).1, (V.2.1 x (hm x hx)).2.2.1⟩) V.old) (g := mkF m pc Ls _) rfl (by rw [C.hml]; exact hsz) (Steps.refl _) hlen rfl h2W (hb C.hby hd) (fun _ _ => ⟨rfl, eT, hc, hs⟩)
    dsimp only [Pt.U, Pt.locs, Pt.cells, Pt.slots] at X' l1 l2 l3 k1 hq hK
    subst l1 l2 l3
    obtain ⟨s₂, o, k, r⟩ := nx v _ L hq hK T' s.vm X' rfl (V.keep hK hm (Fr.app V.fr hF))
    exact ⟨s₂, o, k1.trans k, r⟩
  | true =>
    obtain ⟨v, vm₁, ⟨T', L', k', n'⟩, -, X', hS, hg, ⟨L, hq, l1, l2, l3, hR, hK, hF⟩, k1⟩ := X.specialBackS C.hx hyi (V.hown C) (mvT V.hZ' w1) (mvT V.hZ' w2) (mvT V.hZ' w4) hy (backW (len := 3) (W := W) M V.hZ w4 w3 hf hl C.hEW V.held (fun x hx => ⟨(V.2.1 x (hm x hx)).1, (V.2.1 x (hm x hx)).2.1, (V.2.1 x (hm x hx)).2.2.1⟩) V.old) (g := mkF m pc Ls _) rfl (by rw [C.hml]; exact hsz) (Steps.refl _) hlen rfl h2W (hb C.hby hd) (fun _ _ => ⟨rfl, eT, hc, hs⟩)
    dsimp only [Pt.U, Pt.locs, Pt.cells, Pt.slots] at X' l1 l2 l3 k1 hq hg hS hR hK
    subst l1 l2 l3
    rw [eT] at hg
    obtain ⟨s₂, o, k, r⟩ := nx v _ L hq hK T' T'.vm X' rfl (V.call hS (Nat.le_refl _) hg hR hK hm (Fr.app V.fr hF))
    exact ⟨s₂, o, k1.trans k, r⟩
theorem g_invokevirtual {idx : Nat} {st0 : List Value} {Cn : String} (argsL rest : List Value) (W : Nat) (C : Cx wd p s m meth c Z a0 EL own bytes ml ret nm) (hd : decode bytes pc = .ok (.invokevirtual idx, 3)) (w1 : (Cond.methodLink own idx y).before a0 Z = true) (w5 : (Cond.declares y).before a0 Z = true) (w6 : (Cond.selects Cn y z).before a0 Z = true) (w2 : (Cond.instanceMethod z).before a0 Z = true) (w3 : (Cond.initialized z.cls).before a0 Z = true) (w4 : (Cond.code z bytes' ml' ret').before a0 Z = true) (hnf : ∀ U : State, Z.Warmed39 U.vm → NotFace U y) (hy : y.cls ≠ "java/lang/invoke/MethodHandle" ∧ y.cls ≠ "java/lang/invoke/VarHandle") (E : Exa Z h a Cn) (M : MetW wd l Z EL z bytes' ml' ret' [] rm (.ref a :: argsL).toArray mine' h Q') (hlen : ∀ sig, parseMethodDescriptor y.desc = some sig → argsL.length = sig.parameters.length) (hst : st0 = argsL.reverse ++ .ref a :: rest) (hsz : Ls.size = ml) (hW : (rest.map fun v => v.category).sum ≤ W) (hf : rm.frames + 1 ≤ R.frames) (hl : W + (ml' + 11) + rm.locals ≤ R.locals) (hc : cells + rm.cells ≤ R.cells) (hs : slots + rm.slots ≤ R.slots) (hm : ∀ x ∈ mine', x ∈ mine) (nx : ∀ (v : Option Value) (h' : Heap) (L : List Loc), Q' v h' → Keep h h' mine' → Go wd p l e R s m args below meth c Z EL Q kc ks m0 mine h' (locs ++ L) (cells + rm.cells) (slots + rm.slots) (mkF m (pc + 3) Ls (v.toList ++ rest))) : Go wd p l e R s m args below meth c Z EL Q kc ks m0 mine h locs cells slots (mkF m pc Ls st0) := fun T vm0 X eT V => by
  subst hst
  have h2W : 2 * 0 + (rest.map fun v => v.category).sum ≤ W := by omega
  obtain ⟨cB, kB, qa, qb, qc⟩ := isOf V.hZ' eT E
  cases wd with
  | false =>
    have hE := C.hwd rfl
    subst hE
    have e1 : vm0 = s.vm := V.1.1 rfl
    subst e1
    obtain ⟨v, vm₁, ⟨T', L', k', n'⟩, -, X', ⟨L, hq, l1, l2, l3, hK, hF⟩, k1⟩ := X.virtualBack C.hx (V.hown C) (mvT V.hZ' w1) (mvT V.hZ' w5) (hnf _ V.hZ') (mvT V.hZ' w6) (mvT V.hZ' w2) hy (backN (len := 3) (W := W) M V.hZ' w4 w3 hf hl (fun x hx => ⟨(V.2.1 x (hm x hx)).1, (V.2.1 x (hm x hx)).2.2.1⟩) V.old) qa qc (g := mkF m pc Ls _) rfl (by rw [C.hml]; exact hsz) (Steps.refl _) hlen rfl h2W (hb C.hby hd) (fun _ _ => ⟨rfl, eT, hc, hs⟩)
    dsimp only [Pt.U, Pt.locs, Pt.cells, Pt.slots] at X' l1 l2 l3 k1 hq hK
    subst l1 l2 l3
    obtain ⟨s₂, o, k, r⟩ := nx v _ L hq hK T' s.vm X' rfl (V.keep hK hm (Fr.app V.fr hF))
    exact ⟨s₂, o, k1.trans k, r⟩
  | true =>
    obtain ⟨v, vm₁, ⟨T', L', k', n'⟩, -, X', hS, hg, ⟨L, hq, l1, l2, l3, hR, hK, hF⟩, k1⟩ := X.virtualBackS C.hx (V.hown C) (mvT V.hZ' w1) (mvT V.hZ' w5) (hnf _ V.hZ') (mvT V.hZ' w6) (mvT V.hZ' w2) hy (backW (len := 3) (W := W) M V.hZ w4 w3 hf hl C.hEW V.held (fun x hx => ⟨(V.2.1 x (hm x hx)).1, (V.2.1 x (hm x hx)).2.1, (V.2.1 x (hm x hx)).2.2.1⟩) V.old) qa qc (g := mkF m pc Ls _) rfl (by rw [C.hml]; exact hsz) (Steps.refl _) hlen rfl h2W (hb C.hby hd) (fun _ _ => ⟨rfl, eT, hc, hs⟩)
    dsimp only [Pt.U, Pt.locs, Pt.cells, Pt.slots] at X' l1 l2 l3 k1 hq hg hS hR hK
    subst l1 l2 l3
    rw [eT] at hg
    obtain ⟨s₂, o, k, r⟩ := nx v _ L hq hK T' T'.vm X' rfl (V.call hS (Nat.le_refl _) hg hR hK hm (Fr.app V.fr hF))
    exact ⟨s₂, o, k1.trans k, r⟩
theorem g_specialB {idx : Nat} {rc rs : Nat} {QB : Option Value → Heap → List Loc → Prop} {st0 : List Value} (argsL rest : List Value) (W : Nat) (C : Cx wd p s m meth c Z a0 EL own bytes ml ret nm) (hd : decode bytes pc = .ok (.invokespecial idx, 3)) (hyi : y.name = "<init>") (w1 : (Cond.methodLink own idx y).before a0 Z = true) (w2 : (Cond.instanceMethod y).before a0 Z = true) (w4 : (Cond.code y bytes' ml' none).before a0 Z = true) (hy : y.cls ≠ "java/lang/invoke/MethodHandle" ∧ y.cls ≠ "java/lang/invoke/VarHandle") (hB : ∀ vm0 : Vm, Z.Warmed39 vm0 → Ext Z.heap h → Back l R p e below (s.setVm vm0) args y 3 W (fun A a => a = as' ∧ A.U.heap = h ∧ A.cells + rc ≤ R.cells ∧ A.slots + rs ≤ R.slots) (fun A _ v B => ∃ L, QB v B.U.heap L ∧ B.locs = A.locs ++ L ∧ B.cells = A.cells + rc ∧ B.slots = A.slots + rs)) (has : as' = (.ref a :: argsL).toArray) (hlen : ∀ sig, parseMethodDescriptor y.desc = some sig → argsL.length = sig.parameters.length) (hst : st0 = argsL.reverse ++ .ref a :: rest) (hsz : Ls.size = ml) (hW : (rest.map fun v => v.category).sum ≤ W) (hc : cells + rc ≤ R.cells) (hs : slots + rs ≤ R.slots) (hk : ∀ (v : Option Value) (h' : Heap) (L : List Loc), QB v h' L → Keep h h' mine' ∧ Fr Z.heap.size L) (hm : ∀ x ∈ mine', x ∈ mine) (nx : ∀ (v : Option Value) (h' : Heap) (L : List Loc), QB v h' L → Keep h h' mine' → Go wd p l e R s m args below meth c Z EL Q kc ks m0 mine h' (locs ++ L) (cells + rc) (slots + rs) (mkF m (pc + 3) Ls (v.toList ++ rest))) : Go wd p l e R s m args below meth c Z EL Q kc ks m0 mine h locs cells slots (mkF m pc Ls st0) := fun T vm0 X eT V => by
  subst hst
  have h2W : 2 * 0 + (rest.map fun v => v.category).sum ≤ W := by omega
  obtain ⟨v, vm₁, ⟨T', L', k', n'⟩, -, X', ⟨L, hq, l1, l2, l3⟩, k1⟩ := X.specialBack C.hx hyi (V.hown C) (mvT V.hZ' w1) (mvT V.hZ' w2) (mvT V.hZ' w4) hy (hB vm0 V.hZ V.old) (g := mkF m pc Ls _) rfl (by rw [C.hml]; exact hsz) (Steps.refl _) hlen rfl h2W (hb C.hby hd) (fun _ _ => ⟨has.symm, eT, hc, hs⟩)
  dsimp only [Pt.U, Pt.locs, Pt.cells, Pt.slots] at X' l1 l2 l3 k1 hq
  subst l1 l2 l3
  obtain ⟨K, hF⟩ := hk _ _ _ hq
  obtain ⟨s₂, o, k, r⟩ := nx v _ L hq K T' vm0 X' rfl (V.keep K hm (Fr.app V.fr hF))
  exact ⟨s₂, o, k1.trans k, r⟩
theorem g_virtualB {idx : Nat} {rc rs : Nat} {QB : Option Value → Heap → List Loc → Prop} {st0 : List Value} {Cn : String} (argsL rest : List Value) (W : Nat) (C : Cx wd p s m meth c Z a0 EL own bytes ml ret nm) (hd : decode bytes pc = .ok (.invokevirtual idx, 3)) (w1 : (Cond.methodLink own idx y).before a0 Z = true) (w5 : (Cond.declares y).before a0 Z = true) (w6 : (Cond.selects Cn y z).before a0 Z = true) (w2 : (Cond.instanceMethod z).before a0 Z = true) (hnf : ∀ U : State, Z.Warmed39 U.vm → NotFace U y) (hy : y.cls ≠ "java/lang/invoke/MethodHandle" ∧ y.cls ≠ "java/lang/invoke/VarHandle") (E : Exa Z h a Cn) (hB : ∀ vm0 : Vm, Z.Warmed39 vm0 → Ext Z.heap h → Back l R p e below (s.setVm vm0) args z 3 W (fun A a => a = as' ∧ A.U.heap = h ∧ A.cells + rc ≤ R.cells ∧ A.slots + rs ≤ R.slots) (fun A _ v B => ∃ L, QB v B.U.heap L ∧ B.locs = A.locs ++ L ∧ B.cells = A.cells + rc ∧ B.slots = A.slots + rs)) (has : as' = (.ref a :: argsL).toArray) (hlen : ∀ sig, parseMethodDescriptor y.desc = some sig → argsL.length = sig.parameters.length) (hst : st0 = argsL.reverse ++ .ref a :: rest) (hsz : Ls.size = ml) (hW : (rest.map fun v => v.category).sum ≤ W) (hc : cells + rc ≤ R.cells) (hs : slots + rs ≤ R.slots) (hk : ∀ (v : Option Value) (h' : Heap) (L : List Loc), QB v h' L → Keep h h' mine' ∧ Fr Z.heap.size L) (hm : ∀ x ∈ mine', x ∈ mine) (nx : ∀ (v : Option Value) (h' : Heap) (L : List Loc), QB v h' L → Keep h h' mine' → Go wd p l e R s m args below meth c Z EL Q kc ks m0 mine h' (locs ++ L) (cells + rc) (slots + rs) (mkF m (pc + 3) Ls (v.toList ++ rest))) : Go wd p l e R s m args below meth c Z EL Q kc ks m0 mine h locs cells slots (mkF m pc Ls st0) := fun T vm0 X eT V => by
  subst hst
  have h2W : 2 * 0 + (rest.map fun v => v.category).sum ≤ W := by omega
  obtain ⟨cB, kB, qa, qb, qc⟩ := isOf V.hZ' eT E
  obtain ⟨v, vm₁, ⟨T', L', k', n'⟩, -, X', ⟨L, hq, l1, l2, l3⟩, k1⟩ := X.virtualBack C.hx (V.hown C) (mvT V.hZ' w1) (mvT V.hZ' w5) (hnf _ V.hZ') (mvT V.hZ' w6) (mvT V.hZ' w2) hy (hB vm0 V.hZ V.old) qa qc (g := mkF m pc Ls _) rfl (by rw [C.hml]; exact hsz) (Steps.refl _) hlen rfl h2W (hb C.hby hd) (fun _ _ => ⟨has.symm, eT, hc, hs⟩)
  dsimp only [Pt.U, Pt.locs, Pt.cells, Pt.slots] at X' l1 l2 l3 k1 hq
  subst l1 l2 l3
  obtain ⟨K, hF⟩ := hk _ _ _ hq
  obtain ⟨s₂, o, k, r⟩ := nx v _ L hq K T' vm0 X' rfl (V.keep K hm (Fr.app V.fr hF))
  exact ⟨s₂, o, k1.trans k, r⟩
theorem g_ldcStr {idx : Nat} {text : String} {zl : Int32} (n : Nat) (C : Cx true p s m meth c Z a0 EL own bytes ml ret nm) (hd : decode bytes pc = .ok (.ldc idx, 2)) (w : (Cond.stringLink own idx text).before a0 Z = true) (wS : ∀ a ∈ Bundle.stringAtoms, a.before a0 Z = true) (hmem : (own, idx) ∈ EL)
    (ht : (∀ c ∈ text.toList, c.toNat < 256) ∧ text.toList.map (fun c => Value.int (Jvm.Lit.byteI c.toNat.toUInt16)) = vs) (hz : ¬ zl < 0) (hzl : zl.toNatClampNeg = vs.length) (hn : 4 * text.toList.length ≤ n) (hbig : n ≤ 536870912) (hc : cells + 2 ≤ R.cells) (hs : slots + (n + 4) ≤ R.slots)
    (nx : ∀ (a b : Addr) (h' : Heap), Ext h h' → Exa Z h' a "java/lang/String" → Fld Z h' a "java/lang/String" "coder" "B" (.int 0) → Fld Z h' a "java/lang/String" "value" "[B" (.ref b) → Av Z h' b .byte vs → (∀ x ∈ mine, x ≠ a ∧ x ≠ b) → Go true p l e R s m args below meth c Z EL Q kc ks m0 mine h' locs (cells + 2) (slots + (n + 4)) (mkF m (pc + 2) Ls (.ref a :: st))) : Go true p l e R s m args below meth c Z EL Q kc ks m0 mine h locs cells slots (mkF m pc Ls st) := fun T vm0 X eT V => by
  have V' := V
  obtain ⟨⟨v1, v2, ⟨k0, v3, v4⟩, v5⟩, v6, -⟩ := V'

  obtain ⟨a, T', h', k1, b, kb, X', e', E, hS, hk, hW, hf, F1, F2, F3, F4, l1, l2, hR, hL, hne, kk⟩ := ldcCH X C.hx V.hZ (V.hown' C) w wS eT v3 v4 C.hEW hmem v5.1 ht hz hzl (g := mkF m pc Ls st) rfl (hb C.hby hd) hn hbig hc hs
  have V2 := V.ext E
  have v6' : ∀ x ∈ mine, x < h'.size ∧ Safe Z EL T'.vm h' x ∧ Z.heap.size ≤ x ∧ (x ∈ m0 ∨ s.heap.size ≤ x) := fun x hx => ⟨Nat.lt_of_lt_of_le (v6 x hx).1 E.1, hR.safe (v6 x hx).1 (v6 x hx).2.1, (v6 x hx).2.2⟩
  obtain ⟨s₂, o, k, r⟩ := nx a b h' E F1 F2 F3 (Av.of_arv F4 hzl) (fun x hx => hne x (v6' x hx).2.1) T' T'.vm X' e' ⟨⟨fun q => (nomatch q), hW, ⟨k1, hS, hk⟩, v5.trans hR⟩, v6', V2.2.2⟩
  exact ⟨s₂, o, kk _ k, r⟩
/-- a String constant that isn't read -/
theorem g_ldcOpq {idx : Nat} {text : String} (n : Nat) (C : Cx true p s m meth c Z a0 EL own bytes ml ret nm) (hd : decode bytes pc = .ok (.ldc idx, 2)) (w : (Cond.stringLink own idx text).before a0 Z = true) (wS : ∀ a ∈ Bundle.stringAtoms, a.before a0 Z = true)
    (hn : 4 * text.toList.length ≤ n) (hbig : n ≤ 536870912) (hc : cells + 2 ≤ R.cells) (hs : slots + (n + 4) ≤ R.slots)
    (nx : ∀ (a : Addr) (h' : Heap), Ext h h' → Go true p l e R s m args below meth c Z EL Q kc ks m0 mine h' locs (cells + 2) (slots + (n + 4)) (mkF m (pc + 2) Ls (.ref a :: st))) : Go true p l e R s m args below meth c Z EL Q kc ks m0 mine h locs cells slots (mkF m pc Ls st) := fun T vm0 X eT V => by
  have V' := V
  obtain ⟨⟨v1, v2, ⟨k0, v3, v4⟩, v5⟩, v6, -⟩ := V'

  obtain ⟨a, T', h', k1, X', e', E, hS, hk, hW, hf, hR, hL, kk⟩ := ldcOH X C.hx V.hZ (V.hown' C) w wS eT v3 v4 C.hEW v5.1 (g := mkF m pc Ls st) rfl (hb C.hby hd) hn hbig hc hs
  obtain ⟨s₂, o, k, r⟩ := nx a h' E T' T'.vm X' e' ⟨⟨fun q => (nomatch q), hW, ⟨k1, hS, hk⟩, v5.trans hR⟩, fun x hx => ⟨Nat.lt_of_lt_of_le (v6 x hx).1 E.1, hR.safe (v6 x hx).1 (v6 x hx).2.1, (v6 x hx).2.2⟩, (V.ext E).2.2⟩
  exact ⟨s₂, o, kk _ k, r⟩
/-- the array at a holds objects of Cn -/
def OvA (Z : State) (h : Heap) (a : Addr) (Cn : String) : Prop := ∃ cA cl, h[a]? = some cl ∧ cl.cls = cA ∧ Ovr Z cA Cn
theorem OvA.keep {Cn : String} (F : OvA Z h a Cn) (K : Keep h h' ws) : OvA Z h' a Cn := by
  obtain ⟨cA, cl, q1, q2, O⟩ := F
  obtain ⟨cl', r1, r2, -⟩ := K.2.2 _ _ q1
  exact ⟨cA, cl', r1, r2.trans q2, O⟩
/-- an object of C isn't one of the ordinary class K that C's chain of superclasses doesn't meet -/
theorem ins_no {C K : String} {t : List String} {n : Nat} (E : Exa Z h a C) (hw : ∀ w ∈ Cond.chainWords (C :: t), w.before a0 Z = true) (wi : (Cond.instantiable K n).before a0 Z = true) (hn : K ∉ C :: t) : Ins Z h a K false := by
  obtain ⟨cell, k, e1, e2, e3, e4, -⟩ := E
  obtain ⟨cK, kK, i1, i2, i3, i4, -⟩ := Cond.instantiable_spec wi
  obtain ⟨c', k', c1, c2, c3, c4⟩ := Cond.chain_head hw
  cases e2.symm.trans c1
  cases e3.symm.trans c2
  have ne : cell.cls ≠ cK := Vm.findClass_ne e2 i1 (fun e => hn (by simp [e]))
  have ns := Cond.chain_notSub i1 t C _ e2 hw hn (Z.vm.classes.size + 1)
  have i5 : kK.isInterface = false := by
    cases q : kK.isInterface
    · rfl
    · rw [q] at i4; cases i4
  refine ⟨cell, cK, e1, i1, ?_⟩
  simp [e4, Vm.assignable, Vm.assignableAux, ne, e3, i2, c3, i3, i5, Vm.isSubclass, ns]
/-- a String of Latin-1 chars cs, its bytes at t -/
def Str (Z : State) (h : Heap) (x t : Addr) (cs : List Int32) : Prop :=
  Exa Z h x "java/lang/String" ∧ Fld Z h x "java/lang/String" "coder" "B" (.int 0) ∧ Fld Z h x "java/lang/String" "value" "[B" (.ref t) ∧ Av Z h t .byte (cs.map fun c => Value.int c.toInt8.toInt32)
theorem Str.keep {x t : Addr} {cs : List Int32} (F : Str Z h x t cs) (K : Keep h h' ws) (q1 : x ∉ ws) (q2 : t ∉ ws) : Str Z h' x t cs := ⟨F.1.keep K, F.2.1.keep K q1, F.2.2.1.keep K q1, F.2.2.2.keep K q2⟩
theorem Str.ext {x t : Addr} {cs : List Int32} (F : Str Z h x t cs) (E : Ext h h') : Str Z h' x t cs := F.keep (keep_ext E) (fun q => nomatch q) (fun q => nomatch q)
theorem g_ldc2w {idx : Nat} (z : Int64) (C : Cx wd p s m meth c Z a0 EL own bytes ml ret nm) (hd : decode bytes pc = .ok (.ldc2_w idx, 3)) (w : (Cond.constantLong own idx z).before a0 Z = true) (nx : Go wd p l e R s m args below meth c Z EL Q kc ks m0 mine h locs cells slots (mkF m (pc + 3) Ls (.long z :: st))) : Go wd p l e R s m args below meth c Z EL Q kc ks m0 mine h locs cells slots (mkF m pc Ls st) := fun T vm0 X eT V => by
  obtain ⟨s₂, o, k, r⟩ := nx T vm0 X eT V
  exact ⟨s₂, o, X.ldc2J C.hx (V.hown C) (mvT V.hZ' w) (g := mkF m pc Ls st) rfl (hb C.hby hd) k, r⟩
theorem g_ldcInt {idx : Nat} (z : Int32) (C : Cx wd p s m meth c Z a0 EL own bytes ml ret nm) (hd : decode bytes pc = .ok (.ldc idx, 2)) (w : (Cond.constant own idx z).before a0 Z = true) (nx : Go wd p l e R s m args below meth c Z EL Q kc ks m0 mine h locs cells slots (mkF m (pc + 2) Ls (.int z :: st))) : Go wd p l e R s m args below meth c Z EL Q kc ks m0 mine h locs cells slots (mkF m pc Ls st) := fun T vm0 X eT V => by
  obtain ⟨s₂, o, k, r⟩ := nx T vm0 X eT V
  exact ⟨s₂, o, X.ldcI C.hx (V.hown C) (mvT V.hZ' w) (g := mkF m pc Ls st) rfl (hb C.hby hd) k, r⟩
theorem cl_lt {x y : Int64} : XT.cmpL x y < 0 ↔ x < y := by rw [← lw_lt]; rfl
theorem cl_gt {x y : Int64} : 0 < XT.cmpL x y ↔ y < x := by rw [← lw_gt]; rfl
theorem cl_eq {x y : Int64} : XT.cmpL x y = 0 ↔ x = y := by rw [← lw_eq]; rfl
theorem cl_eq_t {x y : Int64} (q : x = y) : hC .eq (XT.cmpL x y) 0 := cl_eq.mpr q
theorem cl_eq_f {x y : Int64} (q : ¬ x = y) : nC .eq (XT.cmpL x y) 0 := fun z => q (cl_eq.mp z)
theorem cl_ne_t {x y : Int64} (q : ¬ x = y) : hC .ne (XT.cmpL x y) 0 := fun z => q (cl_eq.mp z)
theorem cl_ne_f {x y : Int64} (q : x = y) : nC .ne (XT.cmpL x y) 0 := cl_eq.mpr q
theorem cl_lt_t {x y : Int64} (q : x < y) : hC .lt (XT.cmpL x y) 0 := cl_lt.mpr q
theorem cl_lt_f {x y : Int64} (q : ¬ x < y) : nC .lt (XT.cmpL x y) 0 := fun z => q (cl_lt.mp z)
theorem cl_ge_t {x y : Int64} (q : ¬ x < y) : hC .ge (XT.cmpL x y) 0 := fun z => q (cl_lt.mp z)
theorem cl_ge_f {x y : Int64} (q : x < y) : nC .ge (XT.cmpL x y) 0 := cl_lt.mpr q
theorem cl_gt_t {x y : Int64} (q : y < x) : hC .gt (XT.cmpL x y) 0 := cl_gt.mpr q
theorem cl_gt_f {x y : Int64} (q : ¬ y < x) : nC .gt (XT.cmpL x y) 0 := fun z => q (cl_gt.mp z)
theorem cl_le_t {x y : Int64} (q : ¬ y < x) : hC .le (XT.cmpL x y) 0 := fun z => q (cl_gt.mp z)
theorem cl_le_f {x y : Int64} (q : y < x) : nC .le (XT.cmpL x y) 0 := cl_gt.mpr q
end K
end Jvm.Wk9
/- laws to paste: Road.backV, Road.eqW, Road.codOf (cut by pick.py; bodies as the Statement names them) -/
namespace Jvm.Pilot.@@N@@
namespace StrChars
open Jvm Sem ClassFile Op Lib Jvm.Stand Jvm.Free.XT Jvm.Free.ALB Jvm.Free.JM Jvm.Free
open Jvm.Lib.Cold (StaticIs)
/-- a char array whose places are chars -/
def Ch (a : Addr) (A : Cell) (U : State) : Prop := Arr .char a A U ∧ Typed .char A
theorem Ch.mv {a : Addr} {A : Cell} {U U' : State} (h : Ch a A U) (hal : U.vm.Alike U'.vm) (hh : U'.heap = U.heap) : Ch a A U' := ⟨h.1.mv hal hh, h.2⟩
theorem Ch.keep {a : Addr} {A : Cell} {U U' : State} (h : Ch a A U) (hal : U.vm.Alike U'.vm) (hk : U'.heap[a]? = some A) : Ch a A U' := ⟨h.1.keep hal hk, h.2⟩
/-- what place i of a char[]'s cell holds -/
def cv (A : Cell) (i : Nat) : Int32 := match A.slots[i]? with | some (.int x) => x | _ => 0
theorem Ch.get {a : Addr} {A : Cell} {U : State} (h : Ch a A U) {i : Nat} (hi : i < A.slots.size) : A.slots[i]? = some (.int (cv A i)) := by
  have e := Array.getElem?_eq_getElem hi
  have f := h.2 i _ e
  unfold cv; rw [e]
  generalize A.slots[i] = v at f
  cases v <;> simp [fits] at f ⊢
/-- the byte that i2b leaves of a char -/
def lo8 (x : Int32) : Int32 := x.toInt8.toInt32
theorem fits_lo8 (y : Int32) : fits .byte (.int (lo8 y)) = true := by
  have h1 := y.toInt8.le_toInt
  have h2 := y.toInt8.toInt_lt
  simp only [lo8, fits, Bool.and_eq_true, decide_eq_true_eq, Int32.le_iff_toInt_le, Int8.toInt_toInt32, show (-128 : Int32).toInt = -128 from by decide, show (127 : Int32).toInt = 127 from by decide]
  omega
/-- A' is A but that each place j of lo .. hi - 1 holds f j -/
def Laid (A A' : Cell) (lo hi : Nat) (f : Nat → Value) : Prop := A'.cls = A.cls ∧ A'.vm = A.vm ∧ A'.slots.size = A.slots.size ∧ ∀ i, A'.slots[i]? = if lo ≤ i ∧ i < hi then some (f i) else A.slots[i]?
theorem Laid.zero (A : Cell) (lo : Nat) (f : Nat → Value) : Laid A A lo (lo + 0) f := ⟨rfl, rfl, rfl, fun i => by rw [if_neg (by omega)]⟩
theorem Laid.step {A Ak : Cell} {lo k : Nat} {f : Nat → Value} {v : Value} (h : Laid A Ak lo k f) (hlo : lo ≤ k) (hk : k < Ak.slots.size) (hv : v = f k) : Laid A (Ak.setSlot k v) lo (k + 1) f := by
  refine ⟨h.1, h.2.1, by simpa [Cell.setSlot] using h.2.2.1, fun i => ?_⟩
  by_cases e : k = i
  · subst e; rw [Cell.slots_setSlot_self v hk, if_pos (by omega), hv]
  · rw [Cell.slots_setSlot_ne v e, h.2.2.2 i]
    by_cases q : lo ≤ i ∧ i < k
    · rw [if_pos q, if_pos (by omega)]
    · rw [if_neg q, if_neg (by omega)]
def U16 : String := "java/lang/StringUTF16"
namespace Cmp5
def yN : MethodName := ⟨"java/lang/StringUTF16", "compress", "([CI[BII)I"⟩
abbrev yB : ByteArray := jdk_52_method_21_code
theorem d0 : decode yB 0 = .ok (.iconst 0, 1) := by decide +kernel
theorem d1 : decode yB 1 = .ok (.istore 5, 2) := by decide +kernel
theorem d3 : decode yB 3 = .ok (.iload 5, 2) := by decide +kernel
theorem d5 : decode yB 5 = .ok (.iload 4, 2) := by decide +kernel
theorem d7 : decode yB 7 = .ok (.if_icmp (.ge) 37, 3) := by decide +kernel
theorem d10 : decode yB 10 = .ok (.aload_n 0, 1) := by decide +kernel
theorem d11 : decode yB 11 = .ok (.iload_n 1, 1) := by decide +kernel
theorem d12 : decode yB 12 = .ok (.caload, 1) := by decide +kernel
theorem d13 : decode yB 13 = .ok (.istore 6, 2) := by decide +kernel
theorem d15 : decode yB 15 = .ok (.iload 6, 2) := by decide +kernel
theorem d17 : decode yB 17 = .ok (.sipush 255, 3) := by decide +kernel
theorem d20 : decode yB 20 = .ok (.if_icmp (.le) 6, 3) := by decide +kernel
theorem d26 : decode yB 26 = .ok (.aload_n 2, 1) := by decide +kernel
theorem d27 : decode yB 27 = .ok (.iload_n 3, 1) := by decide +kernel
theorem d28 : decode yB 28 = .ok (.iload 6, 2) := by decide +kernel
theorem d30 : decode yB 30 = .ok (.i2b, 1) := by decide +kernel
theorem d31 : decode yB 31 = .ok (.bastore, 1) := by decide +kernel
theorem d32 : decode yB 32 = .ok (.iinc 1 1, 3) := by decide +kernel
theorem d35 : decode yB 35 = .ok (.iinc 3 1, 3) := by decide +kernel
theorem d38 : decode yB 38 = .ok (.iinc 5 1, 3) := by decide +kernel
theorem d41 : decode yB 41 = .ok (.goto (-38), 3) := by decide +kernel
theorem d44 : decode yB 44 = .ok (.iload 4, 2) := by decide +kernel
theorem d46 : decode yB 46 = .ok (.ireturn, 1) := by decide +kernel
def site : List Cond := []
def tab : Cond := tabOf yN yB 7 (some .int) site
def P (b : Addr) (A : Cell) (d : Addr) (B : Cell) (o q len : Nat) (args : Array Value) (s : State) : Prop := args = #[.ref b, .int (Int32.ofNat o), .ref d, .int (Int32.ofNat q), .int (Int32.ofNat len)] ∧ Ch b A s ∧ Arr .byte d B s ∧ b ≠ d ∧ o + len ≤ A.slots.size ∧ q + len ≤ B.slots.size ∧ ∀ i, i < len → ¬ 255 < cv A (o + i)
def E (b : Addr) (A : Cell) (d : Addr) (B : Cell) (o q len : Nat) (r : Option Value) (s u : State) : Prop := r = some (.int (Int32.ofNat len)) ∧ ∃ B', Put d B' s u ∧ Laid B B' q (q + len) (fun j => Value.int (lo8 (cv A (o + (j - q)))))
/-- no char of the range above 255: len; the places written hold each char's low byte -/
theorem law (l : Launch) (b : Addr) (A : Cell) (d : Addr) (B : Cell) (o q len : Nat) : Law l yN 5 5 0 0 yB 7 (some .int) site (P b A d B o q len) (E b A d B o q len) (copyLocs d q len) 0 0 := by
  refine Law.of_walk (plainFor_of_name (by decide +kernel)) (by decide +kernel) (by decide +kernel) (by decide) (fun _ _ h => by rw [h.1]; rfl) (fun _ U U' hal hh h => ⟨h.1, h.2.1.mv hal hh, h.2.2.1.mv hal hh, h.2.2.2⟩) (fun r U U' V V' h1 hal h2 h => ⟨h.1, h.2.elim fun B' q => ⟨B', q.1.mv h1 h2, q.2⟩⟩) ?_
  intro p e s m args below meth c s₁ X0 hexec hbytes hml hret hlk hnm hown hh0 W hP
  obtain ⟨rfl, hA, hB, hne, l1, l2, hp⟩ := hP
  have c1 : Steps p.tables e below (s₁.setTop (entryFrame m #[.ref b, .int (Int32.ofNat o), .ref d, .int (Int32.ofNat q), .int (Int32.ofNat len)] 7)) (s₁.setTop (mkF m 0 #[.val (.ref b), .val (.int (Int32.ofNat o)), .val (.ref d), .val (.int (Int32.ofNat q)), .val (.int (Int32.ofNat len)), .unset, .unset] [])) := entry rfl
  have hA0 := hA.1.mv X0.warmed.alike hh0
  have hB0 := hB.mv X0.warmed.alike hh0
  have a31 := hA.1.2.2.2
  have c2 : Steps p.tables e below (s₁.setTop (entryFrame m #[.ref b, .int (Int32.ofNat o), .ref d, .int (Int32.ofNat q), .int (Int32.ofNat len)] 7)) (s₁.setTop (mkF m 3 #[.val (.ref b), .val (.int (Int32.ofNat o)), .val (.ref d), .val (.int (Int32.ofNat q)), .val (.int (Int32.ofNat len)), .val (.int 0), .unset] [])) := c1.trans (by
    refine iconstV X0.here hexec rfl 0 (hb hbytes d0) (by decide) ?_
    refine XS.istore X0.here hexec rfl (hb hbytes d1) rfl rfl ?_
    exact Steps.refl _)
  have loop : ∀ (r i : Nat), i + r = len → ∀ (z : Slot), (z = .unset ∨ ∃ w, z = .val w ∧ w.category = 1) → ∀ (Tl : State) (Bk : Cell), Stand p l e { frames := 0, locals := 0, cells := 0, slots := 0 } s m #[.ref b, .int (Int32.ofNat o), .ref d, .int (Int32.ofNat q), .int (Int32.ofNat len)] below meth c Tl ([] ++ copyLocs d q i) 0 0 → Put d Bk s₁ Tl → Laid B Bk q (q + i) (fun j => Value.int (lo8 (cv A (o + (j - q))))) →
      Steps p.tables e below (s₁.setTop (entryFrame m #[.ref b, .int (Int32.ofNat o), .ref d, .int (Int32.ofNat q), .int (Int32.ofNat len)] 7)) (Tl.setTop (mkF m 3 #[.val (.ref b), .val (.int (Int32.ofNat (o + i))), .val (.ref d), .val (.int (Int32.ofNat (q + i))), .val (.int (Int32.ofNat len)), .val (.int (Int32.ofNat i)), z] [])) → ∃ (T' : State) (B' : Cell) (z' : Slot), Stand p l e { frames := 0, locals := 0, cells := 0, slots := 0 } s m #[.ref b, .int (Int32.ofNat o), .ref d, .int (Int32.ofNat q), .int (Int32.ofNat len)] below meth c T' ([] ++ copyLocs d q len) 0 0 ∧ Put d B' s₁ T' ∧ Laid B B' q (q + len) (fun j => Value.int (lo8 (cv A (o + (j - q))))) ∧
      Steps p.tables e below (s₁.setTop (entryFrame m #[.ref b, .int (Int32.ofNat o), .ref d, .int (Int32.ofNat q), .int (Int32.ofNat len)] 7)) (T'.setTop (mkF m 3 #[.val (.ref b), .val (.int (Int32.ofNat (o + len))), .val (.ref d), .val (.int (Int32.ofNat (q + len))), .val (.int (Int32.ofNat len)), .val (.int (Int32.ofNat len)), z'] [])) := by
    intro r
    induction r with
    | zero =>
      intro i hi z hz Tl Bk Xl pl fl cl
      have hil : i = len := by omega
      rw [hil] at Xl fl cl
      exact ⟨Tl, Bk, z, Xl, pl, fl, cl⟩
    | succ r ih =>
      intro i hi z hz Tl Bk Xl pl fl cl
      have all := X0.warmed.alike.symm.trans Xl.warmed.alike
      have hAl := hA0.keep all (pl.other hne hA0.1)
      have hBk := hB0.like all pl.1 fl.1 fl.2.1 fl.2.2.1
      have hlt : q + i < Bk.slots.size := by rw [fl.2.2.1]; omega
      have c3 : Steps p.tables e below (s₁.setTop (entryFrame m #[.ref b, .int (Int32.ofNat o), .ref d, .int (Int32.ofNat q), .int (Int32.ofNat len)] 7)) (Tl.setTop (mkF m 12 #[.val (.ref b), .val (.int (Int32.ofNat (o + i))), .val (.ref d), .val (.int (Int32.ofNat (q + i))), .val (.int (Int32.ofNat len)), .val (.int (Int32.ofNat i)), z] [.int (Int32.ofNat (o + i)), .ref b])) := cl.trans (by
        refine XS.iload Xl.here hexec rfl (hb hbytes d3) rfl ?_
        refine XS.iload Xl.here hexec rfl (hb hbytes d5) rfl ?_
        refine XS.icmpNo Xl.here hexec rfl (hb hbytes d7) rfl (ii_ge_f (lt32 (by omega) (by omega))) ?_
        refine XS.aloadN Xl.here hexec rfl (hb hbytes d10) rfl rfl ?_
        refine XS.iloadN Xl.here hexec rfl (hb hbytes d11) rfl ?_
        exact Steps.refl _)
      have c4 : Steps p.tables e below (s₁.setTop (entryFrame m #[.ref b, .int (Int32.ofNat o), .ref d, .int (Int32.ofNat q), .int (Int32.ofNat len)] 7)) (Tl.setTop (mkF m 13 #[.val (.ref b), .val (.int (Int32.ofNat (o + i))), .val (.ref d), .val (.int (Int32.ofNat (q + i))), .val (.int (Int32.ofNat len)), .val (.int (Int32.ofNat i)), z] [.int (cv A (o + i))])) := c3.trans (by
        refine Xl.aget hexec hAl rfl (hA.get (i := o + i) (by omega)) rfl rfl (hb hbytes d12) ?_
        exact Steps.refl _)
      have c5 : Steps p.tables e below (s₁.setTop (entryFrame m #[.ref b, .int (Int32.ofNat o), .ref d, .int (Int32.ofNat q), .int (Int32.ofNat len)] 7)) (Tl.setTop (mkF m 15 #[.val (.ref b), .val (.int (Int32.ofNat (o + i))), .val (.ref d), .val (.int (Int32.ofNat (q + i))), .val (.int (Int32.ofNat len)), .val (.int (Int32.ofNat i)), .val (.int (cv A (o + i)))] [])) := c4.trans (by
        refine XS.istoreS Xl.here hexec rfl (hb hbytes d13) rfl rfl hz ?_
        exact Steps.refl _)
      have c6 : Steps p.tables e below (s₁.setTop (entryFrame m #[.ref b, .int (Int32.ofNat o), .ref d, .int (Int32.ofNat q), .int (Int32.ofNat len)] 7)) (Tl.setTop (mkF m 31 #[.val (.ref b), .val (.int (Int32.ofNat (o + i))), .val (.ref d), .val (.int (Int32.ofNat (q + i))), .val (.int (Int32.ofNat len)), .val (.int (Int32.ofNat i)), .val (.int (cv A (o + i)))] [.int (lo8 (cv A (o + i))), .int (Int32.ofNat (q + i)), .ref d])) := c5.trans (by
        refine XS.iload Xl.here hexec rfl (hb hbytes d15) rfl ?_
        refine sipushV Xl.here hexec rfl 255 (hb hbytes d17) (by decide) ?_
        refine XS.icmpYes Xl.here hexec rfl (pc0 := 20) rfl (hb hbytes d20) rfl (ii_le_t (hp i (by omega))) (by decide) rfl ?_
        refine XS.aloadN Xl.here hexec rfl (hb hbytes d26) rfl rfl ?_
        refine XS.iloadN Xl.here hexec rfl (hb hbytes d27) rfl ?_
        refine XS.iload Xl.here hexec rfl (hb hbytes d28) rfl ?_
        refine i2b Xl.here hexec rfl (hb hbytes d30) rfl ?_
        exact Steps.refl _)
      obtain ⟨T7, X7, p7, st7⟩ := Xl.aput hexec hBk rfl hlt rfl (fits_lo8 (cv A (o + i))) (g := (mkF m 31 #[.val (.ref b), .val (.int (Int32.ofNat (o + i))), .val (.ref d), .val (.int (Int32.ofNat (q + i))), .val (.int (Int32.ofNat len)), .val (.int (Int32.ofNat i)), .val (.int (cv A (o + i)))] [.int (lo8 (cv A (o + i))), .int (Int32.ofNat (q + i)), .ref d])) rfl (rest := []) rfl (hb hbytes d31)
      have c8 : Steps p.tables e below (s₁.setTop (entryFrame m #[.ref b, .int (Int32.ofNat o), .ref d, .int (Int32.ofNat q), .int (Int32.ofNat len)] 7)) (T7.setTop (mkF m 32 #[.val (.ref b), .val (.int (Int32.ofNat (o + i))), .val (.ref d), .val (.int (Int32.ofNat (q + i))), .val (.int (Int32.ofNat len)), .val (.int (Int32.ofNat i)), .val (.int (cv A (o + i)))] [])) := c6.trans (st7 _ (Steps.refl _))
      have c9 : Steps p.tables e below (s₁.setTop (entryFrame m #[.ref b, .int (Int32.ofNat o), .ref d, .int (Int32.ofNat q), .int (Int32.ofNat len)] 7)) (T7.setTop (mkF m 3 #[.val (.ref b), .val (.int (Int32.ofNat (o + i) + 1)), .val (.ref d), .val (.int (Int32.ofNat (q + i) + 1)), .val (.int (Int32.ofNat len)), .val (.int (Int32.ofNat i + 1)), .val (.int (cv A (o + i)))] [])) := c8.trans (by
        refine iincV X7.here hexec rfl 1 (hb hbytes d32) (by decide) rfl rfl ?_
        refine iincV X7.here hexec rfl 1 (hb hbytes d35) (by decide) rfl rfl ?_
        refine iincV X7.here hexec rfl 1 (hb hbytes d38) (by decide) rfl rfl ?_
        refine XS.goto X7.here hexec rfl (pc0 := 41) rfl (hb hbytes d41) (by decide) rfl ?_
        exact Steps.refl _)
      have c10 : Steps p.tables e below (s₁.setTop (entryFrame m #[.ref b, .int (Int32.ofNat o), .ref d, .int (Int32.ofNat q), .int (Int32.ofNat len)] 7)) (T7.setTop (mkF m 3 #[.val (.ref b), .val (.int (Int32.ofNat (o + (i + 1)))), .val (.ref d), .val (.int (Int32.ofNat (q + (i + 1)))), .val (.int (Int32.ofNat len)), .val (.int (Int32.ofNat (i + 1))), .val (.int (cv A (o + i)))] [])) := by
        have := c9
        rw [succ32, succ32, succ32] at this
        exact this
      exact ih (i + 1) (by omega) _ (Or.inr ⟨_, rfl, rfl⟩) T7 _ (by rw [copyLocs_step, ← List.append_assoc]; exact X7) (pl.trans p7) (fl.step (by omega) hlt (by simp)) c10
  obtain ⟨T9, B9, z9, X9, p9, f9, g9⟩ := loop len 0 (by omega) .unset (Or.inl rfl) s₁ B (by simpa [copyLocs] using X0) ⟨hB0.1, fun _ _ => rfl, rfl⟩ (Laid.zero _ _ _) c2
  have c11 : Steps p.tables e below (s₁.setTop (entryFrame m #[.ref b, .int (Int32.ofNat o), .ref d, .int (Int32.ofNat q), .int (Int32.ofNat len)] 7)) (T9.setTop (mkF m 46 #[.val (.ref b), .val (.int (Int32.ofNat (o + len))), .val (.ref d), .val (.int (Int32.ofNat (q + len))), .val (.int (Int32.ofNat len)), .val (.int (Int32.ofNat len)), z9] [.int (Int32.ofNat len)])) := g9.trans (by
    refine XS.iload X9.here hexec rfl (hb hbytes d3) rfl ?_
    refine XS.iload X9.here hexec rfl (hb hbytes d5) rfl ?_
    refine XS.icmpYes X9.here hexec rfl (pc0 := 7) rfl (hb hbytes d7) rfl (ii_ge_t (nlt32 (by omega) (Nat.le_refl _))) (by decide) rfl ?_
    refine XS.iload X9.here hexec rfl (hb hbytes d44) rfl ?_
    exact Steps.refl _)
  exact ⟨T9, some (.int (Int32.ofNat len)), _, _, _, X9, by simp, rfl, rfl, (fun h => by cases h), ⟨rfl, B9, p9.from hh0, f9⟩, fun fs hl => c11.trans (X9.ireturnOut hexec hret rfl (Or.inl rfl) (hb hbytes d46) hl)⟩
end Cmp5
namespace Cmp3
def yN : MethodName := ⟨"java/lang/StringUTF16", "compress", "([CII)[B"⟩
abbrev yB : ByteArray := jdk_52_method_16_code
theorem d0 : decode yB 0 = .ok (.iload_n 2, 1) := by decide +kernel
theorem d1 : decode yB 1 = .ok (.newarray .byte, 2) := by decide +kernel
theorem d3 : decode yB 3 = .ok (.astore_n 3, 1) := by decide +kernel
theorem d4 : decode yB 4 = .ok (.aload_n 0, 1) := by decide +kernel
theorem d5 : decode yB 5 = .ok (.iload_n 1, 1) := by decide +kernel
theorem d6 : decode yB 6 = .ok (.aload_n 3, 1) := by decide +kernel
theorem d7 : decode yB 7 = .ok (.iconst 0, 1) := by decide +kernel
theorem d8 : decode yB 8 = .ok (.iload_n 2, 1) := by decide +kernel
theorem d9 : decode yB 9 = .ok (.invokestatic 115, 3) := by decide +kernel
theorem d12 : decode yB 12 = .ok (.istore 4, 2) := by decide +kernel
theorem d14 : decode yB 14 = .ok (.iload 4, 2) := by decide +kernel
theorem d16 : decode yB 16 = .ok (.iload_n 2, 1) := by decide +kernel
theorem d17 : decode yB 17 = .ok (.if_icmp (.eq) 40, 3) := by decide +kernel
theorem d57 : decode yB 57 = .ok (.aload_n 3, 1) := by decide +kernel
theorem d58 : decode yB 58 = .ok (.areturn, 1) := by decide +kernel
def site : List Cond := [.arrayClass .byte, Cmp5.tab] ++ staticW U16 115 Cmp5.yN
def tab : Cond := tabOf yN yB 6 (some (.array .byte)) site
def P (b : Addr) (A : Cell) (o len : Nat) (args : Array Value) (s : State) : Prop := args = #[.ref b, .int (Int32.ofNat o), .int (Int32.ofNat len)] ∧ Ch b A s ∧ o + len ≤ A.slots.size ∧ len ≤ 536870912 ∧ ∀ i, i < len → ¬ 255 < cv A (o + i)
def E (b : Addr) (A : Cell) (o len : Nat) (r : Option Value) (s u : State) : Prop := NewArr .byte "[B" len (fun j => .int (lo8 (cv A (o + j)))) r s u ∧ u.heap.size = s.heap.size + 1
/-- no char of the range above 255: a new byte[] of their low bytes -/
theorem law (l : Launch) (b : Addr) (A : Cell) (o len : Nat) : Law l yN 3 3 1 18 yB 6 (some (.array .byte)) site (P b A o len) (E b A o len) [] 1 len := by
  refine Law.of_walk (plainFor_of_name (by decide +kernel)) (by decide +kernel) (by decide +kernel) (by decide) (fun _ _ h => by rw [h.1]; rfl) (fun _ U U' hal hh h => ⟨h.1, h.2.1.mv hal hh, h.2.2⟩) (fun r U U' V V' h1 hal h2 h => ⟨NewArr.mv r U U' V V' h1 hal h2 h.1, by rw [h1, h2]; exact h.2⟩) ?_
  intro p e s m args below meth c s₁ X0 hexec hbytes hml hret hlk hnm hown hh0 W hP
  obtain ⟨rfl, hA, l1, l2, hp⟩ := hP
  have a31 := hA.1.2.2.2
  have c1 : Steps p.tables e below (s₁.setTop (entryFrame m #[.ref b, .int (Int32.ofNat o), .int (Int32.ofNat len)] 6)) (s₁.setTop (mkF m 0 #[.val (.ref b), .val (.int (Int32.ofNat o)), .val (.int (Int32.ofNat len)), .unset, .unset, .unset] [])) := entry rfl
  have c2 : Steps p.tables e below (s₁.setTop (entryFrame m #[.ref b, .int (Int32.ofNat o), .int (Int32.ofNat len)] 6)) (s₁.setTop (mkF m 1 #[.val (.ref b), .val (.int (Int32.ofNat o)), .val (.int (Int32.ofNat len)), .unset, .unset, .unset] [.int (Int32.ofNat len)])) := c1.trans (by
    refine XS.iloadN X0.here hexec rfl (hb hbytes d0) rfl ?_
    exact Steps.refl _)
  obtain ⟨T3, B3, X3, ba3, bs3, bv3, bh3, bf3, st3⟩ := X0.anew hexec (atype := .byte) (wk W (.arrayClass .byte)) rfl (by show len * 1 ≤ _; omega) (by omega) (g := (mkF m 1 #[.val (.ref b), .val (.int (Int32.ofNat o)), .val (.int (Int32.ofNat len)), .unset, .unset, .unset] [.int (Int32.ofNat len)])) rfl (hb hbytes d1) (rest := []) rfl (Nat.le_refl _) (by show 0 + len ≤ len; omega)
  rw [hh0] at ba3 st3
  have kp3 : XT.Kept s T3 := (XT.Kept.of_eq hh0).push bh3
  have hA3 := hA.keep X3.warmed.alike (kp3 _ _ hA.1.1)
  have hne : b ≠ s.heap.size := hA.1.ne
  have c4 : Steps p.tables e below (s₁.setTop (entryFrame m #[.ref b, .int (Int32.ofNat o), .int (Int32.ofNat len)] 6)) (T3.setTop (mkF m 3 #[.val (.ref b), .val (.int (Int32.ofNat o)), .val (.int (Int32.ofNat len)), .unset, .unset, .unset] [.ref s.heap.size])) := c2.trans (st3 _ (Steps.refl _))
  have c5 : Steps p.tables e below (s₁.setTop (entryFrame m #[.ref b, .int (Int32.ofNat o), .int (Int32.ofNat len)] 6)) (T3.setTop (mkF m 9 #[.val (.ref b), .val (.int (Int32.ofNat o)), .val (.int (Int32.ofNat len)), .val (.ref s.heap.size), .unset, .unset] [.int (Int32.ofNat len), .int 0, .ref s.heap.size, .int (Int32.ofNat o), .ref b])) := c4.trans (by
    refine XS.astoreN X3.here hexec rfl (hb hbytes d3) rfl rfl rfl ?_
    refine XS.aloadN X3.here hexec rfl (hb hbytes d4) rfl rfl ?_
    refine XS.iloadN X3.here hexec rfl (hb hbytes d5) rfl ?_
    refine XS.aloadN X3.here hexec rfl (hb hbytes d6) rfl rfl ?_
    refine iconstV X3.here hexec rfl 0 (hb hbytes d7) (by decide) ?_
    refine XS.iloadN X3.here hexec rfl (hb hbytes d8) rfl ?_
    exact Steps.refl _)
  obtain ⟨v6, T6, X6, E6, g6⟩ := X3.callS hexec (Cmp5.law l b A s.heap.size B3 o 0 len) hown (wks W (staticW U16 115 Cmp5.yN)) (wk W Cmp5.tab) (W := 0) (Nat.le_of_ble_eq_true rfl) (Nat.le_of_ble_eq_true rfl) (Nat.le_refl _) (by show 0 + len + 0 ≤ len; omega) (g := (mkF m 9 #[.val (.ref b), .val (.int (Int32.ofNat o)), .val (.int (Int32.ofNat len)), .val (.ref s.heap.size), .unset, .unset] [.int (Int32.ofNat len), .int (Int32.ofNat 0), .ref s.heap.size, .int (Int32.ofNat o), .ref b])) rfl (by rw [hml]; rfl) c5 (argsL := [.ref b, .int (Int32.ofNat o), .ref s.heap.size, .int (Int32.ofNat 0), .int (Int32.ofNat len)]) (rest := []) rfl rfl (by show 2 * 0 + 0 ≤ _; decide) (hb hbytes d9) (⟨rfl, hA3, ba3, hne, l1, by rw [bs3]; simp, hp⟩)
  obtain ⟨rfl, B6, p6, f6⟩ := E6
  have c7 : Steps p.tables e below (s₁.setTop (entryFrame m #[.ref b, .int (Int32.ofNat o), .int (Int32.ofNat len)] 6)) (T6.setTop (mkF m 12 #[.val (.ref b), .val (.int (Int32.ofNat o)), .val (.int (Int32.ofNat len)), .val (.ref s.heap.size), .unset, .unset] [.int (Int32.ofNat len)])) := g6
  have c8 : Steps p.tables e below (s₁.setTop (entryFrame m #[.ref b, .int (Int32.ofNat o), .int (Int32.ofNat len)] 6)) (T6.setTop (mkF m 58 #[.val (.ref b), .val (.int (Int32.ofNat o)), .val (.int (Int32.ofNat len)), .val (.ref s.heap.size), .val (.int (Int32.ofNat len)), .unset] [.ref s.heap.size])) := c7.trans (by
    refine XS.istore X6.here hexec rfl (hb hbytes d12) rfl rfl ?_
    refine XS.iload X6.here hexec rfl (hb hbytes d14) rfl ?_
    refine XS.iloadN X6.here hexec rfl (hb hbytes d16) rfl ?_
    refine XS.icmpYes X6.here hexec rfl (pc0 := 17) rfl (hb hbytes d17) rfl (ii_eq_t rfl) (by decide) rfl ?_
    refine XS.aloadN X6.here hexec rfl (hb hbytes d57) rfl rfl ?_
    exact Steps.refl _)
  have X8 := X6.wide (L' := []) (cells' := 1) (slots' := len) (fun x hx hlt => by
    simp only [List.nil_append, copyLocs, List.mem_map, List.mem_range] at hx
    obtain ⟨i, -, rfl⟩ := hx
    exact absurd hlt (Nat.lt_irrefl _)) (Nat.le_refl _) (by omega)
  exact ⟨T6, some (.ref s.heap.size), _, _, _, X8, rfl, rfl, rfl, (fun h => by cases h), ⟨⟨rfl, B6, ba3.like (X3.warmed.alike.symm.trans X6.warmed.alike) p6.1 f6.1 f6.2.1 f6.2.2.1, f6.2.1.trans bv3, by rw [X6.warmed.alike.findClass, f6.1]; exact bf3, by rw [f6.2.2.1, bs3]; simp, fun j hj => by rw [f6.2.2.2 j, if_pos (by omega)]; rfl, kp3.put p6 (Nat.le_refl _)⟩, by rw [p6.2.2, bh3, hh0]; simp⟩, fun fs hl => c8.trans (X8.areturnOut hexec rfl hret rfl (hb hbytes d58) hl)⟩
end Cmp3
namespace CodL
def yN : MethodName := ⟨"java/lang/StringUTF16", "coderFromArrayLen", "([BI)B"⟩
abbrev yB : ByteArray := jdk_52_method_15_code
theorem d0 : decode yB 0 = .ok (.iload_n 1, 1) := by decide +kernel
theorem d1 : decode yB 1 = .ok (.aload_n 0, 1) := by decide +kernel
theorem d2 : decode yB 2 = .ok (.arraylength, 1) := by decide +kernel
theorem d3 : decode yB 3 = .ok (.isub, 1) := by decide +kernel
theorem d4 : decode yB 4 = .ok (.bipush 31, 2) := by decide +kernel
theorem d6 : decode yB 6 = .ok (.iushr, 1) := by decide +kernel
theorem d7 : decode yB 7 = .ok (.i2b, 1) := by decide +kernel
theorem d8 : decode yB 8 = .ok (.ireturn, 1) := by decide +kernel
def site : List Cond := []
def tab : Cond := tabOf yN yB 2 (some .byte) site
def P (d : Addr) (B : Cell) (args : Array Value) (s : State) : Prop := args = #[.ref d, .int (Int32.ofNat B.slots.size)] ∧ Arr .byte d B s
def E (r : Option Value) (s u : State) : Prop := XT.PureE (some (.int 0)) r s u
/-- an array as long as the number of chars: LATIN1 -/
theorem law (l : Launch) (d : Addr) (B : Cell) : Law l yN 2 2 0 0 yB 2 (some .byte) site (P d B) E [] 0 0 := by
  refine Law.of_walk (plainFor_of_name (by decide +kernel)) (by decide +kernel) (by decide +kernel) (by decide) (fun _ _ h => by rw [h.1]; rfl) (fun _ U U' hal hh h => ⟨h.1, h.2.mv hal hh⟩) (fun r U U' V V' h1 hal h2 h => XT.PureE.mv r U U' V V' h1 hal h2 h) ?_
  intro p e s m args below meth c s₁ X0 hexec hbytes hml hret hlk hnm hown hh0 W hP
  obtain ⟨rfl, hB⟩ := hP
  have hB0 := hB.mv X0.warmed.alike hh0
  have c1 : Steps p.tables e below (s₁.setTop (entryFrame m #[.ref d, .int (Int32.ofNat B.slots.size)] 2)) (s₁.setTop (mkF m 0 #[.val (.ref d), .val (.int (Int32.ofNat B.slots.size))] [])) := entry rfl
  have c2 : Steps p.tables e below (s₁.setTop (entryFrame m #[.ref d, .int (Int32.ofNat B.slots.size)] 2)) (s₁.setTop (mkF m 2 #[.val (.ref d), .val (.int (Int32.ofNat B.slots.size))] [.ref d, .int (Int32.ofNat B.slots.size)])) := c1.trans (by
    refine XS.iloadN X0.here hexec rfl (hb hbytes d0) rfl ?_
    refine XS.aloadN X0.here hexec rfl (hb hbytes d1) rfl rfl ?_
    exact Steps.refl _)
  have c3 : Steps p.tables e below (s₁.setTop (entryFrame m #[.ref d, .int (Int32.ofNat B.slots.size)] 2)) (s₁.setTop (mkF m 8 #[.val (.ref d), .val (.int (Int32.ofNat B.slots.size))] [.int (lo8 (ushr (Int32.ofNat B.slots.size - Int32.ofNat B.slots.size) 31))])) := c2.trans (by
    refine X0.alen hexec hB0 rfl rfl (hb hbytes d2) ?_
    refine XS.isub X0.here hexec rfl (hb hbytes d3) rfl ?_
    refine bipushV X0.here hexec rfl 31 (hb hbytes d4) (by decide) ?_
    refine iushr X0.here hexec rfl (hb hbytes d6) rfl ?_
    refine i2b X0.here hexec rfl (hb hbytes d7) rfl ?_
    exact Steps.refl _)
  have e0 : lo8 (ushr (Int32.ofNat B.slots.size - Int32.ofNat B.slots.size) 31) = 0 := by rw [Int32.sub_self]; decide
  rw [e0] at c3
  exact ⟨s₁, some (.int 0), _, _, _, X0, rfl, rfl, rfl, (fun h => by cases h), ⟨rfl, hh0⟩, fun fs hl => c3.trans (X0.ireturnOut hexec hret rfl (Or.inr (Or.inr (Or.inl rfl))) (hb hbytes d8) hl)⟩
end CodL
/-- the String at a is Latin-1 over a new byte[] (the heap's one new cell): the low bytes of the len chars of A from o on; every cell but a is kept -/
def Got (a : Addr) (D : Cell) (fV fC : Field) (A : Cell) (o len : Nat) (r : Option Value) (s u : State) : Prop := r = none ∧ ∃ D' V : Cell, Blank "java/lang/String" a D' u ∧ Same D D' [fV.slot, fC.slot] ∧ D'.slots[fV.slot]? = some (.ref s.heap.size) ∧ D'.slots[fC.slot]? = some (.int 0) ∧ Arr .byte s.heap.size V u ∧ V.vm = .none ∧ u.vm.findClass "[B" = some V.cls ∧ V.slots.size = len ∧ (∀ j, j < len → V.slots[j]? = some (.int (lo8 (cv A (o + j))))) ∧ (∀ (y : Addr) (c : Cell), y ≠ a → s.heap[y]? = some c → u.heap[y]? = some c) ∧ u.heap.size = s.heap.size + 1
theorem Got.mv {a : Addr} {D A : Cell} {fV fC : Field} {o len : Nat} : ∀ r (U U' V V' : State), U'.heap = U.heap → V.vm.Alike V'.vm → V'.heap = V.heap → Got a D fV fC A o len r U V → Got a D fV fC A o len r U' V' :=
  fun r U U' V V' h1 hal h2 ⟨e0, D', X, a1, a2, a3, a4, a5, a6, a7, a8, a9, a10, a11⟩ => ⟨e0, D', X, a1.mv hal h2, a2, by rw [h1]; exact a3, a4, by rw [h1]; exact a5.mv hal h2, a6, by rw [hal.findClass]; exact a7, a8, a9, by rw [h1, h2]; exact a10, by rw [h1, h2]; exact a11⟩
namespace New4
def yN : MethodName := ⟨"java/lang/String", "<init>", "([CIILjava/lang/Void;)V"⟩
abbrev yB : ByteArray := jdk_42_method_149_code
theorem d0 : decode yB 0 = .ok (.aload_n 0, 1) := by decide +kernel
theorem d1 : decode yB 1 = .ok (.invokespecial 1, 3) := by decide +kernel
theorem d4 : decode yB 4 = .ok (.iload_n 3, 1) := by decide +kernel
theorem d5 : decode yB 5 = .ok (.ifCond (.ne) 22, 3) := by decide +kernel
theorem d27 : decode yB 27 = .ok (.getstatic 38, 3) := by decide +kernel
theorem d30 : decode yB 30 = .ok (.ifCond (.eq) 28, 3) := by decide +kernel
theorem d33 : decode yB 33 = .ok (.aload_n 1, 1) := by decide +kernel
theorem d34 : decode yB 34 = .ok (.iload_n 2, 1) := by decide +kernel
theorem d35 : decode yB 35 = .ok (.iload_n 3, 1) := by decide +kernel
theorem d36 : decode yB 36 = .ok (.invokestatic 177, 3) := by decide +kernel
theorem d39 : decode yB 39 = .ok (.astore 5, 2) := by decide +kernel
theorem d41 : decode yB 41 = .ok (.aload_n 0, 1) := by decide +kernel
theorem d42 : decode yB 42 = .ok (.aload 5, 2) := by decide +kernel
theorem d44 : decode yB 44 = .ok (.iload_n 3, 1) := by decide +kernel
theorem d45 : decode yB 45 = .ok (.invokestatic 47, 3) := by decide +kernel
theorem d48 : decode yB 48 = .ok (.putfield 15, 3) := by decide +kernel
theorem d51 : decode yB 51 = .ok (.aload_n 0, 1) := by decide +kernel
theorem d52 : decode yB 52 = .ok (.aload 5, 2) := by decide +kernel
theorem d54 : decode yB 54 = .ok (.putfield 9, 3) := by decide +kernel
theorem d57 : decode yB 57 = .ok (.return_, 1) := by decide +kernel
def site : List Cond := [.fieldLink "java/lang/String" 38 "java/lang/String" "COMPACT_STRINGS" "Z", Cmp3.tab, CodL.tab, .laysFinal "java/lang/String" "java/lang/String" "value" "[B", .fieldLink "java/lang/String" 9 "java/lang/String" "value" "[B", .laysFinal "java/lang/String" "java/lang/String" "coder" "B", .fieldLink "java/lang/String" 15 "java/lang/String" "coder" "B"] ++ objW "java/lang/String" 1 ++ staticW "java/lang/String" 177 Cmp3.yN ++ staticW "java/lang/String" 47 CodL.yN
def tab : Cond := tabOf yN yB 6 none site
def P (a : Addr) (D : Cell) (fV fC : Field) (b : Addr) (A : Cell) (z : Int32) (o len : Nat) (args : Array Value) (s : State) : Prop := args = #[.ref a, .ref b, .int (Int32.ofNat o), .int (Int32.ofNat len), .null] ∧ Blank "java/lang/String" a D s ∧ Found "java/lang/String" "value" "[B" fV s ∧ Found "java/lang/String" "coder" "B" fC s ∧ Ch b A s ∧ StaticIs s "java/lang/String" "COMPACT_STRINGS" "Z" (.int z) ∧ ¬ z = 0 ∧ 0 < len ∧ o + len ≤ A.slots.size ∧ len ≤ 536870912 ∧ ∀ i, i < len → ¬ 255 < cv A (o + i)
def E (a : Addr) (D : Cell) (fV fC : Field) (A : Cell) (o len : Nat) (r : Option Value) (s u : State) : Prop := Got a D fV fC A o len r s u
/-- len > 0, no char of the range above 255: a Latin-1 String of their low bytes -/
theorem law (l : Launch) (a : Addr) (D : Cell) (fV fC : Field) (b : Addr) (A : Cell) (z : Int32) (o len : Nat) : Law l yN 5 4 2 35 yB 6 none site (P a D fV fC b A z o len) (E a D fV fC A o len) [⟨a, fC.slot⟩, ⟨a, fV.slot⟩] 1 len := by
  refine Law.of_walk (plainFor_of_name (by decide +kernel)) (by decide +kernel) (by decide +kernel) (by decide) (fun _ _ h => by rw [h.1]; rfl) (fun _ U U' hal hh h => ⟨h.1, h.2.1.mv hal hh, h.2.2.1.al hal, h.2.2.2.1.al hal, h.2.2.2.2.1.mv hal hh, h.2.2.2.2.2.1.there hal hh, h.2.2.2.2.2.2⟩) (fun r U U' V V' h1 hal h2 h => Got.mv r U U' V V' h1 hal h2 h) ?_
  intro p e s m args below meth c s₁ X0 hexec hbytes hml hret hlk hnm hown hh0 W hP
  obtain ⟨rfl, hB, f1, f2, hA, s1, hz, l0, l1, l2, hp⟩ := hP
  have a31 := hA.1.2.2.2
  have c1 : Steps p.tables e below (s₁.setTop (entryFrame m #[.ref a, .ref b, .int (Int32.ofNat o), .int (Int32.ofNat len), .null] 6)) (s₁.setTop (mkF m 0 #[.val (.ref a), .val (.ref b), .val (.int (Int32.ofNat o)), .val (.int (Int32.ofNat len)), .val .null, .unset] [])) := entry rfl
  have c2 : Steps p.tables e below (s₁.setTop (entryFrame m #[.ref a, .ref b, .int (Int32.ofNat o), .int (Int32.ofNat len), .null] 6)) (s₁.setTop (mkF m 1 #[.val (.ref a), .val (.ref b), .val (.int (Int32.ofNat o)), .val (.int (Int32.ofNat len)), .val .null, .unset] [.ref a])) := c1.trans (by
    refine XS.aloadN X0.here hexec rfl (hb hbytes d0) rfl rfl ?_
    exact Steps.refl _)
  obtain ⟨T3, X3, q3, st3⟩ := X0.oinit hexec hown (wks W (objW "java/lang/String" 1)) (g := (mkF m 1 #[.val (.ref a), .val (.ref b), .val (.int (Int32.ofNat o)), .val (.int (Int32.ofNat len)), .val .null, .unset] [.ref a])) rfl (by rw [hml]; rfl) (rest := []) rfl (hb hbytes d1) (W := 0) (by show 2 * 0 + 0 ≤ _; decide) (Nat.le_of_ble_eq_true rfl) (Nat.le_of_ble_eq_true rfl)
  have hh3 := q3.trans hh0
  have c4 : Steps p.tables e below (s₁.setTop (entryFrame m #[.ref a, .ref b, .int (Int32.ofNat o), .int (Int32.ofNat len), .null] 6)) (T3.setTop (mkF m 27 #[.val (.ref a), .val (.ref b), .val (.int (Int32.ofNat o)), .val (.int (Int32.ofNat len)), .val .null, .unset] [])) := (c2.trans (st3 _ (Steps.refl _))).trans (by
    refine XS.iloadN X3.here hexec rfl (hb hbytes d4) rfl ?_
    refine XS.ifYes X3.here hexec rfl (pc0 := 5) rfl (hb hbytes d5) rfl (i0_ne_t (nz32 (by omega) l0)) (by decide) rfl ?_
    exact Steps.refl _)
  obtain ⟨T5, X5, q5, st5⟩ := X3.sget hexec hown (wk W (.fieldLink "java/lang/String" 38 "java/lang/String" "COMPACT_STRINGS" "Z")) s1 (fun _ _ h => by rw [hh3]; exact h) (g := (mkF m 27 #[.val (.ref a), .val (.ref b), .val (.int (Int32.ofNat o)), .val (.int (Int32.ofNat len)), .val .null, .unset] [])) rfl (hb hbytes d27)
  have hh5 := q5.trans hh3
  have c6 : Steps p.tables e below (s₁.setTop (entryFrame m #[.ref a, .ref b, .int (Int32.ofNat o), .int (Int32.ofNat len), .null] 6)) (T5.setTop (mkF m 30 #[.val (.ref a), .val (.ref b), .val (.int (Int32.ofNat o)), .val (.int (Int32.ofNat len)), .val .null, .unset] [.int z])) := c4.trans (st5 _ (Steps.refl _))
  have c7 : Steps p.tables e below (s₁.setTop (entryFrame m #[.ref a, .ref b, .int (Int32.ofNat o), .int (Int32.ofNat len), .null] 6)) (T5.setTop (mkF m 36 #[.val (.ref a), .val (.ref b), .val (.int (Int32.ofNat o)), .val (.int (Int32.ofNat len)), .val .null, .unset] [.int (Int32.ofNat len), .int (Int32.ofNat o), .ref b])) := c6.trans (by
    refine XS.ifNo X5.here hexec rfl (hb hbytes d30) rfl (i0_eq_f hz) ?_
    refine XS.aloadN X5.here hexec rfl (hb hbytes d33) rfl rfl ?_
    refine XS.iloadN X5.here hexec rfl (hb hbytes d34) rfl ?_
    refine XS.iloadN X5.here hexec rfl (hb hbytes d35) rfl ?_
    exact Steps.refl _)
  obtain ⟨v8, T8, X8, E8, g8⟩ := X5.callS hexec (Cmp3.law l b A o len) hown (wks W (staticW "java/lang/String" 177 Cmp3.yN)) (wk W Cmp3.tab) (W := 0) (Nat.le_of_ble_eq_true rfl) (Nat.le_of_ble_eq_true rfl) (Nat.le_refl _) (by show 0 + len ≤ len; omega) (g := (mkF m 36 #[.val (.ref a), .val (.ref b), .val (.int (Int32.ofNat o)), .val (.int (Int32.ofNat len)), .val .null, .unset] [.int (Int32.ofNat len), .int (Int32.ofNat o), .ref b])) rfl (by rw [hml]; rfl) c7 (argsL := [.ref b, .int (Int32.ofNat o), .int (Int32.ofNat len)]) (rest := []) rfl rfl (by show 2 * 0 + 0 ≤ _; decide) (hb hbytes d36) (⟨rfl, hA.mv X5.warmed.alike hh5, l1, l2, hp⟩)
  obtain ⟨e8, z8⟩ := E8
  obtain ⟨rfl, N, n1, n2, n3, n4, n5, n6⟩ := NewArr.mv _ T5 s _ _ hh5.symm (Vm.Alike.refl _) rfl e8
  rw [hh5] at z8
  have hB1 := hB.keep X8.warmed.alike (n6 _ _ hB.1)
  have hne : s.heap.size ≠ a := (Nat.ne_of_lt (Array.getElem?_eq_some_iff.mp hB.1).1).symm
  have c9 : Steps p.tables e below (s₁.setTop (entryFrame m #[.ref a, .ref b, .int (Int32.ofNat o), .int (Int32.ofNat len), .null] 6)) (T8.setTop (mkF m 39 #[.val (.ref a), .val (.ref b), .val (.int (Int32.ofNat o)), .val (.int (Int32.ofNat len)), .val .null, .unset] [.ref s.heap.size])) := g8
  have c10 : Steps p.tables e below (s₁.setTop (entryFrame m #[.ref a, .ref b, .int (Int32.ofNat o), .int (Int32.ofNat len), .null] 6)) (T8.setTop (mkF m 45 #[.val (.ref a), .val (.ref b), .val (.int (Int32.ofNat o)), .val (.int (Int32.ofNat len)), .val .null, .val (.ref s.heap.size)] [.int (Int32.ofNat N.slots.size), .ref s.heap.size, .ref a])) := by
    have hc : Steps p.tables e below (s₁.setTop (entryFrame m #[.ref a, .ref b, .int (Int32.ofNat o), .int (Int32.ofNat len), .null] 6)) (T8.setTop (mkF m 45 #[.val (.ref a), .val (.ref b), .val (.int (Int32.ofNat o)), .val (.int (Int32.ofNat len)), .val .null, .val (.ref s.heap.size)] [.int (Int32.ofNat len), .ref s.heap.size, .ref a])) := c9.trans (by
      refine XS.astore X8.here hexec rfl (hb hbytes d39) rfl rfl rfl ?_
      refine XS.aloadN X8.here hexec rfl (hb hbytes d41) rfl rfl ?_
      refine XS.aload X8.here hexec rfl (hb hbytes d42) rfl rfl ?_
      refine XS.iloadN X8.here hexec rfl (hb hbytes d44) rfl ?_
      exact Steps.refl _)
    rw [n4]; exact hc
  obtain ⟨v11, T11, X11, E11, g11⟩ := X8.callS hexec (CodL.law l s.heap.size N) hown (wks W (staticW "java/lang/String" 47 CodL.yN)) (wk W CodL.tab) (W := 1) (Nat.le_of_ble_eq_true rfl) (Nat.le_of_ble_eq_true rfl) (Nat.le_refl _) (by show 0 + len + 0 ≤ len; omega) (g := (mkF m 45 #[.val (.ref a), .val (.ref b), .val (.int (Int32.ofNat o)), .val (.int (Int32.ofNat len)), .val .null, .val (.ref s.heap.size)] [.int (Int32.ofNat N.slots.size), .ref s.heap.size, .ref a])) rfl (by rw [hml]; rfl) c10 (argsL := [.ref s.heap.size, .int (Int32.ofNat N.slots.size)]) (rest := [.ref a]) rfl rfl (by show 2 * 0 + (1 + 0) ≤ _; decide) (hb hbytes d45) (⟨rfl, n1⟩)
  obtain ⟨rfl, q11⟩ := E11
  have hB11 := hB1.mv (X8.warmed.alike.symm.trans X11.warmed.alike) q11
  have c12 : Steps p.tables e below (s₁.setTop (entryFrame m #[.ref a, .ref b, .int (Int32.ofNat o), .int (Int32.ofNat len), .null] 6)) (T11.setTop (mkF m 48 #[.val (.ref a), .val (.ref b), .val (.int (Int32.ofNat o)), .val (.int (Int32.ofNat len)), .val .null, .val (.ref s.heap.size)] [.int 0, .ref a])) := g11
  obtain ⟨T13, X13, p13, bl13, sl13, st13⟩ := X11.finit hexec hown (wk W (.fieldLink "java/lang/String" 15 "java/lang/String" "coder" "B")) (Or.inr ⟨_, (wk W (.laysFinal "java/lang/String" "java/lang/String" "coder" "B"))⟩) (Or.inl ⟨rfl, hnm⟩) f2 (Or.inl rfl) hB11 (t := .byte) (by decide +kernel) rfl (g := (mkF m 48 #[.val (.ref a), .val (.ref b), .val (.int (Int32.ofNat o)), .val (.int (Int32.ofNat len)), .val .null, .val (.ref s.heap.size)] [.int 0, .ref a])) rfl (rest := []) rfl (hb hbytes d48)
  have c14 : Steps p.tables e below (s₁.setTop (entryFrame m #[.ref a, .ref b, .int (Int32.ofNat o), .int (Int32.ofNat len), .null] 6)) (T13.setTop (mkF m 54 #[.val (.ref a), .val (.ref b), .val (.int (Int32.ofNat o)), .val (.int (Int32.ofNat len)), .val .null, .val (.ref s.heap.size)] [.ref s.heap.size, .ref a])) := (c12.trans (st13 _ (Steps.refl _))).trans (by
    refine XS.aloadN X13.here hexec rfl (hb hbytes d51) rfl rfl ?_
    refine XS.aload X13.here hexec rfl (hb hbytes d52) rfl rfl ?_
    exact Steps.refl _)
  obtain ⟨T15, X15, p15, bl15, sl15, st15⟩ := X13.finit hexec hown (wk W (.fieldLink "java/lang/String" 9 "java/lang/String" "value" "[B")) (Or.inr ⟨_, (wk W (.laysFinal "java/lang/String" "java/lang/String" "value" "[B"))⟩) (Or.inl ⟨rfl, hnm⟩) f1 (Or.inl rfl) bl13 (t := (.array .byte)) (by decide +kernel) rfl (g := (mkF m 54 #[.val (.ref a), .val (.ref b), .val (.int (Int32.ofNat o)), .val (.int (Int32.ofNat len)), .val .null, .val (.ref s.heap.size)] [.ref s.heap.size, .ref a])) rfl (rest := []) rfl (hb hbytes d54)
  have c16 : Steps p.tables e below (s₁.setTop (entryFrame m #[.ref a, .ref b, .int (Int32.ofNat o), .int (Int32.ofNat len), .null] 6)) (T15.setTop (mkF m 57 #[.val (.ref a), .val (.ref b), .val (.int (Int32.ofNat o)), .val (.int (Int32.ofNat len)), .val .null, .val (.ref s.heap.size)] [])) := c14.trans (st15 _ (Steps.refl _))
  have ap := apart (Or.inr ⟨_, (wk W (.laysFinal "java/lang/String" "java/lang/String" "value" "[B"))⟩) (Or.inr ⟨_, (wk W (.laysFinal "java/lang/String" "java/lang/String" "coder" "B"))⟩) f1 f2 (t₁ := .array .byte) (t₂ := .byte) (by decide +kernel) (by decide +kernel) (by decide)
  have al := X8.warmed.alike.symm.trans X15.warmed.alike
  have n7 : T11.heap[s.heap.size]? = some N := by rw [q11]; exact n1.1
  exact ⟨T15, none, _, _, _, X15, by simp, rfl, by omega, (fun _ => rfl), ⟨rfl, _, N, bl15, ((Same.refl D _).set _ (by simp)).set _ (by simp), sl15, (Cell.slots_setSlot_ne _ ap).trans sl13, n1.keep al (p15.other hne (p13.other hne n7)), n2, by rw [al.findClass]; exact n3, n4, n5, fun y c h1 h2 => p15.other h1 (p13.other h1 (by rw [q11]; exact n6 y c h2)), by rw [p15.2.2, p13.2.2, q11]; exact z8⟩, fun fs hl => c16.trans (X15.returnOut hexec hret (hb hbytes d57) hl)⟩
end New4
namespace New1
def yN : MethodName := ⟨"java/lang/String", "<init>", "([C)V"⟩
abbrev yB : ByteArray := jdk_42_method_3_code
theorem d0 : decode yB 0 = .ok (.aload_n 0, 1) := by decide +kernel
theorem d1 : decode yB 1 = .ok (.aload_n 1, 1) := by decide +kernel
theorem d2 : decode yB 2 = .ok (.iconst 0, 1) := by decide +kernel
theorem d3 : decode yB 3 = .ok (.aload_n 1, 1) := by decide +kernel
theorem d4 : decode yB 4 = .ok (.arraylength, 1) := by decide +kernel
theorem d5 : decode yB 5 = .ok (.aconst_null, 1) := by decide +kernel
theorem d6 : decode yB 6 = .ok (.invokespecial 27, 3) := by decide +kernel
theorem d9 : decode yB 9 = .ok (.return_, 1) := by decide +kernel
def site : List Cond := [New4.tab] ++ initW "java/lang/String" 27 New4.yN
def tab : Cond := tabOf yN yB 2 none site
def P (a : Addr) (D : Cell) (fV fC : Field) (b : Addr) (A : Cell) (z : Int32) (args : Array Value) (s : State) : Prop := args = #[.ref a, .ref b] ∧ Blank "java/lang/String" a D s ∧ Found "java/lang/String" "value" "[B" fV s ∧ Found "java/lang/String" "coder" "B" fC s ∧ Ch b A s ∧ StaticIs s "java/lang/String" "COMPACT_STRINGS" "Z" (.int z) ∧ ¬ z = 0 ∧ 0 < A.slots.size ∧ A.slots.size ≤ 536870912 ∧ ∀ i, i < A.slots.size → ¬ 255 < cv A i
def E (a : Addr) (D : Cell) (fV fC : Field) (A : Cell) (r : Option Value) (s u : State) : Prop := Got a D fV fC A 0 A.slots.size r s u
/-- new String(chars), not empty, no char above 255: a Latin-1 String of their low bytes -/
theorem law (l : Launch) (a : Addr) (D : Cell) (fV fC : Field) (b : Addr) (A : Cell) (z : Int32) : Law l yN 2 1 3 52 yB 2 none site (P a D fV fC b A z) (E a D fV fC A) [⟨a, fC.slot⟩, ⟨a, fV.slot⟩] 1 A.slots.size := by
  refine Law.of_walk (plainFor_of_name (by decide +kernel)) (by decide +kernel) (by decide +kernel) (by decide) (fun _ _ h => by rw [h.1]; rfl) (fun _ U U' hal hh h => ⟨h.1, h.2.1.mv hal hh, h.2.2.1.al hal, h.2.2.2.1.al hal, h.2.2.2.2.1.mv hal hh, h.2.2.2.2.2.1.there hal hh, h.2.2.2.2.2.2⟩) (fun r U U' V V' h1 hal h2 h => Got.mv r U U' V V' h1 hal h2 h) ?_
  intro p e s m args below meth c s₁ X0 hexec hbytes hml hret hlk hnm hown hh0 W hP
  obtain ⟨rfl, hB, f1, f2, hA, s1, hz, l0, l2, hp⟩ := hP
  have c1 : Steps p.tables e below (s₁.setTop (entryFrame m #[.ref a, .ref b] 2)) (s₁.setTop (mkF m 0 #[.val (.ref a), .val (.ref b)] [])) := entry rfl
  have c2 : Steps p.tables e below (s₁.setTop (entryFrame m #[.ref a, .ref b] 2)) (s₁.setTop (mkF m 6 #[.val (.ref a), .val (.ref b)] [.null, .int (Int32.ofNat A.slots.size), .int 0, .ref b, .ref a])) := c1.trans (by
    refine XS.aloadN X0.here hexec rfl (hb hbytes d0) rfl rfl ?_
    refine XS.aloadN X0.here hexec rfl (hb hbytes d1) rfl rfl ?_
    refine iconstV X0.here hexec rfl 0 (hb hbytes d2) (by decide) ?_
    refine XS.aloadN X0.here hexec rfl (hb hbytes d3) rfl rfl ?_
    refine X0.alen hexec (hA.1.mv X0.warmed.alike hh0) rfl rfl (hb hbytes d4) ?_
    refine XS.aconstNull X0.here hexec rfl (hb hbytes d5) ?_
    exact Steps.refl _)
  obtain ⟨v3, T3, X3, E3, g3⟩ := X0.callN hexec (New4.law l a D fV fC b A z 0 A.slots.size) rfl hown (wks W (initW "java/lang/String" 27 New4.yN)) (W New4.tab (by simp only [site, List.mem_cons, List.mem_append, true_or, or_true])) (W := 0) (Nat.le_of_ble_eq_true rfl) (Nat.le_of_ble_eq_true rfl) (Nat.le_refl _) (by show 0 + A.slots.size ≤ A.slots.size; omega) (g := (mkF m 6 #[.val (.ref a), .val (.ref b)] [.null, .int (Int32.ofNat A.slots.size), .int (Int32.ofNat 0), .ref b, .ref a])) rfl (by rw [hml]; rfl) c2 (argsL := [.ref b, .int (Int32.ofNat 0), .int (Int32.ofNat A.slots.size), .null]) (rest := []) rfl rfl (by show 2 * 0 + 0 ≤ _; decide) (hb hbytes d6) (⟨rfl, hB.mv X0.warmed.alike hh0, f1.al X0.warmed.alike, f2.al X0.warmed.alike, hA.mv X0.warmed.alike hh0, s1.there X0.warmed.alike hh0, hz, l0, by omega, l2, fun i hi => by rw [Nat.zero_add]; exact hp i hi⟩)
  have e0 := Got.mv _ s₁ s _ _ hh0.symm (Vm.Alike.refl _) rfl E3
  obtain rfl := e0.1
  have c4 : Steps p.tables e below (s₁.setTop (entryFrame m #[.ref a, .ref b] 2)) (T3.setTop (mkF m 9 #[.val (.ref a), .val (.ref b)] [])) := g3
  exact ⟨T3, none, _, _, _, X3, by simp, rfl, by omega, (fun _ => rfl), e0, fun fs hl => c4.trans (X3.returnOut hexec hret (hb hbytes d9) hl)⟩
theorem pays {l : Launch} {R : Room} {p : Program} {e : Env} {below : List Frame} {s : State} {sargs : Array Value} {len W : Nat} (a : Addr) (D : Cell) (fV fC : Field) (b : Addr) (A : Cell) (z : Int32) (htab : tab.before sargs s = true) (hfr : 4 ≤ R.frames) (hlo : W + 65 ≤ R.locals) :
    Back l R p e below s sargs yN len W (fun A₁ a₁ => A₁.cells + 1 ≤ R.cells ∧ A₁.slots + A.slots.size ≤ R.slots ∧ P a D fV fC b A z a₁ A₁.U) (fun A₁ _ v₁ B₁ => E a D fV fC A v₁ A₁.U B₁.U ∧ B₁.locs = A₁.locs ++ [⟨a, fC.slot⟩, ⟨a, fV.slot⟩] ∧ B₁.cells = A₁.cells + 1 ∧ B₁.slots = A₁.slots + A.slots.size) :=
  (law l a D fV fC b A z).pays htab hfr (by omega)
end New1
/-- the byte, read back as charAt reads it, is the char -/
theorem lo8_mask {x : Int32} (h0 : ¬ x < 0) (h1 : ¬ 255 < x) : lo8 x &&& 255 = x := by
  have t : ∀ k : Fin 256, lo8 (Int32.ofNat k.val) &&& 255 = Int32.ofNat k.val := by decide +kernel
  rw [Int32.lt_iff_toInt_lt] at h0 h1
  have e0 : (0 : Int32).toInt = 0 := rfl
  have e1 : (255 : Int32).toInt = 255 := rfl
  obtain ⟨k, hk⟩ : ∃ k : Nat, x.toInt = k := ⟨x.toInt.toNat, by omega⟩
  have hx : x = Int32.ofNat k := Int32.toInt_inj.mp (by rw [hk, Int32.toInt_ofNat_small (by omega)])
  rw [hx]
  exact t ⟨k, by omega⟩
end StrChars
namespace StrChars.Road
open Jvm Sem ClassFile Op Lib Jvm.Stand Jvm.Free Jvm.Free.XT
open Jvm.Lib.Cold (StaticIs)
abbrev ST : String := "java/lang/String"
/-- every table word that New1's law asks, flat -/
abbrev words : List Jvm.Cond := [.code New1.yN New1.yB 2 none, .initialized ST, .methodLink ST 27 New4.yN, .instanceMethod New4.yN,
  .code New4.yN New4.yB 6 none, .fieldLink ST 38 ST "COMPACT_STRINGS" "Z", .laysFinal ST ST "value" "[B", .fieldLink ST 9 ST "value" "[B", .laysFinal ST ST "coder" "B", .fieldLink ST 15 ST "coder" "B",
  .methodLink ST 1 Lib.objectInit, .instanceMethod Lib.objectInit, .code Lib.objectInit ⟨#[0xb1]⟩ 1 none, .methodLink ST 177 Cmp3.yN, .static Cmp3.yN, .methodLink ST 47 CodL.yN, .static CodL.yN,
  .code Cmp3.yN Cmp3.yB 6 (some (.array .byte)), .initialized U16, .arrayClass .byte, .methodLink U16 115 Cmp5.yN, .static Cmp5.yN, .code Cmp5.yN Cmp5.yB 7 (some .int), .code CodL.yN CodL.yB 2 (some .byte)]
theorem tab_of {a : Array Value} {s : State} (h : ∀ w ∈ words, w.before a s = true) : New1.tab.before a s = true := by
  have h5 : Cmp5.tab.before a s = true := unparts (wk h (.code Cmp5.yN Cmp5.yB 7 (some .int))) (wks h (.initialized Cmp5.yN.cls :: Cmp5.site))
  have hc : CodL.tab.before a s = true := unparts (wk h (.code CodL.yN CodL.yB 2 (some .byte))) (wks h (.initialized CodL.yN.cls :: CodL.site))
  have q5 : ∀ w ∈ Cmp5.tab :: words, w.before a s = true := fun w hw => (List.mem_cons.mp hw).elim (fun e => e ▸ h5) (h w)
  have h3 : Cmp3.tab.before a s = true := unparts (wk q5 (.code Cmp3.yN Cmp3.yB 6 (some (.array .byte)))) (wks q5 (.initialized Cmp3.yN.cls :: Cmp3.site))
  have q3 : ∀ w ∈ Cmp3.tab :: CodL.tab :: words, w.before a s = true := fun w hw => (List.mem_cons.mp hw).elim (fun e => e ▸ h3) fun hw => (List.mem_cons.mp hw).elim (fun e => e ▸ hc) (h w)
  have h4 : New4.tab.before a s = true := unparts (wk q3 (.code New4.yN New4.yB 6 none)) (wks q3 (.initialized New4.yN.cls :: New4.site))
  have q4 : ∀ w ∈ New4.tab :: words, w.before a s = true := fun w hw => (List.mem_cons.mp hw).elim (fun e => e ▸ h4) (h w)
  exact unparts (wk q4 (.code New1.yN New1.yB 2 none)) (wks q4 (.initialized New1.yN.cls :: New1.site))
/-- the words ride from the start Z to the walk's own state -/
theorem moved {Z s : State} {a0 args : Array Value} (hZ : Z.Warmed39 s.vm) (hw : ∀ d ∈ words, d.before a0 Z = true) : ∀ d ∈ words, d.before args s = true := fun d hd => by
  have q := hw d hd
  have t : ∀ d ∈ words, d = .arrayClass .byte ∨ (d.onTables && d.keepsFace) = true := by decide +kernel
  rcases t d hd with rfl | t
  · exact RoadKit.mvA hZ q
  · exact RoadKit.mv hZ q t
/-- WHAT COMES BACK, over the tables of the start Z: h the heap at the call, h' behind it -/
def Q (Z : State) (x : Addr) (A : Cell) (h : Heap) (v : Option Value) (h' : Heap) (L : List Loc) : Prop := v = none ∧ (∀ y ∈ L, y.base = x) ∧ RoadKit.Keep h h' [x] ∧ h'.size = h.size + 1 ∧ RoadKit.Exa Z h' x ST ∧ RoadKit.Fld Z h' x ST "value" "[B" (.ref h.size) ∧ RoadKit.Fld Z h' x ST "coder" "B" (.int 0) ∧
  (∃ V : Cell, RoadKit.Arr Z h' h.size V .byte ∧ V.vm = .none ∧ Z.vm.findClass "[B" = some V.cls ∧ V.slots.size = A.slots.size ∧ ∀ j, j < A.slots.size → V.slots[j]? = some (.int (lo8 (cv A j)))) ∧
  ∀ (O n d : String) (w : Value), RoadKit.Fld Z h x O n d w → RoadKit.slotOf Z O n d ≠ RoadKit.slotOf Z ST "value" "[B" → RoadKit.slotOf Z O n d ≠ RoadKit.slotOf Z ST "coder" "B" → RoadKit.Fld Z h' x O n d w
/-- **new String(chars) AT A CALL, IN THE ROAD'S FORM**: for specialBack behind newO: x the fresh String, b the char[] with the cell A -/
theorem back {p : Program} {l : Launch} {e : Env} {R : Room} {s : State} {args : Array Value} {below : List Frame} {len W : Nat} {Z : State} {a0 : Array Value} {h : Heap} (hZ : Z.Warmed39 s.vm) (hw : ∀ d ∈ words, d.before a0 Z = true) {kI : Nat} (wi : (Jvm.Cond.instantiable ST kI).before a0 Z = true)
    {x b : Addr} {A : Cell} {z : Int32} {v0 c0 : Value} (E : RoadKit.Exa Z h x ST) (V : RoadKit.Fld Z h x ST "value" "[B" v0) (C : RoadKit.Fld Z h x ST "coder" "B" c0) (K : RoadKit.Arr Z h b A .char) (hty : Typed .char A) (S : RoadKit.Sta Z h ST "COMPACT_STRINGS" "Z" (.int z)) (hz : ¬ z = 0)
    (l0 : 0 < A.slots.size) (l2 : A.slots.size ≤ 536870912) (hp : ∀ i, i < A.slots.size → ¬ 255 < cv A i) (hfr : 4 ≤ R.frames) (hlo : W + 65 ≤ R.locals) :
    Back l R p e below s args New1.yN len W (fun P a => a = #[.ref x, .ref b] ∧ P.U.heap = h ∧ P.cells + 1 ≤ R.cells ∧ P.slots + A.slots.size ≤ R.slots)
      (fun P _ v B => ∃ L, Q Z x A h v B.U.heap L ∧ B.locs = P.locs ++ L ∧ B.cells = P.cells + 1 ∧ B.slots = P.slots + A.slots.size) := by
  intro m meth c P g ig mk a X hg hsize hdg hW hn hp'
  obtain ⟨rfl, rfl, r1, r2⟩ := hp'
  have al : Z.vm.Alike P.U.vm := hZ.alike.trans X.warmed.alike
  obtain ⟨D, cfV, kV, iV, fV, hD, gV, stV, knV, obV, asV, slV⟩ := id V
  obtain ⟨D', cfC, kC, iC, fC, hD', gC, stC, -, -, asC, slC⟩ := id C
  cases hD.symm.trans hD'
  obtain ⟨D2, kD, e1, e2, e3, e4, e5⟩ := id E
  cases hD.symm.trans e1
  obtain ⟨c2, k2, i1, i2, i3, -⟩ := Cond.instantiable_spec wi
  cases e2.symm.trans i1
  cases e3.symm.trans i2
  obtain ⟨kU, u1, u2⟩ := al.2.2 _ _ e3
  have hB : Blank ST x D P.U := ⟨hD, ⟨knV, fun q hq => by rw [hq] at obV; cases obV⟩, by rw [al.findClass]; exact e2, kU, u1, by rw [u2]; exact i3, by rw [u2]; exact e5 i3⟩
  have F1 : Found ST "value" "[B" fV P.U := ⟨SBG.found_only al ⟨cfV, kV, iV, gV⟩, stV⟩
  have F2 : Found ST "coder" "B" fC P.U := ⟨SBG.found_only al ⟨cfC, kC, iC, gC⟩, stC⟩
  have hA : Ch b A P.U := ⟨⟨K.1, State.isArrayOf_alike al K.2.1, K.2.2, by omega⟩, hty⟩
  have hS : StaticIs P.U ST "COMPACT_STRINGS" "Z" (.int z) := by
    obtain ⟨cfS, iS, kS, fS, st, cS, t1, t2, t3, t4, t5, t6, t7⟩ := S
    exact StaticIs.there (s := { Z with heap := P.U.heap }) ⟨cfS, iS, kS, fS, st, cS, t1, t2, t3, t4, t5, (fun q => by rw [q] at t6; cases t6), t7⟩ al rfl
  obtain ⟨v, B, X', ⟨⟨hv, E', V', q1, q2, q3, q4, q5, q6, q7, q8, q9, q10, q11⟩, hl, hc, hs⟩, st⟩ := New1.pays x D fV fC b A z (tab_of (moved hZ hw)) hfr hlo m meth c P g ig mk _ X hg hsize hdg hW hn ⟨r1, r2, rfl, hB, F1, F2, hA, hS, hz, l0, l2, hp⟩
  have al' : Z.vm.Alike B.U.vm := hZ.alike.trans X'.warmed.alike
  have hsz : E'.slots.size = D.slots.size := by
    obtain ⟨-, -, -, kB, w1, w2, w3⟩ := q1
    obtain ⟨kB', y1, y2⟩ := al'.2.2 _ _ e3
    rw [q2.2.1] at w1
    cases w1.symm.trans y1
    rw [w3, e5 i3, y2]
  refine ⟨v, B, X', ⟨_, ⟨hv, ?_, ⟨by omega, fun y cy hy hn' => q10 y cy (by simpa using hn') hy, fun y cy hy => ?_⟩, q11, ⟨E', _, q1.1, by rw [q2.2.1]; exact e2, by rw [q2.2.1]; exact e3, by rw [q2.1]; exact obV, fun _ => by rw [hsz]; exact e5 i3⟩,
    ⟨E', cfV, kV, iV, fV, q1.1, gV, stV, by rw [q2.1]; exact knV, by rw [q2.1]; exact obV, by rw [q2.2.1]; exact asV, q3⟩, ⟨E', cfC, kC, iC, fC, q1.1, gC, stC, by rw [q2.1]; exact knV, by rw [q2.1]; exact obV, by rw [q2.2.1]; exact asC, q4⟩,
    ⟨V', ⟨q5.1, State.isArrayOf_alike al'.symm q5.2.1, q5.2.2.1⟩, q6, by rw [← al'.findClass]; exact q7, q8, fun j hj => by have := q9 j hj; rwa [Nat.zero_add] at this⟩, fun O n d w F n1 n2 => ?_⟩, hl, hc, hs⟩, st⟩
  · intro y hy
    simp only [List.mem_cons, List.not_mem_nil, or_false] at hy
    rcases hy with rfl | rfl <;> rfl
  · by_cases q : y = x
    · subst q
      cases hD.symm.trans hy
      exact ⟨E', q1.1, q2.2.1, q2.1, hsz⟩
    · exact ⟨cy, q10 y cy q hy, rfl, rfl, rfl⟩
  · obtain ⟨D3, cf, k, i, f, g1, g2, g3, g4, g5, g6, g7⟩ := F
    cases hD.symm.trans g1
    simp only [RoadKit.slotOf, g2, gV, gC, Option.map_some, Option.getD_some] at n1 n2
    exact ⟨E', cf, k, i, f, q1.1, g2, g3, by rw [q2.1]; exact g4, by rw [q2.1]; exact g5, by rw [q2.2.1]; exact g6, by rw [q2.2.2 f.slot (by simp [n1, n2])]; exact g7⟩
end StrChars.Road
namespace StrChars.Road
open Jvm Sem ClassFile Op Lib Jvm.Stand Jvm.Free Jvm.Free.XT
/-- WHAT COMES BACK, the byte[] as a list of values -/
def QA (Z : State) (x : Addr) (zn : Int32) (cs : List Int32) (h : Heap) (v : Option Value) (h' : Heap) (L : List Loc) : Prop := v = none ∧ (∀ y ∈ L, y.base = x) ∧ RoadKit.Keep h h' [x] ∧ h'.size = h.size + 1 ∧ RoadKit.Exa Z h' x ST ∧ RoadKit.Fld Z h' x ST "value" "[B" (.ref h.size) ∧ RoadKit.Fld Z h' x ST "coder" "B" (.int 0) ∧
  (∃ kb, Z.vm.findClass "[B" = some kb ∧ RoadKit.Arv Z h' h.size kb .byte zn (cs.map fun c => .int (lo8 c)) (.int 0)) ∧
  ∀ (O n d : String) (w : Value), RoadKit.Fld Z h x O n d w → RoadKit.slotOf Z O n d ≠ RoadKit.slotOf Z ST "value" "[B" → RoadKit.slotOf Z O n d ≠ RoadKit.slotOf Z ST "coder" "B" → RoadKit.Fld Z h' x O n d w
/-- **new String(chars) AT A CALL, THE ARRAYS AS LISTS**: the char[] at b holds cs, not empty, no char above 255 -/
theorem backArv {p : Program} {l : Launch} {e : Env} {R : Room} {s : State} {args : Array Value} {below : List Frame} {len W : Nat} {Z : State} {a0 : Array Value} {h : Heap} (hZ : Z.Warmed39 s.vm) (hw : ∀ d ∈ words, d.before a0 Z = true) {kI : Nat} (wi : (Jvm.Cond.instantiable ST kI).before a0 Z = true)
    {x b : Addr} {k : ClassId} {zn z : Int32} {cs : List Int32} {dv v0 c0 : Value} (E : RoadKit.Exa Z h x ST) (V : RoadKit.Fld Z h x ST "value" "[B" v0) (C : RoadKit.Fld Z h x ST "coder" "B" c0) (K : RoadKit.Arv Z h b k .char zn (cs.map Value.int) dv) (S : RoadKit.Sta Z h ST "COMPACT_STRINGS" "Z" (.int z)) (hz : ¬ z = 0)
    (hlen : zn.toNatClampNeg = cs.length) (h0 : 0 < cs.length) (hbig : cs.length ≤ 536870912) (hall : ∀ c ∈ cs, ¬ 255 < c) (hfr : 4 ≤ R.frames) (hlo : W + 65 ≤ R.locals) :
    Back l R p e below s args New1.yN len W (fun P a => a = #[.ref x, .ref b] ∧ P.U.heap = h ∧ P.cells + 1 ≤ R.cells ∧ P.slots + cs.length ≤ R.slots)
      (fun P _ v B => ∃ L, QA Z x zn cs h v B.U.heap L ∧ B.locs = P.locs ++ L ∧ B.cells = P.cells + 1 ∧ B.slots = P.slots + cs.length) := by
  obtain ⟨A, K1, K2, K3, K4, K5, K6⟩ := K
  have e : A.slots.size = cs.length := K3.trans hlen
  have hat : ∀ (i : Nat) (hi : i < cs.length), A.slots[i]? = some (.int cs[i]) := fun i hi => by rw [K5 i (by omega)]; simp [List.getD_eq_getElem?_getD, hi]
  have hcv : ∀ (i : Nat) (hi : i < cs.length), cv A i = cs[i] := fun i hi => by unfold cv; rw [hat i hi]
  have hty : Typed .char A := fun i v hv => by
    have hi : i < A.slots.size := (Array.getElem?_eq_some_iff.mp hv).1
    have q := K5 i hi
    rw [hv] at q
    rw [Option.some.inj q]
    exact K6 i hi
  refine Back.mono (back hZ hw wi E V C K1 hty S hz (by omega) (by omega) (fun i hi => by rw [hcv i (by omega)]; exact hall _ (List.getElem_mem _)) hfr hlo) (fun P a hp => ⟨hp.1, hp.2.1, hp.2.2.1, by rw [e]; exact hp.2.2.2⟩) (fun P a v B hp hq => ?_)
  obtain ⟨L, ⟨q1, q2, q3, q4, q5, q6, q7, ⟨V', v1, v2, v3, v4, v5⟩, q9⟩, hl, hc, hs⟩ := hq
  refine ⟨L, ⟨q1, q2, q3, q4, q5, q6, q7, ⟨V'.cls, v3, V', v1, rfl, by rw [v4, e, hlen], K4, fun i hi => ?_, fun i hi => ?_⟩, q9⟩, hl, hc, by rw [hs, e]⟩
  · have hi' : i < cs.length := by omega
    rw [v5 i (by omega), hcv i hi']; simp [List.getD_eq_getElem?_getD, hi']
  · have hi' : i < cs.length := by omega
    simp only [List.getD_eq_getElem?_getD, List.getElem?_map, List.getElem?_eq_getElem hi', Option.map_some, Option.getD_some]
    exact fits_lo8 _
end StrChars.Road
namespace StrChars.Road
open Jvm Sem ClassFile Op Lib Jvm.Stand Jvm.Free Jvm.Free.XT
/-- WHAT COMES BACK, in the writer's own shape -/
def QV (Z : State) (x : Addr) (N : Int32) (bs : List Int32) (h : Heap) (n0 : Nat) (v : Option Value) (h' : Heap) (L : List Loc) : Prop := v = none ∧ RoadKit.Fr n0 L ∧ RoadKit.Keep h h' [x] ∧ RoadKit.Exa Z h' x ST ∧ RoadKit.Fld Z h' x ST "coder" "B" (.int 0) ∧
  ∃ (t : Addr) (kb : ClassId), n0 ≤ t ∧ h.size ≤ t ∧ ¬ t = x ∧ RoadKit.Fld Z h' x ST "value" "[B" (.ref t) ∧ RoadKit.Arv Z h' t kb .byte N (bs.map Value.int) (.int 0)
/-- **new String(chars) AT A CALL, FOR THE WRITER**: a char[] of n known ints, each 0 to 255 -/
theorem backV {p : Program} {l : Launch} {e : Env} {R : Room} {s : State} {args : Array Value} {below : List Frame} {len W : Nat} {Z : State} {a0 : Array Value} {h : Heap} (hZ : Z.Warmed39 s.vm) (hw : ∀ d ∈ words, d.before a0 Z = true) {kI : Nat} (wi : (Jvm.Cond.instantiable ST kI).before a0 Z = true)
    {x b : Addr} {kC : ClassId} {cs bs : List Int32} {d v0 c0 : Value} {z N : Int32} {n n0 : Nat} (hx0 : n0 ≤ x) (hh0 : n0 ≤ h.size) (E : RoadKit.Exa Z h x ST) (V : RoadKit.Fld Z h x ST "value" "[B" v0) (C : RoadKit.Fld Z h x ST "coder" "B" c0) (K : RoadKit.Arv Z h b kC .char N (cs.map Value.int) d) (S : RoadKit.Sta Z h ST "COMPACT_STRINGS" "Z" (.int z)) (hz : ¬ z = 0)
    (hn : cs.length = n) (hN : N = Int32.ofNat n) (l0 : 0 < n) (l2 : n ≤ 4000) (hp : ∀ c ∈ cs, ¬ c < 0 ∧ ¬ (255 : Int32) < c) (hb : bs = cs.map (fun c => c.toInt8.toInt32)) (hfr : 4 ≤ R.frames) (hlo : W + 65 ≤ R.locals) :
    Back l R p e below s args (⟨"java/lang/String", "<init>", "([C)V"⟩ : MethodName) len W (fun P a => a = #[.ref x, .ref b] ∧ P.U.heap = h ∧ P.cells + 1 ≤ R.cells ∧ P.slots + n ≤ R.slots)
      (fun P _ v B => ∃ L, QV Z x N bs h n0 v B.U.heap L ∧ B.locs = P.locs ++ L ∧ B.cells = P.cells + 1 ∧ B.slots = P.slots + n) := by
  subst hn hN hb
  refine Back.mono (backArv hZ hw wi E V C K S hz (n32 (by omega)) l0 (by omega) (fun c hc => (hp c hc).2) hfr hlo) (fun P a hp => hp) (fun P a v B hp hq => ?_)
  obtain ⟨L, ⟨q1, q2, q3, q4, q5, q6, q7, ⟨kb, v1, v2⟩, q9⟩, hl, hc, hs⟩ := hq
  exact ⟨L, ⟨q1, fun y hy => by rw [q2 y hy]; exact hx0, q3, q5, q7, h.size, kb, hh0, Nat.le_refl _, Nat.ne_of_gt E.lt, q6, by rw [List.map_map]; exact v2⟩, hl, hc, hs⟩
end StrChars.Road
namespace StrChars
open Jvm Sem ClassFile Op Lib Jvm.Stand Jvm.Free.XT Jvm.Free.ALB Jvm.Free.JM Jvm.Free
open Jvm.Lib.Cold (StaticIs)
def hi8 (x : Int32) : Int32 := lo8 (x >>> ((8 : Int32) &&& 31))
/-- what StringUTF16.getChar makes of two bytes -/
def pairCh (u v : Int32) : Int32 := (((u &&& 255) <<< ((0 : Int32) &&& 31)) ||| ((v &&& 255) <<< ((8 : Int32) &&& 31))).toUInt32.toUInt16.toUInt32.toInt32
theorem lo8_and (x : Int32) : (lo8 x &&& 255).toBitVec.toNat = x.toBitVec.toNat % 256 := by
  have h : (lo8 x).toBitVec = (x.toBitVec.signExtend 8).signExtend 32 := by rw [lo8, Int8.toBitVec_toInt32, Int32.toBitVec_toInt8]
  rw [Int32.toBitVec_and, BitVec.toNat_and, h]
  have e : ((x.toBitVec.signExtend 8).signExtend 32).toNat % 256 = x.toBitVec.toNat % 256 := by
    rw [BitVec.toNat_signExtend]
    have hlt := x.toBitVec.isLt
    simp only [BitVec.toNat_setWidth, BitVec.toNat_signExtend]
    split <;> split <;> omega
  rw [← e]
  exact Nat.and_two_pow_sub_one_eq_mod _ 8
theorem pair_says {c : Int32} (h0 : ¬ c < 0) (h1 : ¬ 65535 < c) : pairCh (lo8 c) (hi8 c) = c := by
  rw [Int32.lt_iff_toInt_lt] at h0 h1
  have e0 : (0 : Int32).toInt = 0 := rfl
  have e1 : (65535 : Int32).toInt = 65535 := rfl
  have hc : c.toInt = c.toBitVec.toNat := by
    have := c.toBitVec.isLt
    have e : c.toInt = c.toBitVec.toInt := rfl
    rw [e] at h0 h1
    rw [e]
    rw [BitVec.toInt_eq_toNat_cond] at h0 h1 ⊢
    split at h0 <;> split <;> omega
  have hn : c.toBitVec.toNat < 65536 := by omega
  have a1 := lo8_and c
  have a2 : (hi8 c &&& 255).toBitVec.toNat = c.toBitVec.toNat / 256 := by
    rw [hi8, lo8_and]
    have e : ((8 : Int32) &&& 31) = 8 := by decide
    rw [e, Int32.toBitVec_shiftRight]
    have e2 : ((8 : Int32).toBitVec.smod 32) = 8#32 := by decide
    rw [e2, BitVec.sshiftRight_eq', BitVec.toNat_sshiftRight_of_msb_false (by rw [BitVec.msb_eq_false_iff_two_mul_lt]; omega)]
    show c.toBitVec.toNat >>> 8 % 256 = _
    rw [Nat.shiftRight_eq_div_pow]
    omega
  unfold pairCh
  apply Int32.toBitVec_inj.mp
  apply BitVec.eq_of_toNat_eq
  have f0 : ((0 : Int32) &&& 31) = 0 := by decide
  have f8 : ((8 : Int32) &&& 31) = 8 := by decide
  rw [f0, f8]
  have g : (((lo8 c &&& 255) <<< (0 : Int32)) ||| ((hi8 c &&& 255) <<< (8 : Int32))).toBitVec.toNat = c.toBitVec.toNat := by
    rw [Int32.toBitVec_or, Int32.toBitVec_shiftLeft, Int32.toBitVec_shiftLeft]
    have s0 : ((0 : Int32).toBitVec.smod 32) = 0#32 := by decide
    have s8 : ((8 : Int32).toBitVec.smod 32) = 8#32 := by decide
    rw [s0, s8, BitVec.toNat_or]
    simp only [BitVec.shiftLeft_eq', BitVec.toNat_shiftLeft, a1, a2]
    show (c.toBitVec.toNat % 256) <<< 0 % 2 ^ 32 ||| (c.toBitVec.toNat / 256) <<< 8 % 2 ^ 32 = _
    rw [Nat.shiftLeft_zero, Nat.mod_eq_of_lt (show c.toBitVec.toNat % 256 < 2 ^ 32 by omega), Nat.mod_eq_of_lt (show (c.toBitVec.toNat / 256) <<< 8 < 2 ^ 32 by rw [Nat.shiftLeft_eq]; omega), Nat.or_comm, ← Nat.shiftLeft_add_eq_or_of_lt (by omega), Nat.shiftLeft_eq]
    omega
  show BitVec.toNat (((((lo8 c &&& 255) <<< (0 : Int32)) ||| ((hi8 c &&& 255) <<< (8 : Int32))).toBitVec.setWidth 16).setWidth 32) = _
  rw [BitVec.toNat_setWidth, BitVec.toNat_setWidth, g]
  omega
end StrChars
namespace StrChars
open Jvm Sem ClassFile Op Lib Jvm.Stand Jvm.Free.XT Jvm.Free.ALB Jvm.Free.JM Jvm.Free
open Jvm.Lib.Cold (StaticIs)
/-- the array's cell V codes the n chars f 0 .. f (n - 1) by the coder cd, as the JDK does: coder 1 just where some char is above 255 -/
def Cod (cd : Int32) (n : Nat) (f : Nat → Int32) (V : Cell) : Prop := (cd = 0 ∧ V.slots.size = n ∧ ∀ j, j < n → V.slots[j]? = some (.int (lo8 (f j))) ∧ ¬ 255 < f j) ∨ (cd = 1 ∧ V.slots.size = 2 * n ∧ (∀ j, j < n → V.slots[2 * j]? = some (.int (lo8 (f j))) ∧ V.slots[2 * j + 1]? = some (.int (hi8 (f j)))) ∧ ∃ j, j < n ∧ 255 < f j)
/-- **x is a String of the n chars f 0 .. f (n - 1)**, Latin-1 or UTF-16; its array at t has the cell V -/
def Txt (x t : Addr) (V : Cell) (cd : Int32) (n : Nat) (f : Nat → Int32) (U : State) : Prop := Exact "java/lang/String" x U ∧ Has x "java/lang/String" "value" "[B" (.ref t) U ∧ Has x "java/lang/String" "coder" "B" (.int cd) U ∧ XT.Arr .byte t V U ∧ Cod cd n f V ∧ ∀ j, j < n → ¬ f j < 0 ∧ ¬ 65535 < f j
theorem Txt.mv {x t : Addr} {V : Cell} {cd : Int32} {n : Nat} {f : Nat → Int32} {U U' : State} (h : Txt x t V cd n f U) (hal : U.vm.Alike U'.vm) (hh : U'.heap = U.heap) : Txt x t V cd n f U' := ⟨h.1.mv hal hh, h.2.1.mv hal hh, h.2.2.1.mv hal hh, h.2.2.2.1.mv hal hh, h.2.2.2.2⟩
end StrChars
namespace StrChars.Road
open Jvm Sem ClassFile Op Lib Jvm.Stand Jvm.Free Jvm.Free.XT
open Jvm.Lib.Cold (StaticIs)
theorem consq {a : Array Value} {s : State} {c : Jvm.Cond} {L : List Jvm.Cond} (h0 : c.before a s = true) (h : ∀ w ∈ L, w.before a s = true) : ∀ w ∈ c :: L, w.before a s = true := fun w hw => (List.mem_cons.mp hw).elim (fun e => e ▸ h0) (h w)
/-- the bytes of the chars cs, low before high -/
def wideBytes : List Int32 → List Value
  | [] => []
  | c :: cs => .int (lo8 c) :: .int (hi8 c) :: wideBytes cs
theorem wide_lo (d : Value) : ∀ (cs : List Int32) (j : Nat), j < cs.length → (wideBytes cs).getD (2 * j) d = .int (lo8 (cs.getD j 0))
  | [], j, h => absurd h (Nat.not_lt_zero j)
  | c :: cs, 0, _ => rfl
  | c :: cs, j + 1, h => by
    have q := wide_lo d cs j (by simpa using h)
    rw [show 2 * (j + 1) = 2 * j + 1 + 1 from by omega]
    simpa [wideBytes] using q
theorem wide_hi (d : Value) : ∀ (cs : List Int32) (j : Nat), j < cs.length → (wideBytes cs).getD (2 * j + 1) d = .int (hi8 (cs.getD j 0))
  | [], j, h => absurd h (Nat.not_lt_zero j)
  | c :: cs, 0, _ => rfl
  | c :: cs, j + 1, h => by
    have q := wide_hi d cs j (by simpa using h)
    rw [show 2 * (j + 1) + 1 = 2 * j + 1 + 1 + 1 from by omega]
    simpa [wideBytes] using q
theorem low_at (d : Value) (cs : List Int32) (j : Nat) (h : j < cs.length) : (cs.map fun c => Value.int (lo8 c)).getD j d = .int (lo8 (cs.getD j 0)) := by
  simp [List.getD_eq_getElem?_getD, h]
/-- an array of N2 bytes vs codes the chars cs by the coder cd -/
def CodA (cs : List Int32) (cd N2 : Int32) (vs : List Value) : Prop := (cd = 0 ∧ N2 = Int32.ofNat cs.length ∧ vs = (cs.map fun c => Value.int (lo8 c)) ∧ ∀ c ∈ cs, ¬ 255 < c) ∨ (cd = 1 ∧ N2 = Int32.ofNat (2 * cs.length) ∧ vs = wideBytes cs ∧ ∃ c ∈ cs, 255 < c)
theorem CodA.cod {cs : List Int32} {cd N2 : Int32} {vs : List Value} {V : Cell} (h : CodA cs cd N2 vs) (hn : 2 * cs.length < 2 ^ 31) (hs : V.slots.size = N2.toNatClampNeg) (hv : RoadKit.Has V vs (.int 0)) : Cod cd cs.length (fun j => cs.getD j 0) V := by
  rcases h with ⟨rfl, rfl, rfl, h⟩ | ⟨rfl, rfl, rfl, c, hc, hw⟩
  · rw [n32 (by omega)] at hs
    exact Or.inl ⟨rfl, hs, fun j hj => ⟨by rw [hv j (by omega), low_at _ _ _ hj], by
      have e : cs.getD j 0 = cs[j] := by simp [List.getD_eq_getElem?_getD, hj]
      show ¬ 255 < cs.getD j 0
      rw [e]; exact h _ (List.getElem_mem _)⟩⟩
  · rw [n32 (by omega)] at hs
    obtain ⟨j, hj, rfl⟩ := List.getElem_of_mem hc
    exact Or.inr ⟨rfl, hs, fun j hj => ⟨by rw [hv _ (by omega), wide_lo _ _ _ hj], by rw [hv _ (by omega), wide_hi _ _ _ hj]⟩, j, hj, by
      have e : cs.getD j 0 = cs[j] := by simp [List.getD_eq_getElem?_getD, hj]
      show 255 < cs.getD j 0
      rw [e]; exact hw⟩
/-- an object of exactly java/lang/String, its two fields found: as the laws ask it -/
theorem strObj {Z U : State} {a0 : Array Value} {kI : Nat} (wi : (Jvm.Cond.instantiable ST kI).before a0 Z = true) (al : Z.vm.Alike U.vm) {x : Addr} {v0 c0 : Value} (E : RoadKit.Exa Z U.heap x ST) (V : RoadKit.Fld Z U.heap x ST "value" "[B" v0) (C : RoadKit.Fld Z U.heap x ST "coder" "B" c0) :
    ∃ (D : Cell) (fV fC : Field), Blank ST x D U ∧ Found ST "value" "[B" fV U ∧ Found ST "coder" "B" fC U ∧ D.slots[fV.slot]? = some v0 ∧ D.slots[fC.slot]? = some c0 ∧ RoadKit.slotOf Z ST "value" "[B" = fV.slot ∧ RoadKit.slotOf Z ST "coder" "B" = fC.slot := by
  obtain ⟨D, cfV, kV, iV, fV, hD, gV, stV, knV, obV, asV, slV⟩ := V
  obtain ⟨D', cfC, kC, iC, fC, hD', gC, stC, -, -, asC, slC⟩ := C
  cases hD.symm.trans hD'
  obtain ⟨D2, kD, e1, e2, e3, e4, e5⟩ := E
  cases hD.symm.trans e1
  obtain ⟨c2, k2, i1, i2, i3, -⟩ := Cond.instantiable_spec wi
  cases e2.symm.trans i1
  cases e3.symm.trans i2
  obtain ⟨kU, u1, u2⟩ := al.2.2 _ _ e3
  exact ⟨D, fV, fC, ⟨hD, ⟨knV, fun q hq => by rw [hq] at obV; cases obV⟩, by rw [al.findClass]; exact e2, kU, u1, by rw [u2]; exact i3, by rw [u2]; exact e5 i3⟩, ⟨SBG.found_only al ⟨cfV, kV, iV, gV⟩, stV⟩, ⟨SBG.found_only al ⟨cfC, kC, iC, gC⟩, stC⟩, slV, slC, by simp [RoadKit.slotOf, gV], by simp [RoadKit.slotOf, gC]⟩
theorem sta_is {Z U : State} (al : Z.vm.Alike U.vm) {C n d : String} {v : Value} (S : RoadKit.Sta Z U.heap C n d v) : StaticIs U C n d v := by
  obtain ⟨cfS, iS, kS, fS, st, cS, t1, t2, t3, t4, t5, t6, t7⟩ := S
  exact StaticIs.there (s := { Z with heap := U.heap }) ⟨cfS, iS, kS, fS, st, cS, t1, t2, t3, t4, t5, (fun q => by rw [q] at t6; cases t6), t7⟩ al rfl
end StrChars.Road
namespace StrChars
open Jvm Sem ClassFile Op Lib Jvm.Stand Jvm.Free.XT Jvm.Free.ALB Jvm.Free.JM Jvm.Free
open Jvm.Lib.Cold (StaticIs)
/-- what place i of a byte[]'s cell holds -/
def yv (A : Cell) (i : Nat) : Int32 := match A.slots[i]? with | some (.int x) => x | _ => 0
theorem yv_get {a : Addr} {A : Cell} {U : State} (h : XT.Arr .byte a A U) (ht : Typed .byte A) {i : Nat} (hi : i < A.slots.size) : A.slots[i]? = some (.int (yv A i)) := by
  have e := Array.getElem?_eq_getElem hi
  have f := ht i _ e
  unfold yv; rw [e]
  generalize A.slots[i] = v at f
  cases v <;> simp [fits] at f ⊢
/-- the two arrays are equal, place for place -/
def EqC (A B : Cell) : Prop := A.slots.size = B.slots.size ∧ ∀ i, i < A.slots.size → yv A i = yv B i
/-- a boolean that says whether p -/
def Says01 (q : Prop) (r : Option Value) (s u : State) : Prop := ∃ v : Int32, r = some (.int v) ∧ u.heap = s.heap ∧ ((v = 1 ∧ q) ∨ (v = 0 ∧ ¬ q))
theorem Says01.mv {q : Prop} : ∀ r (U U' V V' : State), U'.heap = U.heap → V.vm.Alike V'.vm → V'.heap = V.heap → Says01 q r U V → Says01 q r U' V' :=
  fun r U U' V V' h1 _ h2 ⟨v, a, b, c⟩ => ⟨v, a, by rw [h1, h2]; exact b, c⟩
namespace LEq
def yN : MethodName := ⟨"java/lang/StringLatin1", "equals", "([B[B)Z"⟩
abbrev yB : ByteArray := jdk_43_method_13_code
theorem d0 : decode yB 0 = .ok (.aload_n 0, 1) := by decide +kernel
theorem d1 : decode yB 1 = .ok (.arraylength, 1) := by decide +kernel
theorem d2 : decode yB 2 = .ok (.aload_n 1, 1) := by decide +kernel
theorem d3 : decode yB 3 = .ok (.arraylength, 1) := by decide +kernel
theorem d4 : decode yB 4 = .ok (.if_icmp (.ne) 30, 3) := by decide +kernel
theorem d7 : decode yB 7 = .ok (.iconst 0, 1) := by decide +kernel
theorem d8 : decode yB 8 = .ok (.istore_n 2, 1) := by decide +kernel
theorem d9 : decode yB 9 = .ok (.iload_n 2, 1) := by decide +kernel
theorem d10 : decode yB 10 = .ok (.aload_n 0, 1) := by decide +kernel
theorem d11 : decode yB 11 = .ok (.arraylength, 1) := by decide +kernel
theorem d12 : decode yB 12 = .ok (.if_icmp (.ge) 20, 3) := by decide +kernel
theorem d15 : decode yB 15 = .ok (.aload_n 0, 1) := by decide +kernel
theorem d16 : decode yB 16 = .ok (.iload_n 2, 1) := by decide +kernel
theorem d17 : decode yB 17 = .ok (.baload, 1) := by decide +kernel
theorem d18 : decode yB 18 = .ok (.aload_n 1, 1) := by decide +kernel
theorem d19 : decode yB 19 = .ok (.iload_n 2, 1) := by decide +kernel
theorem d20 : decode yB 20 = .ok (.baload, 1) := by decide +kernel
theorem d21 : decode yB 21 = .ok (.if_icmp (.eq) 5, 3) := by decide +kernel
theorem d24 : decode yB 24 = .ok (.iconst 0, 1) := by decide +kernel
theorem d25 : decode yB 25 = .ok (.ireturn, 1) := by decide +kernel
theorem d26 : decode yB 26 = .ok (.iinc 2 1, 3) := by decide +kernel
theorem d29 : decode yB 29 = .ok (.goto (-20), 3) := by decide +kernel
theorem d32 : decode yB 32 = .ok (.iconst 1, 1) := by decide +kernel
theorem d33 : decode yB 33 = .ok (.ireturn, 1) := by decide +kernel
theorem d34 : decode yB 34 = .ok (.iconst 0, 1) := by decide +kernel
theorem d35 : decode yB 35 = .ok (.ireturn, 1) := by decide +kernel
def site : List Cond := []
def tab : Cond := tabOf yN yB 3 (some .boolean) site
def P (a : Addr) (A : Cell) (b : Addr) (B : Cell) (args : Array Value) (s : State) : Prop := args = #[.ref a, .ref b] ∧ XT.Arr .byte a A s ∧ Typed .byte A ∧ XT.Arr .byte b B s ∧ Typed .byte B
/-- whether two byte[] are equal, place for place -/
theorem law (l : Launch) (a : Addr) (A : Cell) (b : Addr) (B : Cell) : Law l yN 2 2 0 0 yB 3 (some .boolean) site (P a A b B) (Says01 (EqC A B)) [] 0 0 := by
  refine Law.of_walk (plainFor_of_name (by decide +kernel)) (by decide +kernel) (by decide +kernel) (by decide) (fun _ _ h => by rw [h.1]; rfl) (fun _ U U' hal hh h => ⟨h.1, h.2.1.mv hal hh, h.2.2.1, h.2.2.2.1.mv hal hh, h.2.2.2.2⟩) (fun r U U' V V' h1 hal h2 h => Says01.mv r U U' V V' h1 hal h2 h) ?_
  intro p e s m args below meth c s₁ X0 hexec hbytes hml hret hlk hnm hown hh0 W hP
  obtain ⟨rfl, hA, tA, hB, tB⟩ := hP
  have a31 := hA.2.2.2
  have b31 := hB.2.2.2
  have hA0 := hA.mv X0.warmed.alike hh0
  have hB0 := hB.mv X0.warmed.alike hh0
  have c1 : Steps p.tables e below (s₁.setTop (entryFrame m #[.ref a, .ref b] 3)) (s₁.setTop (mkF m 0 #[.val (.ref a), .val (.ref b), .unset] [])) := entry rfl
  have c2 : Steps p.tables e below (s₁.setTop (entryFrame m #[.ref a, .ref b] 3)) (s₁.setTop (mkF m 4 #[.val (.ref a), .val (.ref b), .unset] [.int (Int32.ofNat B.slots.size), .int (Int32.ofNat A.slots.size)])) := c1.trans (by
    refine XS.aloadN X0.here hexec rfl (hb hbytes d0) rfl rfl ?_
    refine X0.alen hexec hA0 rfl rfl (hb hbytes d1) ?_
    refine XS.aloadN X0.here hexec rfl (hb hbytes d2) rfl rfl ?_
    refine X0.alen hexec hB0 rfl rfl (hb hbytes d3) ?_
    exact Steps.refl _)
  by_cases hs : A.slots.size = B.slots.size
  · have c3 : Steps p.tables e below (s₁.setTop (entryFrame m #[.ref a, .ref b] 3)) (s₁.setTop (mkF m 9 #[.val (.ref a), .val (.ref b), .val (.int 0)] [])) := c2.trans (by
      refine XS.icmpNo X0.here hexec rfl (hb hbytes d4) rfl (ii_ne_f (by rw [hs])) ?_
      refine iconstV X0.here hexec rfl 0 (hb hbytes d7) (by decide) ?_
      refine XS.istoreN X0.here hexec rfl (hb hbytes d8) rfl rfl ?_
      exact Steps.refl _)
    have loop : ∀ (r i : Nat), i + r = A.slots.size → (∀ j, j < i → yv A j = yv B j) → Steps p.tables e below (s₁.setTop (entryFrame m #[.ref a, .ref b] 3)) (s₁.setTop (mkF m 9 #[.val (.ref a), .val (.ref b), .val (.int (Int32.ofNat i))] [])) → ∃ (pc : Nat) (Ls : Array Slot) (v : Int32), (pc = 25 ∨ pc = 33) ∧ ((v = 1 ∧ EqC A B) ∨ (v = 0 ∧ ¬ EqC A B)) ∧ Steps p.tables e below (s₁.setTop (entryFrame m #[.ref a, .ref b] 3)) (s₁.setTop (mkF m pc Ls [.int v])) := by
      intro r
      induction r with
      | zero =>
        intro i hi he cl
        exact ⟨33, _, 1, Or.inr rfl, Or.inl ⟨rfl, hs, fun j hj => he j (by omega)⟩, cl.trans (by
          refine XS.iloadN X0.here hexec rfl (hb hbytes d9) rfl ?_
          refine XS.aloadN X0.here hexec rfl (hb hbytes d10) rfl rfl ?_
          refine X0.alen hexec hA0 rfl rfl (hb hbytes d11) ?_
          refine XS.icmpYes X0.here hexec rfl (pc0 := 12) rfl (hb hbytes d12) rfl (ii_ge_t (nlt32 (by omega) (by omega))) (by decide) rfl ?_
          refine iconstV X0.here hexec rfl 1 (hb hbytes d32) (by decide) ?_
          exact Steps.refl _)⟩
      | succ r ih =>
        intro i hi he cl
        have c4 : Steps p.tables e below (s₁.setTop (entryFrame m #[.ref a, .ref b] 3)) (s₁.setTop (mkF m 21 #[.val (.ref a), .val (.ref b), .val (.int (Int32.ofNat i))] [.int (yv B i), .int (yv A i)])) := cl.trans (by
          refine XS.iloadN X0.here hexec rfl (hb hbytes d9) rfl ?_
          refine XS.aloadN X0.here hexec rfl (hb hbytes d10) rfl rfl ?_
          refine X0.alen hexec hA0 rfl rfl (hb hbytes d11) ?_
          refine XS.icmpNo X0.here hexec rfl (hb hbytes d12) rfl (ii_ge_f (lt32 (by omega) (by omega))) ?_
          refine XS.aloadN X0.here hexec rfl (hb hbytes d15) rfl rfl ?_
          refine XS.iloadN X0.here hexec rfl (hb hbytes d16) rfl ?_
          refine X0.aget hexec hA0 rfl (yv_get hA tA (i := i) (by omega)) rfl rfl (hb hbytes d17) ?_
          refine XS.aloadN X0.here hexec rfl (hb hbytes d18) rfl rfl ?_
          refine XS.iloadN X0.here hexec rfl (hb hbytes d19) rfl ?_
          refine X0.aget hexec hB0 rfl (yv_get hB tB (i := i) (by omega)) rfl rfl (hb hbytes d20) ?_
          exact Steps.refl _)
        by_cases hv : yv A i = yv B i
        · have c5 : Steps p.tables e below (s₁.setTop (entryFrame m #[.ref a, .ref b] 3)) (s₁.setTop (mkF m 9 #[.val (.ref a), .val (.ref b), .val (.int (Int32.ofNat i + 1))] [])) := c4.trans (by
            refine XS.icmpYes X0.here hexec rfl (pc0 := 21) rfl (hb hbytes d21) rfl (ii_eq_t hv) (by decide) rfl ?_
            refine iincV X0.here hexec rfl 1 (hb hbytes d26) (by decide) rfl rfl ?_
            refine XS.goto X0.here hexec rfl (pc0 := 29) rfl (hb hbytes d29) (by decide) rfl ?_
            exact Steps.refl _)
          rw [succ32] at c5
          exact ih (i + 1) (by omega) (fun j hj => by
            by_cases e : j = i
            · rw [e]; exact hv
            · exact he j (by omega)) c5
        · exact ⟨25, _, 0, Or.inl rfl, Or.inr ⟨rfl, fun q => hv (q.2 i (by omega))⟩, c4.trans (by
            refine XS.icmpNo X0.here hexec rfl (hb hbytes d21) rfl (ii_eq_f hv) ?_
            refine iconstV X0.here hexec rfl 0 (hb hbytes d24) (by decide) ?_
            exact Steps.refl _)⟩
    obtain ⟨pc, Ls, v, hpc, hv, cz⟩ := loop A.slots.size 0 (by omega) (fun j hj => absurd hj (Nat.not_lt_zero j)) c3
    have nv : narrow .boolean (.int v) = .int v := by rcases hv with ⟨rfl, -⟩ | ⟨rfl, -⟩ <;> rfl
    rcases hpc with rfl | rfl
    · exact ⟨s₁, some (.int v), _, _, _, X0, rfl, rfl, rfl, (fun h => by cases h), ⟨v, rfl, hh0, hv⟩, fun fs hl => cz.trans (X0.ireturnOut hexec hret nv (Or.inr (Or.inl rfl)) (hb hbytes d25) hl)⟩
    · exact ⟨s₁, some (.int v), _, _, _, X0, rfl, rfl, rfl, (fun h => by cases h), ⟨v, rfl, hh0, hv⟩, fun fs hl => cz.trans (X0.ireturnOut hexec hret nv (Or.inr (Or.inl rfl)) (hb hbytes d33) hl)⟩
  · have c3 : Steps p.tables e below (s₁.setTop (entryFrame m #[.ref a, .ref b] 3)) (s₁.setTop (mkF m 35 #[.val (.ref a), .val (.ref b), .unset] [.int 0])) := c2.trans (by
      refine XS.icmpYes X0.here hexec rfl (pc0 := 4) rfl (hb hbytes d4) rfl (ii_ne_t (ne32 a31 b31 hs)) (by decide) rfl ?_
      refine iconstV X0.here hexec rfl 0 (hb hbytes d34) (by decide) ?_
      exact Steps.refl _)
    exact ⟨s₁, some (.int 0), _, _, _, X0, rfl, rfl, rfl, (fun h => by cases h), ⟨0, rfl, hh0, Or.inr ⟨rfl, fun q => hs q.1⟩⟩, fun fs hl => c3.trans (X0.ireturnOut hexec hret rfl (Or.inr (Or.inl rfl)) (hb hbytes d35) hl)⟩
end LEq
theorem Cod.ty {cd : Int32} {n : Nat} {f : Nat → Int32} {V : Cell} (h : Cod cd n f V) : Typed .byte V := fun i v hv => by
  have hi : i < V.slots.size := (Array.getElem?_eq_some_iff.mp hv).1
  rcases h with ⟨-, k1, k2⟩ | ⟨-, k1, k2, -⟩
  · rw [(k2 i (by omega)).1] at hv; cases hv; exact fits_lo8 _
  · rcases Nat.mod_two_eq_zero_or_one i with e | e
    · obtain ⟨j, rfl⟩ : ∃ j, i = 2 * j := ⟨i / 2, by omega⟩
      rw [(k2 j (by omega)).1] at hv; cases hv; exact fits_lo8 _
    · obtain ⟨j, rfl⟩ : ∃ j, i = 2 * j + 1 := ⟨i / 2, by omega⟩
      rw [(k2 j (by omega)).2] at hv; cases hv; exact fits_lo8 _
/-- the same text -/
def SameT (n : Nat) (f : Nat → Int32) (k : Nat) (g : Nat → Int32) : Prop := n = k ∧ ∀ j, j < n → f j = g j
theorem lo8_inj {x y : Int32} (h0 : ¬ x < 0) (h1 : ¬ 255 < x) (k0 : ¬ y < 0) (k1 : ¬ 255 < y) (h : lo8 x = lo8 y) : x = y := by
  rw [← lo8_mask h0 h1, ← lo8_mask k0 k1, h]
/-- arrays coded by one coder are equal just where the texts are -/
theorem Cod.eqv {cd : Int32} {n k : Nat} {f g : Nat → Int32} {V V' : Cell} (h : Cod cd n f V) (h' : Cod cd k g V') (hf : ∀ j, j < n → ¬ f j < 0 ∧ ¬ 65535 < f j) (hg : ∀ j, j < k → ¬ g j < 0 ∧ ¬ 65535 < g j) : EqC V V' ↔ SameT n f k g := by
  have yvv : ∀ {W : Cell} {i : Nat} {x : Int32}, W.slots[i]? = some (.int x) → yv W i = x := fun q => by unfold yv; rw [q]
  rcases h with ⟨rfl, k1, k2⟩ | ⟨rfl, k1, k2, -⟩
  · rcases h' with ⟨-, m1, m2⟩ | ⟨e, -⟩
    · constructor
      · rintro ⟨e1, e2⟩
        refine ⟨by omega, fun j hj => ?_⟩
        have q := e2 j (by omega)
        rw [yvv (k2 j hj).1, yvv (m2 j (by omega)).1] at q
        exact lo8_inj (hf j hj).1 (k2 j hj).2 (hg j (by omega)).1 (m2 j (by omega)).2 q
      · rintro ⟨rfl, e2⟩
        refine ⟨by omega, fun j hj => ?_⟩
        rw [yvv (k2 j (by omega)).1, yvv (m2 j (by omega)).1, e2 j (by omega)]
    · exact absurd e (by decide)
  · rcases h' with ⟨e, -⟩ | ⟨-, m1, m2, -⟩
    · exact absurd e (by decide)
    · constructor
      · rintro ⟨e1, e2⟩
        refine ⟨by omega, fun j hj => ?_⟩
        have q1 := e2 (2 * j) (by omega)
        have q2 := e2 (2 * j + 1) (by omega)
        rw [yvv (k2 j hj).1, yvv (m2 j (by omega)).1] at q1
        rw [yvv (k2 j hj).2, yvv (m2 j (by omega)).2] at q2
        rw [← pair_says (hf j hj).1 (hf j hj).2, ← pair_says (hg j (by omega)).1 (hg j (by omega)).2, q1, q2]
      · rintro ⟨rfl, e2⟩
        refine ⟨by omega, fun i hi => ?_⟩
        rcases Nat.mod_two_eq_zero_or_one i with e | e
        · obtain ⟨j, rfl⟩ : ∃ j, i = 2 * j := ⟨i / 2, by omega⟩
          rw [yvv (k2 j (by omega)).1, yvv (m2 j (by omega)).1, e2 j (by omega)]
        · obtain ⟨j, rfl⟩ : ∃ j, i = 2 * j + 1 := ⟨i / 2, by omega⟩
          rw [yvv (k2 j (by omega)).2, yvv (m2 j (by omega)).2, e2 j (by omega)]
/-- two codings differ: so do the texts -/
theorem Cod.dif {cd cd' : Int32} {n k : Nat} {f g : Nat → Int32} {V V' : Cell} (h : Cod cd n f V) (h' : Cod cd' k g V') (hne : ¬ cd = cd') : ¬ SameT n f k g := by
  rintro ⟨rfl, e⟩
  rcases h with ⟨rfl, -, k2⟩ | ⟨rfl, -, -, j, hj, hw⟩
  · rcases h' with ⟨rfl, -⟩ | ⟨-, -, -, j, hj, hw⟩
    · exact hne rfl
    · exact (k2 j hj).2 (by rw [e j hj]; exact hw)
  · rcases h' with ⟨-, -, m2⟩ | ⟨rfl, -⟩
    · exact (m2 j hj).2 (by rw [← e j hj]; exact hw)
    · exact hne rfl
/-- an object of exactly C is an instance of C -/
theorem cinst {p : Program} {l : Launch} {e : Env} {R : Room} {s : State} {m : MethodId} {args : Array Value} {below : List Frame} {meth : Method} {c : Code} {T : State} {locs : List Loc} {cells slots : Nat} (X : Stand p l e R s m args below meth c T locs cells slots) (hexec : p.tables.exec = Jvm.exec) {own C : String} {index : Nat} (hown : s.vm.findClass own = some m.cls) (hlink : (Cond.classLink own index C).before args s = true) {a : Addr} (hE : Exact C a T)
    {g : JFrame} (hg : g.method = m) {rest : List Value} (hstack : g.stack = .ref a :: rest) (hdg : decode c.code g.pc = .ok (.instanceof index, 3)) :
    ∃ T', Stand p l e R s m args below meth c T' locs cells slots ∧ T'.heap = T.heap ∧ ∀ target, Steps p.tables e below (T'.setTop { g with pc := g.pc + 3, stack := .int 1 :: rest }) target → Steps p.tables e below (T.setTop g) target := by
  obtain ⟨cB, h1, D, h2, h3, h4⟩ := hE
  have h1' : s.vm.findClass C = some cB := by rw [← X.warmed.alike.findClass]; exact h1
  obtain ⟨vm', X', st⟩ := X.instanceofYes hexec hown hlink h2 h4 h1' (by rw [h3]; exact Jvm.Free.SB.assignable_self _ _) hg hstack hdg
  exact ⟨_, X', rfl, st⟩
theorem cself {p : Program} {l : Launch} {e : Env} {R : Room} {s : State} {m : MethodId} {args : Array Value} {below : List Frame} {meth : Method} {c : Code} {T : State} {locs : List Loc} {cells slots : Nat} (X : Stand p l e R s m args below meth c T locs cells slots) (hexec : p.tables.exec = Jvm.exec) {own C : String} {index : Nat} (hown : s.vm.findClass own = some m.cls) (hlink : (Cond.classLink own index C).before args s = true) {a : Addr} (hE : Exact C a T)
    {g : JFrame} (hg : g.method = m) {rest : List Value} (hstack : g.stack = .ref a :: rest) (hdg : decode c.code g.pc = .ok (.checkcast index, 3)) :
    ∃ T', Stand p l e R s m args below meth c T' locs cells slots ∧ T'.heap = T.heap ∧ ∀ target, Steps p.tables e below (T'.setTop { g with pc := g.pc + 3, stack := .ref a :: rest }) target → Steps p.tables e below (T.setTop g) target := by
  obtain ⟨cB, h1, D, h2, h3, h4⟩ := hE
  have h1' : s.vm.findClass C = some cB := by rw [← X.warmed.alike.findClass]; exact h1
  obtain ⟨vm', X', st⟩ := X.checkcastYes hexec hown hlink h2 h4 h1' (by rw [h3]; exact Jvm.Free.SB.assignable_self _ _) hg hstack hdg
  exact ⟨_, X', rfl, fun t h => st t (by rw [← hstack] at h; exact h)⟩
namespace SEq
def yN : MethodName := ⟨"java/lang/String", "equals", "(Ljava/lang/Object;)Z"⟩
abbrev yB : ByteArray := jdk_42_method_66_code
theorem d0 : decode yB 0 = .ok (.aload_n 0, 1) := by decide +kernel
theorem d1 : decode yB 1 = .ok (.aload_n 1, 1) := by decide +kernel
theorem d2 : decode yB 2 = .ok (.if_acmp (.ne) 5, 3) := by decide +kernel
theorem d5 : decode yB 5 = .ok (.iconst 1, 1) := by decide +kernel
theorem d6 : decode yB 6 = .ok (.ireturn, 1) := by decide +kernel
theorem d7 : decode yB 7 = .ok (.aload_n 1, 1) := by decide +kernel
theorem d8 : decode yB 8 = .ok (.instanceof 10, 3) := by decide +kernel
theorem d11 : decode yB 11 = .ok (.ifCond (.eq) 43, 3) := by decide +kernel
theorem d14 : decode yB 14 = .ok (.aload_n 1, 1) := by decide +kernel
theorem d15 : decode yB 15 = .ok (.checkcast 10, 3) := by decide +kernel
theorem d18 : decode yB 18 = .ok (.astore_n 2, 1) := by decide +kernel
theorem d19 : decode yB 19 = .ok (.getstatic 38, 3) := by decide +kernel
theorem d22 : decode yB 22 = .ok (.ifCond (.eq) 14, 3) := by decide +kernel
theorem d25 : decode yB 25 = .ok (.aload_n 0, 1) := by decide +kernel
theorem d26 : decode yB 26 = .ok (.getfield 15, 3) := by decide +kernel
theorem d29 : decode yB 29 = .ok (.aload_n 2, 1) := by decide +kernel
theorem d30 : decode yB 30 = .ok (.getfield 15, 3) := by decide +kernel
theorem d33 : decode yB 33 = .ok (.if_icmp (.ne) 21, 3) := by decide +kernel
theorem d36 : decode yB 36 = .ok (.aload_n 0, 1) := by decide +kernel
theorem d37 : decode yB 37 = .ok (.getfield 9, 3) := by decide +kernel
theorem d40 : decode yB 40 = .ok (.aload_n 2, 1) := by decide +kernel
theorem d41 : decode yB 41 = .ok (.getfield 9, 3) := by decide +kernel
theorem d44 : decode yB 44 = .ok (.invokestatic 541, 3) := by decide +kernel
theorem d47 : decode yB 47 = .ok (.ifCond (.eq) 7, 3) := by decide +kernel
theorem d50 : decode yB 50 = .ok (.iconst 1, 1) := by decide +kernel
theorem d51 : decode yB 51 = .ok (.goto 4, 3) := by decide +kernel
theorem d54 : decode yB 54 = .ok (.iconst 0, 1) := by decide +kernel
theorem d55 : decode yB 55 = .ok (.ireturn, 1) := by decide +kernel
def site : List Cond := [.classLink "java/lang/String" 10 "java/lang/String", .fieldLink "java/lang/String" 38 "java/lang/String" "COMPACT_STRINGS" "Z", .fieldLink "java/lang/String" 15 "java/lang/String" "coder" "B", .fieldLink "java/lang/String" 9 "java/lang/String" "value" "[B", LEq.tab] ++ staticW "java/lang/String" 541 LEq.yN
def tab : Cond := tabOf yN yB 3 (some .boolean) site
def P (x t : Addr) (V : Cell) (cd : Int32) (n : Nat) (f : Nat → Int32) (y t' : Addr) (V' : Cell) (cd' : Int32) (k : Nat) (g : Nat → Int32) (z : Int32) (args : Array Value) (s : State) : Prop := args = #[.ref x, .ref y] ∧ Txt x t V cd n f s ∧ Txt y t' V' cd' k g s ∧ StaticIs s "java/lang/String" "COMPACT_STRINGS" "Z" (.int z) ∧ ¬ z = 0
/-- equals(Object) of two Strings: whether the texts are the same -/
theorem law (l : Launch) (x t : Addr) (V : Cell) (cd : Int32) (n : Nat) (f : Nat → Int32) (y t' : Addr) (V' : Cell) (cd' : Int32) (k : Nat) (g : Nat → Int32) (z : Int32) : Law l yN 2 1 1 14 yB 3 (some .boolean) site (P x t V cd n f y t' V' cd' k g z) (Says01 (SameT n f k g)) [] 0 0 := by
  refine Law.of_walk (plainFor_of_name (by decide +kernel)) (by decide +kernel) (by decide +kernel) (by decide) (fun _ _ h => by rw [h.1]; rfl) (fun _ U U' hal hh h => ⟨h.1, h.2.1.mv hal hh, h.2.2.1.mv hal hh, h.2.2.2.1.there hal hh, h.2.2.2.2⟩) (fun r U U' V V' h1 hal h2 h => Says01.mv r U U' V V' h1 hal h2 h) ?_
  intro p e s m args below meth c s₁ X0 hexec hbytes hml hret hlk hnm hown hh0 W hP
  obtain ⟨rfl, hx, hy, s1, hz⟩ := hP
  have c1 : Steps p.tables e below (s₁.setTop (entryFrame m #[.ref x, .ref y] 3)) (s₁.setTop (mkF m 2 #[.val (.ref x), .val (.ref y), .unset] [.ref y, .ref x])) := Steps.trans (entry rfl) (by
    show Steps p.tables e below (s₁.setTop (mkF m 0 #[.val (.ref x), .val (.ref y), .unset] [])) _
    refine XS.aloadN X0.here hexec rfl (hb hbytes d0) rfl rfl ?_
    refine XS.aloadN X0.here hexec rfl (hb hbytes d1) rfl rfl ?_
    exact Steps.refl _)
  by_cases hxy : x = y
  · have c2 : Steps p.tables e below (s₁.setTop (entryFrame m #[.ref x, .ref y] 3)) (s₁.setTop (mkF m 6 #[.val (.ref x), .val (.ref y), .unset] [.int 1])) := c1.trans (by
      refine acmpNo X0.here hexec rfl (hb hbytes d2) rfl rfl rfl (by simp [acmp, hxy]) ?_
      refine iconstV X0.here hexec rfl 1 (hb hbytes d5) (by decide) ?_
      exact Steps.refl _)
    subst hxy
    have ec : cd = cd' := by
      obtain ⟨D, fd, a1, a2, a3⟩ := hx.2.2.1
      obtain ⟨D', fd', b1, b2, b3⟩ := hy.2.2.1
      cases a1.symm.trans b1
      obtain ⟨q1, q2, q3, q4⟩ := a2.1
      obtain ⟨r1, r2, r3, r4⟩ := b2.1
      cases q4.symm.trans r4
      cases a3.symm.trans b3; rfl
    have et : t = t' := by
      obtain ⟨D, fd, a1, a2, a3⟩ := hx.2.1
      obtain ⟨D', fd', b1, b2, b3⟩ := hy.2.1
      cases a1.symm.trans b1
      obtain ⟨q1, q2, q3, q4⟩ := a2.1
      obtain ⟨r1, r2, r3, r4⟩ := b2.1
      cases q4.symm.trans r4
      cases a3.symm.trans b3; rfl
    subst ec et
    have ev : V = V' := by cases hx.2.2.2.1.1.symm.trans hy.2.2.2.1.1; rfl
    subst ev
    have hs : SameT n f k g := (Cod.eqv hx.2.2.2.2.1 hy.2.2.2.2.1 hx.2.2.2.2.2 hy.2.2.2.2.2).mp ⟨rfl, fun _ _ => rfl⟩
    exact ⟨s₁, some (.int 1), _, _, _, X0, rfl, rfl, rfl, (fun h => by cases h), ⟨1, rfl, hh0, Or.inl ⟨rfl, hs⟩⟩, fun fs hl => c2.trans (X0.ireturnOut hexec hret rfl (Or.inr (Or.inl rfl)) (hb hbytes d6) hl)⟩
  · have c2 : Steps p.tables e below (s₁.setTop (entryFrame m #[.ref x, .ref y] 3)) (s₁.setTop (mkF m 8 #[.val (.ref x), .val (.ref y), .unset] [.ref y])) := c1.trans (by
      refine acmpYes X0.here hexec rfl (pc0 := 2) rfl (hb hbytes d2) rfl rfl rfl (by simp [acmp, hxy]) (by decide) rfl ?_
      refine XS.aloadN X0.here hexec rfl (hb hbytes d7) rfl rfl ?_
      exact Steps.refl _)
    obtain ⟨T3, X3, q3, st3⟩ := cinst X0 hexec hown (wk W (.classLink "java/lang/String" 10 "java/lang/String")) (hy.mv X0.warmed.alike hh0).1 (g := (mkF m 8 #[.val (.ref x), .val (.ref y), .unset] [.ref y])) rfl (rest := []) rfl (hb hbytes d8)
    have hh3 := q3.trans hh0
    have c4 : Steps p.tables e below (s₁.setTop (entryFrame m #[.ref x, .ref y] 3)) (T3.setTop (mkF m 15 #[.val (.ref x), .val (.ref y), .unset] [.ref y])) := (c2.trans (st3 _ (Steps.refl _))).trans (by
      refine XS.ifNo X3.here hexec rfl (hb hbytes d11) rfl (i0_eq_f (by decide)) ?_
      refine XS.aloadN X3.here hexec rfl (hb hbytes d14) rfl rfl ?_
      exact Steps.refl _)
    obtain ⟨T5, X5, q5, st5⟩ := cself X3 hexec hown (wk W (.classLink "java/lang/String" 10 "java/lang/String")) (hy.mv X3.warmed.alike hh3).1 (g := (mkF m 15 #[.val (.ref x), .val (.ref y), .unset] [.ref y])) rfl (rest := []) rfl (hb hbytes d15)
    have hh5 := q5.trans hh3
    have c6 : Steps p.tables e below (s₁.setTop (entryFrame m #[.ref x, .ref y] 3)) (T5.setTop (mkF m 19 #[.val (.ref x), .val (.ref y), .val (.ref y)] [])) := (c4.trans (st5 _ (Steps.refl _))).trans (by
      refine XS.astoreN X5.here hexec rfl (hb hbytes d18) rfl rfl rfl ?_
      exact Steps.refl _)
    obtain ⟨T7, X7, q7, st7⟩ := X5.sget hexec hown (wk W (.fieldLink "java/lang/String" 38 "java/lang/String" "COMPACT_STRINGS" "Z")) s1 (fun _ _ h => by rw [hh5]; exact h) (g := (mkF m 19 #[.val (.ref x), .val (.ref y), .val (.ref y)] [])) rfl (hb hbytes d19)
    have hh7 := q7.trans hh5
    have c8 : Steps p.tables e below (s₁.setTop (entryFrame m #[.ref x, .ref y] 3)) (T7.setTop (mkF m 26 #[.val (.ref x), .val (.ref y), .val (.ref y)] [.ref x])) := (c6.trans (st7 _ (Steps.refl _))).trans (by
      refine XS.ifNo X7.here hexec rfl (hb hbytes d22) rfl (i0_eq_f hz) ?_
      refine XS.aloadN X7.here hexec rfl (hb hbytes d25) rfl rfl ?_
      exact Steps.refl _)
    obtain ⟨T9, X9, q9, st9⟩ := X7.hget hexec hown (wk W (.fieldLink "java/lang/String" 15 "java/lang/String" "coder" "B")) (hx.mv X7.warmed.alike hh7).2.2.1 (g := (mkF m 26 #[.val (.ref x), .val (.ref y), .val (.ref y)] [.ref x])) rfl (rest := []) rfl (hb hbytes d26)
    have hh9 := q9.trans hh7
    have c10 : Steps p.tables e below (s₁.setTop (entryFrame m #[.ref x, .ref y] 3)) (T9.setTop (mkF m 30 #[.val (.ref x), .val (.ref y), .val (.ref y)] [.ref y, .int cd])) := (c8.trans (st9 _ (Steps.refl _))).trans (by
      refine XS.aloadN X9.here hexec rfl (hb hbytes d29) rfl rfl ?_
      exact Steps.refl _)
    obtain ⟨T11, X11, q11, st11⟩ := X9.hget hexec hown (wk W (.fieldLink "java/lang/String" 15 "java/lang/String" "coder" "B")) (hy.mv X9.warmed.alike hh9).2.2.1 (g := (mkF m 30 #[.val (.ref x), .val (.ref y), .val (.ref y)] [.ref y, .int cd])) rfl (rest := [.int cd]) rfl (hb hbytes d30)
    have hh11 := q11.trans hh9
    have c12 : Steps p.tables e below (s₁.setTop (entryFrame m #[.ref x, .ref y] 3)) (T11.setTop (mkF m 33 #[.val (.ref x), .val (.ref y), .val (.ref y)] [.int cd', .int cd])) := c10.trans (st11 _ (Steps.refl _))
    by_cases hcd : cd = cd'
    · subst hcd
      have c13 : Steps p.tables e below (s₁.setTop (entryFrame m #[.ref x, .ref y] 3)) (T11.setTop (mkF m 37 #[.val (.ref x), .val (.ref y), .val (.ref y)] [.ref x])) := c12.trans (by
        refine XS.icmpNo X11.here hexec rfl (hb hbytes d33) rfl (ii_ne_f rfl) ?_
        refine XS.aloadN X11.here hexec rfl (hb hbytes d36) rfl rfl ?_
        exact Steps.refl _)
      obtain ⟨T14, X14, q14, st14⟩ := X11.hget hexec hown (wk W (.fieldLink "java/lang/String" 9 "java/lang/String" "value" "[B")) (hx.mv X11.warmed.alike hh11).2.1 (g := (mkF m 37 #[.val (.ref x), .val (.ref y), .val (.ref y)] [.ref x])) rfl (rest := []) rfl (hb hbytes d37)
      have hh14 := q14.trans hh11
      have c15 : Steps p.tables e below (s₁.setTop (entryFrame m #[.ref x, .ref y] 3)) (T14.setTop (mkF m 41 #[.val (.ref x), .val (.ref y), .val (.ref y)] [.ref y, .ref t])) := (c13.trans (st14 _ (Steps.refl _))).trans (by
        refine XS.aloadN X14.here hexec rfl (hb hbytes d40) rfl rfl ?_
        exact Steps.refl _)
      obtain ⟨T16, X16, q16, st16⟩ := X14.hget hexec hown (wk W (.fieldLink "java/lang/String" 9 "java/lang/String" "value" "[B")) (hy.mv X14.warmed.alike hh14).2.1 (g := (mkF m 41 #[.val (.ref x), .val (.ref y), .val (.ref y)] [.ref y, .ref t])) rfl (rest := [.ref t]) rfl (hb hbytes d41)
      have hh16 := q16.trans hh14
      have c17 : Steps p.tables e below (s₁.setTop (entryFrame m #[.ref x, .ref y] 3)) (T16.setTop (mkF m 44 #[.val (.ref x), .val (.ref y), .val (.ref y)] [.ref t', .ref t])) := c15.trans (st16 _ (Steps.refl _))
      obtain ⟨v18, T18, X18, E18, g18⟩ := X16.callS hexec (LEq.law l t V t' V') hown (wks W (staticW "java/lang/String" 541 LEq.yN)) (wk W LEq.tab) (W := 0) (Nat.le_of_ble_eq_true rfl) (Nat.le_of_ble_eq_true rfl) (Nat.le_refl _) (Nat.le_refl _) (g := (mkF m 44 #[.val (.ref x), .val (.ref y), .val (.ref y)] [.ref t', .ref t])) rfl (by rw [hml]; rfl) c17 (argsL := [.ref t, .ref t']) (rest := []) rfl rfl (by show 2 * 0 + 0 ≤ _; decide) (hb hbytes d44) (⟨rfl, hx.2.2.2.1.mv X16.warmed.alike hh16, hx.2.2.2.2.1.ty, hy.2.2.2.1.mv X16.warmed.alike hh16, hy.2.2.2.2.1.ty⟩)
      obtain ⟨v, rfl, q18, hv⟩ := E18
      have iff := Cod.eqv hx.2.2.2.2.1 hy.2.2.2.2.1 hx.2.2.2.2.2 hy.2.2.2.2.2
      rcases hv with ⟨rfl, he⟩ | ⟨rfl, he⟩
      · have c19 : Steps p.tables e below (s₁.setTop (entryFrame m #[.ref x, .ref y] 3)) (T18.setTop (mkF m 55 #[.val (.ref x), .val (.ref y), .val (.ref y)] [.int 1])) := Steps.trans g18 (by
          refine XS.ifNo X18.here hexec rfl (hb hbytes d47) rfl (i0_eq_f (by decide)) ?_
          refine iconstV X18.here hexec rfl 1 (hb hbytes d50) (by decide) ?_
          refine XS.goto X18.here hexec rfl (pc0 := 51) rfl (hb hbytes d51) (by decide) rfl ?_
          exact Steps.refl _)
        exact ⟨T18, some (.int 1), _, _, _, X18, rfl, rfl, rfl, (fun h => by cases h), ⟨1, rfl, q18.trans hh16, Or.inl ⟨rfl, iff.mp he⟩⟩, fun fs hl => c19.trans (X18.ireturnOut hexec hret rfl (Or.inr (Or.inl rfl)) (hb hbytes d55) hl)⟩
      · have c19 : Steps p.tables e below (s₁.setTop (entryFrame m #[.ref x, .ref y] 3)) (T18.setTop (mkF m 55 #[.val (.ref x), .val (.ref y), .val (.ref y)] [.int 0])) := Steps.trans g18 (by
          refine XS.ifYes X18.here hexec rfl (pc0 := 47) rfl (hb hbytes d47) rfl (i0_eq_t rfl) (by decide) rfl ?_
          refine iconstV X18.here hexec rfl 0 (hb hbytes d54) (by decide) ?_
          exact Steps.refl _)
        exact ⟨T18, some (.int 0), _, _, _, X18, rfl, rfl, rfl, (fun h => by cases h), ⟨0, rfl, q18.trans hh16, Or.inr ⟨rfl, fun q => he (iff.mpr q)⟩⟩, fun fs hl => c19.trans (X18.ireturnOut hexec hret rfl (Or.inr (Or.inl rfl)) (hb hbytes d55) hl)⟩
    · have c13 : Steps p.tables e below (s₁.setTop (entryFrame m #[.ref x, .ref y] 3)) (T11.setTop (mkF m 55 #[.val (.ref x), .val (.ref y), .val (.ref y)] [.int 0])) := c12.trans (by
        refine XS.icmpYes X11.here hexec rfl (pc0 := 33) rfl (hb hbytes d33) rfl (ii_ne_t hcd) (by decide) rfl ?_
        refine iconstV X11.here hexec rfl 0 (hb hbytes d54) (by decide) ?_
        exact Steps.refl _)
      exact ⟨T11, some (.int 0), _, _, _, X11, rfl, rfl, rfl, (fun h => by cases h), ⟨0, rfl, hh11, Or.inr ⟨rfl, Cod.dif hx.2.2.2.2.1 hy.2.2.2.2.1 hcd⟩⟩, fun fs hl => c13.trans (X11.ireturnOut hexec hret rfl (Or.inr (Or.inl rfl)) (hb hbytes d55) hl)⟩
theorem pays {l : Launch} {R : Room} {p : Program} {e : Env} {below : List Frame} {s : State} {sargs : Array Value} {len W : Nat} (x t : Addr) (V : Cell) (cd : Int32) (n : Nat) (f : Nat → Int32) (y t' : Addr) (V' : Cell) (cd' : Int32) (k : Nat) (g : Nat → Int32) (z : Int32) (htab : tab.before sargs s = true) (hfr : 2 ≤ R.frames) (hlo : W + 28 ≤ R.locals) :
    Back l R p e below s sargs yN len W (fun A₁ a₁ => A₁.cells + 0 ≤ R.cells ∧ A₁.slots + 0 ≤ R.slots ∧ P x t V cd n f y t' V' cd' k g z a₁ A₁.U) (fun A₁ _ v₁ B₁ => Says01 (SameT n f k g) v₁ A₁.U B₁.U ∧ B₁.locs = A₁.locs ++ [] ∧ B₁.cells = A₁.cells + 0 ∧ B₁.slots = A₁.slots + 0) :=
  (law l x t V cd n f y t' V' cd' k g z).pays htab hfr (by omega)
end SEq
end StrChars
namespace StrChars.Road
open Jvm Sem ClassFile Op Lib Jvm.Stand Jvm.Free Jvm.Free.XT
open Jvm.Lib.Cold (StaticIs)
/-- the words of String.equals(Object) -/
abbrev wordsEq : List Jvm.Cond := [.code SEq.yN SEq.yB 3 (some .boolean), .initialized ST, .classLink ST 10 ST, .fieldLink ST 38 ST "COMPACT_STRINGS" "Z", .fieldLink ST 15 ST "coder" "B", .fieldLink ST 9 ST "value" "[B", .methodLink ST 541 LEq.yN, .static LEq.yN, .code LEq.yN LEq.yB 3 (some .boolean), .initialized "java/lang/StringLatin1"]
theorem tabEq_of {a : Array Value} {s : State} (h : ∀ w ∈ wordsEq, w.before a s = true) : SEq.tab.before a s = true := by
  have hl : LEq.tab.before a s = true := unparts (wk h (.code LEq.yN LEq.yB 3 (some .boolean))) (wks h (.initialized LEq.yN.cls :: LEq.site))
  have q := consq hl h
  exact unparts (wk q (.code SEq.yN SEq.yB 3 (some .boolean))) (wks q (.initialized SEq.yN.cls :: SEq.site))
theorem movedEq {Z s : State} {a0 args : Array Value} (hZ : Z.Warmed39 s.vm) (hw : ∀ d ∈ wordsEq, d.before a0 Z = true) : ∀ d ∈ wordsEq, d.before args s = true := fun d hd => by
  have t : ∀ d ∈ wordsEq, (d.onTables && d.keepsFace) = true := by decide +kernel
  exact RoadKit.mv hZ (hw d hd) (t d hd)
/-- the road's facts of a String, as the laws ask it -/
theorem txt_of {Z U : State} {a0 : Array Value} {kI : Nat} (wi : (Jvm.Cond.instantiable ST kI).before a0 Z = true) (al : Z.vm.Alike U.vm) {x t : Addr} {kb : ClassId} {cs : List Int32} {cd N2 : Int32} {vs : List Value} (E : RoadKit.Exa Z U.heap x ST) (V : RoadKit.Fld Z U.heap x ST "value" "[B" (.ref t)) (C : RoadKit.Fld Z U.heap x ST "coder" "B" (.int cd)) (K : RoadKit.Arv Z U.heap t kb .byte N2 vs (.int 0)) (hc : CodA cs cd N2 vs) (hb : ∀ c ∈ cs, ¬ c < 0 ∧ ¬ (65535 : Int32) < c) (l2 : cs.length ≤ 4000) :
    ∃ A, Txt x t A cd cs.length (fun j => cs.getD j 0) U := by
  obtain ⟨A, K1, K2, K3, K4, K5, K6⟩ := K
  have hcod := hc.cod (by omega) K3 K5
  obtain ⟨D, fV, fC, hB, F1, F2, g1, g2, -, -⟩ := strObj wi al E V C
  exact ⟨A, ⟨_, hB.2.2.1, D, hB.1, rfl, by cases q : D.vm <;> first | rfl | exact absurd q (hB.2.1.2 _)⟩, Has.of hB F1 g1, Has.of hB F2 g2, ⟨K1.1, State.isArrayOf_alike al K1.2.1, K1.2.2, by rcases hcod with ⟨-, q, -⟩ | ⟨-, q, -⟩ <;> omega⟩, hcod, fun j hj => by
    have e : cs.getD j 0 = cs[j] := by simp [List.getD_eq_getElem?_getD, hj]
    show ¬ cs.getD j 0 < 0 ∧ ¬ 65535 < cs.getD j 0
    rw [e]; exact hb _ (List.getElem_mem _)⟩
theorem same_list (cs ds : List Int32) : SameT cs.length (fun j => cs.getD j 0) ds.length (fun j => ds.getD j 0) ↔ cs = ds := by
  constructor
  · rintro ⟨e, q⟩
    refine List.ext_getElem e fun j h1 h2 => ?_
    have := q j h1
    simpa [List.getD_eq_getElem?_getD, h1, h2] using this
  · rintro rfl
    exact ⟨rfl, fun _ _ => rfl⟩
/-- **equals(Object) OF TWO SUCH STRINGS**: 1 just where the chars are the same -/
theorem eqW {p : Program} {l : Launch} {e : Env} {R : Room} {s : State} {args : Array Value} {below : List Frame} {len W : Nat} {Z : State} {a0 : Array Value} {h : Heap} (hZ : Z.Warmed39 s.vm) (hw : ∀ d ∈ wordsEq, d.before a0 Z = true) {kI : Nat} (wi : (Jvm.Cond.instantiable ST kI).before a0 Z = true)
    {x t : Addr} {kb : ClassId} {cs : List Int32} {cd N2 : Int32} {vs : List Value} (E : RoadKit.Exa Z h x ST) (V : RoadKit.Fld Z h x ST "value" "[B" (.ref t)) (C : RoadKit.Fld Z h x ST "coder" "B" (.int cd)) (K : RoadKit.Arv Z h t kb .byte N2 vs (.int 0)) (hc : CodA cs cd N2 vs) (hb : ∀ c ∈ cs, ¬ c < 0 ∧ ¬ (65535 : Int32) < c) (l2 : cs.length ≤ 4000)
    {y t' : Addr} {kb' : ClassId} {ds : List Int32} {cd' N2' : Int32} {vs' : List Value} (E' : RoadKit.Exa Z h y ST) (V' : RoadKit.Fld Z h y ST "value" "[B" (.ref t')) (C' : RoadKit.Fld Z h y ST "coder" "B" (.int cd')) (K' : RoadKit.Arv Z h t' kb' .byte N2' vs' (.int 0)) (hc' : CodA ds cd' N2' vs') (hb' : ∀ c ∈ ds, ¬ c < 0 ∧ ¬ (65535 : Int32) < c) (l2' : ds.length ≤ 4000)
    {z : Int32} (S : RoadKit.Sta Z h ST "COMPACT_STRINGS" "Z" (.int z)) (hz : ¬ z = 0) (hfr : 2 ≤ R.frames) (hlo : W + 28 ≤ R.locals) :
    Back l R p e below s args (⟨"java/lang/String", "equals", "(Ljava/lang/Object;)Z"⟩ : MethodName) len W (fun P a => a = #[.ref x, .ref y] ∧ P.U.heap = h ∧ P.cells + 0 ≤ R.cells ∧ P.slots + 0 ≤ R.slots)
      (fun P _ v B => ∃ L, (((v = some (.int 1) ∧ cs = ds) ∨ (v = some (.int 0) ∧ ¬ cs = ds)) ∧ L = [] ∧ B.U.heap = h) ∧ B.locs = P.locs ++ L ∧ B.cells = P.cells + 0 ∧ B.slots = P.slots + 0) := by
  intro m meth c P g ig mk a X hg hsize hdg hW hn hp'
  obtain ⟨rfl, rfl, r1, r2⟩ := hp'
  have al : Z.vm.Alike P.U.vm := hZ.alike.trans X.warmed.alike
  obtain ⟨A, hx⟩ := txt_of wi al E V C K hc hb l2
  obtain ⟨A', hy⟩ := txt_of wi al E' V' C' K' hc' hb' l2'
  obtain ⟨v, B, X', ⟨⟨w, hv, hh, hq⟩, hl, hk, hs⟩, st⟩ := SEq.pays x t A cd cs.length (fun j => cs.getD j 0) y t' A' cd' ds.length (fun j => ds.getD j 0) z (tabEq_of (movedEq hZ hw)) hfr hlo m meth c P g ig mk _ X hg hsize hdg hW hn ⟨r1, r2, rfl, hx, hy, sta_is al S, hz⟩
  refine ⟨v, B, X', ⟨[], ⟨?_, rfl, hh⟩, hl, hk, hs⟩, st⟩
  rcases hq with ⟨rfl, q⟩ | ⟨rfl, q⟩
  · exact Or.inl ⟨hv, (same_list cs ds).mp q⟩
  · exact Or.inr ⟨hv, fun e => q ((same_list cs ds).mpr e)⟩
end StrChars.Road
namespace StrChars.Road
open Jvm Sem ClassFile Op Lib Jvm.Stand Jvm.Free Jvm.Free.XT
open Jvm.Lib.Cold (StaticIs)
/-- what backV says of its String, as the contracts of this text ask it: cs's low bytes, coder 0 -/
theorem codOf {cs : List Int32} {n : Nat} (hn : cs.length = n) (hb : ∀ c ∈ cs, ¬ 255 < c) : CodA cs 0 (Int32.ofNat n) ((cs.map lo8).map Value.int) := Or.inl ⟨rfl, by rw [hn], by simp [List.map_map, Function.comp_def], hb⟩
end StrChars.Road
end Jvm.Pilot.@@N@@

namespace Jvm.Pilot.@@N@@
open Jvm Jvm.ClassFile Sem Op Lib Jvm.Free Jvm.Stand Jvm.LawKit Jvm.RoadKit Bundle Jvm.Pilot.@@N@@.Jvm.D Jvm.Wk9
theorem own_mask255 (x : Int32) : ¬ (x &&& 255) < 0 ∧ ¬ (255 : Int32) < (x &&& 255) := by
  have h := c_and x 255 (by decide)
  have e : (255 : Int32).toInt = 255 := by decide
  rw [e] at h
  refine ⟨fun q => ?_, fun q => ?_⟩
  · have := Int32.lt_iff_toInt_lt.mp q
    have e0 : (0 : Int32).toInt = 0 := by decide
    omega
  · have := Int32.lt_iff_toInt_lt.mp q
    omega
theorem own_narc {x : Int32} (h : ¬ x < 0 ∧ ¬ (255 : Int32) < x) : nar .char x = x := by
  have h1 := h.1
  have h2 := h.2
  rw [Int32.lt_iff_toInt_lt] at h1 h2
  have e0 : (0 : Int32).toInt = 0 := by decide
  have e1 : (255 : Int32).toInt = 255 := by decide
  have k := c_i2c x
  apply Int32.toInt_inj.mp
  show (x.toUInt32.toUInt16.toUInt32.toInt32).toInt = x.toInt
  omega
theorem own_all0 {P : Int32 → Prop} : ∀ c ∈ ([] : List Int32), P c := fun _ h => nomatch h
theorem own_allS {P : Int32 → Prop} {y : Int32} {L : List Int32} (q : P y) (r : ∀ c ∈ L, P c) : ∀ c ∈ y :: L, P c := fun c h => by
  rcases List.mem_cons.mp h with rfl | h
  · exact q
  · exact r c h
theorem own_narb (x : Int32) : nar .byte x.toInt8.toInt32 = x.toInt8.toInt32 := by
  show x.toInt8.toInt32.toInt8.toInt32 = x.toInt8.toInt32
  simp
/-- new String(char[]) of chars 0 to 255, at least one -/
theorem g_newStr {wd : Bool} {p : Program} {l : Launch} {e : Env} {R : Room} {s : State} {m : MethodId} {args : Array Value} {below : List Frame} {meth : Method} {c : Code} {Z : State} {a0 : Array Value} {EL : List (String × Nat)} {Q : Option Value → Heap → Prop} {kc ks : Nat} {m0 mine : List Addr} {h : Heap} {locs : List Loc} {cells slots : Nat} {own nm : String} {bytes : ByteArray} {ml : Nat} {ret : Option FieldType} {pc : Nat} {Ls : Array Slot} {idx kI : Nat} {x b : Addr} {cs : List Int32} {v0 c0 : Value} {z : Int32} (n : Nat) (rest : List Value) (W : Nat) (C : Cx wd p s m meth c Z a0 EL own bytes ml ret nm) (hd : decode bytes pc = .ok (.invokespecial idx, 3)) (hws : ∀ d ∈ StrChars.Road.words, d.before a0 Z = true) (wi : (Jvm.Cond.instantiable "java/lang/String" kI).before a0 Z = true)
    (w1 : (Jvm.Cond.methodLink own idx ⟨"java/lang/String", "<init>", "([C)V"⟩).before a0 Z = true) (w2 : (Jvm.Cond.instanceMethod ⟨"java/lang/String", "<init>", "([C)V"⟩).before a0 Z = true) (w4 : (Jvm.Cond.code ⟨"java/lang/String", "<init>", "([C)V"⟩ StrChars.New1.yB 2 none).before a0 Z = true)
    (E : Exa Z h x "java/lang/String") (F1 : Fld Z h x "java/lang/String" "value" "[B" v0) (F2 : Fld Z h x "java/lang/String" "coder" "B" c0) (A : Av Z h b .char (cs.map Value.int)) (S : Sta Z Z.heap "java/lang/String" "COMPACT_STRINGS" "Z" (.int z)) (hz : ¬ z = 0)
    (hn : cs.length = n) (l0 : 0 < n) (l2 : n ≤ 4000) (hp : ∀ c ∈ cs, ¬ c < 0 ∧ ¬ (255 : Int32) < c) (hsz : Ls.size = ml) (hW : (rest.map fun v => v.category).sum ≤ W) (hf : 4 ≤ R.frames) (hl : W + 65 ≤ R.locals) (hc : cells + 1 ≤ R.cells) (hs : slots + n ≤ R.slots) (hm : x ∈ mine)
    (nx : ∀ (t : Addr) (h' : Heap) (L : List Loc), h.size ≤ t → t < h'.size → Str Z h' x t cs → Keep h h' [x] → Go wd p l e R s m args below meth c Z EL Q kc ks m0 mine h' (locs ++ L) (cells + 1) (slots + n) (mkF m (pc + 3) Ls rest)) :
    Go wd p l e R s m args below meth c Z EL Q kc ks m0 mine h locs cells slots (mkF m pc Ls (.ref b :: .ref x :: rest)) := by
  refine Go.know fun ho _ hmm => ?_
  obtain ⟨kC, A'⟩ := Arv.of_av (d := .int 0) A
  have hl1 : (cs.map Value.int).length = n := by simp [hn]
  rw [hl1] at A'
  refine g_specialB (mine' := [x]) (as' := #[.ref x, .ref b]) [.ref b] rest W C hd rfl w1 w2 w4 (by decide) (fun vm0 hZ hold => StrChars.Road.backV (s := s.setVm vm0) (W := W) (n0 := Z.heap.size) hZ hws wi (hmm x hm).2 hold.1 E F1 F2 A' (S.ext hold) hz hn rfl l0 l2 hp rfl hf hl) rfl (lenOf (ps := [.array .char]) (r := none) (by decide +kernel) rfl) rfl hsz hW hc hs (fun v h' L q => ⟨q.2.2.1, q.2.1⟩) (fun y hy => by rw [List.mem_singleton.mp hy]; exact hm) (fun v h' L q K => ?_)
  obtain ⟨rfl, -, -, q1, q2, t, kb, -, q3, q4, q5, q6⟩ := q
  have hav : Av Z h' t .byte ((cs.map fun c => c.toInt8.toInt32).map Value.int) := Av.of_arv q6 (by rw [(toNat_ofNat (n := n) (by omega)).1]; simp [hn])
  refine nx t h' L q3 hav.lt ⟨q1, q2, q5, ?_⟩ K
  rw [List.map_map] at hav
  exact hav
theorem own_hws {Z : State} {a0 : Array Value} (hw : ∀ d ∈ tables_1, d.before a0 Z = true) : ∀ d ∈ StrChars.Road.words, d.before a0 Z = true := fun d hd => hw d ((by decide +kernel : ∀ d ∈ StrChars.Road.words, d ∈ tables_1) d hd)
/-- equals of two such Strings -/
theorem g_strEq {wd : Bool} {p : Program} {l : Launch} {e : Env} {R : Room} {s : State} {m : MethodId} {args : Array Value} {below : List Frame} {meth : Method} {c : Code} {Z : State} {a0 : Array Value} {EL : List (String × Nat)} {Q : Option Value → Heap → Prop} {kc ks : Nat} {m0 mine : List Addr} {h : Heap} {locs : List Loc} {cells slots : Nat} {own nm : String} {bytes : ByteArray} {ml : Nat} {ret : Option FieldType} {pc : Nat} {Ls : Array Slot} {idx kI : Nat} {x y t t' : Addr} {cs ds : List Int32} {z : Int32} (rest : List Value) (W : Nat) (C : Cx wd p s m meth c Z a0 EL own bytes ml ret nm) (hd : decode bytes pc = .ok (.invokevirtual idx, 3)) (hws : ∀ d ∈ StrChars.Road.wordsEq, d.before a0 Z = true) (wi : (Jvm.Cond.instantiable "java/lang/String" kI).before a0 Z = true)
    (w1 : (Jvm.Cond.methodLink own idx ⟨"java/lang/String", "equals", "(Ljava/lang/Object;)Z"⟩).before a0 Z = true) (w5 : (Jvm.Cond.declares ⟨"java/lang/String", "equals", "(Ljava/lang/Object;)Z"⟩).before a0 Z = true) (w6 : (Jvm.Cond.selects "java/lang/String" ⟨"java/lang/String", "equals", "(Ljava/lang/Object;)Z"⟩ ⟨"java/lang/String", "equals", "(Ljava/lang/Object;)Z"⟩).before a0 Z = true) (w2 : (Jvm.Cond.instanceMethod ⟨"java/lang/String", "equals", "(Ljava/lang/Object;)Z"⟩).before a0 Z = true)
    (E : Str Z h x t cs) (E' : Str Z h y t' ds) (S : Sta Z Z.heap "java/lang/String" "COMPACT_STRINGS" "Z" (.int z)) (hz : ¬ z = 0) (l1 : cs.length ≤ 4000) (l2 : ds.length ≤ 4000) (hp : ∀ c ∈ cs, ¬ c < 0 ∧ ¬ (255 : Int32) < c) (hp' : ∀ c ∈ ds, ¬ c < 0 ∧ ¬ (255 : Int32) < c)
    (hsz : Ls.size = ml) (hW : (rest.map fun v => v.category).sum ≤ W) (hf : 2 ≤ R.frames) (hl : W + 28 ≤ R.locals) (hc : cells ≤ R.cells) (hs : slots ≤ R.slots)
    (yes : cs = ds → Go wd p l e R s m args below meth c Z EL Q kc ks m0 mine h (locs ++ []) (cells + 0) (slots + 0) (mkF m (pc + 3) Ls (.int 1 :: rest))) (no : ¬ cs = ds → Go wd p l e R s m args below meth c Z EL Q kc ks m0 mine h (locs ++ []) (cells + 0) (slots + 0) (mkF m (pc + 3) Ls (.int 0 :: rest))) :
    Go wd p l e R s m args below meth c Z EL Q kc ks m0 mine h locs cells slots (mkF m pc Ls (.ref y :: .ref x :: rest)) := by
  obtain ⟨e1, e2, e3, e4⟩ := E
  obtain ⟨f1, f2, f3, f4⟩ := E'
  obtain ⟨k1, A1⟩ := Arv.of_av (d := .int 0) e4
  obtain ⟨k2, A2⟩ := Arv.of_av (d := .int 0) f4
  have up : ∀ {L : List Int32}, (∀ c ∈ L, ¬ c < 0 ∧ ¬ (255 : Int32) < c) → ∀ c ∈ L, ¬ c < 0 ∧ ¬ (65535 : Int32) < c := fun hL c hc => ⟨(hL c hc).1, fun q => (hL c hc).2 (by have := Int32.lt_iff_toInt_lt.mp q; apply Int32.lt_iff_toInt_lt.mpr; simp at this ⊢; omega)⟩
  have cd : ∀ (L : List Int32), (∀ c ∈ L, ¬ c < 0 ∧ ¬ (255 : Int32) < c) → StrChars.Road.CodA L 0 (Int32.ofNat (L.map fun c => Value.int c.toInt8.toInt32).length) (L.map fun c => Value.int c.toInt8.toInt32) := fun L hL => by
    have q := StrChars.Road.codOf (cs := L) (n := L.length) rfl (fun c hc => (hL c hc).2)
    rw [List.map_map] at q
    rw [List.length_map]
    exact q
  refine g_virtualB (mine' := []) (as' := #[.ref x, .ref y]) (QB := fun v h' L => ((v = some (.int 1) ∧ cs = ds) ∨ (v = some (.int 0) ∧ ¬ cs = ds)) ∧ L = [] ∧ h' = h) (rc := 0) (rs := 0) [.ref y] rest W C hd w1 w5 w6 w2 (fun _ hZ => notFace_of_selects (args := #[]) (mvT hZ w6)) (by decide) e1 (fun vm0 hZ hold => StrChars.Road.eqW (s := s.setVm vm0) (W := W) hZ hws wi e1 e3 e2 A1 (cd cs hp) (up hp) l1 f1 f3 f2 A2 (cd ds hp') (up hp') l2 (S.ext hold) hz hf hl) rfl (lenOf (ps := [.object "java/lang/Object"]) (r := some .boolean) (by decide +kernel) rfl) rfl hsz hW hc hs (fun v h' L q => ⟨by rw [q.2.2]; exact Keep.refl _ _, by rw [q.2.1]; exact Fr.nil _⟩) all0 (fun v h' L q K => ?_)
  obtain ⟨q, rfl, rfl⟩ := q
  rcases q with ⟨rfl, q⟩ | ⟨rfl, q⟩
  · exact yes q
  · exact no q
theorem own_hwe {Z : State} {a0 : Array Value} (hw : ∀ d ∈ tables_1, d.before a0 Z = true) : ∀ d ∈ StrChars.Road.wordsEq, d.before a0 Z = true := fun d hd => hw d ((by decide +kernel : ∀ d ∈ StrChars.Road.wordsEq, d ∈ tables_1) d hd)
theorem pd0 : parseMethodDescriptor "([CIILjava/lang/Void;)V" = some ⟨[(.array .char), .int, .int, (.object "java/lang/Void")], none⟩ := by decide +kernel
theorem pd1 : parseMethodDescriptor "([C)V" = some ⟨[(.array .char)], none⟩ := by decide +kernel
theorem pd2 : parseMethodDescriptor "()B" = some ⟨[], some .byte⟩ := by decide +kernel
theorem pd3 : parseMethodDescriptor "(BB)Z" = some ⟨[.byte, .byte], some .boolean⟩ := by decide +kernel
theorem pd4 : parseMethodDescriptor "()I" = some ⟨[], some .int⟩ := by decide +kernel
theorem pd5 : parseMethodDescriptor "([BI[BII)Z" = some ⟨[(.array .byte), .int, (.array .byte), .int, .int], some .boolean⟩ := by decide +kernel
theorem pd6 : parseMethodDescriptor "(ZILjava/lang/String;II)Z" = some ⟨[.boolean, .int, (.object "java/lang/String"), .int, .int], some .boolean⟩ := by decide +kernel
theorem pd7 : parseMethodDescriptor "(Ljava/lang/String;)Z" = some ⟨[(.object "java/lang/String")], some .boolean⟩ := by decide +kernel
theorem pd8 : parseMethodDescriptor "(Ljava/lang/Object;)Z" = some ⟨[(.object "java/lang/Object")], some .boolean⟩ := by decide +kernel
theorem pd9 : parseMethodDescriptor "(ICC)Ljava/lang/String;" = some ⟨[.int, .char, .char], some (.object "java/lang/String")⟩ := by decide +kernel
theorem pd10 : parseMethodDescriptor "(Lcom/example/entidad/entidad/query/Token$Kind;Ljava/lang/String;Ljava/lang/Object;I)V" = some ⟨[(.object "com/example/entidad/entidad/query/Token$Kind"), (.object "java/lang/String"), (.object "java/lang/Object"), .int], none⟩ := by decide +kernel
theorem pd11 : parseMethodDescriptor "(C)I" = some ⟨[.char], some .int⟩ := by decide +kernel
theorem own_EW {Z : State} {a0 : Array Value} (hw : ∀ d ∈ tables_1, d.before a0 Z = true) : EW Z a0 [("java/lang/String", 7)] := EW.cons (hw _ (List.mem_of_getElem? (i := 37) rfl)) (by decide) (EW.nil)
theorem own_wS {Z : State} {a0 : Array Value} (hw : ∀ d ∈ tables_1, d.before a0 Z = true) : ∀ d ∈ Bundle.stringAtoms, d.before a0 Z = true := fun d hd => hw d ((by decide +kernel : ∀ d ∈ Bundle.stringAtoms, d ∈ tables_1) d hd)
theorem dS4_0 : decode jdk_42_method_149_code 0 = .ok (.aload_n 0, 1) := by decide +kernel
theorem dS4_1 : decode jdk_42_method_149_code 1 = .ok (.invokespecial 1, 3) := by decide +kernel
theorem dS4_4 : decode jdk_42_method_149_code 4 = .ok (.iload_n 3, 1) := by decide +kernel
theorem dS4_5 : decode jdk_42_method_149_code 5 = .ok (.ifCond .ne 22, 3) := by decide +kernel
theorem dS4_8 : decode jdk_42_method_149_code 8 = .ok (.aload_n 0, 1) := by decide +kernel
theorem dS4_9 : decode jdk_42_method_149_code 9 = .ok (.ldc 7, 2) := by decide +kernel
theorem dS4_11 : decode jdk_42_method_149_code 11 = .ok (.getfield 9, 3) := by decide +kernel
theorem dS4_14 : decode jdk_42_method_149_code 14 = .ok (.putfield 9, 3) := by decide +kernel
theorem dS4_17 : decode jdk_42_method_149_code 17 = .ok (.aload_n 0, 1) := by decide +kernel
theorem dS4_18 : decode jdk_42_method_149_code 18 = .ok (.ldc 7, 2) := by decide +kernel
theorem dS4_20 : decode jdk_42_method_149_code 20 = .ok (.getfield 15, 3) := by decide +kernel
theorem dS4_23 : decode jdk_42_method_149_code 23 = .ok (.putfield 15, 3) := by decide +kernel
theorem dS4_26 : decode jdk_42_method_149_code 26 = .ok (.return_, 1) := by decide +kernel
set_option maxRecDepth 65536 in
set_option maxHeartbeats 80000000 in
theorem m_str4 (l : Launch) (Z : State) (a0 : Array Value) {z0 : Int32} (hw : ∀ d ∈ tables_1, d.before a0 Z = true) (S0 : Sta Z Z.heap "java/lang/String" "COMPACT_STRINGS" "Z" (.int z0)) (hz0 : ¬ z0 = 0) {u0 u1 u2 u3 u4 u5 u6 : Addr} (S1 : Sta Z Z.heap "com/example/entidad/entidad/query/Token$Kind" "IDENTIFIER" "Lcom/example/entidad/entidad/query/Token$Kind;" (.ref u0)) (S2 : Sta Z Z.heap "com/example/entidad/entidad/query/Token$Kind" "STRING" "Lcom/example/entidad/entidad/query/Token$Kind;" (.ref u1)) (S3 : Sta Z Z.heap "com/example/entidad/entidad/query/Token$Kind" "NUMBER" "Lcom/example/entidad/entidad/query/Token$Kind;" (.ref u2)) (S4 : Sta Z Z.heap "com/example/entidad/entidad/query/Token$Kind" "NAMED_PARAMETER" "Lcom/example/entidad/entidad/query/Token$Kind;" (.ref u3)) (S5 : Sta Z Z.heap "com/example/entidad/entidad/query/Token$Kind" "POSITIONAL_PARAMETER" "Lcom/example/entidad/entidad/query/Token$Kind;" (.ref u4)) (S6 : Sta Z Z.heap "com/example/entidad/entidad/query/Token$Kind" "SYMBOL" "Lcom/example/entidad/entidad/query/Token$Kind;" (.ref u5)) (S7 : Sta Z Z.heap "com/example/entidad/entidad/query/Token$Kind" "END" "Lcom/example/entidad/entidad/query/Token$Kind;" (.ref u6)) (a b : Addr) (h : Heap) (E : Exa Z h a "java/lang/String") (F1 : Fld Z h a "java/lang/String" "value" "[B" .null) (F2 : Fld Z h a "java/lang/String" "coder" "B" (.int (0 : Int32))) :
    MetW true l Z [("java/lang/String", 7)] (⟨"java/lang/String", "<init>", "([CIILjava/lang/Void;)V"⟩ : MethodName) jdk_42_method_149_code 6 none [] ({ frames := 1, cells := 4, slots := 8, locals := 12 } : Room) #[(.ref a), (.ref b), (.int (0 : Int32)), (.int (0 : Int32)), .null] [a] h (fun v h' => v = none ∧ ∃ t : Addr, t < h'.size ∧ t ≠ a ∧ Str Z h' a t []) := by
  refine MetW.of (Ls := #[.val (.ref a), .val (.ref b), .val (.int (0 : Int32)), .val (.int (0 : Int32)), .val .null, .unset]) (a0 := a0) (by first | (simp [plainName, overriddenIn]; done) | decide +kernel) (fun m => by first | (simp [entryFrame, mkF, argsToLocals, Value.category]; done) | rfl) (own_EW hw) (fun q => nomatch q) (fun p_ e_ s_ m_ below_ meth_ c_ hs0 C => ?_)
  refine g_aloadN C dS4_0 rfl rfl ?_
  refine g_objInit C dS4_1 (hw _ (List.mem_of_getElem? (i := 34) rfl)) (hw _ (List.mem_of_getElem? (i := 35) rfl)) (hw _ (List.mem_of_getElem? (i := 36) rfl)) rfl (by decide) (Nat.le_of_ble_eq_true rfl) ?_
  refine g_iloadN C dS4_4 rfl ?_
  refine g_ifF C dS4_5 (show (0 : Int32) = (0 : Int32) by decide) ?_
  refine g_aloadN C dS4_8 rfl rfl ?_
  refine g_ldcStr (vs := []) (zl := 0) 0 C dS4_9 (hw _ (List.mem_of_getElem? (i := 37) rfl)) (own_wS hw) (List.mem_of_getElem? (i := 0) rfl) (by decide) (by decide) (by decide) (by decide) (by decide) (by decide) (by decide) (fun a1 a2 h3 E4 f5 f6 f7 f8 n9 => ?_)
  have K10 := keep_ext E4
  refine g_getfield (host := "") C dS4_11 (Or.inl (hw _ (List.mem_of_getElem? (i := 43) rfl))) Via.refl f7 ?_
  have f11 := (F1.keep K10 nin0)
  have f12 := (E.keep K10)
  have f13 := (F2.keep K10 nin0)
  refine g_putfield (host := "") C dS4_14 (Or.inl (hw _ (List.mem_of_getElem? (i := 43) rfl))) Via.refl f11 f12 (Or.inr ⟨(hw _ (List.mem_of_getElem? (i := 39) rfl)), rfl, rfl⟩) (hw _ (List.mem_of_getElem? (i := 24) rfl)) (ty := (.array .byte)) (by decide) rfl rfl (List.mem_of_getElem? (i := 0) rfl) (fun h14 W15 K16 => ?_)
  have f17 := Fld.same W15 f11
  have f18 := Fld.other W15 f13 (Or.inr (slot_ne (Or.inr (hw _ (List.mem_of_getElem? (i := 40) rfl))) (Or.inr (hw _ (List.mem_of_getElem? (i := 39) rfl))) (by decide) (t := .byte) (t' := (.array .byte)) (by decide) (by decide)))
  refine g_aloadN C dS4_17 rfl rfl ?_
  refine g_ldcStr (vs := []) (zl := 0) 0 C dS4_18 (hw _ (List.mem_of_getElem? (i := 37) rfl)) (own_wS hw) (List.mem_of_getElem? (i := 0) rfl) (by decide) (by decide) (by decide) (by decide) (by decide) (by decide) (by decide) (fun a19 a20 h21 E22 f23 f24 f25 f26 n27 => ?_)
  have K28 := keep_ext E22
  refine g_getfield (host := "") C dS4_20 (Or.inl (hw _ (List.mem_of_getElem? (i := 44) rfl))) Via.refl f24 ?_
  have f29 := (f18.keep K28 nin0)
  have f30 := ((f12.keep K16).keep K28)
  have f31 := (f17.keep K28 nin0)
  refine g_putfield (host := "") C dS4_23 (Or.inl (hw _ (List.mem_of_getElem? (i := 44) rfl))) Via.refl f29 f30 (Or.inr ⟨(hw _ (List.mem_of_getElem? (i := 40) rfl)), rfl, rfl⟩) (hw _ (List.mem_of_getElem? (i := 24) rfl)) (ty := .byte) (by decide) rfl rfl (List.mem_of_getElem? (i := 0) rfl) (fun h32 W33 K34 => ?_)
  have f35 := Fld.same W33 f29
  have f36 := Fld.other W33 f31 (Or.inr (slot_ne (Or.inr (hw _ (List.mem_of_getElem? (i := 39) rfl))) (Or.inr (hw _ (List.mem_of_getElem? (i := 40) rfl))) (by decide) (t := (.array .byte)) (t' := .byte) (by decide) (by decide)))
  have f37 := (f30.keep K34)
  have f38 := (((f8.keep K16 (ninS (Ne.symm (n9 _ (List.mem_of_getElem? (i := 0) rfl)).2) nin0)).keep K28 nin0).keep K34 (ninS (Ne.symm (n9 _ (List.mem_of_getElem? (i := 0) rfl)).2) nin0))
  exact g_retU C dS4_26 ⟨rfl, a2, (Nat.lt_of_lt_of_le f8.lt (Nat.le_trans (Nat.le_trans K16.1 K28.1) K34.1)), Ne.symm (n9 _ (List.mem_of_getElem? (i := 0) rfl)).2, f37, f35, f36, f38⟩ (by decide) (by decide)
theorem dS1_0 : decode jdk_42_method_3_code 0 = .ok (.aload_n 0, 1) := by decide +kernel
theorem dS1_1 : decode jdk_42_method_3_code 1 = .ok (.aload_n 1, 1) := by decide +kernel
theorem dS1_2 : decode jdk_42_method_3_code 2 = .ok (.iconst 0, 1) := by decide +kernel
theorem dS1_3 : decode jdk_42_method_3_code 3 = .ok (.aload_n 1, 1) := by decide +kernel
theorem dS1_4 : decode jdk_42_method_3_code 4 = .ok (.arraylength, 1) := by decide +kernel
theorem dS1_5 : decode jdk_42_method_3_code 5 = .ok (.aconst_null, 1) := by decide +kernel
theorem dS1_6 : decode jdk_42_method_3_code 6 = .ok (.invokespecial 27, 3) := by decide +kernel
theorem dS1_9 : decode jdk_42_method_3_code 9 = .ok (.return_, 1) := by decide +kernel
set_option maxRecDepth 65536 in
set_option maxHeartbeats 80000000 in
theorem m_str1 (l : Launch) (Z : State) (a0 : Array Value) {z0 : Int32} (hw : ∀ d ∈ tables_1, d.before a0 Z = true) (S0 : Sta Z Z.heap "java/lang/String" "COMPACT_STRINGS" "Z" (.int z0)) (hz0 : ¬ z0 = 0) {u0 u1 u2 u3 u4 u5 u6 : Addr} (S1 : Sta Z Z.heap "com/example/entidad/entidad/query/Token$Kind" "IDENTIFIER" "Lcom/example/entidad/entidad/query/Token$Kind;" (.ref u0)) (S2 : Sta Z Z.heap "com/example/entidad/entidad/query/Token$Kind" "STRING" "Lcom/example/entidad/entidad/query/Token$Kind;" (.ref u1)) (S3 : Sta Z Z.heap "com/example/entidad/entidad/query/Token$Kind" "NUMBER" "Lcom/example/entidad/entidad/query/Token$Kind;" (.ref u2)) (S4 : Sta Z Z.heap "com/example/entidad/entidad/query/Token$Kind" "NAMED_PARAMETER" "Lcom/example/entidad/entidad/query/Token$Kind;" (.ref u3)) (S5 : Sta Z Z.heap "com/example/entidad/entidad/query/Token$Kind" "POSITIONAL_PARAMETER" "Lcom/example/entidad/entidad/query/Token$Kind;" (.ref u4)) (S6 : Sta Z Z.heap "com/example/entidad/entidad/query/Token$Kind" "SYMBOL" "Lcom/example/entidad/entidad/query/Token$Kind;" (.ref u5)) (S7 : Sta Z Z.heap "com/example/entidad/entidad/query/Token$Kind" "END" "Lcom/example/entidad/entidad/query/Token$Kind;" (.ref u6)) (a b : Addr) (h : Heap) (E : Exa Z h a "java/lang/String") (F1 : Fld Z h a "java/lang/String" "value" "[B" .null) (F2 : Fld Z h a "java/lang/String" "coder" "B" (.int (0 : Int32))) (Ab : Av Z h b .char []) :
    MetW true l Z [("java/lang/String", 7)] (⟨"java/lang/String", "<init>", "([C)V"⟩ : MethodName) jdk_42_method_3_code 2 none [] ({ frames := 2, cells := 4, slots := 8, locals := 29 } : Room) #[(.ref a), (.ref b)] [a] h (fun v h' => v = none ∧ ∃ t : Addr, t < h'.size ∧ t ≠ a ∧ Str Z h' a t []) := by
  refine MetW.of (Ls := #[.val (.ref a), .val (.ref b)]) (a0 := a0) (by first | (simp [plainName, overriddenIn]; done) | decide +kernel) (fun m => by first | (simp [entryFrame, mkF, argsToLocals, Value.category]; done) | rfl) (own_EW hw) (fun q => nomatch q) (fun p_ e_ s_ m_ below_ meth_ c_ hs0 C => ?_)
  refine g_aloadN C dS1_0 rfl rfl ?_
  refine g_aloadN C dS1_1 rfl rfl ?_
  refine g_iconst (0 : Int32) C dS1_2 (by decide) ?_
  refine g_aloadN C dS1_3 rfl rfl ?_
  refine g_alen C dS1_4 Ab (z := (0 : Int32)) rfl ?_
  refine g_aconstNull C dS1_5 ?_
  refine g_invokespecial [(.ref b), (.int (0 : Int32)), (.int (0 : Int32)), .null] [] 0 C dS1_6 rfl (hw _ (List.mem_of_getElem? (i := 30) rfl)) (hw _ (List.mem_of_getElem? (i := 31) rfl)) (hw _ (List.mem_of_getElem? (i := 25) rfl)) (hw _ (List.mem_of_getElem? (i := 33) rfl)) (by decide) (m_str4 l Z a0 hw S0 hz0 S1 S2 S3 S4 S5 S6 S7 a b _ E F1 F2) (lenOf pd0 rfl) rfl rfl (Nat.le_of_ble_eq_true rfl) (by decide) (by decide) (by decide) (by decide) (allS (List.mem_of_getElem? (i := 0) rfl) all0) (fun v1 h2 L3 q4 K5 => ?_)
  obtain ⟨rfl, t, hl, hn, hS⟩ := q4
  show Go _ _ _ _ _ _ _ _ _ _ _ _ _ _ _ _ _ _ _ _ _ _ (mkF _ 9 #[.val (.ref a), .val (.ref b)] [])
  exact g_retU C dS1_9 ⟨rfl, t, hl, hn, hS⟩ (by decide) (by decide)
def foldI (c : Int32) : Int32 := if ¬ c < 65 ∧ ¬ 90 < c then c + 32 else if ¬ c < 192 ∧ ¬ 222 < c ∧ ¬ c = 215 then c + 32 else c
def uU (c : Int32) : Int32 := c.toInt8.toInt32 &&& 223
def lL (u : Int32) : Bool := !(decide (u < 65)) && (!(decide (90 < u)) || (!(decide (u < 192)) && !(decide (222 < u)) && !(decide (u = 215))))
def jdv (x y : Int32) : Int32 := if x = y then 1 else if lL (x &&& 223) then (if x &&& 223 = y &&& 223 then 1 else 0) else 0
theorem own_f256 : (List.range 256).all (fun n => (!(lL (uU (Int32.ofNat n))) || (decide (foldI (Int32.ofNat n) = uU (Int32.ofNat n) + 32) && lL (uU (foldI (Int32.ofNat n))))) && (lL (uU (Int32.ofNat n)) || decide (foldI (Int32.ofNat n) = Int32.ofNat n)) && decide ((Int32.ofNat n).toInt8.toInt32 &&& 255 = Int32.ofNat n)) = true := by decide +kernel
theorem own_ofNat {c : Int32} (h : ¬ c < 0 ∧ ¬ (255 : Int32) < c) : ∃ n, n < 256 ∧ c = Int32.ofNat n := by
  have h1 := h.1
  have h2 := h.2
  rw [Int32.lt_iff_toInt_lt] at h1 h2
  have e0 : (0 : Int32).toInt = 0 := by decide
  have e1 : (255 : Int32).toInt = 255 := by decide
  refine ⟨c.toInt.toNat, by omega, Int32.toInt_inj.mp ?_⟩
  rw [Int32.toInt_ofNat_small (by omega)]
  omega
theorem own_f {c : Int32} (h : ¬ c < 0 ∧ ¬ (255 : Int32) < c) : (lL (uU c) = true → foldI c = uU c + 32 ∧ lL (uU (foldI c)) = true) ∧ (lL (uU c) = false → foldI c = c) ∧ c.toInt8.toInt32 &&& 255 = c := by
  obtain ⟨n, hn, rfl⟩ := own_ofNat h
  have q := List.all_eq_true.mp own_f256 n (List.mem_range.mpr hn)
  simp only [Bool.and_eq_true, Bool.or_eq_true, Bool.not_eq_true', decide_eq_true_eq] at q
  obtain ⟨⟨q1, q2⟩, q3⟩ := q
  refine ⟨fun z => ?_, fun z => ?_, q3⟩
  · rcases q1 with q1 | q1
    · rw [z] at q1; cases q1
    · exact q1
  · rcases q2 with q2 | q2
    · rw [z] at q2; cases q2
    · exact q2
theorem own_cdl {c d : Int32} (hc : ¬ c < 0 ∧ ¬ (255 : Int32) < c) (hd : ¬ d < 0 ∧ ¬ (255 : Int32) < d) : jdv c.toInt8.toInt32 d.toInt8.toInt32 = if foldI c = foldI d then 1 else 0 := by
  obtain ⟨a1, a2, a3⟩ := own_f hc
  obtain ⟨b1, b2, b3⟩ := own_f hd
  have inj : c.toInt8.toInt32 = d.toInt8.toInt32 → c = d := fun e => by rw [← a3, ← b3, e]
  have add : ∀ x y : Int32, x + 32 = y + 32 → x = y := fun x y e => by
    have := congrArg (· - (32 : Int32)) e
    simpa using this
  by_cases e : c = d
  · subst e; simp [jdv]
  · have ne : ¬ c.toInt8.toInt32 = d.toInt8.toInt32 := fun z => e (inj z)
    have hu : c.toInt8.toInt32 &&& 223 = uU c := rfl
    have hv : d.toInt8.toInt32 &&& 223 = uU d := rfl
    rw [jdv, if_neg ne, hu, hv]
    cases hL : lL (uU c)
    · simp only [Bool.false_eq_true, if_false]
      rw [if_neg]
      intro z
      rw [a2 hL] at z
      cases hM : lL (uU d)
      · rw [b2 hM] at z; exact e z
      · have := (b1 hM).2
        rw [← z, hL] at this; cases this
    · simp only [if_true]
      by_cases k : uU c = uU d
      · have hM : lL (uU d) = true := by rw [← k]; exact hL
        rw [if_pos k, if_pos (by rw [(a1 hL).1, (b1 hM).1, k])]
      · rw [if_neg k, if_neg]
        intro z
        cases hM : lL (uU d)
        · have := (a1 hL).2
          rw [z, b2 hM, hM] at this; cases this
        · rw [(a1 hL).1, (b1 hM).1] at z
          exact k (add _ _ z)
def mkL (n c0 c1 : Int32) : List Int32 := if n = 0 then [] else if n = 1 then [c0] else [c0, c1]
theorem mkL_len (n c0 c1 : Int32) : (mkL n c0 c1).length ≤ 4000 := by
  unfold mkL; repeat' split
  all_goals simp
theorem mkL_bd {n c0 c1 : Int32} (b0 : ¬ c0 < 0 ∧ ¬ (255 : Int32) < c0) (b1 : ¬ c1 < 0 ∧ ¬ (255 : Int32) < c1) : ∀ c ∈ mkL n c0 c1, ¬ c < 0 ∧ ¬ (255 : Int32) < c := by
  unfold mkL; repeat' split
  · exact own_all0
  · exact own_allS b0 own_all0
  · exact own_allS b0 (own_allS b1 own_all0)
theorem mkL_eq {n m : Int32} (h1 : n = 0 ∨ n = 1 ∨ n = 2) (h2 : m = 0 ∨ m = 1 ∨ m = 2) (c0 c1 d0 d1 : Int32) : mkL n c0 c1 = mkL m d0 d1 ↔ n = m ∧ (n < 1 ∨ c0 = d0) ∧ (n < 2 ∨ c1 = d1) := by
  rcases h1 with rfl | rfl | rfl <;> rcases h2 with rfl | rfl | rfl <;> simp [mkL] <;> decide
theorem mkL_map {n m : Int32} (h1 : n = 0 ∨ n = 1 ∨ n = 2) (h2 : m = 0 ∨ m = 1 ∨ m = 2) (c0 c1 d0 d1 : Int32) : (mkL n c0 c1).map foldI = (mkL m d0 d1).map foldI ↔ n = m ∧ (n < 1 ∨ foldI c0 = foldI d0) ∧ (n < 2 ∨ foldI c1 = foldI d1) := by
  rcases h1 with rfl | rfl | rfl <;> rcases h2 with rfl | rfl | rfl <;> simp [mkL] <;> decide
def kA (n : Int32) (u0 u1 u2 u3 u4 u5 u6 : Addr) : Addr := if n = 0 then u0 else if n = 1 then u1 else if n = 2 then u2 else if n = 3 then u3 else if n = 4 then u4 else if n = 5 then u5 else u6
theorem own_rem7 (x : Int32) : (x &&& 2147483647) - (x &&& 2147483647) / 7 * 7 = 0 ∨ (x &&& 2147483647) - (x &&& 2147483647) / 7 * 7 = 1 ∨ (x &&& 2147483647) - (x &&& 2147483647) / 7 * 7 = 2 ∨ (x &&& 2147483647) - (x &&& 2147483647) / 7 * 7 = 3 ∨ (x &&& 2147483647) - (x &&& 2147483647) / 7 * 7 = 4 ∨ (x &&& 2147483647) - (x &&& 2147483647) / 7 * 7 = 5 ∨ (x &&& 2147483647) - (x &&& 2147483647) / 7 * 7 = 6 := by
  have h := c_and x 2147483647 (by decide)
  rw [irem_eq_mod]
  have k := (c_irem (x &&& 2147483647) 7 7 (by decide)).1 h.1
  generalize (x &&& 2147483647) % 7 = r at k
  have k2 : r.toInt = 0 ∨ r.toInt = 1 ∨ r.toInt = 2 ∨ r.toInt = 3 ∨ r.toInt = 4 ∨ r.toInt = 5 ∨ r.toInt = 6 := by omega
  rcases k2 with k2 | k2 | k2 | k2 | k2 | k2 | k2
  · exact Or.inl (Int32.toInt_inj.mp k2)
  · exact Or.inr (Or.inl (Int32.toInt_inj.mp k2))
  · exact Or.inr (Or.inr (Or.inl (Int32.toInt_inj.mp k2)))
  · exact Or.inr (Or.inr (Or.inr (Or.inl (Int32.toInt_inj.mp k2))))
  · exact Or.inr (Or.inr (Or.inr (Or.inr (Or.inl (Int32.toInt_inj.mp k2)))))
  · exact Or.inr (Or.inr (Or.inr (Or.inr (Or.inr (Or.inl (Int32.toInt_inj.mp k2))))))
  · exact Or.inr (Or.inr (Or.inr (Or.inr (Or.inr (Or.inr (Int32.toInt_inj.mp k2))))))
theorem own_rem3 {x : Int32} (h : 0 ≤ x.toInt) : x - x / 3 * 3 = 0 ∨ x - x / 3 * 3 = 1 ∨ x - x / 3 * 3 = 2 := by
  rw [irem_eq_mod]
  have k := (c_irem x 3 3 (by decide)).1 h
  generalize x % 3 = r at k
  have k2 : r.toInt = 0 ∨ r.toInt = 1 ∨ r.toInt = 2 := by omega
  rcases k2 with k2 | k2 | k2
  · exact Or.inl (Int32.toInt_inj.mp k2)
  · exact Or.inr (Or.inl (Int32.toInt_inj.mp k2))
  · exact Or.inr (Or.inr (Int32.toInt_inj.mp k2))
theorem own_pos1 (x : Int32) : 0 ≤ (x &&& 2147483647).toInt := (c_and x 2147483647 (by decide)).1
theorem own_pos2 (x : Int32) : 0 ≤ (XT.ushr x 2).toInt := by
  have k := c_iushr x 2 2 (by decide) (by decide)
  show 0 ≤ ((x.toUInt32 >>> ((2 : Int32) &&& 31).toUInt32).toInt32).toInt
  rw [k]
  omega
theorem own_small {x : Int32} (h : x.toBitVec.toNat < 256) : ¬ x < 0 ∧ ¬ (255 : Int32) < x := by
  have e : x.toInt = x.toBitVec.toNat := by
    show x.toBitVec.toInt = _
    rw [BitVec.toInt_eq_toNat_of_lt (by omega)]
  constructor
  · rw [Int32.lt_iff_toInt_lt, e]
    have : (0 : Int32).toInt = 0 := by decide
    omega
  · rw [Int32.lt_iff_toInt_lt, e]
    have : (255 : Int32).toInt = 255 := by decide
    omega
theorem own_nat {x : Int32} (h : ¬ x < 0 ∧ ¬ (255 : Int32) < x) : x.toBitVec.toNat < 256 := by
  obtain ⟨n, hn, rfl⟩ := own_ofNat h
  show (BitVec.ofNat 32 n).toNat < 256
  rw [BitVec.toNat_ofNat]
  omega
theorem own_xor {c x : Int32} (h : ¬ c < 0 ∧ ¬ (255 : Int32) < c) : ¬ ((c ^^^ (x &&& 32)).toUInt32.toUInt16.toUInt32.toInt32) < 0 ∧ ¬ (255 : Int32) < (c ^^^ (x &&& 32)).toUInt32.toUInt16.toUInt32.toInt32 := by
  have h32 : (x &&& 32).toBitVec.toNat < 256 := by
    have q := c_and x 32 (by decide)
    have e : (32 : Int32).toInt = 32 := by decide
    have e0 : (0 : Int32).toInt = 0 := by decide
    have e1 : (255 : Int32).toInt = 255 := by decide
    exact own_nat ⟨by rw [Int32.lt_iff_toInt_lt]; omega, by rw [Int32.lt_iff_toInt_lt]; omega⟩
  have hx : ¬ (c ^^^ (x &&& 32)) < 0 ∧ ¬ (255 : Int32) < (c ^^^ (x &&& 32)) := by
    apply own_small
    show (c.toBitVec ^^^ (x &&& 32).toBitVec).toNat < 2 ^ 8
    rw [BitVec.toNat_xor]
    exact Nat.xor_lt_two_pow (own_nat h) h32
  have k := own_narc hx
  rw [show (c ^^^ (x &&& 32)).toUInt32.toUInt16.toUInt32.toInt32 = c ^^^ (x &&& 32) from k]
  exact hx
theorem dA_0 : decode method_3_code 0 = .ok (.iload_n 0, 1) := by decide +kernel
theorem dA_1 : decode method_3_code 1 = .ok (.ifCond .ne 14, 3) := by decide +kernel
theorem dA_4 : decode method_3_code 4 = .ok (.new 51, 3) := by decide +kernel
theorem dA_7 : decode method_3_code 7 = .ok (.dup, 1) := by decide +kernel
theorem dA_8 : decode method_3_code 8 = .ok (.iconst 0, 1) := by decide +kernel
theorem dA_9 : decode method_3_code 9 = .ok (.newarray .char, 2) := by decide +kernel
theorem dA_11 : decode method_3_code 11 = .ok (.invokespecial 53, 3) := by decide +kernel
theorem dA_14 : decode method_3_code 14 = .ok (.areturn, 1) := by decide +kernel
theorem dA_15 : decode method_3_code 15 = .ok (.iload_n 0, 1) := by decide +kernel
theorem dA_16 : decode method_3_code 16 = .ok (.iconst 1, 1) := by decide +kernel
theorem dA_17 : decode method_3_code 17 = .ok (.if_icmp .ne 18, 3) := by decide +kernel
theorem dA_20 : decode method_3_code 20 = .ok (.new 51, 3) := by decide +kernel
theorem dA_23 : decode method_3_code 23 = .ok (.dup, 1) := by decide +kernel
theorem dA_24 : decode method_3_code 24 = .ok (.iconst 1, 1) := by decide +kernel
theorem dA_25 : decode method_3_code 25 = .ok (.newarray .char, 2) := by decide +kernel
theorem dA_27 : decode method_3_code 27 = .ok (.dup, 1) := by decide +kernel
theorem dA_28 : decode method_3_code 28 = .ok (.iconst 0, 1) := by decide +kernel
theorem dA_29 : decode method_3_code 29 = .ok (.iload_n 1, 1) := by decide +kernel
theorem dA_30 : decode method_3_code 30 = .ok (.castore, 1) := by decide +kernel
theorem dA_31 : decode method_3_code 31 = .ok (.invokespecial 53, 3) := by decide +kernel
theorem dA_34 : decode method_3_code 34 = .ok (.areturn, 1) := by decide +kernel
theorem dA_35 : decode method_3_code 35 = .ok (.new 51, 3) := by decide +kernel
theorem dA_38 : decode method_3_code 38 = .ok (.dup, 1) := by decide +kernel
theorem dA_39 : decode method_3_code 39 = .ok (.iconst 2, 1) := by decide +kernel
theorem dA_40 : decode method_3_code 40 = .ok (.newarray .char, 2) := by decide +kernel
theorem dA_42 : decode method_3_code 42 = .ok (.dup, 1) := by decide +kernel
theorem dA_43 : decode method_3_code 43 = .ok (.iconst 0, 1) := by decide +kernel
theorem dA_44 : decode method_3_code 44 = .ok (.iload_n 1, 1) := by decide +kernel
theorem dA_45 : decode method_3_code 45 = .ok (.castore, 1) := by decide +kernel
theorem dA_46 : decode method_3_code 46 = .ok (.dup, 1) := by decide +kernel
theorem dA_47 : decode method_3_code 47 = .ok (.iconst 1, 1) := by decide +kernel
theorem dA_48 : decode method_3_code 48 = .ok (.iload_n 2, 1) := by decide +kernel
theorem dA_49 : decode method_3_code 49 = .ok (.castore, 1) := by decide +kernel
theorem dA_50 : decode method_3_code 50 = .ok (.invokespecial 53, 3) := by decide +kernel
theorem dA_53 : decode method_3_code 53 = .ok (.areturn, 1) := by decide +kernel
set_option maxRecDepth 65536 in
set_option maxHeartbeats 80000000 in
theorem m_mk (l : Launch) (Z : State) (a0 : Array Value) {z0 : Int32} (hw : ∀ d ∈ tables_1, d.before a0 Z = true) (S0 : Sta Z Z.heap "java/lang/String" "COMPACT_STRINGS" "Z" (.int z0)) (hz0 : ¬ z0 = 0) {u0 u1 u2 u3 u4 u5 u6 : Addr} (S1 : Sta Z Z.heap "com/example/entidad/entidad/query/Token$Kind" "IDENTIFIER" "Lcom/example/entidad/entidad/query/Token$Kind;" (.ref u0)) (S2 : Sta Z Z.heap "com/example/entidad/entidad/query/Token$Kind" "STRING" "Lcom/example/entidad/entidad/query/Token$Kind;" (.ref u1)) (S3 : Sta Z Z.heap "com/example/entidad/entidad/query/Token$Kind" "NUMBER" "Lcom/example/entidad/entidad/query/Token$Kind;" (.ref u2)) (S4 : Sta Z Z.heap "com/example/entidad/entidad/query/Token$Kind" "NAMED_PARAMETER" "Lcom/example/entidad/entidad/query/Token$Kind;" (.ref u3)) (S5 : Sta Z Z.heap "com/example/entidad/entidad/query/Token$Kind" "POSITIONAL_PARAMETER" "Lcom/example/entidad/entidad/query/Token$Kind;" (.ref u4)) (S6 : Sta Z Z.heap "com/example/entidad/entidad/query/Token$Kind" "SYMBOL" "Lcom/example/entidad/entidad/query/Token$Kind;" (.ref u5)) (S7 : Sta Z Z.heap "com/example/entidad/entidad/query/Token$Kind" "END" "Lcom/example/entidad/entidad/query/Token$Kind;" (.ref u6)) (n c0 c1 : Int32) (b0 : ¬ c0 < 0 ∧ ¬ (255 : Int32) < c0) (b1 : ¬ c1 < 0 ∧ ¬ (255 : Int32) < c1) (h : Heap) :
    MetW true l Z [("java/lang/String", 7)] (⟨"com/example/entidad/entidad/query/TokenIsPinLaw", "mk", "(ICC)Ljava/lang/String;"⟩ : MethodName) method_3_code 3 (Option.some (Jvm.ClassFile.FieldType.object "java/lang/String")) [] ({ frames := 4, cells := 6, slots := 12, locals := 66 } : Room) #[(.int n), (.int c0), (.int c1)] [] h (fun v h' => ∃ s t : Addr, v = some (.ref s) ∧ h.size ≤ s ∧ t < h'.size ∧ Str Z h' s t (mkL n c0 c1)) := by
  refine MetW.of (Ls := #[.val (.int n), .val (.int c0), .val (.int c1)]) (a0 := a0) (by first | (simp [plainName, overriddenIn]; done) | decide +kernel) (fun m => by first | (simp [entryFrame, mkF, argsToLocals, Value.category]; done) | rfl) (own_EW hw) (fun q => nomatch q) (fun p_ e_ s_ m_ below_ meth_ c_ hs0 C => ?_)
  refine g_iloadN C dA_0 rfl ?_
  by_cases cc1 : n = (0 : Int32)
  · skip
    refine g_ifF C dA_1 (show n = (0 : Int32) from cc1) ?_
    refine g_new_ C dA_4 (hw _ (List.mem_of_getElem? (i := 23) rfl)) (hw _ (List.mem_of_getElem? (i := 24) rfl)) (hw _ (List.mem_of_getElem? (i := 25) rfl)) (by decide) (by decide) (fun a2 h3 e4 E5 l6 f7 D8 => ?_)
    have K9 := keep_ext E5
    have f10 : Fld Z h3 a2 "java/lang/String" "value" "[B" .null := D8 (Or.inr (hw _ (List.mem_of_getElem? (i := 39) rfl))) (ty := (.array .byte)) (by decide)
    have f11 : Fld Z h3 a2 "java/lang/String" "coder" "B" (.int (0 : Int32)) := D8 (Or.inr (hw _ (List.mem_of_getElem? (i := 40) rfl))) (ty := .byte) (by decide)
    refine g_dup C dA_7 rfl ?_
    refine g_iconst (0 : Int32) C dA_8 (by decide) ?_
    refine g_newarray_ (ad := "[C") 0 [] C dA_9 (hw _ (List.mem_of_getElem? (i := 26) rfl)) (by decide) (by decide) (by decide) (by decide) (by decide) (by decide) (by decide) (fun a12 h13 e14 E15 l16 f17 f18 => ?_)
    have K19 := keep_ext E15
    have f24 := (f7.keep K19)
    have f25 := (f10.keep K19 nin0)
    have f26 := (f11.keep K19 nin0)
    refine g_invokespecial [(.ref a12)] [(.ref a2)] 1 C dA_11 rfl (hw _ (List.mem_of_getElem? (i := 27) rfl)) (hw _ (List.mem_of_getElem? (i := 28) rfl)) (hw _ (List.mem_of_getElem? (i := 25) rfl)) (hw _ (List.mem_of_getElem? (i := 29) rfl)) (by decide) (m_str1 l Z a0 hw S0 hz0 S1 S2 S3 S4 S5 S6 S7 a2 a12 _ f24 f25 f26 f18) (lenOf pd1 rfl) rfl rfl (Nat.le_of_ble_eq_true rfl) (by decide) (by decide) (by decide) (by decide) (allS (List.mem_of_getElem? (i := 1) rfl) all0) (fun v27 h28 L29 q30 K31 => ?_)
    obtain ⟨rfl, t20, l21, n22, f23⟩ := q30
    show Go _ _ _ _ _ _ _ _ _ _ _ _ _ _ _ _ _ _ _ _ _ _ (mkF _ 14 #[.val (.int n), .val (.int c0), .val (.int c1)] [(.ref a2)])
    have f32 := f23.1
    have hcs : mkL n c0 c1 = [] := by simp [mkL, cc1]
    exact g_retA C dA_14 rfl rfl ⟨a2, t20, rfl, Nat.le_trans (Nat.le_refl _) (Nat.le_of_eq e4.symm), l21, hcs ▸ f23⟩ (by decide) (by decide)
  · skip
    refine g_ifT 15 C dA_1 (show ¬ n = (0 : Int32) from cc1) (by decide) (by decide) ?_
    refine g_iloadN C dA_15 rfl ?_
    refine g_iconst (1 : Int32) C dA_16 (by decide) ?_
    by_cases cc33 : n = (1 : Int32)
    · skip
      refine g_icmpF C dA_17 (show n = (1 : Int32) from cc33) ?_
      refine g_new_ C dA_20 (hw _ (List.mem_of_getElem? (i := 23) rfl)) (hw _ (List.mem_of_getElem? (i := 24) rfl)) (hw _ (List.mem_of_getElem? (i := 25) rfl)) (by decide) (by decide) (fun a34 h35 e36 E37 l38 f39 D40 => ?_)
      have K41 := keep_ext E37
      have f42 : Fld Z h35 a34 "java/lang/String" "value" "[B" .null := D40 (Or.inr (hw _ (List.mem_of_getElem? (i := 39) rfl))) (ty := (.array .byte)) (by decide)
      have f43 : Fld Z h35 a34 "java/lang/String" "coder" "B" (.int (0 : Int32)) := D40 (Or.inr (hw _ (List.mem_of_getElem? (i := 40) rfl))) (ty := .byte) (by decide)
      refine g_dup C dA_23 rfl ?_
      refine g_iconst (1 : Int32) C dA_24 (by decide) ?_
      refine g_newarray_ (ad := "[C") 1 [(.int (0 : Int32))] C dA_25 (hw _ (List.mem_of_getElem? (i := 26) rfl)) (by decide) (by decide) (by decide) (by decide) (by decide) (by decide) (by decide) (fun a44 h45 e46 E47 l48 f49 f50 => ?_)
      have K51 := keep_ext E47
      refine g_dup C dA_27 rfl ?_
      refine g_iconst (0 : Int32) C dA_28 (by decide) ?_
      refine g_iloadN C dA_29 rfl ?_
      refine g_castore 0 C dA_30 f50 (by decide) (by decide) (Nat.le_of_ble_eq_true rfl) (List.mem_of_getElem? (i := 0) rfl) (fun h52 K53 z54 f55 => ?_)
      have f56 : Av Z h52 a44 .char [(.int c0)] := (show nar .char c0 = c0 from own_narc b0) ▸ f55
      have f64 := ((f39.keep K51).keep K53)
      have f65 := ((f42.keep K51 nin0).keep K53 (ninS (Nat.ne_of_lt (Nat.lt_of_lt_of_le l38 (Nat.le_of_eq e46.symm))) nin0))
      have f66 := ((f43.keep K51 nin0).keep K53 (ninS (Nat.ne_of_lt (Nat.lt_of_lt_of_le l38 (Nat.le_of_eq e46.symm))) nin0))
      refine g_newStr (cs := [c0]) 1 [(.ref a34)] 1 C dA_31 (own_hws hw) (hw _ (List.mem_of_getElem? (i := 24) rfl)) (hw _ (List.mem_of_getElem? (i := 27) rfl)) (hw _ (List.mem_of_getElem? (i := 28) rfl)) (hw _ (List.mem_of_getElem? (i := 29) rfl)) f64 f65 f66 f56 S0 hz0 rfl (by decide) (by decide) (own_allS b0 own_all0) rfl (Nat.le_of_ble_eq_true rfl) (by decide) (by decide) (by decide) (by decide) (List.mem_of_getElem? (i := 1) rfl) (fun t57 h58 L59 g60 l61 f62 K63 => ?_)
      have f67 := f62.1
      have hcs : mkL n c0 c1 = [c0] := by simp [mkL, cc1, cc33]
      exact g_retA C dA_34 rfl rfl ⟨a34, t57, rfl, Nat.le_trans (Nat.le_refl _) (Nat.le_of_eq e36.symm), l61, hcs ▸ f62⟩ (by decide) (by decide)
    · skip
      refine g_icmpT 35 C dA_17 (show ¬ n = (1 : Int32) from cc33) (by decide) (by decide) ?_
      refine g_new_ C dA_35 (hw _ (List.mem_of_getElem? (i := 23) rfl)) (hw _ (List.mem_of_getElem? (i := 24) rfl)) (hw _ (List.mem_of_getElem? (i := 25) rfl)) (by decide) (by decide) (fun a68 h69 e70 E71 l72 f73 D74 => ?_)
      have K75 := keep_ext E71
      have f76 : Fld Z h69 a68 "java/lang/String" "value" "[B" .null := D74 (Or.inr (hw _ (List.mem_of_getElem? (i := 39) rfl))) (ty := (.array .byte)) (by decide)
      have f77 : Fld Z h69 a68 "java/lang/String" "coder" "B" (.int (0 : Int32)) := D74 (Or.inr (hw _ (List.mem_of_getElem? (i := 40) rfl))) (ty := .byte) (by decide)
      refine g_dup C dA_38 rfl ?_
      refine g_iconst (2 : Int32) C dA_39 (by decide) ?_
      refine g_newarray_ (ad := "[C") 2 [(.int (0 : Int32)), (.int (0 : Int32))] C dA_40 (hw _ (List.mem_of_getElem? (i := 26) rfl)) (by decide) (by decide) (by decide) (by decide) (by decide) (by decide) (by decide) (fun a78 h79 e80 E81 l82 f83 f84 => ?_)
      have K85 := keep_ext E81
      refine g_dup C dA_42 rfl ?_
      refine g_iconst (0 : Int32) C dA_43 (by decide) ?_
      refine g_iloadN C dA_44 rfl ?_
      refine g_castore 0 C dA_45 f84 (by decide) (by decide) (Nat.le_of_ble_eq_true rfl) (List.mem_of_getElem? (i := 0) rfl) (fun h86 K87 z88 f89 => ?_)
      have f90 : Av Z h86 a78 .char [(.int c0), (.int (0 : Int32))] := (show nar .char c0 = c0 from own_narc b0) ▸ f89
      refine g_dup C dA_46 rfl ?_
      refine g_iconst (1 : Int32) C dA_47 (by decide) ?_
      refine g_iloadN C dA_48 rfl ?_
      refine g_castore 1 C dA_49 f90 (by decide) (by decide) (Nat.le_of_ble_eq_true rfl) (List.mem_of_getElem? (i := 0) rfl) (fun h91 K92 z93 f94 => ?_)
      have f95 : Av Z h91 a78 .char [(.int c0), (.int c1)] := (show nar .char c1 = c1 from own_narc b1) ▸ f94
      have f103 := (((f73.keep K85).keep K87).keep K92)
      have f104 := (((f76.keep K85 nin0).keep K87 (ninS (Nat.ne_of_lt (Nat.lt_of_lt_of_le l72 (Nat.le_of_eq e80.symm))) nin0)).keep K92 (ninS (Nat.ne_of_lt (Nat.lt_of_lt_of_le l72 (Nat.le_of_eq e80.symm))) nin0))
      have f105 := (((f77.keep K85 nin0).keep K87 (ninS (Nat.ne_of_lt (Nat.lt_of_lt_of_le l72 (Nat.le_of_eq e80.symm))) nin0)).keep K92 (ninS (Nat.ne_of_lt (Nat.lt_of_lt_of_le l72 (Nat.le_of_eq e80.symm))) nin0))
      refine g_newStr (cs := [c0, c1]) 2 [(.ref a68)] 1 C dA_50 (own_hws hw) (hw _ (List.mem_of_getElem? (i := 24) rfl)) (hw _ (List.mem_of_getElem? (i := 27) rfl)) (hw _ (List.mem_of_getElem? (i := 28) rfl)) (hw _ (List.mem_of_getElem? (i := 29) rfl)) f103 f104 f105 f95 S0 hz0 rfl (by decide) (by decide) (own_allS b0 (own_allS b1 own_all0)) rfl (Nat.le_of_ble_eq_true rfl) (by decide) (by decide) (by decide) (by decide) (List.mem_of_getElem? (i := 1) rfl) (fun t96 h97 L98 g99 l100 f101 K102 => ?_)
      have f106 := f101.1
      have hcs : mkL n c0 c1 = [c0, c1] := by simp [mkL, cc1, cc33]
      exact g_retA C dA_53 rfl rfl ⟨a68, t96, rfl, Nat.le_trans (Nat.le_refl _) (Nat.le_of_eq e70.symm), l100, hcs ▸ f101⟩ (by decide) (by decide)
theorem dB_0 : decode method_4_code 0 = .ok (.iload_n 0, 1) := by decide +kernel
theorem dB_1 : decode method_4_code 1 = .ok (.bipush 65, 2) := by decide +kernel
theorem dB_3 : decode method_4_code 3 = .ok (.if_icmp .lt 14, 3) := by decide +kernel
theorem dB_6 : decode method_4_code 6 = .ok (.iload_n 0, 1) := by decide +kernel
theorem dB_7 : decode method_4_code 7 = .ok (.bipush 90, 2) := by decide +kernel
theorem dB_9 : decode method_4_code 9 = .ok (.if_icmp .gt 8, 3) := by decide +kernel
theorem dB_12 : decode method_4_code 12 = .ok (.iload_n 0, 1) := by decide +kernel
theorem dB_13 : decode method_4_code 13 = .ok (.bipush 32, 2) := by decide +kernel
theorem dB_15 : decode method_4_code 15 = .ok (.iadd, 1) := by decide +kernel
theorem dB_16 : decode method_4_code 16 = .ok (.ireturn, 1) := by decide +kernel
theorem dB_17 : decode method_4_code 17 = .ok (.iload_n 0, 1) := by decide +kernel
theorem dB_18 : decode method_4_code 18 = .ok (.sipush 192, 3) := by decide +kernel
theorem dB_21 : decode method_4_code 21 = .ok (.if_icmp .lt 22, 3) := by decide +kernel
theorem dB_24 : decode method_4_code 24 = .ok (.iload_n 0, 1) := by decide +kernel
theorem dB_25 : decode method_4_code 25 = .ok (.sipush 222, 3) := by decide +kernel
theorem dB_28 : decode method_4_code 28 = .ok (.if_icmp .gt 15, 3) := by decide +kernel
theorem dB_31 : decode method_4_code 31 = .ok (.iload_n 0, 1) := by decide +kernel
theorem dB_32 : decode method_4_code 32 = .ok (.sipush 215, 3) := by decide +kernel
theorem dB_35 : decode method_4_code 35 = .ok (.if_icmp .eq 8, 3) := by decide +kernel
theorem dB_38 : decode method_4_code 38 = .ok (.iload_n 0, 1) := by decide +kernel
theorem dB_39 : decode method_4_code 39 = .ok (.bipush 32, 2) := by decide +kernel
theorem dB_41 : decode method_4_code 41 = .ok (.iadd, 1) := by decide +kernel
theorem dB_42 : decode method_4_code 42 = .ok (.ireturn, 1) := by decide +kernel
theorem dB_43 : decode method_4_code 43 = .ok (.iload_n 0, 1) := by decide +kernel
theorem dB_44 : decode method_4_code 44 = .ok (.ireturn, 1) := by decide +kernel
set_option maxRecDepth 65536 in
set_option maxHeartbeats 80000000 in
theorem m_fold (l : Launch) (Z : State) (a0 : Array Value) {z0 : Int32} (hw : ∀ d ∈ tables_1, d.before a0 Z = true) (S0 : Sta Z Z.heap "java/lang/String" "COMPACT_STRINGS" "Z" (.int z0)) (hz0 : ¬ z0 = 0) {u0 u1 u2 u3 u4 u5 u6 : Addr} (S1 : Sta Z Z.heap "com/example/entidad/entidad/query/Token$Kind" "IDENTIFIER" "Lcom/example/entidad/entidad/query/Token$Kind;" (.ref u0)) (S2 : Sta Z Z.heap "com/example/entidad/entidad/query/Token$Kind" "STRING" "Lcom/example/entidad/entidad/query/Token$Kind;" (.ref u1)) (S3 : Sta Z Z.heap "com/example/entidad/entidad/query/Token$Kind" "NUMBER" "Lcom/example/entidad/entidad/query/Token$Kind;" (.ref u2)) (S4 : Sta Z Z.heap "com/example/entidad/entidad/query/Token$Kind" "NAMED_PARAMETER" "Lcom/example/entidad/entidad/query/Token$Kind;" (.ref u3)) (S5 : Sta Z Z.heap "com/example/entidad/entidad/query/Token$Kind" "POSITIONAL_PARAMETER" "Lcom/example/entidad/entidad/query/Token$Kind;" (.ref u4)) (S6 : Sta Z Z.heap "com/example/entidad/entidad/query/Token$Kind" "SYMBOL" "Lcom/example/entidad/entidad/query/Token$Kind;" (.ref u5)) (S7 : Sta Z Z.heap "com/example/entidad/entidad/query/Token$Kind" "END" "Lcom/example/entidad/entidad/query/Token$Kind;" (.ref u6)) (x : Int32) (h : Heap) :
    MetW true l Z [("java/lang/String", 7)] (⟨"com/example/entidad/entidad/query/TokenIsPinLaw", "fold", "(C)I"⟩ : MethodName) method_4_code 1 (Option.some Jvm.ClassFile.FieldType.int) [] ({ frames := 0, cells := 0, slots := 0, locals := 0 } : Room) #[(.int x)] [] h (fun v h' => v = some (.int (foldI x))) := by
  refine MetW.of (Ls := #[.val (.int x)]) (a0 := a0) (by first | (simp [plainName, overriddenIn]; done) | decide +kernel) (fun m => by first | (simp [entryFrame, mkF, argsToLocals, Value.category]; done) | rfl) (own_EW hw) (fun q => nomatch q) (fun p_ e_ s_ m_ below_ meth_ c_ hs0 C => ?_)
  refine g_iloadN C dB_0 rfl ?_
  refine g_bipush (65 : Int32) C dB_1 (by decide) ?_
  by_cases cc1 : x < (65 : Int32)
  · skip
    refine g_icmpT 17 C dB_3 (show x < (65 : Int32) from cc1) (by decide) (by decide) ?_
    refine g_iloadN C dB_17 rfl ?_
    refine g_sipush (192 : Int32) C dB_18 (by decide) ?_
    by_cases cc2 : x < (192 : Int32)
    · skip
      refine g_icmpT 43 C dB_21 (show x < (192 : Int32) from cc2) (by decide) (by decide) ?_
      refine g_iloadN C dB_43 rfl ?_
      have hq : foldI x = x := by simp only [foldI]; simp only [eq_true cc1, eq_true cc2]; simp
      exact g_retI C dB_44 (by rw [hq]) (by decide) (by decide)
    · skip
      refine g_icmpF C dB_21 (show ¬ x < (192 : Int32) from cc2) ?_
      refine g_iloadN C dB_24 rfl ?_
      refine g_sipush (222 : Int32) C dB_25 (by decide) ?_
      by_cases cc3 : (222 : Int32) < x
      · skip
        refine g_icmpT 43 C dB_28 (show (222 : Int32) < x from cc3) (by decide) (by decide) ?_
        refine g_iloadN C dB_43 rfl ?_
        have hq : foldI x = x := by simp only [foldI]; simp only [eq_true cc1, eq_false cc2, eq_true cc3]; simp
        exact g_retI C dB_44 (by rw [hq]) (by decide) (by decide)
      · skip
        refine g_icmpF C dB_28 (show ¬ (222 : Int32) < x from cc3) ?_
        refine g_iloadN C dB_31 rfl ?_
        refine g_sipush (215 : Int32) C dB_32 (by decide) ?_
        by_cases cc4 : x = (215 : Int32)
        · skip
          refine g_icmpT 43 C dB_35 (show x = (215 : Int32) from cc4) (by decide) (by decide) ?_
          refine g_iloadN C dB_43 rfl ?_
          have hq : foldI x = x := by simp only [foldI]; simp only [eq_true cc1, eq_false cc2, eq_false cc3, eq_true cc4]; simp
          exact g_retI C dB_44 (by rw [hq]) (by decide) (by decide)
        · skip
          refine g_icmpF C dB_35 (show ¬ x = (215 : Int32) from cc4) ?_
          refine g_iloadN C dB_38 rfl ?_
          refine g_bipush (32 : Int32) C dB_39 (by decide) ?_
          refine g_iadd _ C dB_41 rfl ?_
          have hq : foldI x = (x + (32 : Int32)) := by simp only [foldI]; simp only [eq_true cc1, eq_false cc2, eq_false cc3, eq_false cc4]; simp
          exact g_retI C dB_42 (by rw [hq]) (by decide) (by decide)
  · skip
    refine g_icmpF C dB_3 (show ¬ x < (65 : Int32) from cc1) ?_
    refine g_iloadN C dB_6 rfl ?_
    refine g_bipush (90 : Int32) C dB_7 (by decide) ?_
    by_cases cc5 : (90 : Int32) < x
    · skip
      refine g_icmpT 17 C dB_9 (show (90 : Int32) < x from cc5) (by decide) (by decide) ?_
      refine g_iloadN C dB_17 rfl ?_
      refine g_sipush (192 : Int32) C dB_18 (by decide) ?_
      by_cases cc6 : x < (192 : Int32)
      · skip
        refine g_icmpT 43 C dB_21 (show x < (192 : Int32) from cc6) (by decide) (by decide) ?_
        refine g_iloadN C dB_43 rfl ?_
        have hq : foldI x = x := by simp only [foldI]; simp only [eq_false cc1, eq_true cc5, eq_true cc6]; simp
        exact g_retI C dB_44 (by rw [hq]) (by decide) (by decide)
      · skip
        refine g_icmpF C dB_21 (show ¬ x < (192 : Int32) from cc6) ?_
        refine g_iloadN C dB_24 rfl ?_
        refine g_sipush (222 : Int32) C dB_25 (by decide) ?_
        by_cases cc7 : (222 : Int32) < x
        · skip
          refine g_icmpT 43 C dB_28 (show (222 : Int32) < x from cc7) (by decide) (by decide) ?_
          refine g_iloadN C dB_43 rfl ?_
          have hq : foldI x = x := by simp only [foldI]; simp only [eq_false cc1, eq_true cc5, eq_false cc6, eq_true cc7]; simp
          exact g_retI C dB_44 (by rw [hq]) (by decide) (by decide)
        · skip
          refine g_icmpF C dB_28 (show ¬ (222 : Int32) < x from cc7) ?_
          refine g_iloadN C dB_31 rfl ?_
          refine g_sipush (215 : Int32) C dB_32 (by decide) ?_
          by_cases cc8 : x = (215 : Int32)
          · skip
            refine g_icmpT 43 C dB_35 (show x = (215 : Int32) from cc8) (by decide) (by decide) ?_
            refine g_iloadN C dB_43 rfl ?_
            have hq : foldI x = x := by simp only [foldI]; simp only [eq_false cc1, eq_true cc5, eq_false cc6, eq_false cc7, eq_true cc8]; simp
            exact g_retI C dB_44 (by rw [hq]) (by decide) (by decide)
          · skip
            refine g_icmpF C dB_35 (show ¬ x = (215 : Int32) from cc8) ?_
            refine g_iloadN C dB_38 rfl ?_
            refine g_bipush (32 : Int32) C dB_39 (by decide) ?_
            refine g_iadd _ C dB_41 rfl ?_
            have hq : foldI x = (x + (32 : Int32)) := by simp only [foldI]; simp only [eq_false cc1, eq_true cc5, eq_false cc6, eq_false cc7, eq_false cc8]; simp
            exact g_retI C dB_42 (by rw [hq]) (by decide) (by decide)
    · skip
      refine g_icmpF C dB_9 (show ¬ (90 : Int32) < x from cc5) ?_
      refine g_iloadN C dB_12 rfl ?_
      refine g_bipush (32 : Int32) C dB_13 (by decide) ?_
      refine g_iadd _ C dB_15 rfl ?_
      have hq : foldI x = (x + (32 : Int32)) := by simp only [foldI]; simp only [eq_false cc1, eq_false cc5]; simp
      exact g_retI C dB_16 (by rw [hq]) (by decide) (by decide)
theorem dC_0 : decode jdk_116_method_22_code 0 = .ok (.iload_n 0, 1) := by decide +kernel
theorem dC_1 : decode jdk_116_method_22_code 1 = .ok (.iload_n 1, 1) := by decide +kernel
theorem dC_2 : decode jdk_116_method_22_code 2 = .ok (.if_icmp .ne 5, 3) := by decide +kernel
theorem dC_5 : decode jdk_116_method_22_code 5 = .ok (.iconst 1, 1) := by decide +kernel
theorem dC_6 : decode jdk_116_method_22_code 6 = .ok (.ireturn, 1) := by decide +kernel
theorem dC_7 : decode jdk_116_method_22_code 7 = .ok (.iload_n 0, 1) := by decide +kernel
theorem dC_8 : decode jdk_116_method_22_code 8 = .ok (.sipush 223, 3) := by decide +kernel
theorem dC_11 : decode jdk_116_method_22_code 11 = .ok (.iand, 1) := by decide +kernel
theorem dC_12 : decode jdk_116_method_22_code 12 = .ok (.istore_n 2, 1) := by decide +kernel
theorem dC_13 : decode jdk_116_method_22_code 13 = .ok (.iload_n 2, 1) := by decide +kernel
theorem dC_14 : decode jdk_116_method_22_code 14 = .ok (.bipush 65, 2) := by decide +kernel
theorem dC_16 : decode jdk_116_method_22_code 16 = .ok (.if_icmp .ge 5, 3) := by decide +kernel
theorem dC_19 : decode jdk_116_method_22_code 19 = .ok (.iconst 0, 1) := by decide +kernel
theorem dC_20 : decode jdk_116_method_22_code 20 = .ok (.ireturn, 1) := by decide +kernel
theorem dC_21 : decode jdk_116_method_22_code 21 = .ok (.iload_n 2, 1) := by decide +kernel
theorem dC_22 : decode jdk_116_method_22_code 22 = .ok (.bipush 90, 2) := by decide +kernel
theorem dC_24 : decode jdk_116_method_22_code 24 = .ok (.if_icmp .le 24, 3) := by decide +kernel
theorem dC_27 : decode jdk_116_method_22_code 27 = .ok (.iload_n 2, 1) := by decide +kernel
theorem dC_28 : decode jdk_116_method_22_code 28 = .ok (.sipush 192, 3) := by decide +kernel
theorem dC_31 : decode jdk_116_method_22_code 31 = .ok (.if_icmp .lt 30, 3) := by decide +kernel
theorem dC_34 : decode jdk_116_method_22_code 34 = .ok (.iload_n 2, 1) := by decide +kernel
theorem dC_35 : decode jdk_116_method_22_code 35 = .ok (.sipush 222, 3) := by decide +kernel
theorem dC_38 : decode jdk_116_method_22_code 38 = .ok (.if_icmp .gt 23, 3) := by decide +kernel
theorem dC_41 : decode jdk_116_method_22_code 41 = .ok (.iload_n 2, 1) := by decide +kernel
theorem dC_42 : decode jdk_116_method_22_code 42 = .ok (.sipush 215, 3) := by decide +kernel
theorem dC_45 : decode jdk_116_method_22_code 45 = .ok (.if_icmp .eq 16, 3) := by decide +kernel
theorem dC_48 : decode jdk_116_method_22_code 48 = .ok (.iload_n 2, 1) := by decide +kernel
theorem dC_49 : decode jdk_116_method_22_code 49 = .ok (.iload_n 1, 1) := by decide +kernel
theorem dC_50 : decode jdk_116_method_22_code 50 = .ok (.sipush 223, 3) := by decide +kernel
theorem dC_53 : decode jdk_116_method_22_code 53 = .ok (.iand, 1) := by decide +kernel
theorem dC_54 : decode jdk_116_method_22_code 54 = .ok (.if_icmp .ne 7, 3) := by decide +kernel
theorem dC_57 : decode jdk_116_method_22_code 57 = .ok (.iconst 1, 1) := by decide +kernel
theorem dC_58 : decode jdk_116_method_22_code 58 = .ok (.goto 4, 3) := by decide +kernel
theorem dC_61 : decode jdk_116_method_22_code 61 = .ok (.iconst 0, 1) := by decide +kernel
theorem dC_62 : decode jdk_116_method_22_code 62 = .ok (.ireturn, 1) := by decide +kernel
set_option maxRecDepth 65536 in
set_option maxHeartbeats 80000000 in
theorem m_cdl0 (l : Launch) (Z : State) (a0 : Array Value) {z0 : Int32} (hw : ∀ d ∈ tables_1, d.before a0 Z = true) (S0 : Sta Z Z.heap "java/lang/String" "COMPACT_STRINGS" "Z" (.int z0)) (hz0 : ¬ z0 = 0) {u0 u1 u2 u3 u4 u5 u6 : Addr} (S1 : Sta Z Z.heap "com/example/entidad/entidad/query/Token$Kind" "IDENTIFIER" "Lcom/example/entidad/entidad/query/Token$Kind;" (.ref u0)) (S2 : Sta Z Z.heap "com/example/entidad/entidad/query/Token$Kind" "STRING" "Lcom/example/entidad/entidad/query/Token$Kind;" (.ref u1)) (S3 : Sta Z Z.heap "com/example/entidad/entidad/query/Token$Kind" "NUMBER" "Lcom/example/entidad/entidad/query/Token$Kind;" (.ref u2)) (S4 : Sta Z Z.heap "com/example/entidad/entidad/query/Token$Kind" "NAMED_PARAMETER" "Lcom/example/entidad/entidad/query/Token$Kind;" (.ref u3)) (S5 : Sta Z Z.heap "com/example/entidad/entidad/query/Token$Kind" "POSITIONAL_PARAMETER" "Lcom/example/entidad/entidad/query/Token$Kind;" (.ref u4)) (S6 : Sta Z Z.heap "com/example/entidad/entidad/query/Token$Kind" "SYMBOL" "Lcom/example/entidad/entidad/query/Token$Kind;" (.ref u5)) (S7 : Sta Z Z.heap "com/example/entidad/entidad/query/Token$Kind" "END" "Lcom/example/entidad/entidad/query/Token$Kind;" (.ref u6)) (x y : Int32) (h : Heap) :
    MetW true l Z [("java/lang/String", 7)] (⟨"java/lang/CharacterDataLatin1", "equalsIgnoreCase", "(BB)Z"⟩ : MethodName) jdk_116_method_22_code 3 (Option.some Jvm.ClassFile.FieldType.boolean) [] ({ frames := 0, cells := 0, slots := 0, locals := 0 } : Room) #[(.int x), (.int y)] [] h (fun v h' => v = some (.int (jdv x y))) := by
  refine MetW.of (Ls := #[.val (.int x), .val (.int y), .unset]) (a0 := a0) (by first | (simp [plainName, overriddenIn]; done) | decide +kernel) (fun m => by first | (simp [entryFrame, mkF, argsToLocals, Value.category]; done) | rfl) (own_EW hw) (fun q => nomatch q) (fun p_ e_ s_ m_ below_ meth_ c_ hs0 C => ?_)
  refine g_iloadN C dC_0 rfl ?_
  refine g_iloadN C dC_1 rfl ?_
  by_cases cc1 : x = y
  · skip
    refine g_icmpF C dC_2 (show x = y from cc1) ?_
    refine g_iconst (1 : Int32) C dC_5 (by decide) ?_
    have hq : jdv x y = (1 : Int32) := by simp only [jdv, lL]; simp only [eq_true cc1]; simp
    exact g_retN C dC_6 (by simp) (by rw [hq]; rfl) (by decide) (by decide)
  · skip
    refine g_icmpT 7 C dC_2 (show ¬ x = y from cc1) (by decide) (by decide) ?_
    refine g_iloadN C dC_7 rfl ?_
    refine g_sipush (223 : Int32) C dC_8 (by decide) ?_
    refine g_iand _ C dC_11 rfl ?_
    refine g_istoreN #[.val (.int x), .val (.int y), .val (.int (x &&& (223 : Int32)))] C dC_12 rfl ?_
    refine g_iloadN C dC_13 rfl ?_
    refine g_bipush (65 : Int32) C dC_14 (by decide) ?_
    by_cases cc2 : (x &&& (223 : Int32)) < (65 : Int32)
    · skip
      refine g_icmpF C dC_16 (show (x &&& (223 : Int32)) < (65 : Int32) from cc2) ?_
      refine g_iconst (0 : Int32) C dC_19 (by decide) ?_
      have hq : jdv x y = (0 : Int32) := by simp only [jdv, lL]; simp only [eq_false cc1, eq_true cc2]; simp
      exact g_retN C dC_20 (by simp) (by rw [hq]; rfl) (by decide) (by decide)
    · skip
      refine g_icmpT 21 C dC_16 (show ¬ (x &&& (223 : Int32)) < (65 : Int32) from cc2) (by decide) (by decide) ?_
      refine g_iloadN C dC_21 rfl ?_
      refine g_bipush (90 : Int32) C dC_22 (by decide) ?_
      by_cases cc3 : (90 : Int32) < (x &&& (223 : Int32))
      · skip
        refine g_icmpF C dC_24 (show (90 : Int32) < (x &&& (223 : Int32)) from cc3) ?_
        refine g_iloadN C dC_27 rfl ?_
        refine g_sipush (192 : Int32) C dC_28 (by decide) ?_
        by_cases cc4 : (x &&& (223 : Int32)) < (192 : Int32)
        · skip
          refine g_icmpT 61 C dC_31 (show (x &&& (223 : Int32)) < (192 : Int32) from cc4) (by decide) (by decide) ?_
          refine g_iconst (0 : Int32) C dC_61 (by decide) ?_
          have hq : jdv x y = (0 : Int32) := by simp only [jdv, lL]; simp only [eq_false cc1, eq_false cc2, eq_true cc3, eq_true cc4]; simp
          exact g_retN C dC_62 (by simp) (by rw [hq]; rfl) (by decide) (by decide)
        · skip
          refine g_icmpF C dC_31 (show ¬ (x &&& (223 : Int32)) < (192 : Int32) from cc4) ?_
          refine g_iloadN C dC_34 rfl ?_
          refine g_sipush (222 : Int32) C dC_35 (by decide) ?_
          by_cases cc5 : (222 : Int32) < (x &&& (223 : Int32))
          · skip
            refine g_icmpT 61 C dC_38 (show (222 : Int32) < (x &&& (223 : Int32)) from cc5) (by decide) (by decide) ?_
            refine g_iconst (0 : Int32) C dC_61 (by decide) ?_
            have hq : jdv x y = (0 : Int32) := by simp only [jdv, lL]; simp only [eq_false cc1, eq_false cc2, eq_true cc3, eq_false cc4, eq_true cc5]; simp
            exact g_retN C dC_62 (by simp) (by rw [hq]; rfl) (by decide) (by decide)
          · skip
            refine g_icmpF C dC_38 (show ¬ (222 : Int32) < (x &&& (223 : Int32)) from cc5) ?_
            refine g_iloadN C dC_41 rfl ?_
            refine g_sipush (215 : Int32) C dC_42 (by decide) ?_
            by_cases cc6 : (x &&& (223 : Int32)) = (215 : Int32)
            · skip
              refine g_icmpT 61 C dC_45 (show (x &&& (223 : Int32)) = (215 : Int32) from cc6) (by decide) (by decide) ?_
              refine g_iconst (0 : Int32) C dC_61 (by decide) ?_
              have hq : jdv x y = (0 : Int32) := by simp only [jdv, lL]; simp only [eq_false cc1, eq_false cc2, eq_true cc3, eq_false cc4, eq_false cc5, eq_true cc6]; simp
              exact g_retN C dC_62 (by simp) (by rw [hq]; rfl) (by decide) (by decide)
            · skip
              refine g_icmpF C dC_45 (show ¬ (x &&& (223 : Int32)) = (215 : Int32) from cc6) ?_
              refine g_iloadN C dC_48 rfl ?_
              refine g_iloadN C dC_49 rfl ?_
              refine g_sipush (223 : Int32) C dC_50 (by decide) ?_
              refine g_iand _ C dC_53 rfl ?_
              by_cases cc7 : (x &&& (223 : Int32)) = (y &&& (223 : Int32))
              · skip
                refine g_icmpF C dC_54 (show (x &&& (223 : Int32)) = (y &&& (223 : Int32)) from cc7) ?_
                refine g_iconst (1 : Int32) C dC_57 (by decide) ?_
                refine g_goto 62 C dC_58 (by decide) (by decide) ?_
                have hq : jdv x y = (1 : Int32) := by simp only [jdv, lL]; simp only [eq_false cc1, eq_false cc2, eq_true cc3, eq_false cc4, eq_false cc5, eq_false cc6, eq_true cc7]; simp
                exact g_retN C dC_62 (by simp) (by rw [hq]; rfl) (by decide) (by decide)
              · skip
                refine g_icmpT 61 C dC_54 (show ¬ (x &&& (223 : Int32)) = (y &&& (223 : Int32)) from cc7) (by decide) (by decide) ?_
                refine g_iconst (0 : Int32) C dC_61 (by decide) ?_
                have hq : jdv x y = (0 : Int32) := by simp only [jdv, lL]; simp only [eq_false cc1, eq_false cc2, eq_true cc3, eq_false cc4, eq_false cc5, eq_false cc6, eq_false cc7]; simp
                exact g_retN C dC_62 (by simp) (by rw [hq]; rfl) (by decide) (by decide)
      · skip
        refine g_icmpT 48 C dC_24 (show ¬ (90 : Int32) < (x &&& (223 : Int32)) from cc3) (by decide) (by decide) ?_
        refine g_iloadN C dC_48 rfl ?_
        refine g_iloadN C dC_49 rfl ?_
        refine g_sipush (223 : Int32) C dC_50 (by decide) ?_
        refine g_iand _ C dC_53 rfl ?_
        by_cases cc8 : (x &&& (223 : Int32)) = (y &&& (223 : Int32))
        · skip
          refine g_icmpF C dC_54 (show (x &&& (223 : Int32)) = (y &&& (223 : Int32)) from cc8) ?_
          refine g_iconst (1 : Int32) C dC_57 (by decide) ?_
          refine g_goto 62 C dC_58 (by decide) (by decide) ?_
          have hq : jdv x y = (1 : Int32) := by simp only [jdv, lL]; simp only [eq_false cc1, eq_false cc2, eq_false cc3, eq_true cc8]; simp
          exact g_retN C dC_62 (by simp) (by rw [hq]; rfl) (by decide) (by decide)
        · skip
          refine g_icmpT 61 C dC_54 (show ¬ (x &&& (223 : Int32)) = (y &&& (223 : Int32)) from cc8) (by decide) (by decide) ?_
          refine g_iconst (0 : Int32) C dC_61 (by decide) ?_
          have hq : jdv x y = (0 : Int32) := by simp only [jdv, lL]; simp only [eq_false cc1, eq_false cc2, eq_false cc3, eq_false cc8]; simp
          exact g_retN C dC_62 (by simp) (by rw [hq]; rfl) (by decide) (by decide)
theorem dD_0 : decode jdk_42_method_152_code 0 = .ok (.getstatic 38, 3) := by decide +kernel
theorem dD_3 : decode jdk_42_method_152_code 3 = .ok (.ifCond .eq 10, 3) := by decide +kernel
theorem dD_6 : decode jdk_42_method_152_code 6 = .ok (.aload_n 0, 1) := by decide +kernel
theorem dD_7 : decode jdk_42_method_152_code 7 = .ok (.getfield 15, 3) := by decide +kernel
theorem dD_10 : decode jdk_42_method_152_code 10 = .ok (.goto 4, 3) := by decide +kernel
theorem dD_14 : decode jdk_42_method_152_code 14 = .ok (.ireturn, 1) := by decide +kernel
set_option maxRecDepth 65536 in
set_option maxHeartbeats 80000000 in
theorem m_coder (l : Launch) (Z : State) (a0 : Array Value) {z0 : Int32} (hw : ∀ d ∈ tables_1, d.before a0 Z = true) (S0 : Sta Z Z.heap "java/lang/String" "COMPACT_STRINGS" "Z" (.int z0)) (hz0 : ¬ z0 = 0) {u0 u1 u2 u3 u4 u5 u6 : Addr} (S1 : Sta Z Z.heap "com/example/entidad/entidad/query/Token$Kind" "IDENTIFIER" "Lcom/example/entidad/entidad/query/Token$Kind;" (.ref u0)) (S2 : Sta Z Z.heap "com/example/entidad/entidad/query/Token$Kind" "STRING" "Lcom/example/entidad/entidad/query/Token$Kind;" (.ref u1)) (S3 : Sta Z Z.heap "com/example/entidad/entidad/query/Token$Kind" "NUMBER" "Lcom/example/entidad/entidad/query/Token$Kind;" (.ref u2)) (S4 : Sta Z Z.heap "com/example/entidad/entidad/query/Token$Kind" "NAMED_PARAMETER" "Lcom/example/entidad/entidad/query/Token$Kind;" (.ref u3)) (S5 : Sta Z Z.heap "com/example/entidad/entidad/query/Token$Kind" "POSITIONAL_PARAMETER" "Lcom/example/entidad/entidad/query/Token$Kind;" (.ref u4)) (S6 : Sta Z Z.heap "com/example/entidad/entidad/query/Token$Kind" "SYMBOL" "Lcom/example/entidad/entidad/query/Token$Kind;" (.ref u5)) (S7 : Sta Z Z.heap "com/example/entidad/entidad/query/Token$Kind" "END" "Lcom/example/entidad/entidad/query/Token$Kind;" (.ref u6)) (a : Addr) (h : Heap) (F : Fld Z h a "java/lang/String" "coder" "B" (.int (0 : Int32))) :
    MetW true l Z [("java/lang/String", 7)] (⟨"java/lang/String", "coder", "()B"⟩ : MethodName) jdk_42_method_152_code 1 (Option.some Jvm.ClassFile.FieldType.byte) [] ({ frames := 0, cells := 0, slots := 0, locals := 0 } : Room) #[(.ref a)] [] h (fun v h' => v = some (.int (0 : Int32))) := by
  refine MetW.of (Ls := #[.val (.ref a)]) (a0 := a0) (by first | (simp [plainName, overriddenIn]; done) | decide +kernel) (fun m => by first | (simp [entryFrame, mkF, argsToLocals, Value.category]; done) | rfl) (own_EW hw) (fun q => nomatch q) (fun p_ e_ s_ m_ below_ meth_ c_ hs0 C => ?_)
  refine g_getstatic (host := "") C dD_0 (Or.inl (hw _ (List.mem_of_getElem? (i := 81) rfl))) Via.refl S0 ?_
  refine g_ifF C dD_3 (show ¬ z0 = (0 : Int32) from hz0) ?_
  refine g_aloadN C dD_6 rfl rfl ?_
  refine g_getfield (host := "") C dD_7 (Or.inl (hw _ (List.mem_of_getElem? (i := 44) rfl))) Via.refl F ?_
  refine g_goto 14 C dD_10 (by decide) (by decide) ?_
  exact g_retN C dD_14 (by simp) rfl (by decide) (by decide)
theorem dE_0 : decode jdk_42_method_54_code 0 = .ok (.aload_n 0, 1) := by decide +kernel
theorem dE_1 : decode jdk_42_method_54_code 1 = .ok (.getfield 9, 3) := by decide +kernel
theorem dE_4 : decode jdk_42_method_54_code 4 = .ok (.arraylength, 1) := by decide +kernel
theorem dE_5 : decode jdk_42_method_54_code 5 = .ok (.aload_n 0, 1) := by decide +kernel
theorem dE_6 : decode jdk_42_method_54_code 6 = .ok (.invokevirtual 335, 3) := by decide +kernel
theorem dE_9 : decode jdk_42_method_54_code 9 = .ok (.ishr, 1) := by decide +kernel
theorem dE_10 : decode jdk_42_method_54_code 10 = .ok (.ireturn, 1) := by decide +kernel
set_option maxRecDepth 65536 in
set_option maxHeartbeats 80000000 in
theorem m_len0 (l : Launch) (Z : State) (a0 : Array Value) {z0 : Int32} (hw : ∀ d ∈ tables_1, d.before a0 Z = true) (S0 : Sta Z Z.heap "java/lang/String" "COMPACT_STRINGS" "Z" (.int z0)) (hz0 : ¬ z0 = 0) {u0 u1 u2 u3 u4 u5 u6 : Addr} (S1 : Sta Z Z.heap "com/example/entidad/entidad/query/Token$Kind" "IDENTIFIER" "Lcom/example/entidad/entidad/query/Token$Kind;" (.ref u0)) (S2 : Sta Z Z.heap "com/example/entidad/entidad/query/Token$Kind" "STRING" "Lcom/example/entidad/entidad/query/Token$Kind;" (.ref u1)) (S3 : Sta Z Z.heap "com/example/entidad/entidad/query/Token$Kind" "NUMBER" "Lcom/example/entidad/entidad/query/Token$Kind;" (.ref u2)) (S4 : Sta Z Z.heap "com/example/entidad/entidad/query/Token$Kind" "NAMED_PARAMETER" "Lcom/example/entidad/entidad/query/Token$Kind;" (.ref u3)) (S5 : Sta Z Z.heap "com/example/entidad/entidad/query/Token$Kind" "POSITIONAL_PARAMETER" "Lcom/example/entidad/entidad/query/Token$Kind;" (.ref u4)) (S6 : Sta Z Z.heap "com/example/entidad/entidad/query/Token$Kind" "SYMBOL" "Lcom/example/entidad/entidad/query/Token$Kind;" (.ref u5)) (S7 : Sta Z Z.heap "com/example/entidad/entidad/query/Token$Kind" "END" "Lcom/example/entidad/entidad/query/Token$Kind;" (.ref u6)) (a t : Addr) (h : Heap) (G : Str Z h a t []) :
    MetW true l Z [("java/lang/String", 7)] (⟨"java/lang/String", "length", "()I"⟩ : MethodName) jdk_42_method_54_code 1 (Option.some Jvm.ClassFile.FieldType.int) [] ({ frames := 1, cells := 0, slots := 0, locals := 13 } : Room) #[(.ref a)] [] h (fun v h' => v = some (.int (0 : Int32))) := by
  refine MetW.of (Ls := #[.val (.ref a)]) (a0 := a0) (by first | (simp [plainName, overriddenIn]; done) | decide +kernel) (fun m => by first | (simp [entryFrame, mkF, argsToLocals, Value.category]; done) | rfl) (own_EW hw) (fun q => nomatch q) (fun p_ e_ s_ m_ below_ meth_ c_ hs0 C => ?_)
  refine g_aloadN C dE_0 rfl rfl ?_
  refine g_getfield (host := "") C dE_1 (Or.inl (hw _ (List.mem_of_getElem? (i := 43) rfl))) Via.refl G.2.2.1 ?_
  refine g_alen C dE_4 G.2.2.2 (z := (0 : Int32)) rfl ?_
  refine g_aloadN C dE_5 rfl rfl ?_
  refine g_invokevirtual [] [(.int (0 : Int32))] 1 C dE_6 (hw _ (List.mem_of_getElem? (i := 76) rfl)) (hw _ (List.mem_of_getElem? (i := 77) rfl)) (hw _ (List.mem_of_getElem? (i := 79) rfl)) (hw _ (List.mem_of_getElem? (i := 78) rfl)) (hw _ (List.mem_of_getElem? (i := 25) rfl)) (hw _ (List.mem_of_getElem? (i := 80) rfl)) (fun _ hZ => notFace_of_selects (args := #[]) (mvT hZ (hw _ (List.mem_of_getElem? (i := 79) rfl)))) (by decide) G.1 (m_coder l Z a0 hw S0 hz0 S1 S2 S3 S4 S5 S6 S7 _ _ G.2.1) (lenOf pd2 rfl) rfl rfl (Nat.le_of_ble_eq_true rfl) (by decide) (by decide) (by decide) (by decide) all0 (fun v1 h2 L3 q4 K5 => ?_)
  obtain rfl := q4
  show Go _ _ _ _ _ _ _ _ _ _ _ _ _ _ _ _ _ _ _ _ _ _ (mkF _ 9 #[.val (.ref a)] [(.int (0 : Int32)), (.int (0 : Int32))])
  refine g_ishr (0 : Int32) C dE_9 (by decide) ?_
  exact g_retI C dE_10 rfl (by decide) (by decide)
set_option maxRecDepth 65536 in
set_option maxHeartbeats 80000000 in
theorem m_len1 (l : Launch) (Z : State) (a0 : Array Value) {z0 : Int32} (hw : ∀ d ∈ tables_1, d.before a0 Z = true) (S0 : Sta Z Z.heap "java/lang/String" "COMPACT_STRINGS" "Z" (.int z0)) (hz0 : ¬ z0 = 0) {u0 u1 u2 u3 u4 u5 u6 : Addr} (S1 : Sta Z Z.heap "com/example/entidad/entidad/query/Token$Kind" "IDENTIFIER" "Lcom/example/entidad/entidad/query/Token$Kind;" (.ref u0)) (S2 : Sta Z Z.heap "com/example/entidad/entidad/query/Token$Kind" "STRING" "Lcom/example/entidad/entidad/query/Token$Kind;" (.ref u1)) (S3 : Sta Z Z.heap "com/example/entidad/entidad/query/Token$Kind" "NUMBER" "Lcom/example/entidad/entidad/query/Token$Kind;" (.ref u2)) (S4 : Sta Z Z.heap "com/example/entidad/entidad/query/Token$Kind" "NAMED_PARAMETER" "Lcom/example/entidad/entidad/query/Token$Kind;" (.ref u3)) (S5 : Sta Z Z.heap "com/example/entidad/entidad/query/Token$Kind" "POSITIONAL_PARAMETER" "Lcom/example/entidad/entidad/query/Token$Kind;" (.ref u4)) (S6 : Sta Z Z.heap "com/example/entidad/entidad/query/Token$Kind" "SYMBOL" "Lcom/example/entidad/entidad/query/Token$Kind;" (.ref u5)) (S7 : Sta Z Z.heap "com/example/entidad/entidad/query/Token$Kind" "END" "Lcom/example/entidad/entidad/query/Token$Kind;" (.ref u6)) (c0 : Int32) (a t : Addr) (h : Heap) (G : Str Z h a t [c0]) :
    MetW true l Z [("java/lang/String", 7)] (⟨"java/lang/String", "length", "()I"⟩ : MethodName) jdk_42_method_54_code 1 (Option.some Jvm.ClassFile.FieldType.int) [] ({ frames := 1, cells := 0, slots := 0, locals := 13 } : Room) #[(.ref a)] [] h (fun v h' => v = some (.int (1 : Int32))) := by
  refine MetW.of (Ls := #[.val (.ref a)]) (a0 := a0) (by first | (simp [plainName, overriddenIn]; done) | decide +kernel) (fun m => by first | (simp [entryFrame, mkF, argsToLocals, Value.category]; done) | rfl) (own_EW hw) (fun q => nomatch q) (fun p_ e_ s_ m_ below_ meth_ c_ hs0 C => ?_)
  refine g_aloadN C dE_0 rfl rfl ?_
  refine g_getfield (host := "") C dE_1 (Or.inl (hw _ (List.mem_of_getElem? (i := 43) rfl))) Via.refl G.2.2.1 ?_
  refine g_alen C dE_4 G.2.2.2 (z := (1 : Int32)) rfl ?_
  refine g_aloadN C dE_5 rfl rfl ?_
  refine g_invokevirtual [] [(.int (1 : Int32))] 1 C dE_6 (hw _ (List.mem_of_getElem? (i := 76) rfl)) (hw _ (List.mem_of_getElem? (i := 77) rfl)) (hw _ (List.mem_of_getElem? (i := 79) rfl)) (hw _ (List.mem_of_getElem? (i := 78) rfl)) (hw _ (List.mem_of_getElem? (i := 25) rfl)) (hw _ (List.mem_of_getElem? (i := 80) rfl)) (fun _ hZ => notFace_of_selects (args := #[]) (mvT hZ (hw _ (List.mem_of_getElem? (i := 79) rfl)))) (by decide) G.1 (m_coder l Z a0 hw S0 hz0 S1 S2 S3 S4 S5 S6 S7 _ _ G.2.1) (lenOf pd2 rfl) rfl rfl (Nat.le_of_ble_eq_true rfl) (by decide) (by decide) (by decide) (by decide) all0 (fun v1 h2 L3 q4 K5 => ?_)
  obtain rfl := q4
  show Go _ _ _ _ _ _ _ _ _ _ _ _ _ _ _ _ _ _ _ _ _ _ (mkF _ 9 #[.val (.ref a)] [(.int (0 : Int32)), (.int (1 : Int32))])
  refine g_ishr (1 : Int32) C dE_9 (by decide) ?_
  exact g_retI C dE_10 rfl (by decide) (by decide)
set_option maxRecDepth 65536 in
set_option maxHeartbeats 80000000 in
theorem m_len2 (l : Launch) (Z : State) (a0 : Array Value) {z0 : Int32} (hw : ∀ d ∈ tables_1, d.before a0 Z = true) (S0 : Sta Z Z.heap "java/lang/String" "COMPACT_STRINGS" "Z" (.int z0)) (hz0 : ¬ z0 = 0) {u0 u1 u2 u3 u4 u5 u6 : Addr} (S1 : Sta Z Z.heap "com/example/entidad/entidad/query/Token$Kind" "IDENTIFIER" "Lcom/example/entidad/entidad/query/Token$Kind;" (.ref u0)) (S2 : Sta Z Z.heap "com/example/entidad/entidad/query/Token$Kind" "STRING" "Lcom/example/entidad/entidad/query/Token$Kind;" (.ref u1)) (S3 : Sta Z Z.heap "com/example/entidad/entidad/query/Token$Kind" "NUMBER" "Lcom/example/entidad/entidad/query/Token$Kind;" (.ref u2)) (S4 : Sta Z Z.heap "com/example/entidad/entidad/query/Token$Kind" "NAMED_PARAMETER" "Lcom/example/entidad/entidad/query/Token$Kind;" (.ref u3)) (S5 : Sta Z Z.heap "com/example/entidad/entidad/query/Token$Kind" "POSITIONAL_PARAMETER" "Lcom/example/entidad/entidad/query/Token$Kind;" (.ref u4)) (S6 : Sta Z Z.heap "com/example/entidad/entidad/query/Token$Kind" "SYMBOL" "Lcom/example/entidad/entidad/query/Token$Kind;" (.ref u5)) (S7 : Sta Z Z.heap "com/example/entidad/entidad/query/Token$Kind" "END" "Lcom/example/entidad/entidad/query/Token$Kind;" (.ref u6)) (c0 c1 : Int32) (a t : Addr) (h : Heap) (G : Str Z h a t [c0, c1]) :
    MetW true l Z [("java/lang/String", 7)] (⟨"java/lang/String", "length", "()I"⟩ : MethodName) jdk_42_method_54_code 1 (Option.some Jvm.ClassFile.FieldType.int) [] ({ frames := 1, cells := 0, slots := 0, locals := 13 } : Room) #[(.ref a)] [] h (fun v h' => v = some (.int (2 : Int32))) := by
  refine MetW.of (Ls := #[.val (.ref a)]) (a0 := a0) (by first | (simp [plainName, overriddenIn]; done) | decide +kernel) (fun m => by first | (simp [entryFrame, mkF, argsToLocals, Value.category]; done) | rfl) (own_EW hw) (fun q => nomatch q) (fun p_ e_ s_ m_ below_ meth_ c_ hs0 C => ?_)
  refine g_aloadN C dE_0 rfl rfl ?_
  refine g_getfield (host := "") C dE_1 (Or.inl (hw _ (List.mem_of_getElem? (i := 43) rfl))) Via.refl G.2.2.1 ?_
  refine g_alen C dE_4 G.2.2.2 (z := (2 : Int32)) rfl ?_
  refine g_aloadN C dE_5 rfl rfl ?_
  refine g_invokevirtual [] [(.int (2 : Int32))] 1 C dE_6 (hw _ (List.mem_of_getElem? (i := 76) rfl)) (hw _ (List.mem_of_getElem? (i := 77) rfl)) (hw _ (List.mem_of_getElem? (i := 79) rfl)) (hw _ (List.mem_of_getElem? (i := 78) rfl)) (hw _ (List.mem_of_getElem? (i := 25) rfl)) (hw _ (List.mem_of_getElem? (i := 80) rfl)) (fun _ hZ => notFace_of_selects (args := #[]) (mvT hZ (hw _ (List.mem_of_getElem? (i := 79) rfl)))) (by decide) G.1 (m_coder l Z a0 hw S0 hz0 S1 S2 S3 S4 S5 S6 S7 _ _ G.2.1) (lenOf pd2 rfl) rfl rfl (Nat.le_of_ble_eq_true rfl) (by decide) (by decide) (by decide) (by decide) all0 (fun v1 h2 L3 q4 K5 => ?_)
  obtain rfl := q4
  show Go _ _ _ _ _ _ _ _ _ _ _ _ _ _ _ _ _ _ _ _ _ _ (mkF _ 9 #[.val (.ref a)] [(.int (0 : Int32)), (.int (2 : Int32))])
  refine g_ishr (2 : Int32) C dE_9 (by decide) ?_
  exact g_retI C dE_10 rfl (by decide) (by decide)
theorem dF_0 : decode jdk_43_method_30_code 0 = .ok (.iload_n 1, 1) := by decide +kernel
theorem dF_1 : decode jdk_43_method_30_code 1 = .ok (.iload 4, 2) := by decide +kernel
theorem dF_3 : decode jdk_43_method_30_code 3 = .ok (.iadd, 1) := by decide +kernel
theorem dF_4 : decode jdk_43_method_30_code 4 = .ok (.istore 5, 2) := by decide +kernel
theorem dF_6 : decode jdk_43_method_30_code 6 = .ok (.iload_n 1, 1) := by decide +kernel
theorem dF_7 : decode jdk_43_method_30_code 7 = .ok (.iload 5, 2) := by decide +kernel
theorem dF_9 : decode jdk_43_method_30_code 9 = .ok (.if_icmp .ge 34, 3) := by decide +kernel
theorem dF_43 : decode jdk_43_method_30_code 43 = .ok (.iconst 1, 1) := by decide +kernel
theorem dF_44 : decode jdk_43_method_30_code 44 = .ok (.ireturn, 1) := by decide +kernel
set_option maxRecDepth 65536 in
set_option maxHeartbeats 80000000 in
theorem m_ci0 (l : Launch) (Z : State) (a0 : Array Value) {z0 : Int32} (hw : ∀ d ∈ tables_1, d.before a0 Z = true) (S0 : Sta Z Z.heap "java/lang/String" "COMPACT_STRINGS" "Z" (.int z0)) (hz0 : ¬ z0 = 0) {u0 u1 u2 u3 u4 u5 u6 : Addr} (S1 : Sta Z Z.heap "com/example/entidad/entidad/query/Token$Kind" "IDENTIFIER" "Lcom/example/entidad/entidad/query/Token$Kind;" (.ref u0)) (S2 : Sta Z Z.heap "com/example/entidad/entidad/query/Token$Kind" "STRING" "Lcom/example/entidad/entidad/query/Token$Kind;" (.ref u1)) (S3 : Sta Z Z.heap "com/example/entidad/entidad/query/Token$Kind" "NUMBER" "Lcom/example/entidad/entidad/query/Token$Kind;" (.ref u2)) (S4 : Sta Z Z.heap "com/example/entidad/entidad/query/Token$Kind" "NAMED_PARAMETER" "Lcom/example/entidad/entidad/query/Token$Kind;" (.ref u3)) (S5 : Sta Z Z.heap "com/example/entidad/entidad/query/Token$Kind" "POSITIONAL_PARAMETER" "Lcom/example/entidad/entidad/query/Token$Kind;" (.ref u4)) (S6 : Sta Z Z.heap "com/example/entidad/entidad/query/Token$Kind" "SYMBOL" "Lcom/example/entidad/entidad/query/Token$Kind;" (.ref u5)) (S7 : Sta Z Z.heap "com/example/entidad/entidad/query/Token$Kind" "END" "Lcom/example/entidad/entidad/query/Token$Kind;" (.ref u6))  (s t : Addr) (h : Heap) (A1 : Av Z h s .byte []) (A2 : Av Z h t .byte []) :
    MetW true l Z [("java/lang/String", 7)] (⟨"java/lang/StringLatin1", "regionMatchesCI", "([BI[BII)Z"⟩ : MethodName) jdk_43_method_30_code 8 (Option.some Jvm.ClassFile.FieldType.boolean) [] ({ frames := 0, cells := 0, slots := 0, locals := 0 } : Room) #[(.ref s), (.int (0 : Int32)), (.ref t), (.int (0 : Int32)), (.int (0 : Int32))] [] h (fun v h' => v = some (.int (if ([] : List Int32).map foldI = ([] : List Int32).map foldI then 1 else 0))) := by
  refine MetW.of (Ls := #[.val (.ref s), .val (.int (0 : Int32)), .val (.ref t), .val (.int (0 : Int32)), .val (.int (0 : Int32)), .unset, .unset, .unset]) (a0 := a0) (by first | (simp [plainName, overriddenIn]; done) | decide +kernel) (fun m => by first | (simp [entryFrame, mkF, argsToLocals, Value.category]; done) | rfl) (own_EW hw) (fun q => nomatch q) (fun p_ e_ s_ m_ below_ meth_ c_ hs0 C => ?_)
  refine g_iloadN C dF_0 rfl ?_
  refine g_iload C dF_1 rfl ?_
  refine g_iadd (0 : Int32) C dF_3 (by decide) ?_
  refine g_istore #[.val (.ref s), .val (.int (0 : Int32)), .val (.ref t), .val (.int (0 : Int32)), .val (.int (0 : Int32)), .val (.int (0 : Int32)), .unset, .unset] C dF_4 rfl ?_
  refine g_iloadN C dF_6 rfl ?_
  refine g_iload C dF_7 rfl ?_
  refine g_icmpT 43 C dF_9 (show ¬ (0 : Int32) < (0 : Int32) by decide) (by decide) (by decide) ?_
  refine g_iconst (1 : Int32) C dF_43 (by decide) ?_
  have hq : (if ([] : List Int32).map foldI = ([] : List Int32).map foldI then (1 : Int32) else 0) = (1 : Int32) := by simp []
  exact g_retN C dF_44 (by simp) (by rw [hq]; rfl) (by decide) (by decide)
theorem dF_12 : decode jdk_43_method_30_code 12 = .ok (.aload_n 0, 1) := by decide +kernel
theorem dF_13 : decode jdk_43_method_30_code 13 = .ok (.iload_n 1, 1) := by decide +kernel
theorem dF_14 : decode jdk_43_method_30_code 14 = .ok (.iinc 1 1, 3) := by decide +kernel
theorem dF_17 : decode jdk_43_method_30_code 17 = .ok (.baload, 1) := by decide +kernel
theorem dF_18 : decode jdk_43_method_30_code 18 = .ok (.istore 6, 2) := by decide +kernel
theorem dF_20 : decode jdk_43_method_30_code 20 = .ok (.aload_n 2, 1) := by decide +kernel
theorem dF_21 : decode jdk_43_method_30_code 21 = .ok (.iload_n 3, 1) := by decide +kernel
theorem dF_22 : decode jdk_43_method_30_code 22 = .ok (.iinc 3 1, 3) := by decide +kernel
theorem dF_25 : decode jdk_43_method_30_code 25 = .ok (.baload, 1) := by decide +kernel
theorem dF_26 : decode jdk_43_method_30_code 26 = .ok (.istore 7, 2) := by decide +kernel
theorem dF_28 : decode jdk_43_method_30_code 28 = .ok (.iload 6, 2) := by decide +kernel
theorem dF_30 : decode jdk_43_method_30_code 30 = .ok (.iload 7, 2) := by decide +kernel
theorem dF_32 : decode jdk_43_method_30_code 32 = .ok (.invokestatic 153, 3) := by decide +kernel
theorem dF_35 : decode jdk_43_method_30_code 35 = .ok (.ifCond .eq 6, 3) := by decide +kernel
theorem dF_38 : decode jdk_43_method_30_code 38 = .ok (.goto (-32), 3) := by decide +kernel
theorem dF_41 : decode jdk_43_method_30_code 41 = .ok (.iconst 0, 1) := by decide +kernel
theorem dF_42 : decode jdk_43_method_30_code 42 = .ok (.ireturn, 1) := by decide +kernel
set_option maxRecDepth 65536 in
set_option maxHeartbeats 80000000 in
theorem m_ci1 (l : Launch) (Z : State) (a0 : Array Value) {z0 : Int32} (hw : ∀ d ∈ tables_1, d.before a0 Z = true) (S0 : Sta Z Z.heap "java/lang/String" "COMPACT_STRINGS" "Z" (.int z0)) (hz0 : ¬ z0 = 0) {u0 u1 u2 u3 u4 u5 u6 : Addr} (S1 : Sta Z Z.heap "com/example/entidad/entidad/query/Token$Kind" "IDENTIFIER" "Lcom/example/entidad/entidad/query/Token$Kind;" (.ref u0)) (S2 : Sta Z Z.heap "com/example/entidad/entidad/query/Token$Kind" "STRING" "Lcom/example/entidad/entidad/query/Token$Kind;" (.ref u1)) (S3 : Sta Z Z.heap "com/example/entidad/entidad/query/Token$Kind" "NUMBER" "Lcom/example/entidad/entidad/query/Token$Kind;" (.ref u2)) (S4 : Sta Z Z.heap "com/example/entidad/entidad/query/Token$Kind" "NAMED_PARAMETER" "Lcom/example/entidad/entidad/query/Token$Kind;" (.ref u3)) (S5 : Sta Z Z.heap "com/example/entidad/entidad/query/Token$Kind" "POSITIONAL_PARAMETER" "Lcom/example/entidad/entidad/query/Token$Kind;" (.ref u4)) (S6 : Sta Z Z.heap "com/example/entidad/entidad/query/Token$Kind" "SYMBOL" "Lcom/example/entidad/entidad/query/Token$Kind;" (.ref u5)) (S7 : Sta Z Z.heap "com/example/entidad/entidad/query/Token$Kind" "END" "Lcom/example/entidad/entidad/query/Token$Kind;" (.ref u6)) (c0 d0 : Int32) (b_c0 : ¬ c0 < 0 ∧ ¬ (255 : Int32) < c0) (b_d0 : ¬ d0 < 0 ∧ ¬ (255 : Int32) < d0) (s t : Addr) (h : Heap) (A1 : Av Z h s .byte [(.int c0.toInt8.toInt32)]) (A2 : Av Z h t .byte [(.int d0.toInt8.toInt32)]) :
    MetW true l Z [("java/lang/String", 7)] (⟨"java/lang/StringLatin1", "regionMatchesCI", "([BI[BII)Z"⟩ : MethodName) jdk_43_method_30_code 8 (Option.some Jvm.ClassFile.FieldType.boolean) [] ({ frames := 1, cells := 0, slots := 0, locals := 14 } : Room) #[(.ref s), (.int (0 : Int32)), (.ref t), (.int (0 : Int32)), (.int (1 : Int32))] [] h (fun v h' => v = some (.int (if ([c0] : List Int32).map foldI = ([d0] : List Int32).map foldI then 1 else 0))) := by
  refine MetW.of (Ls := #[.val (.ref s), .val (.int (0 : Int32)), .val (.ref t), .val (.int (0 : Int32)), .val (.int (1 : Int32)), .unset, .unset, .unset]) (a0 := a0) (by first | (simp [plainName, overriddenIn]; done) | decide +kernel) (fun m => by first | (simp [entryFrame, mkF, argsToLocals, Value.category]; done) | rfl) (own_EW hw) (fun q => nomatch q) (fun p_ e_ s_ m_ below_ meth_ c_ hs0 C => ?_)
  refine g_iloadN C dF_0 rfl ?_
  refine g_iload C dF_1 rfl ?_
  refine g_iadd (1 : Int32) C dF_3 (by decide) ?_
  refine g_istore #[.val (.ref s), .val (.int (0 : Int32)), .val (.ref t), .val (.int (0 : Int32)), .val (.int (1 : Int32)), .val (.int (1 : Int32)), .unset, .unset] C dF_4 rfl ?_
  refine g_iloadN C dF_6 rfl ?_
  refine g_iload C dF_7 rfl ?_
  refine g_icmpF C dF_9 (show (0 : Int32) < (1 : Int32) by decide) ?_
  refine g_aloadN C dF_12 rfl rfl ?_
  refine g_iloadN C dF_13 rfl ?_
  refine g_iinc (1 : Int32) #[.val (.ref s), .val (.int (1 : Int32)), .val (.ref t), .val (.int (0 : Int32)), .val (.int (1 : Int32)), .val (.int (1 : Int32)), .unset, .unset] C dF_14 rfl (by decide) rfl ?_
  refine g_baload 0 C dF_17 A1 (by decide) (by decide) rfl ?_
  refine g_istore #[.val (.ref s), .val (.int (1 : Int32)), .val (.ref t), .val (.int (0 : Int32)), .val (.int (1 : Int32)), .val (.int (1 : Int32)), .val (.int c0.toInt8.toInt32), .unset] C dF_18 rfl ?_
  refine g_aloadN C dF_20 rfl rfl ?_
  refine g_iloadN C dF_21 rfl ?_
  refine g_iinc (1 : Int32) #[.val (.ref s), .val (.int (1 : Int32)), .val (.ref t), .val (.int (1 : Int32)), .val (.int (1 : Int32)), .val (.int (1 : Int32)), .val (.int c0.toInt8.toInt32), .unset] C dF_22 rfl (by decide) rfl ?_
  refine g_baload 0 C dF_25 A2 (by decide) (by decide) rfl ?_
  refine g_istore #[.val (.ref s), .val (.int (1 : Int32)), .val (.ref t), .val (.int (1 : Int32)), .val (.int (1 : Int32)), .val (.int (1 : Int32)), .val (.int c0.toInt8.toInt32), .val (.int d0.toInt8.toInt32)] C dF_26 rfl ?_
  refine g_iload C dF_28 rfl ?_
  refine g_iload C dF_30 rfl ?_
  refine g_invokestatic [(.int c0.toInt8.toInt32), (.int d0.toInt8.toInt32)] [] 0 C dF_32 (hw _ (List.mem_of_getElem? (i := 111) rfl)) (hw _ (List.mem_of_getElem? (i := 112) rfl)) (hw _ (List.mem_of_getElem? (i := 113) rfl)) (hw _ (List.mem_of_getElem? (i := 114) rfl)) (by decide) (m_cdl0 l Z a0 hw S0 hz0 S1 S2 S3 S4 S5 S6 S7 _ _ _) (lenOf pd3 rfl) rfl rfl (Nat.le_of_ble_eq_true rfl) (by decide) (by decide) (by decide) (by decide) all0 (fun v1 h2 L3 q4 K5 => ?_)
  obtain rfl := q4
  rw [own_cdl b_c0 b_d0]
  by_cases cc6 : foldI c0 = foldI d0
  · rw [if_pos cc6]
    show Go _ _ _ _ _ _ _ _ _ _ _ _ _ _ _ _ _ _ _ _ _ _ (mkF _ 35 #[.val (.ref s), .val (.int (1 : Int32)), .val (.ref t), .val (.int (1 : Int32)), .val (.int (1 : Int32)), .val (.int (1 : Int32)), .val (.int c0.toInt8.toInt32), .val (.int d0.toInt8.toInt32)] [(.int (1 : Int32))])
    refine g_ifF C dF_35 (show ¬ (1 : Int32) = (0 : Int32) by decide) ?_
    refine g_goto 6 C dF_38 (by decide) (by decide) ?_
    refine g_iloadN C dF_6 rfl ?_
    refine g_iload C dF_7 rfl ?_
    refine g_icmpT 43 C dF_9 (show ¬ (1 : Int32) < (1 : Int32) by decide) (by decide) (by decide) ?_
    refine g_iconst (1 : Int32) C dF_43 (by decide) ?_
    have hq : (if ([c0] : List Int32).map foldI = ([d0] : List Int32).map foldI then (1 : Int32) else 0) = (1 : Int32) := by simp [cc6]
    exact g_retN C dF_44 (by simp) (by rw [hq]; rfl) (by decide) (by decide)
  · rw [if_neg cc6]
    show Go _ _ _ _ _ _ _ _ _ _ _ _ _ _ _ _ _ _ _ _ _ _ (mkF _ 35 #[.val (.ref s), .val (.int (1 : Int32)), .val (.ref t), .val (.int (1 : Int32)), .val (.int (1 : Int32)), .val (.int (1 : Int32)), .val (.int c0.toInt8.toInt32), .val (.int d0.toInt8.toInt32)] [(.int (0 : Int32))])
    refine g_ifT 41 C dF_35 (show (0 : Int32) = (0 : Int32) by decide) (by decide) (by decide) ?_
    refine g_iconst (0 : Int32) C dF_41 (by decide) ?_
    have hq : (if ([c0] : List Int32).map foldI = ([d0] : List Int32).map foldI then (1 : Int32) else 0) = (0 : Int32) := by simp [cc6]
    exact g_retN C dF_42 (by simp) (by rw [hq]; rfl) (by decide) (by decide)
set_option maxRecDepth 65536 in
set_option maxHeartbeats 80000000 in
theorem m_ci2 (l : Launch) (Z : State) (a0 : Array Value) {z0 : Int32} (hw : ∀ d ∈ tables_1, d.before a0 Z = true) (S0 : Sta Z Z.heap "java/lang/String" "COMPACT_STRINGS" "Z" (.int z0)) (hz0 : ¬ z0 = 0) {u0 u1 u2 u3 u4 u5 u6 : Addr} (S1 : Sta Z Z.heap "com/example/entidad/entidad/query/Token$Kind" "IDENTIFIER" "Lcom/example/entidad/entidad/query/Token$Kind;" (.ref u0)) (S2 : Sta Z Z.heap "com/example/entidad/entidad/query/Token$Kind" "STRING" "Lcom/example/entidad/entidad/query/Token$Kind;" (.ref u1)) (S3 : Sta Z Z.heap "com/example/entidad/entidad/query/Token$Kind" "NUMBER" "Lcom/example/entidad/entidad/query/Token$Kind;" (.ref u2)) (S4 : Sta Z Z.heap "com/example/entidad/entidad/query/Token$Kind" "NAMED_PARAMETER" "Lcom/example/entidad/entidad/query/Token$Kind;" (.ref u3)) (S5 : Sta Z Z.heap "com/example/entidad/entidad/query/Token$Kind" "POSITIONAL_PARAMETER" "Lcom/example/entidad/entidad/query/Token$Kind;" (.ref u4)) (S6 : Sta Z Z.heap "com/example/entidad/entidad/query/Token$Kind" "SYMBOL" "Lcom/example/entidad/entidad/query/Token$Kind;" (.ref u5)) (S7 : Sta Z Z.heap "com/example/entidad/entidad/query/Token$Kind" "END" "Lcom/example/entidad/entidad/query/Token$Kind;" (.ref u6)) (c0 c1 d0 d1 : Int32) (b_c0 : ¬ c0 < 0 ∧ ¬ (255 : Int32) < c0) (b_c1 : ¬ c1 < 0 ∧ ¬ (255 : Int32) < c1) (b_d0 : ¬ d0 < 0 ∧ ¬ (255 : Int32) < d0) (b_d1 : ¬ d1 < 0 ∧ ¬ (255 : Int32) < d1) (s t : Addr) (h : Heap) (A1 : Av Z h s .byte [(.int c0.toInt8.toInt32), (.int c1.toInt8.toInt32)]) (A2 : Av Z h t .byte [(.int d0.toInt8.toInt32), (.int d1.toInt8.toInt32)]) :
    MetW true l Z [("java/lang/String", 7)] (⟨"java/lang/StringLatin1", "regionMatchesCI", "([BI[BII)Z"⟩ : MethodName) jdk_43_method_30_code 8 (Option.some Jvm.ClassFile.FieldType.boolean) [] ({ frames := 1, cells := 0, slots := 0, locals := 14 } : Room) #[(.ref s), (.int (0 : Int32)), (.ref t), (.int (0 : Int32)), (.int (2 : Int32))] [] h (fun v h' => v = some (.int (if ([c0, c1] : List Int32).map foldI = ([d0, d1] : List Int32).map foldI then 1 else 0))) := by
  refine MetW.of (Ls := #[.val (.ref s), .val (.int (0 : Int32)), .val (.ref t), .val (.int (0 : Int32)), .val (.int (2 : Int32)), .unset, .unset, .unset]) (a0 := a0) (by first | (simp [plainName, overriddenIn]; done) | decide +kernel) (fun m => by first | (simp [entryFrame, mkF, argsToLocals, Value.category]; done) | rfl) (own_EW hw) (fun q => nomatch q) (fun p_ e_ s_ m_ below_ meth_ c_ hs0 C => ?_)
  refine g_iloadN C dF_0 rfl ?_
  refine g_iload C dF_1 rfl ?_
  refine g_iadd (2 : Int32) C dF_3 (by decide) ?_
  refine g_istore #[.val (.ref s), .val (.int (0 : Int32)), .val (.ref t), .val (.int (0 : Int32)), .val (.int (2 : Int32)), .val (.int (2 : Int32)), .unset, .unset] C dF_4 rfl ?_
  refine g_iloadN C dF_6 rfl ?_
  refine g_iload C dF_7 rfl ?_
  refine g_icmpF C dF_9 (show (0 : Int32) < (2 : Int32) by decide) ?_
  refine g_aloadN C dF_12 rfl rfl ?_
  refine g_iloadN C dF_13 rfl ?_
  refine g_iinc (1 : Int32) #[.val (.ref s), .val (.int (1 : Int32)), .val (.ref t), .val (.int (0 : Int32)), .val (.int (2 : Int32)), .val (.int (2 : Int32)), .unset, .unset] C dF_14 rfl (by decide) rfl ?_
  refine g_baload 0 C dF_17 A1 (by decide) (by decide) rfl ?_
  refine g_istore #[.val (.ref s), .val (.int (1 : Int32)), .val (.ref t), .val (.int (0 : Int32)), .val (.int (2 : Int32)), .val (.int (2 : Int32)), .val (.int c0.toInt8.toInt32), .unset] C dF_18 rfl ?_
  refine g_aloadN C dF_20 rfl rfl ?_
  refine g_iloadN C dF_21 rfl ?_
  refine g_iinc (1 : Int32) #[.val (.ref s), .val (.int (1 : Int32)), .val (.ref t), .val (.int (1 : Int32)), .val (.int (2 : Int32)), .val (.int (2 : Int32)), .val (.int c0.toInt8.toInt32), .unset] C dF_22 rfl (by decide) rfl ?_
  refine g_baload 0 C dF_25 A2 (by decide) (by decide) rfl ?_
  refine g_istore #[.val (.ref s), .val (.int (1 : Int32)), .val (.ref t), .val (.int (1 : Int32)), .val (.int (2 : Int32)), .val (.int (2 : Int32)), .val (.int c0.toInt8.toInt32), .val (.int d0.toInt8.toInt32)] C dF_26 rfl ?_
  refine g_iload C dF_28 rfl ?_
  refine g_iload C dF_30 rfl ?_
  refine g_invokestatic [(.int c0.toInt8.toInt32), (.int d0.toInt8.toInt32)] [] 0 C dF_32 (hw _ (List.mem_of_getElem? (i := 111) rfl)) (hw _ (List.mem_of_getElem? (i := 112) rfl)) (hw _ (List.mem_of_getElem? (i := 113) rfl)) (hw _ (List.mem_of_getElem? (i := 114) rfl)) (by decide) (m_cdl0 l Z a0 hw S0 hz0 S1 S2 S3 S4 S5 S6 S7 _ _ _) (lenOf pd3 rfl) rfl rfl (Nat.le_of_ble_eq_true rfl) (by decide) (by decide) (by decide) (by decide) all0 (fun v1 h2 L3 q4 K5 => ?_)
  obtain rfl := q4
  rw [own_cdl b_c0 b_d0]
  by_cases cc6 : foldI c0 = foldI d0
  · rw [if_pos cc6]
    show Go _ _ _ _ _ _ _ _ _ _ _ _ _ _ _ _ _ _ _ _ _ _ (mkF _ 35 #[.val (.ref s), .val (.int (1 : Int32)), .val (.ref t), .val (.int (1 : Int32)), .val (.int (2 : Int32)), .val (.int (2 : Int32)), .val (.int c0.toInt8.toInt32), .val (.int d0.toInt8.toInt32)] [(.int (1 : Int32))])
    refine g_ifF C dF_35 (show ¬ (1 : Int32) = (0 : Int32) by decide) ?_
    refine g_goto 6 C dF_38 (by decide) (by decide) ?_
    refine g_iloadN C dF_6 rfl ?_
    refine g_iload C dF_7 rfl ?_
    refine g_icmpF C dF_9 (show (1 : Int32) < (2 : Int32) by decide) ?_
    refine g_aloadN C dF_12 rfl rfl ?_
    refine g_iloadN C dF_13 rfl ?_
    refine g_iinc (2 : Int32) #[.val (.ref s), .val (.int (2 : Int32)), .val (.ref t), .val (.int (1 : Int32)), .val (.int (2 : Int32)), .val (.int (2 : Int32)), .val (.int c0.toInt8.toInt32), .val (.int d0.toInt8.toInt32)] C dF_14 rfl (by decide) rfl ?_
    have f7 := (A1.keep K5 nin0)
    refine g_baload 1 C dF_17 f7 (by decide) (by decide) rfl ?_
    refine g_istore #[.val (.ref s), .val (.int (2 : Int32)), .val (.ref t), .val (.int (1 : Int32)), .val (.int (2 : Int32)), .val (.int (2 : Int32)), .val (.int c1.toInt8.toInt32), .val (.int d0.toInt8.toInt32)] C dF_18 rfl ?_
    refine g_aloadN C dF_20 rfl rfl ?_
    refine g_iloadN C dF_21 rfl ?_
    refine g_iinc (2 : Int32) #[.val (.ref s), .val (.int (2 : Int32)), .val (.ref t), .val (.int (2 : Int32)), .val (.int (2 : Int32)), .val (.int (2 : Int32)), .val (.int c1.toInt8.toInt32), .val (.int d0.toInt8.toInt32)] C dF_22 rfl (by decide) rfl ?_
    have f8 := (A2.keep K5 nin0)
    refine g_baload 1 C dF_25 f8 (by decide) (by decide) rfl ?_
    refine g_istore #[.val (.ref s), .val (.int (2 : Int32)), .val (.ref t), .val (.int (2 : Int32)), .val (.int (2 : Int32)), .val (.int (2 : Int32)), .val (.int c1.toInt8.toInt32), .val (.int d1.toInt8.toInt32)] C dF_26 rfl ?_
    refine g_iload C dF_28 rfl ?_
    refine g_iload C dF_30 rfl ?_
    refine g_invokestatic [(.int c1.toInt8.toInt32), (.int d1.toInt8.toInt32)] [] 0 C dF_32 (hw _ (List.mem_of_getElem? (i := 111) rfl)) (hw _ (List.mem_of_getElem? (i := 112) rfl)) (hw _ (List.mem_of_getElem? (i := 113) rfl)) (hw _ (List.mem_of_getElem? (i := 114) rfl)) (by decide) (m_cdl0 l Z a0 hw S0 hz0 S1 S2 S3 S4 S5 S6 S7 _ _ _) (lenOf pd3 rfl) rfl rfl (Nat.le_of_ble_eq_true rfl) (by decide) (by decide) (by decide) (by decide) all0 (fun v9 h10 L11 q12 K13 => ?_)
    obtain rfl := q12
    rw [own_cdl b_c1 b_d1]
    by_cases cc14 : foldI c1 = foldI d1
    · rw [if_pos cc14]
      show Go _ _ _ _ _ _ _ _ _ _ _ _ _ _ _ _ _ _ _ _ _ _ (mkF _ 35 #[.val (.ref s), .val (.int (2 : Int32)), .val (.ref t), .val (.int (2 : Int32)), .val (.int (2 : Int32)), .val (.int (2 : Int32)), .val (.int c1.toInt8.toInt32), .val (.int d1.toInt8.toInt32)] [(.int (1 : Int32))])
      refine g_ifF C dF_35 (show ¬ (1 : Int32) = (0 : Int32) by decide) ?_
      refine g_goto 6 C dF_38 (by decide) (by decide) ?_
      refine g_iloadN C dF_6 rfl ?_
      refine g_iload C dF_7 rfl ?_
      refine g_icmpT 43 C dF_9 (show ¬ (2 : Int32) < (2 : Int32) by decide) (by decide) (by decide) ?_
      refine g_iconst (1 : Int32) C dF_43 (by decide) ?_
      have hq : (if ([c0, c1] : List Int32).map foldI = ([d0, d1] : List Int32).map foldI then (1 : Int32) else 0) = (1 : Int32) := by simp [cc6, cc14]
      exact g_retN C dF_44 (by simp) (by rw [hq]; rfl) (by decide) (by decide)
    · rw [if_neg cc14]
      show Go _ _ _ _ _ _ _ _ _ _ _ _ _ _ _ _ _ _ _ _ _ _ (mkF _ 35 #[.val (.ref s), .val (.int (2 : Int32)), .val (.ref t), .val (.int (2 : Int32)), .val (.int (2 : Int32)), .val (.int (2 : Int32)), .val (.int c1.toInt8.toInt32), .val (.int d1.toInt8.toInt32)] [(.int (0 : Int32))])
      refine g_ifT 41 C dF_35 (show (0 : Int32) = (0 : Int32) by decide) (by decide) (by decide) ?_
      refine g_iconst (0 : Int32) C dF_41 (by decide) ?_
      have hq : (if ([c0, c1] : List Int32).map foldI = ([d0, d1] : List Int32).map foldI then (1 : Int32) else 0) = (0 : Int32) := by simp [cc6, cc14]
      exact g_retN C dF_42 (by simp) (by rw [hq]; rfl) (by decide) (by decide)
  · rw [if_neg cc6]
    show Go _ _ _ _ _ _ _ _ _ _ _ _ _ _ _ _ _ _ _ _ _ _ (mkF _ 35 #[.val (.ref s), .val (.int (1 : Int32)), .val (.ref t), .val (.int (1 : Int32)), .val (.int (2 : Int32)), .val (.int (2 : Int32)), .val (.int c0.toInt8.toInt32), .val (.int d0.toInt8.toInt32)] [(.int (0 : Int32))])
    refine g_ifT 41 C dF_35 (show (0 : Int32) = (0 : Int32) by decide) (by decide) (by decide) ?_
    refine g_iconst (0 : Int32) C dF_41 (by decide) ?_
    have hq : (if ([c0, c1] : List Int32).map foldI = ([d0, d1] : List Int32).map foldI then (1 : Int32) else 0) = (0 : Int32) := by simp [cc6]
    exact g_retN C dF_42 (by simp) (by rw [hq]; rfl) (by decide) (by decide)
theorem dG_0 : decode jdk_42_method_74_code 0 = .ok (.iload_n 1, 1) := by decide +kernel
theorem dG_1 : decode jdk_42_method_74_code 1 = .ok (.ifCond .ne 14, 3) := by decide +kernel
theorem dG_15 : decode jdk_42_method_74_code 15 = .ok (.iload 4, 2) := by decide +kernel
theorem dG_17 : decode jdk_42_method_74_code 17 = .ok (.ifCond .lt 38, 3) := by decide +kernel
theorem dG_20 : decode jdk_42_method_74_code 20 = .ok (.iload_n 2, 1) := by decide +kernel
theorem dG_21 : decode jdk_42_method_74_code 21 = .ok (.ifCond .lt 34, 3) := by decide +kernel
theorem dG_24 : decode jdk_42_method_74_code 24 = .ok (.iload_n 2, 1) := by decide +kernel
theorem dG_25 : decode jdk_42_method_74_code 25 = .ok (.i2l, 1) := by decide +kernel
theorem dG_26 : decode jdk_42_method_74_code 26 = .ok (.aload_n 0, 1) := by decide +kernel
theorem dG_27 : decode jdk_42_method_74_code 27 = .ok (.invokevirtual 505, 3) := by decide +kernel
theorem dG_30 : decode jdk_42_method_74_code 30 = .ok (.i2l, 1) := by decide +kernel
theorem dG_31 : decode jdk_42_method_74_code 31 = .ok (.iload 5, 2) := by decide +kernel
theorem dG_33 : decode jdk_42_method_74_code 33 = .ok (.i2l, 1) := by decide +kernel
theorem dG_34 : decode jdk_42_method_74_code 34 = .ok (.lsub, 1) := by decide +kernel
theorem dG_35 : decode jdk_42_method_74_code 35 = .ok (.lcmp, 1) := by decide +kernel
theorem dG_36 : decode jdk_42_method_74_code 36 = .ok (.ifCond .gt 19, 3) := by decide +kernel
theorem dG_39 : decode jdk_42_method_74_code 39 = .ok (.iload 4, 2) := by decide +kernel
theorem dG_41 : decode jdk_42_method_74_code 41 = .ok (.i2l, 1) := by decide +kernel
theorem dG_42 : decode jdk_42_method_74_code 42 = .ok (.aload_n 3, 1) := by decide +kernel
theorem dG_43 : decode jdk_42_method_74_code 43 = .ok (.invokevirtual 505, 3) := by decide +kernel
theorem dG_46 : decode jdk_42_method_74_code 46 = .ok (.i2l, 1) := by decide +kernel
theorem dG_47 : decode jdk_42_method_74_code 47 = .ok (.iload 5, 2) := by decide +kernel
theorem dG_49 : decode jdk_42_method_74_code 49 = .ok (.i2l, 1) := by decide +kernel
theorem dG_50 : decode jdk_42_method_74_code 50 = .ok (.lsub, 1) := by decide +kernel
theorem dG_51 : decode jdk_42_method_74_code 51 = .ok (.lcmp, 1) := by decide +kernel
theorem dG_52 : decode jdk_42_method_74_code 52 = .ok (.ifCond .le 5, 3) := by decide +kernel
theorem dG_57 : decode jdk_42_method_74_code 57 = .ok (.aload_n 0, 1) := by decide +kernel
theorem dG_58 : decode jdk_42_method_74_code 58 = .ok (.getfield 9, 3) := by decide +kernel
theorem dG_61 : decode jdk_42_method_74_code 61 = .ok (.astore 6, 2) := by decide +kernel
theorem dG_63 : decode jdk_42_method_74_code 63 = .ok (.aload_n 3, 1) := by decide +kernel
theorem dG_64 : decode jdk_42_method_74_code 64 = .ok (.getfield 9, 3) := by decide +kernel
theorem dG_67 : decode jdk_42_method_74_code 67 = .ok (.astore 7, 2) := by decide +kernel
theorem dG_69 : decode jdk_42_method_74_code 69 = .ok (.aload_n 0, 1) := by decide +kernel
theorem dG_70 : decode jdk_42_method_74_code 70 = .ok (.invokevirtual 335, 3) := by decide +kernel
theorem dG_73 : decode jdk_42_method_74_code 73 = .ok (.istore 8, 2) := by decide +kernel
theorem dG_75 : decode jdk_42_method_74_code 75 = .ok (.iload 8, 2) := by decide +kernel
theorem dG_77 : decode jdk_42_method_74_code 77 = .ok (.aload_n 3, 1) := by decide +kernel
theorem dG_78 : decode jdk_42_method_74_code 78 = .ok (.invokevirtual 335, 3) := by decide +kernel
theorem dG_81 : decode jdk_42_method_74_code 81 = .ok (.if_icmp .ne 36, 3) := by decide +kernel
theorem dG_84 : decode jdk_42_method_74_code 84 = .ok (.iload 8, 2) := by decide +kernel
theorem dG_86 : decode jdk_42_method_74_code 86 = .ok (.ifCond .ne 18, 3) := by decide +kernel
theorem dG_89 : decode jdk_42_method_74_code 89 = .ok (.aload 6, 2) := by decide +kernel
theorem dG_91 : decode jdk_42_method_74_code 91 = .ok (.iload_n 2, 1) := by decide +kernel
theorem dG_92 : decode jdk_42_method_74_code 92 = .ok (.aload 7, 2) := by decide +kernel
theorem dG_94 : decode jdk_42_method_74_code 94 = .ok (.iload 4, 2) := by decide +kernel
theorem dG_96 : decode jdk_42_method_74_code 96 = .ok (.iload 5, 2) := by decide +kernel
theorem dG_98 : decode jdk_42_method_74_code 98 = .ok (.invokestatic 613, 3) := by decide +kernel
theorem dG_101 : decode jdk_42_method_74_code 101 = .ok (.goto 15, 3) := by decide +kernel
theorem dG_116 : decode jdk_42_method_74_code 116 = .ok (.ireturn, 1) := by decide +kernel
set_option maxRecDepth 65536 in
set_option maxHeartbeats 80000000 in
theorem m_rg0 (l : Launch) (Z : State) (a0 : Array Value) {z0 : Int32} (hw : ∀ d ∈ tables_1, d.before a0 Z = true) (S0 : Sta Z Z.heap "java/lang/String" "COMPACT_STRINGS" "Z" (.int z0)) (hz0 : ¬ z0 = 0) {u0 u1 u2 u3 u4 u5 u6 : Addr} (S1 : Sta Z Z.heap "com/example/entidad/entidad/query/Token$Kind" "IDENTIFIER" "Lcom/example/entidad/entidad/query/Token$Kind;" (.ref u0)) (S2 : Sta Z Z.heap "com/example/entidad/entidad/query/Token$Kind" "STRING" "Lcom/example/entidad/entidad/query/Token$Kind;" (.ref u1)) (S3 : Sta Z Z.heap "com/example/entidad/entidad/query/Token$Kind" "NUMBER" "Lcom/example/entidad/entidad/query/Token$Kind;" (.ref u2)) (S4 : Sta Z Z.heap "com/example/entidad/entidad/query/Token$Kind" "NAMED_PARAMETER" "Lcom/example/entidad/entidad/query/Token$Kind;" (.ref u3)) (S5 : Sta Z Z.heap "com/example/entidad/entidad/query/Token$Kind" "POSITIONAL_PARAMETER" "Lcom/example/entidad/entidad/query/Token$Kind;" (.ref u4)) (S6 : Sta Z Z.heap "com/example/entidad/entidad/query/Token$Kind" "SYMBOL" "Lcom/example/entidad/entidad/query/Token$Kind;" (.ref u5)) (S7 : Sta Z Z.heap "com/example/entidad/entidad/query/Token$Kind" "END" "Lcom/example/entidad/entidad/query/Token$Kind;" (.ref u6))  (s u t1 t2 : Addr) (h : Heap) (G1 : Str Z h s t1 []) (G2 : Str Z h u t2 []) :
    MetW true l Z [("java/lang/String", 7)] (⟨"java/lang/String", "regionMatches", "(ZILjava/lang/String;II)Z"⟩ : MethodName) jdk_42_method_74_code 9 (Option.some Jvm.ClassFile.FieldType.boolean) [] ({ frames := 2, cells := 0, slots := 0, locals := 27 } : Room) #[(.ref s), (.int (1 : Int32)), (.int (0 : Int32)), (.ref u), (.int (0 : Int32)), (.int (0 : Int32))] [] h (fun v h' => v = some (.int (if ([] : List Int32).map foldI = ([] : List Int32).map foldI then 1 else 0))) := by
  refine MetW.of (Ls := #[.val (.ref s), .val (.int (1 : Int32)), .val (.int (0 : Int32)), .val (.ref u), .val (.int (0 : Int32)), .val (.int (0 : Int32)), .unset, .unset, .unset]) (a0 := a0) (by first | (simp [plainName, overriddenIn]; done) | decide +kernel) (fun m => by first | (simp [entryFrame, mkF, argsToLocals, Value.category]; done) | rfl) (own_EW hw) (fun q => nomatch q) (fun p_ e_ s_ m_ below_ meth_ c_ hs0 C => ?_)
  refine g_iloadN C dG_0 rfl ?_
  refine g_ifT 15 C dG_1 (show ¬ (1 : Int32) = (0 : Int32) by decide) (by decide) (by decide) ?_
  refine g_iload C dG_15 rfl ?_
  refine g_ifF C dG_17 (show ¬ (0 : Int32) < (0 : Int32) by decide) ?_
  refine g_iloadN C dG_20 rfl ?_
  refine g_ifF C dG_21 (show ¬ (0 : Int32) < (0 : Int32) by decide) ?_
  refine g_iloadN C dG_24 rfl ?_
  refine g_i2l (0 : Int64) C dG_25 (by decide) ?_
  refine g_aloadN C dG_26 rfl rfl ?_
  refine g_invokevirtual [] [(.long (0 : Int64))] 2 C dG_27 (hw _ (List.mem_of_getElem? (i := 71) rfl)) (hw _ (List.mem_of_getElem? (i := 72) rfl)) (hw _ (List.mem_of_getElem? (i := 74) rfl)) (hw _ (List.mem_of_getElem? (i := 73) rfl)) (hw _ (List.mem_of_getElem? (i := 25) rfl)) (hw _ (List.mem_of_getElem? (i := 75) rfl)) (fun _ hZ => notFace_of_selects (args := #[]) (mvT hZ (hw _ (List.mem_of_getElem? (i := 74) rfl)))) (by decide) G1.1 (m_len0 l Z a0 hw S0 hz0 S1 S2 S3 S4 S5 S6 S7  _ _ _ G1) (lenOf pd4 rfl) rfl rfl (Nat.le_of_ble_eq_true rfl) (by decide) (by decide) (by decide) (by decide) all0 (fun v1 h2 L3 q4 K5 => ?_)
  obtain rfl := q4
  show Go _ _ _ _ _ _ _ _ _ _ _ _ _ _ _ _ _ _ _ _ _ _ (mkF _ 30 #[.val (.ref s), .val (.int (1 : Int32)), .val (.int (0 : Int32)), .val (.ref u), .val (.int (0 : Int32)), .val (.int (0 : Int32)), .unset, .unset, .unset] [(.int (0 : Int32)), (.long (0 : Int64))])
  refine g_i2l (0 : Int64) C dG_30 (by decide) ?_
  refine g_iload C dG_31 rfl ?_
  refine g_i2l (0 : Int64) C dG_33 (by decide) ?_
  refine g_lsub (0 : Int64) C dG_34 (by decide) ?_
  refine g_lcmp C dG_35 ?_
  refine g_ifF C dG_36 (cl_gt_f (by decide)) ?_
  refine g_iload C dG_39 rfl ?_
  refine g_i2l (0 : Int64) C dG_41 (by decide) ?_
  refine g_aloadN C dG_42 rfl rfl ?_
  have f6 := (G2.keep K5 nin0 nin0)
  have f12 := (G2.1.keep K5)
  refine g_invokevirtual [] [(.long (0 : Int64))] 2 C dG_43 (hw _ (List.mem_of_getElem? (i := 71) rfl)) (hw _ (List.mem_of_getElem? (i := 72) rfl)) (hw _ (List.mem_of_getElem? (i := 74) rfl)) (hw _ (List.mem_of_getElem? (i := 73) rfl)) (hw _ (List.mem_of_getElem? (i := 25) rfl)) (hw _ (List.mem_of_getElem? (i := 75) rfl)) (fun _ hZ => notFace_of_selects (args := #[]) (mvT hZ (hw _ (List.mem_of_getElem? (i := 74) rfl)))) (by decide) f12 (m_len0 l Z a0 hw S0 hz0 S1 S2 S3 S4 S5 S6 S7  _ _ _ f6) (lenOf pd4 rfl) rfl rfl (Nat.le_of_ble_eq_true rfl) (by decide) (by decide) (by decide) (by decide) all0 (fun v7 h8 L9 q10 K11 => ?_)
  obtain rfl := q10
  show Go _ _ _ _ _ _ _ _ _ _ _ _ _ _ _ _ _ _ _ _ _ _ (mkF _ 46 #[.val (.ref s), .val (.int (1 : Int32)), .val (.int (0 : Int32)), .val (.ref u), .val (.int (0 : Int32)), .val (.int (0 : Int32)), .unset, .unset, .unset] [(.int (0 : Int32)), (.long (0 : Int64))])
  refine g_i2l (0 : Int64) C dG_46 (by decide) ?_
  refine g_iload C dG_47 rfl ?_
  refine g_i2l (0 : Int64) C dG_49 (by decide) ?_
  refine g_lsub (0 : Int64) C dG_50 (by decide) ?_
  refine g_lcmp C dG_51 ?_
  refine g_ifT 57 C dG_52 (cl_le_t (by decide)) (by decide) (by decide) ?_
  refine g_aloadN C dG_57 rfl rfl ?_
  have f13 := ((G1.2.2.1.keep K5 nin0).keep K11 nin0)
  refine g_getfield (host := "") C dG_58 (Or.inl (hw _ (List.mem_of_getElem? (i := 43) rfl))) Via.refl f13 ?_
  refine g_astore #[.val (.ref s), .val (.int (1 : Int32)), .val (.int (0 : Int32)), .val (.ref u), .val (.int (0 : Int32)), .val (.int (0 : Int32)), .val (.ref t1), .unset, .unset] C dG_61 rfl rfl ?_
  refine g_aloadN C dG_63 rfl rfl ?_
  have f14 := ((G2.2.2.1.keep K5 nin0).keep K11 nin0)
  refine g_getfield (host := "") C dG_64 (Or.inl (hw _ (List.mem_of_getElem? (i := 43) rfl))) Via.refl f14 ?_
  refine g_astore #[.val (.ref s), .val (.int (1 : Int32)), .val (.int (0 : Int32)), .val (.ref u), .val (.int (0 : Int32)), .val (.int (0 : Int32)), .val (.ref t1), .val (.ref t2), .unset] C dG_67 rfl rfl ?_
  refine g_aloadN C dG_69 rfl rfl ?_
  have f15 := ((G1.2.1.keep K5 nin0).keep K11 nin0)
  have f21 := ((G1.1.keep K5).keep K11)
  refine g_invokevirtual [] [] 0 C dG_70 (hw _ (List.mem_of_getElem? (i := 76) rfl)) (hw _ (List.mem_of_getElem? (i := 77) rfl)) (hw _ (List.mem_of_getElem? (i := 79) rfl)) (hw _ (List.mem_of_getElem? (i := 78) rfl)) (hw _ (List.mem_of_getElem? (i := 25) rfl)) (hw _ (List.mem_of_getElem? (i := 80) rfl)) (fun _ hZ => notFace_of_selects (args := #[]) (mvT hZ (hw _ (List.mem_of_getElem? (i := 79) rfl)))) (by decide) f21 (m_coder l Z a0 hw S0 hz0 S1 S2 S3 S4 S5 S6 S7 _ _ f15) (lenOf pd2 rfl) rfl rfl (Nat.le_of_ble_eq_true rfl) (by decide) (by decide) (by decide) (by decide) all0 (fun v16 h17 L18 q19 K20 => ?_)
  obtain rfl := q19
  show Go _ _ _ _ _ _ _ _ _ _ _ _ _ _ _ _ _ _ _ _ _ _ (mkF _ 73 #[.val (.ref s), .val (.int (1 : Int32)), .val (.int (0 : Int32)), .val (.ref u), .val (.int (0 : Int32)), .val (.int (0 : Int32)), .val (.ref t1), .val (.ref t2), .unset] [(.int (0 : Int32))])
  refine g_istore #[.val (.ref s), .val (.int (1 : Int32)), .val (.int (0 : Int32)), .val (.ref u), .val (.int (0 : Int32)), .val (.int (0 : Int32)), .val (.ref t1), .val (.ref t2), .val (.int (0 : Int32))] C dG_73 rfl ?_
  refine g_iload C dG_75 rfl ?_
  refine g_aloadN C dG_77 rfl rfl ?_
  have f22 := (((G2.2.1.keep K5 nin0).keep K11 nin0).keep K20 nin0)
  have f28 := ((f12.keep K11).keep K20)
  refine g_invokevirtual [] [(.int (0 : Int32))] 1 C dG_78 (hw _ (List.mem_of_getElem? (i := 76) rfl)) (hw _ (List.mem_of_getElem? (i := 77) rfl)) (hw _ (List.mem_of_getElem? (i := 79) rfl)) (hw _ (List.mem_of_getElem? (i := 78) rfl)) (hw _ (List.mem_of_getElem? (i := 25) rfl)) (hw _ (List.mem_of_getElem? (i := 80) rfl)) (fun _ hZ => notFace_of_selects (args := #[]) (mvT hZ (hw _ (List.mem_of_getElem? (i := 79) rfl)))) (by decide) f28 (m_coder l Z a0 hw S0 hz0 S1 S2 S3 S4 S5 S6 S7 _ _ f22) (lenOf pd2 rfl) rfl rfl (Nat.le_of_ble_eq_true rfl) (by decide) (by decide) (by decide) (by decide) all0 (fun v23 h24 L25 q26 K27 => ?_)
  obtain rfl := q26
  show Go _ _ _ _ _ _ _ _ _ _ _ _ _ _ _ _ _ _ _ _ _ _ (mkF _ 81 #[.val (.ref s), .val (.int (1 : Int32)), .val (.int (0 : Int32)), .val (.ref u), .val (.int (0 : Int32)), .val (.int (0 : Int32)), .val (.ref t1), .val (.ref t2), .val (.int (0 : Int32))] [(.int (0 : Int32)), (.int (0 : Int32))])
  refine g_icmpF C dG_81 (show (0 : Int32) = (0 : Int32) by decide) ?_
  refine g_iload C dG_84 rfl ?_
  refine g_ifF C dG_86 (show (0 : Int32) = (0 : Int32) by decide) ?_
  refine g_aload C dG_89 rfl rfl ?_
  refine g_iloadN C dG_91 rfl ?_
  refine g_aload C dG_92 rfl rfl ?_
  refine g_iload C dG_94 rfl ?_
  refine g_iload C dG_96 rfl ?_
  have f31 := ((((G1.2.2.2.keep K5 nin0).keep K11 nin0).keep K20 nin0).keep K27 nin0)
  have f32 := ((((G2.2.2.2.keep K5 nin0).keep K11 nin0).keep K20 nin0).keep K27 nin0)
  refine g_invokestatic [(.ref t1), (.int (0 : Int32)), (.ref t2), (.int (0 : Int32)), (.int (0 : Int32))] [] 0 C dG_98 (hw _ (List.mem_of_getElem? (i := 87) rfl)) (hw _ (List.mem_of_getElem? (i := 88) rfl)) (hw _ (List.mem_of_getElem? (i := 89) rfl)) (hw _ (List.mem_of_getElem? (i := 90) rfl)) (by decide) (m_ci0 l Z a0 hw S0 hz0 S1 S2 S3 S4 S5 S6 S7  _ _ _ f31 f32) (lenOf pd5 rfl) rfl rfl (Nat.le_of_ble_eq_true rfl) (by decide) (by decide) (by decide) (by decide) all0 (fun v33 h34 L35 q36 K37 => ?_)
  obtain rfl := q36
  show Go _ _ _ _ _ _ _ _ _ _ _ _ _ _ _ _ _ _ _ _ _ _ (mkF _ 101 #[.val (.ref s), .val (.int (1 : Int32)), .val (.int (0 : Int32)), .val (.ref u), .val (.int (0 : Int32)), .val (.int (0 : Int32)), .val (.ref t1), .val (.ref t2), .val (.int (0 : Int32))] [(.int (if ([] : List Int32).map foldI = ([] : List Int32).map foldI then 1 else 0))])
  refine g_goto 116 C dG_101 (by decide) (by decide) ?_
  exact g_retN C dG_116 (by simp) (by split <;> rfl) (by decide) (by decide)
set_option maxRecDepth 65536 in
set_option maxHeartbeats 80000000 in
theorem m_rg1 (l : Launch) (Z : State) (a0 : Array Value) {z0 : Int32} (hw : ∀ d ∈ tables_1, d.before a0 Z = true) (S0 : Sta Z Z.heap "java/lang/String" "COMPACT_STRINGS" "Z" (.int z0)) (hz0 : ¬ z0 = 0) {u0 u1 u2 u3 u4 u5 u6 : Addr} (S1 : Sta Z Z.heap "com/example/entidad/entidad/query/Token$Kind" "IDENTIFIER" "Lcom/example/entidad/entidad/query/Token$Kind;" (.ref u0)) (S2 : Sta Z Z.heap "com/example/entidad/entidad/query/Token$Kind" "STRING" "Lcom/example/entidad/entidad/query/Token$Kind;" (.ref u1)) (S3 : Sta Z Z.heap "com/example/entidad/entidad/query/Token$Kind" "NUMBER" "Lcom/example/entidad/entidad/query/Token$Kind;" (.ref u2)) (S4 : Sta Z Z.heap "com/example/entidad/entidad/query/Token$Kind" "NAMED_PARAMETER" "Lcom/example/entidad/entidad/query/Token$Kind;" (.ref u3)) (S5 : Sta Z Z.heap "com/example/entidad/entidad/query/Token$Kind" "POSITIONAL_PARAMETER" "Lcom/example/entidad/entidad/query/Token$Kind;" (.ref u4)) (S6 : Sta Z Z.heap "com/example/entidad/entidad/query/Token$Kind" "SYMBOL" "Lcom/example/entidad/entidad/query/Token$Kind;" (.ref u5)) (S7 : Sta Z Z.heap "com/example/entidad/entidad/query/Token$Kind" "END" "Lcom/example/entidad/entidad/query/Token$Kind;" (.ref u6)) (c0 d0 : Int32) (b_c0 : ¬ c0 < 0 ∧ ¬ (255 : Int32) < c0) (b_d0 : ¬ d0 < 0 ∧ ¬ (255 : Int32) < d0) (s u t1 t2 : Addr) (h : Heap) (G1 : Str Z h s t1 [c0]) (G2 : Str Z h u t2 [d0]) :
    MetW true l Z [("java/lang/String", 7)] (⟨"java/lang/String", "regionMatches", "(ZILjava/lang/String;II)Z"⟩ : MethodName) jdk_42_method_74_code 9 (Option.some Jvm.ClassFile.FieldType.boolean) [] ({ frames := 2, cells := 0, slots := 0, locals := 33 } : Room) #[(.ref s), (.int (1 : Int32)), (.int (0 : Int32)), (.ref u), (.int (0 : Int32)), (.int (1 : Int32))] [] h (fun v h' => v = some (.int (if ([c0] : List Int32).map foldI = ([d0] : List Int32).map foldI then 1 else 0))) := by
  refine MetW.of (Ls := #[.val (.ref s), .val (.int (1 : Int32)), .val (.int (0 : Int32)), .val (.ref u), .val (.int (0 : Int32)), .val (.int (1 : Int32)), .unset, .unset, .unset]) (a0 := a0) (by first | (simp [plainName, overriddenIn]; done) | decide +kernel) (fun m => by first | (simp [entryFrame, mkF, argsToLocals, Value.category]; done) | rfl) (own_EW hw) (fun q => nomatch q) (fun p_ e_ s_ m_ below_ meth_ c_ hs0 C => ?_)
  refine g_iloadN C dG_0 rfl ?_
  refine g_ifT 15 C dG_1 (show ¬ (1 : Int32) = (0 : Int32) by decide) (by decide) (by decide) ?_
  refine g_iload C dG_15 rfl ?_
  refine g_ifF C dG_17 (show ¬ (0 : Int32) < (0 : Int32) by decide) ?_
  refine g_iloadN C dG_20 rfl ?_
  refine g_ifF C dG_21 (show ¬ (0 : Int32) < (0 : Int32) by decide) ?_
  refine g_iloadN C dG_24 rfl ?_
  refine g_i2l (0 : Int64) C dG_25 (by decide) ?_
  refine g_aloadN C dG_26 rfl rfl ?_
  refine g_invokevirtual [] [(.long (0 : Int64))] 2 C dG_27 (hw _ (List.mem_of_getElem? (i := 71) rfl)) (hw _ (List.mem_of_getElem? (i := 72) rfl)) (hw _ (List.mem_of_getElem? (i := 74) rfl)) (hw _ (List.mem_of_getElem? (i := 73) rfl)) (hw _ (List.mem_of_getElem? (i := 25) rfl)) (hw _ (List.mem_of_getElem? (i := 75) rfl)) (fun _ hZ => notFace_of_selects (args := #[]) (mvT hZ (hw _ (List.mem_of_getElem? (i := 74) rfl)))) (by decide) G1.1 (m_len1 l Z a0 hw S0 hz0 S1 S2 S3 S4 S5 S6 S7 _ _ _ _ G1) (lenOf pd4 rfl) rfl rfl (Nat.le_of_ble_eq_true rfl) (by decide) (by decide) (by decide) (by decide) all0 (fun v1 h2 L3 q4 K5 => ?_)
  obtain rfl := q4
  show Go _ _ _ _ _ _ _ _ _ _ _ _ _ _ _ _ _ _ _ _ _ _ (mkF _ 30 #[.val (.ref s), .val (.int (1 : Int32)), .val (.int (0 : Int32)), .val (.ref u), .val (.int (0 : Int32)), .val (.int (1 : Int32)), .unset, .unset, .unset] [(.int (1 : Int32)), (.long (0 : Int64))])
  refine g_i2l (1 : Int64) C dG_30 (by decide) ?_
  refine g_iload C dG_31 rfl ?_
  refine g_i2l (1 : Int64) C dG_33 (by decide) ?_
  refine g_lsub (0 : Int64) C dG_34 (by decide) ?_
  refine g_lcmp C dG_35 ?_
  refine g_ifF C dG_36 (cl_gt_f (by decide)) ?_
  refine g_iload C dG_39 rfl ?_
  refine g_i2l (0 : Int64) C dG_41 (by decide) ?_
  refine g_aloadN C dG_42 rfl rfl ?_
  have f6 := (G2.keep K5 nin0 nin0)
  have f12 := (G2.1.keep K5)
  refine g_invokevirtual [] [(.long (0 : Int64))] 2 C dG_43 (hw _ (List.mem_of_getElem? (i := 71) rfl)) (hw _ (List.mem_of_getElem? (i := 72) rfl)) (hw _ (List.mem_of_getElem? (i := 74) rfl)) (hw _ (List.mem_of_getElem? (i := 73) rfl)) (hw _ (List.mem_of_getElem? (i := 25) rfl)) (hw _ (List.mem_of_getElem? (i := 75) rfl)) (fun _ hZ => notFace_of_selects (args := #[]) (mvT hZ (hw _ (List.mem_of_getElem? (i := 74) rfl)))) (by decide) f12 (m_len1 l Z a0 hw S0 hz0 S1 S2 S3 S4 S5 S6 S7 _ _ _ _ f6) (lenOf pd4 rfl) rfl rfl (Nat.le_of_ble_eq_true rfl) (by decide) (by decide) (by decide) (by decide) all0 (fun v7 h8 L9 q10 K11 => ?_)
  obtain rfl := q10
  show Go _ _ _ _ _ _ _ _ _ _ _ _ _ _ _ _ _ _ _ _ _ _ (mkF _ 46 #[.val (.ref s), .val (.int (1 : Int32)), .val (.int (0 : Int32)), .val (.ref u), .val (.int (0 : Int32)), .val (.int (1 : Int32)), .unset, .unset, .unset] [(.int (1 : Int32)), (.long (0 : Int64))])
  refine g_i2l (1 : Int64) C dG_46 (by decide) ?_
  refine g_iload C dG_47 rfl ?_
  refine g_i2l (1 : Int64) C dG_49 (by decide) ?_
  refine g_lsub (0 : Int64) C dG_50 (by decide) ?_
  refine g_lcmp C dG_51 ?_
  refine g_ifT 57 C dG_52 (cl_le_t (by decide)) (by decide) (by decide) ?_
  refine g_aloadN C dG_57 rfl rfl ?_
  have f13 := ((G1.2.2.1.keep K5 nin0).keep K11 nin0)
  refine g_getfield (host := "") C dG_58 (Or.inl (hw _ (List.mem_of_getElem? (i := 43) rfl))) Via.refl f13 ?_
  refine g_astore #[.val (.ref s), .val (.int (1 : Int32)), .val (.int (0 : Int32)), .val (.ref u), .val (.int (0 : Int32)), .val (.int (1 : Int32)), .val (.ref t1), .unset, .unset] C dG_61 rfl rfl ?_
  refine g_aloadN C dG_63 rfl rfl ?_
  have f14 := ((G2.2.2.1.keep K5 nin0).keep K11 nin0)
  refine g_getfield (host := "") C dG_64 (Or.inl (hw _ (List.mem_of_getElem? (i := 43) rfl))) Via.refl f14 ?_
  refine g_astore #[.val (.ref s), .val (.int (1 : Int32)), .val (.int (0 : Int32)), .val (.ref u), .val (.int (0 : Int32)), .val (.int (1 : Int32)), .val (.ref t1), .val (.ref t2), .unset] C dG_67 rfl rfl ?_
  refine g_aloadN C dG_69 rfl rfl ?_
  have f15 := ((G1.2.1.keep K5 nin0).keep K11 nin0)
  have f21 := ((G1.1.keep K5).keep K11)
  refine g_invokevirtual [] [] 0 C dG_70 (hw _ (List.mem_of_getElem? (i := 76) rfl)) (hw _ (List.mem_of_getElem? (i := 77) rfl)) (hw _ (List.mem_of_getElem? (i := 79) rfl)) (hw _ (List.mem_of_getElem? (i := 78) rfl)) (hw _ (List.mem_of_getElem? (i := 25) rfl)) (hw _ (List.mem_of_getElem? (i := 80) rfl)) (fun _ hZ => notFace_of_selects (args := #[]) (mvT hZ (hw _ (List.mem_of_getElem? (i := 79) rfl)))) (by decide) f21 (m_coder l Z a0 hw S0 hz0 S1 S2 S3 S4 S5 S6 S7 _ _ f15) (lenOf pd2 rfl) rfl rfl (Nat.le_of_ble_eq_true rfl) (by decide) (by decide) (by decide) (by decide) all0 (fun v16 h17 L18 q19 K20 => ?_)
  obtain rfl := q19
  show Go _ _ _ _ _ _ _ _ _ _ _ _ _ _ _ _ _ _ _ _ _ _ (mkF _ 73 #[.val (.ref s), .val (.int (1 : Int32)), .val (.int (0 : Int32)), .val (.ref u), .val (.int (0 : Int32)), .val (.int (1 : Int32)), .val (.ref t1), .val (.ref t2), .unset] [(.int (0 : Int32))])
  refine g_istore #[.val (.ref s), .val (.int (1 : Int32)), .val (.int (0 : Int32)), .val (.ref u), .val (.int (0 : Int32)), .val (.int (1 : Int32)), .val (.ref t1), .val (.ref t2), .val (.int (0 : Int32))] C dG_73 rfl ?_
  refine g_iload C dG_75 rfl ?_
  refine g_aloadN C dG_77 rfl rfl ?_
  have f22 := (((G2.2.1.keep K5 nin0).keep K11 nin0).keep K20 nin0)
  have f28 := ((f12.keep K11).keep K20)
  refine g_invokevirtual [] [(.int (0 : Int32))] 1 C dG_78 (hw _ (List.mem_of_getElem? (i := 76) rfl)) (hw _ (List.mem_of_getElem? (i := 77) rfl)) (hw _ (List.mem_of_getElem? (i := 79) rfl)) (hw _ (List.mem_of_getElem? (i := 78) rfl)) (hw _ (List.mem_of_getElem? (i := 25) rfl)) (hw _ (List.mem_of_getElem? (i := 80) rfl)) (fun _ hZ => notFace_of_selects (args := #[]) (mvT hZ (hw _ (List.mem_of_getElem? (i := 79) rfl)))) (by decide) f28 (m_coder l Z a0 hw S0 hz0 S1 S2 S3 S4 S5 S6 S7 _ _ f22) (lenOf pd2 rfl) rfl rfl (Nat.le_of_ble_eq_true rfl) (by decide) (by decide) (by decide) (by decide) all0 (fun v23 h24 L25 q26 K27 => ?_)
  obtain rfl := q26
  show Go _ _ _ _ _ _ _ _ _ _ _ _ _ _ _ _ _ _ _ _ _ _ (mkF _ 81 #[.val (.ref s), .val (.int (1 : Int32)), .val (.int (0 : Int32)), .val (.ref u), .val (.int (0 : Int32)), .val (.int (1 : Int32)), .val (.ref t1), .val (.ref t2), .val (.int (0 : Int32))] [(.int (0 : Int32)), (.int (0 : Int32))])
  refine g_icmpF C dG_81 (show (0 : Int32) = (0 : Int32) by decide) ?_
  refine g_iload C dG_84 rfl ?_
  refine g_ifF C dG_86 (show (0 : Int32) = (0 : Int32) by decide) ?_
  refine g_aload C dG_89 rfl rfl ?_
  refine g_iloadN C dG_91 rfl ?_
  refine g_aload C dG_92 rfl rfl ?_
  refine g_iload C dG_94 rfl ?_
  refine g_iload C dG_96 rfl ?_
  have f31 := ((((G1.2.2.2.keep K5 nin0).keep K11 nin0).keep K20 nin0).keep K27 nin0)
  have f32 := ((((G2.2.2.2.keep K5 nin0).keep K11 nin0).keep K20 nin0).keep K27 nin0)
  refine g_invokestatic [(.ref t1), (.int (0 : Int32)), (.ref t2), (.int (0 : Int32)), (.int (1 : Int32))] [] 0 C dG_98 (hw _ (List.mem_of_getElem? (i := 87) rfl)) (hw _ (List.mem_of_getElem? (i := 88) rfl)) (hw _ (List.mem_of_getElem? (i := 89) rfl)) (hw _ (List.mem_of_getElem? (i := 90) rfl)) (by decide) (m_ci1 l Z a0 hw S0 hz0 S1 S2 S3 S4 S5 S6 S7 _ _ b_c0 b_d0 _ _ _ f31 f32) (lenOf pd5 rfl) rfl rfl (Nat.le_of_ble_eq_true rfl) (by decide) (by decide) (by decide) (by decide) all0 (fun v33 h34 L35 q36 K37 => ?_)
  obtain rfl := q36
  show Go _ _ _ _ _ _ _ _ _ _ _ _ _ _ _ _ _ _ _ _ _ _ (mkF _ 101 #[.val (.ref s), .val (.int (1 : Int32)), .val (.int (0 : Int32)), .val (.ref u), .val (.int (0 : Int32)), .val (.int (1 : Int32)), .val (.ref t1), .val (.ref t2), .val (.int (0 : Int32))] [(.int (if ([c0] : List Int32).map foldI = ([d0] : List Int32).map foldI then 1 else 0))])
  refine g_goto 116 C dG_101 (by decide) (by decide) ?_
  exact g_retN C dG_116 (by simp) (by split <;> rfl) (by decide) (by decide)
set_option maxRecDepth 65536 in
set_option maxHeartbeats 80000000 in
theorem m_rg2 (l : Launch) (Z : State) (a0 : Array Value) {z0 : Int32} (hw : ∀ d ∈ tables_1, d.before a0 Z = true) (S0 : Sta Z Z.heap "java/lang/String" "COMPACT_STRINGS" "Z" (.int z0)) (hz0 : ¬ z0 = 0) {u0 u1 u2 u3 u4 u5 u6 : Addr} (S1 : Sta Z Z.heap "com/example/entidad/entidad/query/Token$Kind" "IDENTIFIER" "Lcom/example/entidad/entidad/query/Token$Kind;" (.ref u0)) (S2 : Sta Z Z.heap "com/example/entidad/entidad/query/Token$Kind" "STRING" "Lcom/example/entidad/entidad/query/Token$Kind;" (.ref u1)) (S3 : Sta Z Z.heap "com/example/entidad/entidad/query/Token$Kind" "NUMBER" "Lcom/example/entidad/entidad/query/Token$Kind;" (.ref u2)) (S4 : Sta Z Z.heap "com/example/entidad/entidad/query/Token$Kind" "NAMED_PARAMETER" "Lcom/example/entidad/entidad/query/Token$Kind;" (.ref u3)) (S5 : Sta Z Z.heap "com/example/entidad/entidad/query/Token$Kind" "POSITIONAL_PARAMETER" "Lcom/example/entidad/entidad/query/Token$Kind;" (.ref u4)) (S6 : Sta Z Z.heap "com/example/entidad/entidad/query/Token$Kind" "SYMBOL" "Lcom/example/entidad/entidad/query/Token$Kind;" (.ref u5)) (S7 : Sta Z Z.heap "com/example/entidad/entidad/query/Token$Kind" "END" "Lcom/example/entidad/entidad/query/Token$Kind;" (.ref u6)) (c0 c1 d0 d1 : Int32) (b_c0 : ¬ c0 < 0 ∧ ¬ (255 : Int32) < c0) (b_c1 : ¬ c1 < 0 ∧ ¬ (255 : Int32) < c1) (b_d0 : ¬ d0 < 0 ∧ ¬ (255 : Int32) < d0) (b_d1 : ¬ d1 < 0 ∧ ¬ (255 : Int32) < d1) (s u t1 t2 : Addr) (h : Heap) (G1 : Str Z h s t1 [c0, c1]) (G2 : Str Z h u t2 [d0, d1]) :
    MetW true l Z [("java/lang/String", 7)] (⟨"java/lang/String", "regionMatches", "(ZILjava/lang/String;II)Z"⟩ : MethodName) jdk_42_method_74_code 9 (Option.some Jvm.ClassFile.FieldType.boolean) [] ({ frames := 2, cells := 0, slots := 0, locals := 33 } : Room) #[(.ref s), (.int (1 : Int32)), (.int (0 : Int32)), (.ref u), (.int (0 : Int32)), (.int (2 : Int32))] [] h (fun v h' => v = some (.int (if ([c0, c1] : List Int32).map foldI = ([d0, d1] : List Int32).map foldI then 1 else 0))) := by
  refine MetW.of (Ls := #[.val (.ref s), .val (.int (1 : Int32)), .val (.int (0 : Int32)), .val (.ref u), .val (.int (0 : Int32)), .val (.int (2 : Int32)), .unset, .unset, .unset]) (a0 := a0) (by first | (simp [plainName, overriddenIn]; done) | decide +kernel) (fun m => by first | (simp [entryFrame, mkF, argsToLocals, Value.category]; done) | rfl) (own_EW hw) (fun q => nomatch q) (fun p_ e_ s_ m_ below_ meth_ c_ hs0 C => ?_)
  refine g_iloadN C dG_0 rfl ?_
  refine g_ifT 15 C dG_1 (show ¬ (1 : Int32) = (0 : Int32) by decide) (by decide) (by decide) ?_
  refine g_iload C dG_15 rfl ?_
  refine g_ifF C dG_17 (show ¬ (0 : Int32) < (0 : Int32) by decide) ?_
  refine g_iloadN C dG_20 rfl ?_
  refine g_ifF C dG_21 (show ¬ (0 : Int32) < (0 : Int32) by decide) ?_
  refine g_iloadN C dG_24 rfl ?_
  refine g_i2l (0 : Int64) C dG_25 (by decide) ?_
  refine g_aloadN C dG_26 rfl rfl ?_
  refine g_invokevirtual [] [(.long (0 : Int64))] 2 C dG_27 (hw _ (List.mem_of_getElem? (i := 71) rfl)) (hw _ (List.mem_of_getElem? (i := 72) rfl)) (hw _ (List.mem_of_getElem? (i := 74) rfl)) (hw _ (List.mem_of_getElem? (i := 73) rfl)) (hw _ (List.mem_of_getElem? (i := 25) rfl)) (hw _ (List.mem_of_getElem? (i := 75) rfl)) (fun _ hZ => notFace_of_selects (args := #[]) (mvT hZ (hw _ (List.mem_of_getElem? (i := 74) rfl)))) (by decide) G1.1 (m_len2 l Z a0 hw S0 hz0 S1 S2 S3 S4 S5 S6 S7 _ _ _ _ _ G1) (lenOf pd4 rfl) rfl rfl (Nat.le_of_ble_eq_true rfl) (by decide) (by decide) (by decide) (by decide) all0 (fun v1 h2 L3 q4 K5 => ?_)
  obtain rfl := q4
  show Go _ _ _ _ _ _ _ _ _ _ _ _ _ _ _ _ _ _ _ _ _ _ (mkF _ 30 #[.val (.ref s), .val (.int (1 : Int32)), .val (.int (0 : Int32)), .val (.ref u), .val (.int (0 : Int32)), .val (.int (2 : Int32)), .unset, .unset, .unset] [(.int (2 : Int32)), (.long (0 : Int64))])
  refine g_i2l (2 : Int64) C dG_30 (by decide) ?_
  refine g_iload C dG_31 rfl ?_
  refine g_i2l (2 : Int64) C dG_33 (by decide) ?_
  refine g_lsub (0 : Int64) C dG_34 (by decide) ?_
  refine g_lcmp C dG_35 ?_
  refine g_ifF C dG_36 (cl_gt_f (by decide)) ?_
  refine g_iload C dG_39 rfl ?_
  refine g_i2l (0 : Int64) C dG_41 (by decide) ?_
  refine g_aloadN C dG_42 rfl rfl ?_
  have f6 := (G2.keep K5 nin0 nin0)
  have f12 := (G2.1.keep K5)
  refine g_invokevirtual [] [(.long (0 : Int64))] 2 C dG_43 (hw _ (List.mem_of_getElem? (i := 71) rfl)) (hw _ (List.mem_of_getElem? (i := 72) rfl)) (hw _ (List.mem_of_getElem? (i := 74) rfl)) (hw _ (List.mem_of_getElem? (i := 73) rfl)) (hw _ (List.mem_of_getElem? (i := 25) rfl)) (hw _ (List.mem_of_getElem? (i := 75) rfl)) (fun _ hZ => notFace_of_selects (args := #[]) (mvT hZ (hw _ (List.mem_of_getElem? (i := 74) rfl)))) (by decide) f12 (m_len2 l Z a0 hw S0 hz0 S1 S2 S3 S4 S5 S6 S7 _ _ _ _ _ f6) (lenOf pd4 rfl) rfl rfl (Nat.le_of_ble_eq_true rfl) (by decide) (by decide) (by decide) (by decide) all0 (fun v7 h8 L9 q10 K11 => ?_)
  obtain rfl := q10
  show Go _ _ _ _ _ _ _ _ _ _ _ _ _ _ _ _ _ _ _ _ _ _ (mkF _ 46 #[.val (.ref s), .val (.int (1 : Int32)), .val (.int (0 : Int32)), .val (.ref u), .val (.int (0 : Int32)), .val (.int (2 : Int32)), .unset, .unset, .unset] [(.int (2 : Int32)), (.long (0 : Int64))])
  refine g_i2l (2 : Int64) C dG_46 (by decide) ?_
  refine g_iload C dG_47 rfl ?_
  refine g_i2l (2 : Int64) C dG_49 (by decide) ?_
  refine g_lsub (0 : Int64) C dG_50 (by decide) ?_
  refine g_lcmp C dG_51 ?_
  refine g_ifT 57 C dG_52 (cl_le_t (by decide)) (by decide) (by decide) ?_
  refine g_aloadN C dG_57 rfl rfl ?_
  have f13 := ((G1.2.2.1.keep K5 nin0).keep K11 nin0)
  refine g_getfield (host := "") C dG_58 (Or.inl (hw _ (List.mem_of_getElem? (i := 43) rfl))) Via.refl f13 ?_
  refine g_astore #[.val (.ref s), .val (.int (1 : Int32)), .val (.int (0 : Int32)), .val (.ref u), .val (.int (0 : Int32)), .val (.int (2 : Int32)), .val (.ref t1), .unset, .unset] C dG_61 rfl rfl ?_
  refine g_aloadN C dG_63 rfl rfl ?_
  have f14 := ((G2.2.2.1.keep K5 nin0).keep K11 nin0)
  refine g_getfield (host := "") C dG_64 (Or.inl (hw _ (List.mem_of_getElem? (i := 43) rfl))) Via.refl f14 ?_
  refine g_astore #[.val (.ref s), .val (.int (1 : Int32)), .val (.int (0 : Int32)), .val (.ref u), .val (.int (0 : Int32)), .val (.int (2 : Int32)), .val (.ref t1), .val (.ref t2), .unset] C dG_67 rfl rfl ?_
  refine g_aloadN C dG_69 rfl rfl ?_
  have f15 := ((G1.2.1.keep K5 nin0).keep K11 nin0)
  have f21 := ((G1.1.keep K5).keep K11)
  refine g_invokevirtual [] [] 0 C dG_70 (hw _ (List.mem_of_getElem? (i := 76) rfl)) (hw _ (List.mem_of_getElem? (i := 77) rfl)) (hw _ (List.mem_of_getElem? (i := 79) rfl)) (hw _ (List.mem_of_getElem? (i := 78) rfl)) (hw _ (List.mem_of_getElem? (i := 25) rfl)) (hw _ (List.mem_of_getElem? (i := 80) rfl)) (fun _ hZ => notFace_of_selects (args := #[]) (mvT hZ (hw _ (List.mem_of_getElem? (i := 79) rfl)))) (by decide) f21 (m_coder l Z a0 hw S0 hz0 S1 S2 S3 S4 S5 S6 S7 _ _ f15) (lenOf pd2 rfl) rfl rfl (Nat.le_of_ble_eq_true rfl) (by decide) (by decide) (by decide) (by decide) all0 (fun v16 h17 L18 q19 K20 => ?_)
  obtain rfl := q19
  show Go _ _ _ _ _ _ _ _ _ _ _ _ _ _ _ _ _ _ _ _ _ _ (mkF _ 73 #[.val (.ref s), .val (.int (1 : Int32)), .val (.int (0 : Int32)), .val (.ref u), .val (.int (0 : Int32)), .val (.int (2 : Int32)), .val (.ref t1), .val (.ref t2), .unset] [(.int (0 : Int32))])
  refine g_istore #[.val (.ref s), .val (.int (1 : Int32)), .val (.int (0 : Int32)), .val (.ref u), .val (.int (0 : Int32)), .val (.int (2 : Int32)), .val (.ref t1), .val (.ref t2), .val (.int (0 : Int32))] C dG_73 rfl ?_
  refine g_iload C dG_75 rfl ?_
  refine g_aloadN C dG_77 rfl rfl ?_
  have f22 := (((G2.2.1.keep K5 nin0).keep K11 nin0).keep K20 nin0)
  have f28 := ((f12.keep K11).keep K20)
  refine g_invokevirtual [] [(.int (0 : Int32))] 1 C dG_78 (hw _ (List.mem_of_getElem? (i := 76) rfl)) (hw _ (List.mem_of_getElem? (i := 77) rfl)) (hw _ (List.mem_of_getElem? (i := 79) rfl)) (hw _ (List.mem_of_getElem? (i := 78) rfl)) (hw _ (List.mem_of_getElem? (i := 25) rfl)) (hw _ (List.mem_of_getElem? (i := 80) rfl)) (fun _ hZ => notFace_of_selects (args := #[]) (mvT hZ (hw _ (List.mem_of_getElem? (i := 79) rfl)))) (by decide) f28 (m_coder l Z a0 hw S0 hz0 S1 S2 S3 S4 S5 S6 S7 _ _ f22) (lenOf pd2 rfl) rfl rfl (Nat.le_of_ble_eq_true rfl) (by decide) (by decide) (by decide) (by decide) all0 (fun v23 h24 L25 q26 K27 => ?_)
  obtain rfl := q26
  show Go _ _ _ _ _ _ _ _ _ _ _ _ _ _ _ _ _ _ _ _ _ _ (mkF _ 81 #[.val (.ref s), .val (.int (1 : Int32)), .val (.int (0 : Int32)), .val (.ref u), .val (.int (0 : Int32)), .val (.int (2 : Int32)), .val (.ref t1), .val (.ref t2), .val (.int (0 : Int32))] [(.int (0 : Int32)), (.int (0 : Int32))])
  refine g_icmpF C dG_81 (show (0 : Int32) = (0 : Int32) by decide) ?_
  refine g_iload C dG_84 rfl ?_
  refine g_ifF C dG_86 (show (0 : Int32) = (0 : Int32) by decide) ?_
  refine g_aload C dG_89 rfl rfl ?_
  refine g_iloadN C dG_91 rfl ?_
  refine g_aload C dG_92 rfl rfl ?_
  refine g_iload C dG_94 rfl ?_
  refine g_iload C dG_96 rfl ?_
  have f31 := ((((G1.2.2.2.keep K5 nin0).keep K11 nin0).keep K20 nin0).keep K27 nin0)
  have f32 := ((((G2.2.2.2.keep K5 nin0).keep K11 nin0).keep K20 nin0).keep K27 nin0)
  refine g_invokestatic [(.ref t1), (.int (0 : Int32)), (.ref t2), (.int (0 : Int32)), (.int (2 : Int32))] [] 0 C dG_98 (hw _ (List.mem_of_getElem? (i := 87) rfl)) (hw _ (List.mem_of_getElem? (i := 88) rfl)) (hw _ (List.mem_of_getElem? (i := 89) rfl)) (hw _ (List.mem_of_getElem? (i := 90) rfl)) (by decide) (m_ci2 l Z a0 hw S0 hz0 S1 S2 S3 S4 S5 S6 S7 _ _ _ _ b_c0 b_c1 b_d0 b_d1 _ _ _ f31 f32) (lenOf pd5 rfl) rfl rfl (Nat.le_of_ble_eq_true rfl) (by decide) (by decide) (by decide) (by decide) all0 (fun v33 h34 L35 q36 K37 => ?_)
  obtain rfl := q36
  show Go _ _ _ _ _ _ _ _ _ _ _ _ _ _ _ _ _ _ _ _ _ _ (mkF _ 101 #[.val (.ref s), .val (.int (1 : Int32)), .val (.int (0 : Int32)), .val (.ref u), .val (.int (0 : Int32)), .val (.int (2 : Int32)), .val (.ref t1), .val (.ref t2), .val (.int (0 : Int32))] [(.int (if ([c0, c1] : List Int32).map foldI = ([d0, d1] : List Int32).map foldI then 1 else 0))])
  refine g_goto 116 C dG_101 (by decide) (by decide) ?_
  exact g_retN C dG_116 (by simp) (by split <;> rfl) (by decide) (by decide)
theorem dH_0 : decode jdk_42_method_70_code 0 = .ok (.aload_n 0, 1) := by decide +kernel
theorem dH_1 : decode jdk_42_method_70_code 1 = .ok (.aload_n 1, 1) := by decide +kernel
theorem dH_2 : decode jdk_42_method_70_code 2 = .ok (.if_acmp .ne 7, 3) := by decide +kernel
theorem dH_9 : decode jdk_42_method_70_code 9 = .ok (.aload_n 1, 1) := by decide +kernel
theorem dH_10 : decode jdk_42_method_70_code 10 = .ok (.ifnull 33, 3) := by decide +kernel
theorem dH_13 : decode jdk_42_method_70_code 13 = .ok (.aload_n 1, 1) := by decide +kernel
theorem dH_14 : decode jdk_42_method_70_code 14 = .ok (.invokevirtual 505, 3) := by decide +kernel
theorem dH_17 : decode jdk_42_method_70_code 17 = .ok (.aload_n 0, 1) := by decide +kernel
theorem dH_18 : decode jdk_42_method_70_code 18 = .ok (.invokevirtual 505, 3) := by decide +kernel
theorem dH_21 : decode jdk_42_method_70_code 21 = .ok (.if_icmp .ne 22, 3) := by decide +kernel
theorem dH_24 : decode jdk_42_method_70_code 24 = .ok (.aload_n 0, 1) := by decide +kernel
theorem dH_25 : decode jdk_42_method_70_code 25 = .ok (.iconst 1, 1) := by decide +kernel
theorem dH_26 : decode jdk_42_method_70_code 26 = .ok (.iconst 0, 1) := by decide +kernel
theorem dH_27 : decode jdk_42_method_70_code 27 = .ok (.aload_n 1, 1) := by decide +kernel
theorem dH_28 : decode jdk_42_method_70_code 28 = .ok (.iconst 0, 1) := by decide +kernel
theorem dH_29 : decode jdk_42_method_70_code 29 = .ok (.aload_n 0, 1) := by decide +kernel
theorem dH_30 : decode jdk_42_method_70_code 30 = .ok (.invokevirtual 505, 3) := by decide +kernel
theorem dH_33 : decode jdk_42_method_70_code 33 = .ok (.invokevirtual 582, 3) := by decide +kernel
theorem dH_36 : decode jdk_42_method_70_code 36 = .ok (.ifCond .eq 7, 3) := by decide +kernel
theorem dH_39 : decode jdk_42_method_70_code 39 = .ok (.iconst 1, 1) := by decide +kernel
theorem dH_40 : decode jdk_42_method_70_code 40 = .ok (.goto 4, 3) := by decide +kernel
theorem dH_43 : decode jdk_42_method_70_code 43 = .ok (.iconst 0, 1) := by decide +kernel
theorem dH_44 : decode jdk_42_method_70_code 44 = .ok (.ireturn, 1) := by decide +kernel
set_option maxRecDepth 65536 in
set_option maxHeartbeats 80000000 in
theorem m_ic00 (l : Launch) (Z : State) (a0 : Array Value) {z0 : Int32} (hw : ∀ d ∈ tables_1, d.before a0 Z = true) (S0 : Sta Z Z.heap "java/lang/String" "COMPACT_STRINGS" "Z" (.int z0)) (hz0 : ¬ z0 = 0) {u0 u1 u2 u3 u4 u5 u6 : Addr} (S1 : Sta Z Z.heap "com/example/entidad/entidad/query/Token$Kind" "IDENTIFIER" "Lcom/example/entidad/entidad/query/Token$Kind;" (.ref u0)) (S2 : Sta Z Z.heap "com/example/entidad/entidad/query/Token$Kind" "STRING" "Lcom/example/entidad/entidad/query/Token$Kind;" (.ref u1)) (S3 : Sta Z Z.heap "com/example/entidad/entidad/query/Token$Kind" "NUMBER" "Lcom/example/entidad/entidad/query/Token$Kind;" (.ref u2)) (S4 : Sta Z Z.heap "com/example/entidad/entidad/query/Token$Kind" "NAMED_PARAMETER" "Lcom/example/entidad/entidad/query/Token$Kind;" (.ref u3)) (S5 : Sta Z Z.heap "com/example/entidad/entidad/query/Token$Kind" "POSITIONAL_PARAMETER" "Lcom/example/entidad/entidad/query/Token$Kind;" (.ref u4)) (S6 : Sta Z Z.heap "com/example/entidad/entidad/query/Token$Kind" "SYMBOL" "Lcom/example/entidad/entidad/query/Token$Kind;" (.ref u5)) (S7 : Sta Z Z.heap "com/example/entidad/entidad/query/Token$Kind" "END" "Lcom/example/entidad/entidad/query/Token$Kind;" (.ref u6))  (s u t1 t2 : Addr) (h : Heap) (ne : s ≠ u) (G1 : Str Z h s t1 []) (G2 : Str Z h u t2 []) :
    MetW true l Z [("java/lang/String", 7)] (⟨"java/lang/String", "equalsIgnoreCase", "(Ljava/lang/String;)Z"⟩ : MethodName) jdk_42_method_70_code 2 (Option.some Jvm.ClassFile.FieldType.boolean) [] ({ frames := 3, cells := 0, slots := 0, locals := 54 } : Room) #[(.ref s), (.ref u)] [] h (fun v h' => v = some (.int (if ([] : List Int32).map foldI = ([] : List Int32).map foldI then 1 else 0))) := by
  refine MetW.of (Ls := #[.val (.ref s), .val (.ref u)]) (a0 := a0) (by first | (simp [plainName, overriddenIn]; done) | decide +kernel) (fun m => by first | (simp [entryFrame, mkF, argsToLocals, Value.category]; done) | rfl) (own_EW hw) (fun q => nomatch q) (fun p_ e_ s_ m_ below_ meth_ c_ hs0 C => ?_)
  refine g_aloadN C dH_0 rfl rfl ?_
  refine g_aloadN C dH_1 rfl rfl ?_
  refine g_acmpT 9 C dH_2 rfl rfl (fun q => ne (by cases q; rfl)) (by decide) (by decide) ?_
  refine g_aloadN C dH_9 rfl rfl ?_
  refine g_ifnullF C dH_10 ?_
  refine g_aloadN C dH_13 rfl rfl ?_
  refine g_invokevirtual [] [] 0 C dH_14 (hw _ (List.mem_of_getElem? (i := 71) rfl)) (hw _ (List.mem_of_getElem? (i := 72) rfl)) (hw _ (List.mem_of_getElem? (i := 74) rfl)) (hw _ (List.mem_of_getElem? (i := 73) rfl)) (hw _ (List.mem_of_getElem? (i := 25) rfl)) (hw _ (List.mem_of_getElem? (i := 75) rfl)) (fun _ hZ => notFace_of_selects (args := #[]) (mvT hZ (hw _ (List.mem_of_getElem? (i := 74) rfl)))) (by decide) G2.1 (m_len0 l Z a0 hw S0 hz0 S1 S2 S3 S4 S5 S6 S7  _ _ _ G2) (lenOf pd4 rfl) rfl rfl (Nat.le_of_ble_eq_true rfl) (by decide) (by decide) (by decide) (by decide) all0 (fun v1 h2 L3 q4 K5 => ?_)
  obtain rfl := q4
  show Go _ _ _ _ _ _ _ _ _ _ _ _ _ _ _ _ _ _ _ _ _ _ (mkF _ 17 #[.val (.ref s), .val (.ref u)] [(.int (0 : Int32))])
  refine g_aloadN C dH_17 rfl rfl ?_
  have f6 := (G1.keep K5 nin0 nin0)
  have f12 := (G1.1.keep K5)
  refine g_invokevirtual [] [(.int (0 : Int32))] 1 C dH_18 (hw _ (List.mem_of_getElem? (i := 71) rfl)) (hw _ (List.mem_of_getElem? (i := 72) rfl)) (hw _ (List.mem_of_getElem? (i := 74) rfl)) (hw _ (List.mem_of_getElem? (i := 73) rfl)) (hw _ (List.mem_of_getElem? (i := 25) rfl)) (hw _ (List.mem_of_getElem? (i := 75) rfl)) (fun _ hZ => notFace_of_selects (args := #[]) (mvT hZ (hw _ (List.mem_of_getElem? (i := 74) rfl)))) (by decide) f12 (m_len0 l Z a0 hw S0 hz0 S1 S2 S3 S4 S5 S6 S7  _ _ _ f6) (lenOf pd4 rfl) rfl rfl (Nat.le_of_ble_eq_true rfl) (by decide) (by decide) (by decide) (by decide) all0 (fun v7 h8 L9 q10 K11 => ?_)
  obtain rfl := q10
  show Go _ _ _ _ _ _ _ _ _ _ _ _ _ _ _ _ _ _ _ _ _ _ (mkF _ 21 #[.val (.ref s), .val (.ref u)] [(.int (0 : Int32)), (.int (0 : Int32))])
  refine g_icmpF C dH_21 (show (0 : Int32) = (0 : Int32) by decide) ?_
  refine g_aloadN C dH_24 rfl rfl ?_
  refine g_iconst (1 : Int32) C dH_25 (by decide) ?_
  refine g_iconst (0 : Int32) C dH_26 (by decide) ?_
  refine g_aloadN C dH_27 rfl rfl ?_
  refine g_iconst (0 : Int32) C dH_28 (by decide) ?_
  refine g_aloadN C dH_29 rfl rfl ?_
  have f13 := (f6.keep K11 nin0 nin0)
  have f19 := (f12.keep K11)
  refine g_invokevirtual [] [(.int (0 : Int32)), (.ref u), (.int (0 : Int32)), (.int (1 : Int32)), (.ref s)] 5 C dH_30 (hw _ (List.mem_of_getElem? (i := 71) rfl)) (hw _ (List.mem_of_getElem? (i := 72) rfl)) (hw _ (List.mem_of_getElem? (i := 74) rfl)) (hw _ (List.mem_of_getElem? (i := 73) rfl)) (hw _ (List.mem_of_getElem? (i := 25) rfl)) (hw _ (List.mem_of_getElem? (i := 75) rfl)) (fun _ hZ => notFace_of_selects (args := #[]) (mvT hZ (hw _ (List.mem_of_getElem? (i := 74) rfl)))) (by decide) f19 (m_len0 l Z a0 hw S0 hz0 S1 S2 S3 S4 S5 S6 S7  _ _ _ f13) (lenOf pd4 rfl) rfl rfl (Nat.le_of_ble_eq_true rfl) (by decide) (by decide) (by decide) (by decide) all0 (fun v14 h15 L16 q17 K18 => ?_)
  obtain rfl := q17
  show Go _ _ _ _ _ _ _ _ _ _ _ _ _ _ _ _ _ _ _ _ _ _ (mkF _ 33 #[.val (.ref s), .val (.ref u)] [(.int (0 : Int32)), (.int (0 : Int32)), (.ref u), (.int (0 : Int32)), (.int (1 : Int32)), (.ref s)])
  have f21 := (f13.keep K18 nin0 nin0)
  have f22 := (((G2.keep K5 nin0 nin0).keep K11 nin0 nin0).keep K18 nin0 nin0)
  have f28 := (f19.keep K18)
  refine g_invokevirtual [(.int (1 : Int32)), (.int (0 : Int32)), (.ref u), (.int (0 : Int32)), (.int (0 : Int32))] [] 0 C dH_33 (hw _ (List.mem_of_getElem? (i := 82) rfl)) (hw _ (List.mem_of_getElem? (i := 83) rfl)) (hw _ (List.mem_of_getElem? (i := 85) rfl)) (hw _ (List.mem_of_getElem? (i := 84) rfl)) (hw _ (List.mem_of_getElem? (i := 25) rfl)) (hw _ (List.mem_of_getElem? (i := 86) rfl)) (fun _ hZ => notFace_of_selects (args := #[]) (mvT hZ (hw _ (List.mem_of_getElem? (i := 85) rfl)))) (by decide) f28 (m_rg0 l Z a0 hw S0 hz0 S1 S2 S3 S4 S5 S6 S7  _ _ _ _ _ f21 f22) (lenOf pd6 rfl) rfl rfl (Nat.le_of_ble_eq_true rfl) (by decide) (by decide) (by decide) (by decide) all0 (fun v23 h24 L25 q26 K27 => ?_)
  obtain rfl := q26
  by_cases cc20 : ([] : List Int32).map foldI = ([] : List Int32).map foldI
  · rw [if_pos cc20]
    show Go _ _ _ _ _ _ _ _ _ _ _ _ _ _ _ _ _ _ _ _ _ _ (mkF _ 36 #[.val (.ref s), .val (.ref u)] [(.int (1 : Int32))])
    refine g_ifF C dH_36 (show ¬ (1 : Int32) = (0 : Int32) by decide) ?_
    refine g_iconst (1 : Int32) C dH_39 (by decide) ?_
    refine g_goto 44 C dH_40 (by decide) (by decide) ?_
    exact g_retN C dH_44 (by simp) (by first | rfl | (rw [if_pos cc20]; rfl)) (by decide) (by decide)
  · rw [if_neg cc20]
    show Go _ _ _ _ _ _ _ _ _ _ _ _ _ _ _ _ _ _ _ _ _ _ (mkF _ 36 #[.val (.ref s), .val (.ref u)] [(.int (0 : Int32))])
    refine g_ifT 43 C dH_36 (show (0 : Int32) = (0 : Int32) by decide) (by decide) (by decide) ?_
    refine g_iconst (0 : Int32) C dH_43 (by decide) ?_
    exact g_retN C dH_44 (by simp) (by first | rfl | (rw [if_neg cc20]; rfl)) (by decide) (by decide)
set_option maxRecDepth 65536 in
set_option maxHeartbeats 80000000 in
theorem m_ic01 (l : Launch) (Z : State) (a0 : Array Value) {z0 : Int32} (hw : ∀ d ∈ tables_1, d.before a0 Z = true) (S0 : Sta Z Z.heap "java/lang/String" "COMPACT_STRINGS" "Z" (.int z0)) (hz0 : ¬ z0 = 0) {u0 u1 u2 u3 u4 u5 u6 : Addr} (S1 : Sta Z Z.heap "com/example/entidad/entidad/query/Token$Kind" "IDENTIFIER" "Lcom/example/entidad/entidad/query/Token$Kind;" (.ref u0)) (S2 : Sta Z Z.heap "com/example/entidad/entidad/query/Token$Kind" "STRING" "Lcom/example/entidad/entidad/query/Token$Kind;" (.ref u1)) (S3 : Sta Z Z.heap "com/example/entidad/entidad/query/Token$Kind" "NUMBER" "Lcom/example/entidad/entidad/query/Token$Kind;" (.ref u2)) (S4 : Sta Z Z.heap "com/example/entidad/entidad/query/Token$Kind" "NAMED_PARAMETER" "Lcom/example/entidad/entidad/query/Token$Kind;" (.ref u3)) (S5 : Sta Z Z.heap "com/example/entidad/entidad/query/Token$Kind" "POSITIONAL_PARAMETER" "Lcom/example/entidad/entidad/query/Token$Kind;" (.ref u4)) (S6 : Sta Z Z.heap "com/example/entidad/entidad/query/Token$Kind" "SYMBOL" "Lcom/example/entidad/entidad/query/Token$Kind;" (.ref u5)) (S7 : Sta Z Z.heap "com/example/entidad/entidad/query/Token$Kind" "END" "Lcom/example/entidad/entidad/query/Token$Kind;" (.ref u6)) (d0 : Int32) (b_d0 : ¬ d0 < 0 ∧ ¬ (255 : Int32) < d0) (s u t1 t2 : Addr) (h : Heap) (ne : s ≠ u) (G1 : Str Z h s t1 []) (G2 : Str Z h u t2 [d0]) :
    MetW true l Z [("java/lang/String", 7)] (⟨"java/lang/String", "equalsIgnoreCase", "(Ljava/lang/String;)Z"⟩ : MethodName) jdk_42_method_70_code 2 (Option.some Jvm.ClassFile.FieldType.boolean) [] ({ frames := 3, cells := 0, slots := 0, locals := 54 } : Room) #[(.ref s), (.ref u)] [] h (fun v h' => v = some (.int (if ([] : List Int32).map foldI = ([d0] : List Int32).map foldI then 1 else 0))) := by
  refine MetW.of (Ls := #[.val (.ref s), .val (.ref u)]) (a0 := a0) (by first | (simp [plainName, overriddenIn]; done) | decide +kernel) (fun m => by first | (simp [entryFrame, mkF, argsToLocals, Value.category]; done) | rfl) (own_EW hw) (fun q => nomatch q) (fun p_ e_ s_ m_ below_ meth_ c_ hs0 C => ?_)
  refine g_aloadN C dH_0 rfl rfl ?_
  refine g_aloadN C dH_1 rfl rfl ?_
  refine g_acmpT 9 C dH_2 rfl rfl (fun q => ne (by cases q; rfl)) (by decide) (by decide) ?_
  refine g_aloadN C dH_9 rfl rfl ?_
  refine g_ifnullF C dH_10 ?_
  refine g_aloadN C dH_13 rfl rfl ?_
  refine g_invokevirtual [] [] 0 C dH_14 (hw _ (List.mem_of_getElem? (i := 71) rfl)) (hw _ (List.mem_of_getElem? (i := 72) rfl)) (hw _ (List.mem_of_getElem? (i := 74) rfl)) (hw _ (List.mem_of_getElem? (i := 73) rfl)) (hw _ (List.mem_of_getElem? (i := 25) rfl)) (hw _ (List.mem_of_getElem? (i := 75) rfl)) (fun _ hZ => notFace_of_selects (args := #[]) (mvT hZ (hw _ (List.mem_of_getElem? (i := 74) rfl)))) (by decide) G2.1 (m_len1 l Z a0 hw S0 hz0 S1 S2 S3 S4 S5 S6 S7 _ _ _ _ G2) (lenOf pd4 rfl) rfl rfl (Nat.le_of_ble_eq_true rfl) (by decide) (by decide) (by decide) (by decide) all0 (fun v1 h2 L3 q4 K5 => ?_)
  obtain rfl := q4
  show Go _ _ _ _ _ _ _ _ _ _ _ _ _ _ _ _ _ _ _ _ _ _ (mkF _ 17 #[.val (.ref s), .val (.ref u)] [(.int (1 : Int32))])
  refine g_aloadN C dH_17 rfl rfl ?_
  have f6 := (G1.keep K5 nin0 nin0)
  have f12 := (G1.1.keep K5)
  refine g_invokevirtual [] [(.int (1 : Int32))] 1 C dH_18 (hw _ (List.mem_of_getElem? (i := 71) rfl)) (hw _ (List.mem_of_getElem? (i := 72) rfl)) (hw _ (List.mem_of_getElem? (i := 74) rfl)) (hw _ (List.mem_of_getElem? (i := 73) rfl)) (hw _ (List.mem_of_getElem? (i := 25) rfl)) (hw _ (List.mem_of_getElem? (i := 75) rfl)) (fun _ hZ => notFace_of_selects (args := #[]) (mvT hZ (hw _ (List.mem_of_getElem? (i := 74) rfl)))) (by decide) f12 (m_len0 l Z a0 hw S0 hz0 S1 S2 S3 S4 S5 S6 S7  _ _ _ f6) (lenOf pd4 rfl) rfl rfl (Nat.le_of_ble_eq_true rfl) (by decide) (by decide) (by decide) (by decide) all0 (fun v7 h8 L9 q10 K11 => ?_)
  obtain rfl := q10
  show Go _ _ _ _ _ _ _ _ _ _ _ _ _ _ _ _ _ _ _ _ _ _ (mkF _ 21 #[.val (.ref s), .val (.ref u)] [(.int (0 : Int32)), (.int (1 : Int32))])
  refine g_icmpT 43 C dH_21 (show ¬ (1 : Int32) = (0 : Int32) by decide) (by decide) (by decide) ?_
  refine g_iconst (0 : Int32) C dH_43 (by decide) ?_
  exact g_retN C dH_44 (by simp) (by first | rfl | (rw [if_neg (by simp)]; rfl)) (by decide) (by decide)
set_option maxRecDepth 65536 in
set_option maxHeartbeats 80000000 in
theorem m_ic02 (l : Launch) (Z : State) (a0 : Array Value) {z0 : Int32} (hw : ∀ d ∈ tables_1, d.before a0 Z = true) (S0 : Sta Z Z.heap "java/lang/String" "COMPACT_STRINGS" "Z" (.int z0)) (hz0 : ¬ z0 = 0) {u0 u1 u2 u3 u4 u5 u6 : Addr} (S1 : Sta Z Z.heap "com/example/entidad/entidad/query/Token$Kind" "IDENTIFIER" "Lcom/example/entidad/entidad/query/Token$Kind;" (.ref u0)) (S2 : Sta Z Z.heap "com/example/entidad/entidad/query/Token$Kind" "STRING" "Lcom/example/entidad/entidad/query/Token$Kind;" (.ref u1)) (S3 : Sta Z Z.heap "com/example/entidad/entidad/query/Token$Kind" "NUMBER" "Lcom/example/entidad/entidad/query/Token$Kind;" (.ref u2)) (S4 : Sta Z Z.heap "com/example/entidad/entidad/query/Token$Kind" "NAMED_PARAMETER" "Lcom/example/entidad/entidad/query/Token$Kind;" (.ref u3)) (S5 : Sta Z Z.heap "com/example/entidad/entidad/query/Token$Kind" "POSITIONAL_PARAMETER" "Lcom/example/entidad/entidad/query/Token$Kind;" (.ref u4)) (S6 : Sta Z Z.heap "com/example/entidad/entidad/query/Token$Kind" "SYMBOL" "Lcom/example/entidad/entidad/query/Token$Kind;" (.ref u5)) (S7 : Sta Z Z.heap "com/example/entidad/entidad/query/Token$Kind" "END" "Lcom/example/entidad/entidad/query/Token$Kind;" (.ref u6)) (d0 d1 : Int32) (b_d0 : ¬ d0 < 0 ∧ ¬ (255 : Int32) < d0) (b_d1 : ¬ d1 < 0 ∧ ¬ (255 : Int32) < d1) (s u t1 t2 : Addr) (h : Heap) (ne : s ≠ u) (G1 : Str Z h s t1 []) (G2 : Str Z h u t2 [d0, d1]) :
    MetW true l Z [("java/lang/String", 7)] (⟨"java/lang/String", "equalsIgnoreCase", "(Ljava/lang/String;)Z"⟩ : MethodName) jdk_42_method_70_code 2 (Option.some Jvm.ClassFile.FieldType.boolean) [] ({ frames := 3, cells := 0, slots := 0, locals := 54 } : Room) #[(.ref s), (.ref u)] [] h (fun v h' => v = some (.int (if ([] : List Int32).map foldI = ([d0, d1] : List Int32).map foldI then 1 else 0))) := by
  refine MetW.of (Ls := #[.val (.ref s), .val (.ref u)]) (a0 := a0) (by first | (simp [plainName, overriddenIn]; done) | decide +kernel) (fun m => by first | (simp [entryFrame, mkF, argsToLocals, Value.category]; done) | rfl) (own_EW hw) (fun q => nomatch q) (fun p_ e_ s_ m_ below_ meth_ c_ hs0 C => ?_)
  refine g_aloadN C dH_0 rfl rfl ?_
  refine g_aloadN C dH_1 rfl rfl ?_
  refine g_acmpT 9 C dH_2 rfl rfl (fun q => ne (by cases q; rfl)) (by decide) (by decide) ?_
  refine g_aloadN C dH_9 rfl rfl ?_
  refine g_ifnullF C dH_10 ?_
  refine g_aloadN C dH_13 rfl rfl ?_
  refine g_invokevirtual [] [] 0 C dH_14 (hw _ (List.mem_of_getElem? (i := 71) rfl)) (hw _ (List.mem_of_getElem? (i := 72) rfl)) (hw _ (List.mem_of_getElem? (i := 74) rfl)) (hw _ (List.mem_of_getElem? (i := 73) rfl)) (hw _ (List.mem_of_getElem? (i := 25) rfl)) (hw _ (List.mem_of_getElem? (i := 75) rfl)) (fun _ hZ => notFace_of_selects (args := #[]) (mvT hZ (hw _ (List.mem_of_getElem? (i := 74) rfl)))) (by decide) G2.1 (m_len2 l Z a0 hw S0 hz0 S1 S2 S3 S4 S5 S6 S7 _ _ _ _ _ G2) (lenOf pd4 rfl) rfl rfl (Nat.le_of_ble_eq_true rfl) (by decide) (by decide) (by decide) (by decide) all0 (fun v1 h2 L3 q4 K5 => ?_)
  obtain rfl := q4
  show Go _ _ _ _ _ _ _ _ _ _ _ _ _ _ _ _ _ _ _ _ _ _ (mkF _ 17 #[.val (.ref s), .val (.ref u)] [(.int (2 : Int32))])
  refine g_aloadN C dH_17 rfl rfl ?_
  have f6 := (G1.keep K5 nin0 nin0)
  have f12 := (G1.1.keep K5)
  refine g_invokevirtual [] [(.int (2 : Int32))] 1 C dH_18 (hw _ (List.mem_of_getElem? (i := 71) rfl)) (hw _ (List.mem_of_getElem? (i := 72) rfl)) (hw _ (List.mem_of_getElem? (i := 74) rfl)) (hw _ (List.mem_of_getElem? (i := 73) rfl)) (hw _ (List.mem_of_getElem? (i := 25) rfl)) (hw _ (List.mem_of_getElem? (i := 75) rfl)) (fun _ hZ => notFace_of_selects (args := #[]) (mvT hZ (hw _ (List.mem_of_getElem? (i := 74) rfl)))) (by decide) f12 (m_len0 l Z a0 hw S0 hz0 S1 S2 S3 S4 S5 S6 S7  _ _ _ f6) (lenOf pd4 rfl) rfl rfl (Nat.le_of_ble_eq_true rfl) (by decide) (by decide) (by decide) (by decide) all0 (fun v7 h8 L9 q10 K11 => ?_)
  obtain rfl := q10
  show Go _ _ _ _ _ _ _ _ _ _ _ _ _ _ _ _ _ _ _ _ _ _ (mkF _ 21 #[.val (.ref s), .val (.ref u)] [(.int (0 : Int32)), (.int (2 : Int32))])
  refine g_icmpT 43 C dH_21 (show ¬ (2 : Int32) = (0 : Int32) by decide) (by decide) (by decide) ?_
  refine g_iconst (0 : Int32) C dH_43 (by decide) ?_
  exact g_retN C dH_44 (by simp) (by first | rfl | (rw [if_neg (by simp)]; rfl)) (by decide) (by decide)
set_option maxRecDepth 65536 in
set_option maxHeartbeats 80000000 in
theorem m_ic10 (l : Launch) (Z : State) (a0 : Array Value) {z0 : Int32} (hw : ∀ d ∈ tables_1, d.before a0 Z = true) (S0 : Sta Z Z.heap "java/lang/String" "COMPACT_STRINGS" "Z" (.int z0)) (hz0 : ¬ z0 = 0) {u0 u1 u2 u3 u4 u5 u6 : Addr} (S1 : Sta Z Z.heap "com/example/entidad/entidad/query/Token$Kind" "IDENTIFIER" "Lcom/example/entidad/entidad/query/Token$Kind;" (.ref u0)) (S2 : Sta Z Z.heap "com/example/entidad/entidad/query/Token$Kind" "STRING" "Lcom/example/entidad/entidad/query/Token$Kind;" (.ref u1)) (S3 : Sta Z Z.heap "com/example/entidad/entidad/query/Token$Kind" "NUMBER" "Lcom/example/entidad/entidad/query/Token$Kind;" (.ref u2)) (S4 : Sta Z Z.heap "com/example/entidad/entidad/query/Token$Kind" "NAMED_PARAMETER" "Lcom/example/entidad/entidad/query/Token$Kind;" (.ref u3)) (S5 : Sta Z Z.heap "com/example/entidad/entidad/query/Token$Kind" "POSITIONAL_PARAMETER" "Lcom/example/entidad/entidad/query/Token$Kind;" (.ref u4)) (S6 : Sta Z Z.heap "com/example/entidad/entidad/query/Token$Kind" "SYMBOL" "Lcom/example/entidad/entidad/query/Token$Kind;" (.ref u5)) (S7 : Sta Z Z.heap "com/example/entidad/entidad/query/Token$Kind" "END" "Lcom/example/entidad/entidad/query/Token$Kind;" (.ref u6)) (c0 : Int32) (b_c0 : ¬ c0 < 0 ∧ ¬ (255 : Int32) < c0) (s u t1 t2 : Addr) (h : Heap) (ne : s ≠ u) (G1 : Str Z h s t1 [c0]) (G2 : Str Z h u t2 []) :
    MetW true l Z [("java/lang/String", 7)] (⟨"java/lang/String", "equalsIgnoreCase", "(Ljava/lang/String;)Z"⟩ : MethodName) jdk_42_method_70_code 2 (Option.some Jvm.ClassFile.FieldType.boolean) [] ({ frames := 3, cells := 0, slots := 0, locals := 54 } : Room) #[(.ref s), (.ref u)] [] h (fun v h' => v = some (.int (if ([c0] : List Int32).map foldI = ([] : List Int32).map foldI then 1 else 0))) := by
  refine MetW.of (Ls := #[.val (.ref s), .val (.ref u)]) (a0 := a0) (by first | (simp [plainName, overriddenIn]; done) | decide +kernel) (fun m => by first | (simp [entryFrame, mkF, argsToLocals, Value.category]; done) | rfl) (own_EW hw) (fun q => nomatch q) (fun p_ e_ s_ m_ below_ meth_ c_ hs0 C => ?_)
  refine g_aloadN C dH_0 rfl rfl ?_
  refine g_aloadN C dH_1 rfl rfl ?_
  refine g_acmpT 9 C dH_2 rfl rfl (fun q => ne (by cases q; rfl)) (by decide) (by decide) ?_
  refine g_aloadN C dH_9 rfl rfl ?_
  refine g_ifnullF C dH_10 ?_
  refine g_aloadN C dH_13 rfl rfl ?_
  refine g_invokevirtual [] [] 0 C dH_14 (hw _ (List.mem_of_getElem? (i := 71) rfl)) (hw _ (List.mem_of_getElem? (i := 72) rfl)) (hw _ (List.mem_of_getElem? (i := 74) rfl)) (hw _ (List.mem_of_getElem? (i := 73) rfl)) (hw _ (List.mem_of_getElem? (i := 25) rfl)) (hw _ (List.mem_of_getElem? (i := 75) rfl)) (fun _ hZ => notFace_of_selects (args := #[]) (mvT hZ (hw _ (List.mem_of_getElem? (i := 74) rfl)))) (by decide) G2.1 (m_len0 l Z a0 hw S0 hz0 S1 S2 S3 S4 S5 S6 S7  _ _ _ G2) (lenOf pd4 rfl) rfl rfl (Nat.le_of_ble_eq_true rfl) (by decide) (by decide) (by decide) (by decide) all0 (fun v1 h2 L3 q4 K5 => ?_)
  obtain rfl := q4
  show Go _ _ _ _ _ _ _ _ _ _ _ _ _ _ _ _ _ _ _ _ _ _ (mkF _ 17 #[.val (.ref s), .val (.ref u)] [(.int (0 : Int32))])
  refine g_aloadN C dH_17 rfl rfl ?_
  have f6 := (G1.keep K5 nin0 nin0)
  have f12 := (G1.1.keep K5)
  refine g_invokevirtual [] [(.int (0 : Int32))] 1 C dH_18 (hw _ (List.mem_of_getElem? (i := 71) rfl)) (hw _ (List.mem_of_getElem? (i := 72) rfl)) (hw _ (List.mem_of_getElem? (i := 74) rfl)) (hw _ (List.mem_of_getElem? (i := 73) rfl)) (hw _ (List.mem_of_getElem? (i := 25) rfl)) (hw _ (List.mem_of_getElem? (i := 75) rfl)) (fun _ hZ => notFace_of_selects (args := #[]) (mvT hZ (hw _ (List.mem_of_getElem? (i := 74) rfl)))) (by decide) f12 (m_len1 l Z a0 hw S0 hz0 S1 S2 S3 S4 S5 S6 S7 _ _ _ _ f6) (lenOf pd4 rfl) rfl rfl (Nat.le_of_ble_eq_true rfl) (by decide) (by decide) (by decide) (by decide) all0 (fun v7 h8 L9 q10 K11 => ?_)
  obtain rfl := q10
  show Go _ _ _ _ _ _ _ _ _ _ _ _ _ _ _ _ _ _ _ _ _ _ (mkF _ 21 #[.val (.ref s), .val (.ref u)] [(.int (1 : Int32)), (.int (0 : Int32))])
  refine g_icmpT 43 C dH_21 (show ¬ (0 : Int32) = (1 : Int32) by decide) (by decide) (by decide) ?_
  refine g_iconst (0 : Int32) C dH_43 (by decide) ?_
  exact g_retN C dH_44 (by simp) (by first | rfl | (rw [if_neg (by simp)]; rfl)) (by decide) (by decide)
set_option maxRecDepth 65536 in
set_option maxHeartbeats 80000000 in
theorem m_ic11 (l : Launch) (Z : State) (a0 : Array Value) {z0 : Int32} (hw : ∀ d ∈ tables_1, d.before a0 Z = true) (S0 : Sta Z Z.heap "java/lang/String" "COMPACT_STRINGS" "Z" (.int z0)) (hz0 : ¬ z0 = 0) {u0 u1 u2 u3 u4 u5 u6 : Addr} (S1 : Sta Z Z.heap "com/example/entidad/entidad/query/Token$Kind" "IDENTIFIER" "Lcom/example/entidad/entidad/query/Token$Kind;" (.ref u0)) (S2 : Sta Z Z.heap "com/example/entidad/entidad/query/Token$Kind" "STRING" "Lcom/example/entidad/entidad/query/Token$Kind;" (.ref u1)) (S3 : Sta Z Z.heap "com/example/entidad/entidad/query/Token$Kind" "NUMBER" "Lcom/example/entidad/entidad/query/Token$Kind;" (.ref u2)) (S4 : Sta Z Z.heap "com/example/entidad/entidad/query/Token$Kind" "NAMED_PARAMETER" "Lcom/example/entidad/entidad/query/Token$Kind;" (.ref u3)) (S5 : Sta Z Z.heap "com/example/entidad/entidad/query/Token$Kind" "POSITIONAL_PARAMETER" "Lcom/example/entidad/entidad/query/Token$Kind;" (.ref u4)) (S6 : Sta Z Z.heap "com/example/entidad/entidad/query/Token$Kind" "SYMBOL" "Lcom/example/entidad/entidad/query/Token$Kind;" (.ref u5)) (S7 : Sta Z Z.heap "com/example/entidad/entidad/query/Token$Kind" "END" "Lcom/example/entidad/entidad/query/Token$Kind;" (.ref u6)) (c0 d0 : Int32) (b_c0 : ¬ c0 < 0 ∧ ¬ (255 : Int32) < c0) (b_d0 : ¬ d0 < 0 ∧ ¬ (255 : Int32) < d0) (s u t1 t2 : Addr) (h : Heap) (ne : s ≠ u) (G1 : Str Z h s t1 [c0]) (G2 : Str Z h u t2 [d0]) :
    MetW true l Z [("java/lang/String", 7)] (⟨"java/lang/String", "equalsIgnoreCase", "(Ljava/lang/String;)Z"⟩ : MethodName) jdk_42_method_70_code 2 (Option.some Jvm.ClassFile.FieldType.boolean) [] ({ frames := 3, cells := 0, slots := 0, locals := 54 } : Room) #[(.ref s), (.ref u)] [] h (fun v h' => v = some (.int (if ([c0] : List Int32).map foldI = ([d0] : List Int32).map foldI then 1 else 0))) := by
  refine MetW.of (Ls := #[.val (.ref s), .val (.ref u)]) (a0 := a0) (by first | (simp [plainName, overriddenIn]; done) | decide +kernel) (fun m => by first | (simp [entryFrame, mkF, argsToLocals, Value.category]; done) | rfl) (own_EW hw) (fun q => nomatch q) (fun p_ e_ s_ m_ below_ meth_ c_ hs0 C => ?_)
  refine g_aloadN C dH_0 rfl rfl ?_
  refine g_aloadN C dH_1 rfl rfl ?_
  refine g_acmpT 9 C dH_2 rfl rfl (fun q => ne (by cases q; rfl)) (by decide) (by decide) ?_
  refine g_aloadN C dH_9 rfl rfl ?_
  refine g_ifnullF C dH_10 ?_
  refine g_aloadN C dH_13 rfl rfl ?_
  refine g_invokevirtual [] [] 0 C dH_14 (hw _ (List.mem_of_getElem? (i := 71) rfl)) (hw _ (List.mem_of_getElem? (i := 72) rfl)) (hw _ (List.mem_of_getElem? (i := 74) rfl)) (hw _ (List.mem_of_getElem? (i := 73) rfl)) (hw _ (List.mem_of_getElem? (i := 25) rfl)) (hw _ (List.mem_of_getElem? (i := 75) rfl)) (fun _ hZ => notFace_of_selects (args := #[]) (mvT hZ (hw _ (List.mem_of_getElem? (i := 74) rfl)))) (by decide) G2.1 (m_len1 l Z a0 hw S0 hz0 S1 S2 S3 S4 S5 S6 S7 _ _ _ _ G2) (lenOf pd4 rfl) rfl rfl (Nat.le_of_ble_eq_true rfl) (by decide) (by decide) (by decide) (by decide) all0 (fun v1 h2 L3 q4 K5 => ?_)
  obtain rfl := q4
  show Go _ _ _ _ _ _ _ _ _ _ _ _ _ _ _ _ _ _ _ _ _ _ (mkF _ 17 #[.val (.ref s), .val (.ref u)] [(.int (1 : Int32))])
  refine g_aloadN C dH_17 rfl rfl ?_
  have f6 := (G1.keep K5 nin0 nin0)
  have f12 := (G1.1.keep K5)
  refine g_invokevirtual [] [(.int (1 : Int32))] 1 C dH_18 (hw _ (List.mem_of_getElem? (i := 71) rfl)) (hw _ (List.mem_of_getElem? (i := 72) rfl)) (hw _ (List.mem_of_getElem? (i := 74) rfl)) (hw _ (List.mem_of_getElem? (i := 73) rfl)) (hw _ (List.mem_of_getElem? (i := 25) rfl)) (hw _ (List.mem_of_getElem? (i := 75) rfl)) (fun _ hZ => notFace_of_selects (args := #[]) (mvT hZ (hw _ (List.mem_of_getElem? (i := 74) rfl)))) (by decide) f12 (m_len1 l Z a0 hw S0 hz0 S1 S2 S3 S4 S5 S6 S7 _ _ _ _ f6) (lenOf pd4 rfl) rfl rfl (Nat.le_of_ble_eq_true rfl) (by decide) (by decide) (by decide) (by decide) all0 (fun v7 h8 L9 q10 K11 => ?_)
  obtain rfl := q10
  show Go _ _ _ _ _ _ _ _ _ _ _ _ _ _ _ _ _ _ _ _ _ _ (mkF _ 21 #[.val (.ref s), .val (.ref u)] [(.int (1 : Int32)), (.int (1 : Int32))])
  refine g_icmpF C dH_21 (show (1 : Int32) = (1 : Int32) by decide) ?_
  refine g_aloadN C dH_24 rfl rfl ?_
  refine g_iconst (1 : Int32) C dH_25 (by decide) ?_
  refine g_iconst (0 : Int32) C dH_26 (by decide) ?_
  refine g_aloadN C dH_27 rfl rfl ?_
  refine g_iconst (0 : Int32) C dH_28 (by decide) ?_
  refine g_aloadN C dH_29 rfl rfl ?_
  have f13 := (f6.keep K11 nin0 nin0)
  have f19 := (f12.keep K11)
  refine g_invokevirtual [] [(.int (0 : Int32)), (.ref u), (.int (0 : Int32)), (.int (1 : Int32)), (.ref s)] 5 C dH_30 (hw _ (List.mem_of_getElem? (i := 71) rfl)) (hw _ (List.mem_of_getElem? (i := 72) rfl)) (hw _ (List.mem_of_getElem? (i := 74) rfl)) (hw _ (List.mem_of_getElem? (i := 73) rfl)) (hw _ (List.mem_of_getElem? (i := 25) rfl)) (hw _ (List.mem_of_getElem? (i := 75) rfl)) (fun _ hZ => notFace_of_selects (args := #[]) (mvT hZ (hw _ (List.mem_of_getElem? (i := 74) rfl)))) (by decide) f19 (m_len1 l Z a0 hw S0 hz0 S1 S2 S3 S4 S5 S6 S7 _ _ _ _ f13) (lenOf pd4 rfl) rfl rfl (Nat.le_of_ble_eq_true rfl) (by decide) (by decide) (by decide) (by decide) all0 (fun v14 h15 L16 q17 K18 => ?_)
  obtain rfl := q17
  show Go _ _ _ _ _ _ _ _ _ _ _ _ _ _ _ _ _ _ _ _ _ _ (mkF _ 33 #[.val (.ref s), .val (.ref u)] [(.int (1 : Int32)), (.int (0 : Int32)), (.ref u), (.int (0 : Int32)), (.int (1 : Int32)), (.ref s)])
  have f21 := (f13.keep K18 nin0 nin0)
  have f22 := (((G2.keep K5 nin0 nin0).keep K11 nin0 nin0).keep K18 nin0 nin0)
  have f28 := (f19.keep K18)
  refine g_invokevirtual [(.int (1 : Int32)), (.int (0 : Int32)), (.ref u), (.int (0 : Int32)), (.int (1 : Int32))] [] 0 C dH_33 (hw _ (List.mem_of_getElem? (i := 82) rfl)) (hw _ (List.mem_of_getElem? (i := 83) rfl)) (hw _ (List.mem_of_getElem? (i := 85) rfl)) (hw _ (List.mem_of_getElem? (i := 84) rfl)) (hw _ (List.mem_of_getElem? (i := 25) rfl)) (hw _ (List.mem_of_getElem? (i := 86) rfl)) (fun _ hZ => notFace_of_selects (args := #[]) (mvT hZ (hw _ (List.mem_of_getElem? (i := 85) rfl)))) (by decide) f28 (m_rg1 l Z a0 hw S0 hz0 S1 S2 S3 S4 S5 S6 S7 _ _ b_c0 b_d0 _ _ _ _ _ f21 f22) (lenOf pd6 rfl) rfl rfl (Nat.le_of_ble_eq_true rfl) (by decide) (by decide) (by decide) (by decide) all0 (fun v23 h24 L25 q26 K27 => ?_)
  obtain rfl := q26
  by_cases cc20 : ([c0] : List Int32).map foldI = ([d0] : List Int32).map foldI
  · rw [if_pos cc20]
    show Go _ _ _ _ _ _ _ _ _ _ _ _ _ _ _ _ _ _ _ _ _ _ (mkF _ 36 #[.val (.ref s), .val (.ref u)] [(.int (1 : Int32))])
    refine g_ifF C dH_36 (show ¬ (1 : Int32) = (0 : Int32) by decide) ?_
    refine g_iconst (1 : Int32) C dH_39 (by decide) ?_
    refine g_goto 44 C dH_40 (by decide) (by decide) ?_
    exact g_retN C dH_44 (by simp) (by first | rfl | (rw [if_pos cc20]; rfl)) (by decide) (by decide)
  · rw [if_neg cc20]
    show Go _ _ _ _ _ _ _ _ _ _ _ _ _ _ _ _ _ _ _ _ _ _ (mkF _ 36 #[.val (.ref s), .val (.ref u)] [(.int (0 : Int32))])
    refine g_ifT 43 C dH_36 (show (0 : Int32) = (0 : Int32) by decide) (by decide) (by decide) ?_
    refine g_iconst (0 : Int32) C dH_43 (by decide) ?_
    exact g_retN C dH_44 (by simp) (by first | rfl | (rw [if_neg cc20]; rfl)) (by decide) (by decide)
set_option maxRecDepth 65536 in
set_option maxHeartbeats 80000000 in
theorem m_ic12 (l : Launch) (Z : State) (a0 : Array Value) {z0 : Int32} (hw : ∀ d ∈ tables_1, d.before a0 Z = true) (S0 : Sta Z Z.heap "java/lang/String" "COMPACT_STRINGS" "Z" (.int z0)) (hz0 : ¬ z0 = 0) {u0 u1 u2 u3 u4 u5 u6 : Addr} (S1 : Sta Z Z.heap "com/example/entidad/entidad/query/Token$Kind" "IDENTIFIER" "Lcom/example/entidad/entidad/query/Token$Kind;" (.ref u0)) (S2 : Sta Z Z.heap "com/example/entidad/entidad/query/Token$Kind" "STRING" "Lcom/example/entidad/entidad/query/Token$Kind;" (.ref u1)) (S3 : Sta Z Z.heap "com/example/entidad/entidad/query/Token$Kind" "NUMBER" "Lcom/example/entidad/entidad/query/Token$Kind;" (.ref u2)) (S4 : Sta Z Z.heap "com/example/entidad/entidad/query/Token$Kind" "NAMED_PARAMETER" "Lcom/example/entidad/entidad/query/Token$Kind;" (.ref u3)) (S5 : Sta Z Z.heap "com/example/entidad/entidad/query/Token$Kind" "POSITIONAL_PARAMETER" "Lcom/example/entidad/entidad/query/Token$Kind;" (.ref u4)) (S6 : Sta Z Z.heap "com/example/entidad/entidad/query/Token$Kind" "SYMBOL" "Lcom/example/entidad/entidad/query/Token$Kind;" (.ref u5)) (S7 : Sta Z Z.heap "com/example/entidad/entidad/query/Token$Kind" "END" "Lcom/example/entidad/entidad/query/Token$Kind;" (.ref u6)) (c0 d0 d1 : Int32) (b_c0 : ¬ c0 < 0 ∧ ¬ (255 : Int32) < c0) (b_d0 : ¬ d0 < 0 ∧ ¬ (255 : Int32) < d0) (b_d1 : ¬ d1 < 0 ∧ ¬ (255 : Int32) < d1) (s u t1 t2 : Addr) (h : Heap) (ne : s ≠ u) (G1 : Str Z h s t1 [c0]) (G2 : Str Z h u t2 [d0, d1]) :
    MetW true l Z [("java/lang/String", 7)] (⟨"java/lang/String", "equalsIgnoreCase", "(Ljava/lang/String;)Z"⟩ : MethodName) jdk_42_method_70_code 2 (Option.some Jvm.ClassFile.FieldType.boolean) [] ({ frames := 3, cells := 0, slots := 0, locals := 54 } : Room) #[(.ref s), (.ref u)] [] h (fun v h' => v = some (.int (if ([c0] : List Int32).map foldI = ([d0, d1] : List Int32).map foldI then 1 else 0))) := by
  refine MetW.of (Ls := #[.val (.ref s), .val (.ref u)]) (a0 := a0) (by first | (simp [plainName, overriddenIn]; done) | decide +kernel) (fun m => by first | (simp [entryFrame, mkF, argsToLocals, Value.category]; done) | rfl) (own_EW hw) (fun q => nomatch q) (fun p_ e_ s_ m_ below_ meth_ c_ hs0 C => ?_)
  refine g_aloadN C dH_0 rfl rfl ?_
  refine g_aloadN C dH_1 rfl rfl ?_
  refine g_acmpT 9 C dH_2 rfl rfl (fun q => ne (by cases q; rfl)) (by decide) (by decide) ?_
  refine g_aloadN C dH_9 rfl rfl ?_
  refine g_ifnullF C dH_10 ?_
  refine g_aloadN C dH_13 rfl rfl ?_
  refine g_invokevirtual [] [] 0 C dH_14 (hw _ (List.mem_of_getElem? (i := 71) rfl)) (hw _ (List.mem_of_getElem? (i := 72) rfl)) (hw _ (List.mem_of_getElem? (i := 74) rfl)) (hw _ (List.mem_of_getElem? (i := 73) rfl)) (hw _ (List.mem_of_getElem? (i := 25) rfl)) (hw _ (List.mem_of_getElem? (i := 75) rfl)) (fun _ hZ => notFace_of_selects (args := #[]) (mvT hZ (hw _ (List.mem_of_getElem? (i := 74) rfl)))) (by decide) G2.1 (m_len2 l Z a0 hw S0 hz0 S1 S2 S3 S4 S5 S6 S7 _ _ _ _ _ G2) (lenOf pd4 rfl) rfl rfl (Nat.le_of_ble_eq_true rfl) (by decide) (by decide) (by decide) (by decide) all0 (fun v1 h2 L3 q4 K5 => ?_)
  obtain rfl := q4
  show Go _ _ _ _ _ _ _ _ _ _ _ _ _ _ _ _ _ _ _ _ _ _ (mkF _ 17 #[.val (.ref s), .val (.ref u)] [(.int (2 : Int32))])
  refine g_aloadN C dH_17 rfl rfl ?_
  have f6 := (G1.keep K5 nin0 nin0)
  have f12 := (G1.1.keep K5)
  refine g_invokevirtual [] [(.int (2 : Int32))] 1 C dH_18 (hw _ (List.mem_of_getElem? (i := 71) rfl)) (hw _ (List.mem_of_getElem? (i := 72) rfl)) (hw _ (List.mem_of_getElem? (i := 74) rfl)) (hw _ (List.mem_of_getElem? (i := 73) rfl)) (hw _ (List.mem_of_getElem? (i := 25) rfl)) (hw _ (List.mem_of_getElem? (i := 75) rfl)) (fun _ hZ => notFace_of_selects (args := #[]) (mvT hZ (hw _ (List.mem_of_getElem? (i := 74) rfl)))) (by decide) f12 (m_len1 l Z a0 hw S0 hz0 S1 S2 S3 S4 S5 S6 S7 _ _ _ _ f6) (lenOf pd4 rfl) rfl rfl (Nat.le_of_ble_eq_true rfl) (by decide) (by decide) (by decide) (by decide) all0 (fun v7 h8 L9 q10 K11 => ?_)
  obtain rfl := q10
  show Go _ _ _ _ _ _ _ _ _ _ _ _ _ _ _ _ _ _ _ _ _ _ (mkF _ 21 #[.val (.ref s), .val (.ref u)] [(.int (1 : Int32)), (.int (2 : Int32))])
  refine g_icmpT 43 C dH_21 (show ¬ (2 : Int32) = (1 : Int32) by decide) (by decide) (by decide) ?_
  refine g_iconst (0 : Int32) C dH_43 (by decide) ?_
  exact g_retN C dH_44 (by simp) (by first | rfl | (rw [if_neg (by simp)]; rfl)) (by decide) (by decide)
set_option maxRecDepth 65536 in
set_option maxHeartbeats 80000000 in
theorem m_ic20 (l : Launch) (Z : State) (a0 : Array Value) {z0 : Int32} (hw : ∀ d ∈ tables_1, d.before a0 Z = true) (S0 : Sta Z Z.heap "java/lang/String" "COMPACT_STRINGS" "Z" (.int z0)) (hz0 : ¬ z0 = 0) {u0 u1 u2 u3 u4 u5 u6 : Addr} (S1 : Sta Z Z.heap "com/example/entidad/entidad/query/Token$Kind" "IDENTIFIER" "Lcom/example/entidad/entidad/query/Token$Kind;" (.ref u0)) (S2 : Sta Z Z.heap "com/example/entidad/entidad/query/Token$Kind" "STRING" "Lcom/example/entidad/entidad/query/Token$Kind;" (.ref u1)) (S3 : Sta Z Z.heap "com/example/entidad/entidad/query/Token$Kind" "NUMBER" "Lcom/example/entidad/entidad/query/Token$Kind;" (.ref u2)) (S4 : Sta Z Z.heap "com/example/entidad/entidad/query/Token$Kind" "NAMED_PARAMETER" "Lcom/example/entidad/entidad/query/Token$Kind;" (.ref u3)) (S5 : Sta Z Z.heap "com/example/entidad/entidad/query/Token$Kind" "POSITIONAL_PARAMETER" "Lcom/example/entidad/entidad/query/Token$Kind;" (.ref u4)) (S6 : Sta Z Z.heap "com/example/entidad/entidad/query/Token$Kind" "SYMBOL" "Lcom/example/entidad/entidad/query/Token$Kind;" (.ref u5)) (S7 : Sta Z Z.heap "com/example/entidad/entidad/query/Token$Kind" "END" "Lcom/example/entidad/entidad/query/Token$Kind;" (.ref u6)) (c0 c1 : Int32) (b_c0 : ¬ c0 < 0 ∧ ¬ (255 : Int32) < c0) (b_c1 : ¬ c1 < 0 ∧ ¬ (255 : Int32) < c1) (s u t1 t2 : Addr) (h : Heap) (ne : s ≠ u) (G1 : Str Z h s t1 [c0, c1]) (G2 : Str Z h u t2 []) :
    MetW true l Z [("java/lang/String", 7)] (⟨"java/lang/String", "equalsIgnoreCase", "(Ljava/lang/String;)Z"⟩ : MethodName) jdk_42_method_70_code 2 (Option.some Jvm.ClassFile.FieldType.boolean) [] ({ frames := 3, cells := 0, slots := 0, locals := 54 } : Room) #[(.ref s), (.ref u)] [] h (fun v h' => v = some (.int (if ([c0, c1] : List Int32).map foldI = ([] : List Int32).map foldI then 1 else 0))) := by
  refine MetW.of (Ls := #[.val (.ref s), .val (.ref u)]) (a0 := a0) (by first | (simp [plainName, overriddenIn]; done) | decide +kernel) (fun m => by first | (simp [entryFrame, mkF, argsToLocals, Value.category]; done) | rfl) (own_EW hw) (fun q => nomatch q) (fun p_ e_ s_ m_ below_ meth_ c_ hs0 C => ?_)
  refine g_aloadN C dH_0 rfl rfl ?_
  refine g_aloadN C dH_1 rfl rfl ?_
  refine g_acmpT 9 C dH_2 rfl rfl (fun q => ne (by cases q; rfl)) (by decide) (by decide) ?_
  refine g_aloadN C dH_9 rfl rfl ?_
  refine g_ifnullF C dH_10 ?_
  refine g_aloadN C dH_13 rfl rfl ?_
  refine g_invokevirtual [] [] 0 C dH_14 (hw _ (List.mem_of_getElem? (i := 71) rfl)) (hw _ (List.mem_of_getElem? (i := 72) rfl)) (hw _ (List.mem_of_getElem? (i := 74) rfl)) (hw _ (List.mem_of_getElem? (i := 73) rfl)) (hw _ (List.mem_of_getElem? (i := 25) rfl)) (hw _ (List.mem_of_getElem? (i := 75) rfl)) (fun _ hZ => notFace_of_selects (args := #[]) (mvT hZ (hw _ (List.mem_of_getElem? (i := 74) rfl)))) (by decide) G2.1 (m_len0 l Z a0 hw S0 hz0 S1 S2 S3 S4 S5 S6 S7  _ _ _ G2) (lenOf pd4 rfl) rfl rfl (Nat.le_of_ble_eq_true rfl) (by decide) (by decide) (by decide) (by decide) all0 (fun v1 h2 L3 q4 K5 => ?_)
  obtain rfl := q4
  show Go _ _ _ _ _ _ _ _ _ _ _ _ _ _ _ _ _ _ _ _ _ _ (mkF _ 17 #[.val (.ref s), .val (.ref u)] [(.int (0 : Int32))])
  refine g_aloadN C dH_17 rfl rfl ?_
  have f6 := (G1.keep K5 nin0 nin0)
  have f12 := (G1.1.keep K5)
  refine g_invokevirtual [] [(.int (0 : Int32))] 1 C dH_18 (hw _ (List.mem_of_getElem? (i := 71) rfl)) (hw _ (List.mem_of_getElem? (i := 72) rfl)) (hw _ (List.mem_of_getElem? (i := 74) rfl)) (hw _ (List.mem_of_getElem? (i := 73) rfl)) (hw _ (List.mem_of_getElem? (i := 25) rfl)) (hw _ (List.mem_of_getElem? (i := 75) rfl)) (fun _ hZ => notFace_of_selects (args := #[]) (mvT hZ (hw _ (List.mem_of_getElem? (i := 74) rfl)))) (by decide) f12 (m_len2 l Z a0 hw S0 hz0 S1 S2 S3 S4 S5 S6 S7 _ _ _ _ _ f6) (lenOf pd4 rfl) rfl rfl (Nat.le_of_ble_eq_true rfl) (by decide) (by decide) (by decide) (by decide) all0 (fun v7 h8 L9 q10 K11 => ?_)
  obtain rfl := q10
  show Go _ _ _ _ _ _ _ _ _ _ _ _ _ _ _ _ _ _ _ _ _ _ (mkF _ 21 #[.val (.ref s), .val (.ref u)] [(.int (2 : Int32)), (.int (0 : Int32))])
  refine g_icmpT 43 C dH_21 (show ¬ (0 : Int32) = (2 : Int32) by decide) (by decide) (by decide) ?_
  refine g_iconst (0 : Int32) C dH_43 (by decide) ?_
  exact g_retN C dH_44 (by simp) (by first | rfl | (rw [if_neg (by simp)]; rfl)) (by decide) (by decide)
set_option maxRecDepth 65536 in
set_option maxHeartbeats 80000000 in
theorem m_ic21 (l : Launch) (Z : State) (a0 : Array Value) {z0 : Int32} (hw : ∀ d ∈ tables_1, d.before a0 Z = true) (S0 : Sta Z Z.heap "java/lang/String" "COMPACT_STRINGS" "Z" (.int z0)) (hz0 : ¬ z0 = 0) {u0 u1 u2 u3 u4 u5 u6 : Addr} (S1 : Sta Z Z.heap "com/example/entidad/entidad/query/Token$Kind" "IDENTIFIER" "Lcom/example/entidad/entidad/query/Token$Kind;" (.ref u0)) (S2 : Sta Z Z.heap "com/example/entidad/entidad/query/Token$Kind" "STRING" "Lcom/example/entidad/entidad/query/Token$Kind;" (.ref u1)) (S3 : Sta Z Z.heap "com/example/entidad/entidad/query/Token$Kind" "NUMBER" "Lcom/example/entidad/entidad/query/Token$Kind;" (.ref u2)) (S4 : Sta Z Z.heap "com/example/entidad/entidad/query/Token$Kind" "NAMED_PARAMETER" "Lcom/example/entidad/entidad/query/Token$Kind;" (.ref u3)) (S5 : Sta Z Z.heap "com/example/entidad/entidad/query/Token$Kind" "POSITIONAL_PARAMETER" "Lcom/example/entidad/entidad/query/Token$Kind;" (.ref u4)) (S6 : Sta Z Z.heap "com/example/entidad/entidad/query/Token$Kind" "SYMBOL" "Lcom/example/entidad/entidad/query/Token$Kind;" (.ref u5)) (S7 : Sta Z Z.heap "com/example/entidad/entidad/query/Token$Kind" "END" "Lcom/example/entidad/entidad/query/Token$Kind;" (.ref u6)) (c0 c1 d0 : Int32) (b_c0 : ¬ c0 < 0 ∧ ¬ (255 : Int32) < c0) (b_c1 : ¬ c1 < 0 ∧ ¬ (255 : Int32) < c1) (b_d0 : ¬ d0 < 0 ∧ ¬ (255 : Int32) < d0) (s u t1 t2 : Addr) (h : Heap) (ne : s ≠ u) (G1 : Str Z h s t1 [c0, c1]) (G2 : Str Z h u t2 [d0]) :
    MetW true l Z [("java/lang/String", 7)] (⟨"java/lang/String", "equalsIgnoreCase", "(Ljava/lang/String;)Z"⟩ : MethodName) jdk_42_method_70_code 2 (Option.some Jvm.ClassFile.FieldType.boolean) [] ({ frames := 3, cells := 0, slots := 0, locals := 54 } : Room) #[(.ref s), (.ref u)] [] h (fun v h' => v = some (.int (if ([c0, c1] : List Int32).map foldI = ([d0] : List Int32).map foldI then 1 else 0))) := by
  refine MetW.of (Ls := #[.val (.ref s), .val (.ref u)]) (a0 := a0) (by first | (simp [plainName, overriddenIn]; done) | decide +kernel) (fun m => by first | (simp [entryFrame, mkF, argsToLocals, Value.category]; done) | rfl) (own_EW hw) (fun q => nomatch q) (fun p_ e_ s_ m_ below_ meth_ c_ hs0 C => ?_)
  refine g_aloadN C dH_0 rfl rfl ?_
  refine g_aloadN C dH_1 rfl rfl ?_
  refine g_acmpT 9 C dH_2 rfl rfl (fun q => ne (by cases q; rfl)) (by decide) (by decide) ?_
  refine g_aloadN C dH_9 rfl rfl ?_
  refine g_ifnullF C dH_10 ?_
  refine g_aloadN C dH_13 rfl rfl ?_
  refine g_invokevirtual [] [] 0 C dH_14 (hw _ (List.mem_of_getElem? (i := 71) rfl)) (hw _ (List.mem_of_getElem? (i := 72) rfl)) (hw _ (List.mem_of_getElem? (i := 74) rfl)) (hw _ (List.mem_of_getElem? (i := 73) rfl)) (hw _ (List.mem_of_getElem? (i := 25) rfl)) (hw _ (List.mem_of_getElem? (i := 75) rfl)) (fun _ hZ => notFace_of_selects (args := #[]) (mvT hZ (hw _ (List.mem_of_getElem? (i := 74) rfl)))) (by decide) G2.1 (m_len1 l Z a0 hw S0 hz0 S1 S2 S3 S4 S5 S6 S7 _ _ _ _ G2) (lenOf pd4 rfl) rfl rfl (Nat.le_of_ble_eq_true rfl) (by decide) (by decide) (by decide) (by decide) all0 (fun v1 h2 L3 q4 K5 => ?_)
  obtain rfl := q4
  show Go _ _ _ _ _ _ _ _ _ _ _ _ _ _ _ _ _ _ _ _ _ _ (mkF _ 17 #[.val (.ref s), .val (.ref u)] [(.int (1 : Int32))])
  refine g_aloadN C dH_17 rfl rfl ?_
  have f6 := (G1.keep K5 nin0 nin0)
  have f12 := (G1.1.keep K5)
  refine g_invokevirtual [] [(.int (1 : Int32))] 1 C dH_18 (hw _ (List.mem_of_getElem? (i := 71) rfl)) (hw _ (List.mem_of_getElem? (i := 72) rfl)) (hw _ (List.mem_of_getElem? (i := 74) rfl)) (hw _ (List.mem_of_getElem? (i := 73) rfl)) (hw _ (List.mem_of_getElem? (i := 25) rfl)) (hw _ (List.mem_of_getElem? (i := 75) rfl)) (fun _ hZ => notFace_of_selects (args := #[]) (mvT hZ (hw _ (List.mem_of_getElem? (i := 74) rfl)))) (by decide) f12 (m_len2 l Z a0 hw S0 hz0 S1 S2 S3 S4 S5 S6 S7 _ _ _ _ _ f6) (lenOf pd4 rfl) rfl rfl (Nat.le_of_ble_eq_true rfl) (by decide) (by decide) (by decide) (by decide) all0 (fun v7 h8 L9 q10 K11 => ?_)
  obtain rfl := q10
  show Go _ _ _ _ _ _ _ _ _ _ _ _ _ _ _ _ _ _ _ _ _ _ (mkF _ 21 #[.val (.ref s), .val (.ref u)] [(.int (2 : Int32)), (.int (1 : Int32))])
  refine g_icmpT 43 C dH_21 (show ¬ (1 : Int32) = (2 : Int32) by decide) (by decide) (by decide) ?_
  refine g_iconst (0 : Int32) C dH_43 (by decide) ?_
  exact g_retN C dH_44 (by simp) (by first | rfl | (rw [if_neg (by simp)]; rfl)) (by decide) (by decide)
set_option maxRecDepth 65536 in
set_option maxHeartbeats 80000000 in
theorem m_ic22 (l : Launch) (Z : State) (a0 : Array Value) {z0 : Int32} (hw : ∀ d ∈ tables_1, d.before a0 Z = true) (S0 : Sta Z Z.heap "java/lang/String" "COMPACT_STRINGS" "Z" (.int z0)) (hz0 : ¬ z0 = 0) {u0 u1 u2 u3 u4 u5 u6 : Addr} (S1 : Sta Z Z.heap "com/example/entidad/entidad/query/Token$Kind" "IDENTIFIER" "Lcom/example/entidad/entidad/query/Token$Kind;" (.ref u0)) (S2 : Sta Z Z.heap "com/example/entidad/entidad/query/Token$Kind" "STRING" "Lcom/example/entidad/entidad/query/Token$Kind;" (.ref u1)) (S3 : Sta Z Z.heap "com/example/entidad/entidad/query/Token$Kind" "NUMBER" "Lcom/example/entidad/entidad/query/Token$Kind;" (.ref u2)) (S4 : Sta Z Z.heap "com/example/entidad/entidad/query/Token$Kind" "NAMED_PARAMETER" "Lcom/example/entidad/entidad/query/Token$Kind;" (.ref u3)) (S5 : Sta Z Z.heap "com/example/entidad/entidad/query/Token$Kind" "POSITIONAL_PARAMETER" "Lcom/example/entidad/entidad/query/Token$Kind;" (.ref u4)) (S6 : Sta Z Z.heap "com/example/entidad/entidad/query/Token$Kind" "SYMBOL" "Lcom/example/entidad/entidad/query/Token$Kind;" (.ref u5)) (S7 : Sta Z Z.heap "com/example/entidad/entidad/query/Token$Kind" "END" "Lcom/example/entidad/entidad/query/Token$Kind;" (.ref u6)) (c0 c1 d0 d1 : Int32) (b_c0 : ¬ c0 < 0 ∧ ¬ (255 : Int32) < c0) (b_c1 : ¬ c1 < 0 ∧ ¬ (255 : Int32) < c1) (b_d0 : ¬ d0 < 0 ∧ ¬ (255 : Int32) < d0) (b_d1 : ¬ d1 < 0 ∧ ¬ (255 : Int32) < d1) (s u t1 t2 : Addr) (h : Heap) (ne : s ≠ u) (G1 : Str Z h s t1 [c0, c1]) (G2 : Str Z h u t2 [d0, d1]) :
    MetW true l Z [("java/lang/String", 7)] (⟨"java/lang/String", "equalsIgnoreCase", "(Ljava/lang/String;)Z"⟩ : MethodName) jdk_42_method_70_code 2 (Option.some Jvm.ClassFile.FieldType.boolean) [] ({ frames := 3, cells := 0, slots := 0, locals := 54 } : Room) #[(.ref s), (.ref u)] [] h (fun v h' => v = some (.int (if ([c0, c1] : List Int32).map foldI = ([d0, d1] : List Int32).map foldI then 1 else 0))) := by
  refine MetW.of (Ls := #[.val (.ref s), .val (.ref u)]) (a0 := a0) (by first | (simp [plainName, overriddenIn]; done) | decide +kernel) (fun m => by first | (simp [entryFrame, mkF, argsToLocals, Value.category]; done) | rfl) (own_EW hw) (fun q => nomatch q) (fun p_ e_ s_ m_ below_ meth_ c_ hs0 C => ?_)
  refine g_aloadN C dH_0 rfl rfl ?_
  refine g_aloadN C dH_1 rfl rfl ?_
  refine g_acmpT 9 C dH_2 rfl rfl (fun q => ne (by cases q; rfl)) (by decide) (by decide) ?_
  refine g_aloadN C dH_9 rfl rfl ?_
  refine g_ifnullF C dH_10 ?_
  refine g_aloadN C dH_13 rfl rfl ?_
  refine g_invokevirtual [] [] 0 C dH_14 (hw _ (List.mem_of_getElem? (i := 71) rfl)) (hw _ (List.mem_of_getElem? (i := 72) rfl)) (hw _ (List.mem_of_getElem? (i := 74) rfl)) (hw _ (List.mem_of_getElem? (i := 73) rfl)) (hw _ (List.mem_of_getElem? (i := 25) rfl)) (hw _ (List.mem_of_getElem? (i := 75) rfl)) (fun _ hZ => notFace_of_selects (args := #[]) (mvT hZ (hw _ (List.mem_of_getElem? (i := 74) rfl)))) (by decide) G2.1 (m_len2 l Z a0 hw S0 hz0 S1 S2 S3 S4 S5 S6 S7 _ _ _ _ _ G2) (lenOf pd4 rfl) rfl rfl (Nat.le_of_ble_eq_true rfl) (by decide) (by decide) (by decide) (by decide) all0 (fun v1 h2 L3 q4 K5 => ?_)
  obtain rfl := q4
  show Go _ _ _ _ _ _ _ _ _ _ _ _ _ _ _ _ _ _ _ _ _ _ (mkF _ 17 #[.val (.ref s), .val (.ref u)] [(.int (2 : Int32))])
  refine g_aloadN C dH_17 rfl rfl ?_
  have f6 := (G1.keep K5 nin0 nin0)
  have f12 := (G1.1.keep K5)
  refine g_invokevirtual [] [(.int (2 : Int32))] 1 C dH_18 (hw _ (List.mem_of_getElem? (i := 71) rfl)) (hw _ (List.mem_of_getElem? (i := 72) rfl)) (hw _ (List.mem_of_getElem? (i := 74) rfl)) (hw _ (List.mem_of_getElem? (i := 73) rfl)) (hw _ (List.mem_of_getElem? (i := 25) rfl)) (hw _ (List.mem_of_getElem? (i := 75) rfl)) (fun _ hZ => notFace_of_selects (args := #[]) (mvT hZ (hw _ (List.mem_of_getElem? (i := 74) rfl)))) (by decide) f12 (m_len2 l Z a0 hw S0 hz0 S1 S2 S3 S4 S5 S6 S7 _ _ _ _ _ f6) (lenOf pd4 rfl) rfl rfl (Nat.le_of_ble_eq_true rfl) (by decide) (by decide) (by decide) (by decide) all0 (fun v7 h8 L9 q10 K11 => ?_)
  obtain rfl := q10
  show Go _ _ _ _ _ _ _ _ _ _ _ _ _ _ _ _ _ _ _ _ _ _ (mkF _ 21 #[.val (.ref s), .val (.ref u)] [(.int (2 : Int32)), (.int (2 : Int32))])
  refine g_icmpF C dH_21 (show (2 : Int32) = (2 : Int32) by decide) ?_
  refine g_aloadN C dH_24 rfl rfl ?_
  refine g_iconst (1 : Int32) C dH_25 (by decide) ?_
  refine g_iconst (0 : Int32) C dH_26 (by decide) ?_
  refine g_aloadN C dH_27 rfl rfl ?_
  refine g_iconst (0 : Int32) C dH_28 (by decide) ?_
  refine g_aloadN C dH_29 rfl rfl ?_
  have f13 := (f6.keep K11 nin0 nin0)
  have f19 := (f12.keep K11)
  refine g_invokevirtual [] [(.int (0 : Int32)), (.ref u), (.int (0 : Int32)), (.int (1 : Int32)), (.ref s)] 5 C dH_30 (hw _ (List.mem_of_getElem? (i := 71) rfl)) (hw _ (List.mem_of_getElem? (i := 72) rfl)) (hw _ (List.mem_of_getElem? (i := 74) rfl)) (hw _ (List.mem_of_getElem? (i := 73) rfl)) (hw _ (List.mem_of_getElem? (i := 25) rfl)) (hw _ (List.mem_of_getElem? (i := 75) rfl)) (fun _ hZ => notFace_of_selects (args := #[]) (mvT hZ (hw _ (List.mem_of_getElem? (i := 74) rfl)))) (by decide) f19 (m_len2 l Z a0 hw S0 hz0 S1 S2 S3 S4 S5 S6 S7 _ _ _ _ _ f13) (lenOf pd4 rfl) rfl rfl (Nat.le_of_ble_eq_true rfl) (by decide) (by decide) (by decide) (by decide) all0 (fun v14 h15 L16 q17 K18 => ?_)
  obtain rfl := q17
  show Go _ _ _ _ _ _ _ _ _ _ _ _ _ _ _ _ _ _ _ _ _ _ (mkF _ 33 #[.val (.ref s), .val (.ref u)] [(.int (2 : Int32)), (.int (0 : Int32)), (.ref u), (.int (0 : Int32)), (.int (1 : Int32)), (.ref s)])
  have f21 := (f13.keep K18 nin0 nin0)
  have f22 := (((G2.keep K5 nin0 nin0).keep K11 nin0 nin0).keep K18 nin0 nin0)
  have f28 := (f19.keep K18)
  refine g_invokevirtual [(.int (1 : Int32)), (.int (0 : Int32)), (.ref u), (.int (0 : Int32)), (.int (2 : Int32))] [] 0 C dH_33 (hw _ (List.mem_of_getElem? (i := 82) rfl)) (hw _ (List.mem_of_getElem? (i := 83) rfl)) (hw _ (List.mem_of_getElem? (i := 85) rfl)) (hw _ (List.mem_of_getElem? (i := 84) rfl)) (hw _ (List.mem_of_getElem? (i := 25) rfl)) (hw _ (List.mem_of_getElem? (i := 86) rfl)) (fun _ hZ => notFace_of_selects (args := #[]) (mvT hZ (hw _ (List.mem_of_getElem? (i := 85) rfl)))) (by decide) f28 (m_rg2 l Z a0 hw S0 hz0 S1 S2 S3 S4 S5 S6 S7 _ _ _ _ b_c0 b_c1 b_d0 b_d1 _ _ _ _ _ f21 f22) (lenOf pd6 rfl) rfl rfl (Nat.le_of_ble_eq_true rfl) (by decide) (by decide) (by decide) (by decide) all0 (fun v23 h24 L25 q26 K27 => ?_)
  obtain rfl := q26
  by_cases cc20 : ([c0, c1] : List Int32).map foldI = ([d0, d1] : List Int32).map foldI
  · rw [if_pos cc20]
    show Go _ _ _ _ _ _ _ _ _ _ _ _ _ _ _ _ _ _ _ _ _ _ (mkF _ 36 #[.val (.ref s), .val (.ref u)] [(.int (1 : Int32))])
    refine g_ifF C dH_36 (show ¬ (1 : Int32) = (0 : Int32) by decide) ?_
    refine g_iconst (1 : Int32) C dH_39 (by decide) ?_
    refine g_goto 44 C dH_40 (by decide) (by decide) ?_
    exact g_retN C dH_44 (by simp) (by first | rfl | (rw [if_pos cc20]; rfl)) (by decide) (by decide)
  · rw [if_neg cc20]
    show Go _ _ _ _ _ _ _ _ _ _ _ _ _ _ _ _ _ _ _ _ _ _ (mkF _ 36 #[.val (.ref s), .val (.ref u)] [(.int (0 : Int32))])
    refine g_ifT 43 C dH_36 (show (0 : Int32) = (0 : Int32) by decide) (by decide) (by decide) ?_
    refine g_iconst (0 : Int32) C dH_43 (by decide) ?_
    exact g_retN C dH_44 (by simp) (by first | rfl | (rw [if_neg cc20]; rfl)) (by decide) (by decide)
theorem m_ic (l : Launch) (Z : State) (a0 : Array Value) {z0 : Int32} (hw : ∀ d ∈ tables_1, d.before a0 Z = true) (S0 : Sta Z Z.heap "java/lang/String" "COMPACT_STRINGS" "Z" (.int z0)) (hz0 : ¬ z0 = 0) {u0 u1 u2 u3 u4 u5 u6 : Addr} (S1 : Sta Z Z.heap "com/example/entidad/entidad/query/Token$Kind" "IDENTIFIER" "Lcom/example/entidad/entidad/query/Token$Kind;" (.ref u0)) (S2 : Sta Z Z.heap "com/example/entidad/entidad/query/Token$Kind" "STRING" "Lcom/example/entidad/entidad/query/Token$Kind;" (.ref u1)) (S3 : Sta Z Z.heap "com/example/entidad/entidad/query/Token$Kind" "NUMBER" "Lcom/example/entidad/entidad/query/Token$Kind;" (.ref u2)) (S4 : Sta Z Z.heap "com/example/entidad/entidad/query/Token$Kind" "NAMED_PARAMETER" "Lcom/example/entidad/entidad/query/Token$Kind;" (.ref u3)) (S5 : Sta Z Z.heap "com/example/entidad/entidad/query/Token$Kind" "POSITIONAL_PARAMETER" "Lcom/example/entidad/entidad/query/Token$Kind;" (.ref u4)) (S6 : Sta Z Z.heap "com/example/entidad/entidad/query/Token$Kind" "SYMBOL" "Lcom/example/entidad/entidad/query/Token$Kind;" (.ref u5)) (S7 : Sta Z Z.heap "com/example/entidad/entidad/query/Token$Kind" "END" "Lcom/example/entidad/entidad/query/Token$Kind;" (.ref u6)) (n m c0 c1 d0 d1 : Int32) (h1 : n = 0 ∨ n = 1 ∨ n = 2) (h2 : m = 0 ∨ m = 1 ∨ m = 2) (b_c0 : ¬ c0 < 0 ∧ ¬ (255 : Int32) < c0) (b_c1 : ¬ c1 < 0 ∧ ¬ (255 : Int32) < c1) (b_d0 : ¬ d0 < 0 ∧ ¬ (255 : Int32) < d0) (b_d1 : ¬ d1 < 0 ∧ ¬ (255 : Int32) < d1) (s u t1 t2 : Addr) (h : Heap) (ne : s ≠ u) (G1 : Str Z h s t1 (mkL n c0 c1)) (G2 : Str Z h u t2 (mkL m d0 d1)) :
    MetW true l Z [("java/lang/String", 7)] (⟨"java/lang/String", "equalsIgnoreCase", "(Ljava/lang/String;)Z"⟩ : MethodName) jdk_42_method_70_code 2 (Option.some Jvm.ClassFile.FieldType.boolean) [] ({ frames := 3, cells := 0, slots := 0, locals := 54 } : Room) #[.ref s, .ref u] [] h (fun v h' => v = some (.int (if (mkL n c0 c1).map foldI = (mkL m d0 d1).map foldI then 1 else 0))) := by
  rcases h1 with rfl | rfl | rfl <;> rcases h2 with rfl | rfl | rfl
  · exact m_ic00 l Z a0 hw S0 hz0 S1 S2 S3 S4 S5 S6 S7  s u t1 t2 h ne G1 G2
  · exact m_ic01 l Z a0 hw S0 hz0 S1 S2 S3 S4 S5 S6 S7 d0 b_d0 s u t1 t2 h ne G1 G2
  · exact m_ic02 l Z a0 hw S0 hz0 S1 S2 S3 S4 S5 S6 S7 d0 d1 b_d0 b_d1 s u t1 t2 h ne G1 G2
  · exact m_ic10 l Z a0 hw S0 hz0 S1 S2 S3 S4 S5 S6 S7 c0 b_c0 s u t1 t2 h ne G1 G2
  · exact m_ic11 l Z a0 hw S0 hz0 S1 S2 S3 S4 S5 S6 S7 c0 d0 b_c0 b_d0 s u t1 t2 h ne G1 G2
  · exact m_ic12 l Z a0 hw S0 hz0 S1 S2 S3 S4 S5 S6 S7 c0 d0 d1 b_c0 b_d0 b_d1 s u t1 t2 h ne G1 G2
  · exact m_ic20 l Z a0 hw S0 hz0 S1 S2 S3 S4 S5 S6 S7 c0 c1 b_c0 b_c1 s u t1 t2 h ne G1 G2
  · exact m_ic21 l Z a0 hw S0 hz0 S1 S2 S3 S4 S5 S6 S7 c0 c1 d0 b_c0 b_c1 b_d0 s u t1 t2 h ne G1 G2
  · exact m_ic22 l Z a0 hw S0 hz0 S1 S2 S3 S4 S5 S6 S7 c0 c1 d0 d1 b_c0 b_c1 b_d0 b_d1 s u t1 t2 h ne G1 G2
set_option maxRecDepth 65536 in
set_option maxHeartbeats 80000000 in
theorem m_icN (l : Launch) (Z : State) (a0 : Array Value) {z0 : Int32} (hw : ∀ d ∈ tables_1, d.before a0 Z = true) (S0 : Sta Z Z.heap "java/lang/String" "COMPACT_STRINGS" "Z" (.int z0)) (hz0 : ¬ z0 = 0) {u0 u1 u2 u3 u4 u5 u6 : Addr} (S1 : Sta Z Z.heap "com/example/entidad/entidad/query/Token$Kind" "IDENTIFIER" "Lcom/example/entidad/entidad/query/Token$Kind;" (.ref u0)) (S2 : Sta Z Z.heap "com/example/entidad/entidad/query/Token$Kind" "STRING" "Lcom/example/entidad/entidad/query/Token$Kind;" (.ref u1)) (S3 : Sta Z Z.heap "com/example/entidad/entidad/query/Token$Kind" "NUMBER" "Lcom/example/entidad/entidad/query/Token$Kind;" (.ref u2)) (S4 : Sta Z Z.heap "com/example/entidad/entidad/query/Token$Kind" "NAMED_PARAMETER" "Lcom/example/entidad/entidad/query/Token$Kind;" (.ref u3)) (S5 : Sta Z Z.heap "com/example/entidad/entidad/query/Token$Kind" "POSITIONAL_PARAMETER" "Lcom/example/entidad/entidad/query/Token$Kind;" (.ref u4)) (S6 : Sta Z Z.heap "com/example/entidad/entidad/query/Token$Kind" "SYMBOL" "Lcom/example/entidad/entidad/query/Token$Kind;" (.ref u5)) (S7 : Sta Z Z.heap "com/example/entidad/entidad/query/Token$Kind" "END" "Lcom/example/entidad/entidad/query/Token$Kind;" (.ref u6)) (s : Addr) (h : Heap) :
    MetW true l Z [("java/lang/String", 7)] (⟨"java/lang/String", "equalsIgnoreCase", "(Ljava/lang/String;)Z"⟩ : MethodName) jdk_42_method_70_code 2 (Option.some Jvm.ClassFile.FieldType.boolean) [] ({ frames := 0, cells := 0, slots := 0, locals := 0 } : Room) #[(.ref s), .null] [] h (fun v h' => v = some (.int (0 : Int32))) := by
  refine MetW.of (Ls := #[.val (.ref s), .val .null]) (a0 := a0) (by first | (simp [plainName, overriddenIn]; done) | decide +kernel) (fun m => by first | (simp [entryFrame, mkF, argsToLocals, Value.category]; done) | rfl) (own_EW hw) (fun q => nomatch q) (fun p_ e_ s_ m_ below_ meth_ c_ hs0 C => ?_)
  refine g_aloadN C dH_0 rfl rfl ?_
  refine g_aloadN C dH_1 rfl rfl ?_
  refine g_acmpT 9 C dH_2 rfl rfl (fun q => by cases q) (by decide) (by decide) ?_
  refine g_aloadN C dH_9 rfl rfl ?_
  refine g_ifnullT 43 C dH_10 (by decide) (by decide) ?_
  refine g_iconst (0 : Int32) C dH_43 (by decide) ?_
  exact g_retN C dH_44 (by simp) rfl (by decide) (by decide)
theorem dI_0 : decode jdk_42_method_66_code 0 = .ok (.aload_n 0, 1) := by decide +kernel
theorem dI_1 : decode jdk_42_method_66_code 1 = .ok (.aload_n 1, 1) := by decide +kernel
theorem dI_2 : decode jdk_42_method_66_code 2 = .ok (.if_acmp .ne 5, 3) := by decide +kernel
theorem dI_7 : decode jdk_42_method_66_code 7 = .ok (.aload_n 1, 1) := by decide +kernel
theorem dI_8 : decode jdk_42_method_66_code 8 = .ok (.instanceof 10, 3) := by decide +kernel
theorem dI_11 : decode jdk_42_method_66_code 11 = .ok (.ifCond .eq 43, 3) := by decide +kernel
theorem dI_54 : decode jdk_42_method_66_code 54 = .ok (.iconst 0, 1) := by decide +kernel
theorem dI_55 : decode jdk_42_method_66_code 55 = .ok (.ireturn, 1) := by decide +kernel
set_option maxRecDepth 65536 in
set_option maxHeartbeats 80000000 in
theorem m_seqN (l : Launch) (Z : State) (a0 : Array Value) {z0 : Int32} (hw : ∀ d ∈ tables_1, d.before a0 Z = true) (S0 : Sta Z Z.heap "java/lang/String" "COMPACT_STRINGS" "Z" (.int z0)) (hz0 : ¬ z0 = 0) {u0 u1 u2 u3 u4 u5 u6 : Addr} (S1 : Sta Z Z.heap "com/example/entidad/entidad/query/Token$Kind" "IDENTIFIER" "Lcom/example/entidad/entidad/query/Token$Kind;" (.ref u0)) (S2 : Sta Z Z.heap "com/example/entidad/entidad/query/Token$Kind" "STRING" "Lcom/example/entidad/entidad/query/Token$Kind;" (.ref u1)) (S3 : Sta Z Z.heap "com/example/entidad/entidad/query/Token$Kind" "NUMBER" "Lcom/example/entidad/entidad/query/Token$Kind;" (.ref u2)) (S4 : Sta Z Z.heap "com/example/entidad/entidad/query/Token$Kind" "NAMED_PARAMETER" "Lcom/example/entidad/entidad/query/Token$Kind;" (.ref u3)) (S5 : Sta Z Z.heap "com/example/entidad/entidad/query/Token$Kind" "POSITIONAL_PARAMETER" "Lcom/example/entidad/entidad/query/Token$Kind;" (.ref u4)) (S6 : Sta Z Z.heap "com/example/entidad/entidad/query/Token$Kind" "SYMBOL" "Lcom/example/entidad/entidad/query/Token$Kind;" (.ref u5)) (S7 : Sta Z Z.heap "com/example/entidad/entidad/query/Token$Kind" "END" "Lcom/example/entidad/entidad/query/Token$Kind;" (.ref u6)) (s : Addr) (h : Heap) :
    MetW true l Z [("java/lang/String", 7)] (⟨"java/lang/String", "equals", "(Ljava/lang/Object;)Z"⟩ : MethodName) jdk_42_method_66_code 3 (Option.some Jvm.ClassFile.FieldType.boolean) [] ({ frames := 0, cells := 0, slots := 0, locals := 0 } : Room) #[(.ref s), .null] [] h (fun v h' => v = some (.int (0 : Int32))) := by
  refine MetW.of (Ls := #[.val (.ref s), .val .null, .unset]) (a0 := a0) (by first | (simp [plainName, overriddenIn]; done) | decide +kernel) (fun m => by first | (simp [entryFrame, mkF, argsToLocals, Value.category]; done) | rfl) (own_EW hw) (fun q => nomatch q) (fun p_ e_ s_ m_ below_ meth_ c_ hs0 C => ?_)
  refine g_aloadN C dI_0 rfl rfl ?_
  refine g_aloadN C dI_1 rfl rfl ?_
  refine g_acmpT 7 C dI_2 rfl rfl (fun q => by cases q) (by decide) (by decide) ?_
  refine g_aloadN C dI_7 rfl rfl ?_
  refine g_instNull C dI_8 ?_
  refine g_ifT 54 C dI_11 (show (0 : Int32) = (0 : Int32) by decide) (by decide) (by decide) ?_
  refine g_iconst (0 : Int32) C dI_54 (by decide) ?_
  exact g_retN C dI_55 (by simp) rfl (by decide) (by decide)
theorem dJ_0 : decode prog_5_method_1_code 0 = .ok (.aload_n 0, 1) := by decide +kernel
theorem dJ_1 : decode prog_5_method_1_code 1 = .ok (.invokespecial 1, 3) := by decide +kernel
theorem dJ_4 : decode prog_5_method_1_code 4 = .ok (.aload_n 0, 1) := by decide +kernel
theorem dJ_5 : decode prog_5_method_1_code 5 = .ok (.aload_n 1, 1) := by decide +kernel
theorem dJ_6 : decode prog_5_method_1_code 6 = .ok (.putfield 7, 3) := by decide +kernel
theorem dJ_9 : decode prog_5_method_1_code 9 = .ok (.aload_n 0, 1) := by decide +kernel
theorem dJ_10 : decode prog_5_method_1_code 10 = .ok (.aload_n 2, 1) := by decide +kernel
theorem dJ_11 : decode prog_5_method_1_code 11 = .ok (.putfield 13, 3) := by decide +kernel
theorem dJ_14 : decode prog_5_method_1_code 14 = .ok (.aload_n 0, 1) := by decide +kernel
theorem dJ_15 : decode prog_5_method_1_code 15 = .ok (.aload_n 3, 1) := by decide +kernel
theorem dJ_16 : decode prog_5_method_1_code 16 = .ok (.putfield 17, 3) := by decide +kernel
theorem dJ_19 : decode prog_5_method_1_code 19 = .ok (.aload_n 0, 1) := by decide +kernel
theorem dJ_20 : decode prog_5_method_1_code 20 = .ok (.iload 4, 2) := by decide +kernel
theorem dJ_22 : decode prog_5_method_1_code 22 = .ok (.putfield 21, 3) := by decide +kernel
theorem dJ_25 : decode prog_5_method_1_code 25 = .ok (.return_, 1) := by decide +kernel
set_option maxRecDepth 65536 in
set_option maxHeartbeats 80000000 in
theorem m_ctor (l : Launch) (Z : State) (a0 : Array Value) {z0 : Int32} (hw : ∀ d ∈ tables_1, d.before a0 Z = true) (S0 : Sta Z Z.heap "java/lang/String" "COMPACT_STRINGS" "Z" (.int z0)) (hz0 : ¬ z0 = 0) {u0 u1 u2 u3 u4 u5 u6 : Addr} (S1 : Sta Z Z.heap "com/example/entidad/entidad/query/Token$Kind" "IDENTIFIER" "Lcom/example/entidad/entidad/query/Token$Kind;" (.ref u0)) (S2 : Sta Z Z.heap "com/example/entidad/entidad/query/Token$Kind" "STRING" "Lcom/example/entidad/entidad/query/Token$Kind;" (.ref u1)) (S3 : Sta Z Z.heap "com/example/entidad/entidad/query/Token$Kind" "NUMBER" "Lcom/example/entidad/entidad/query/Token$Kind;" (.ref u2)) (S4 : Sta Z Z.heap "com/example/entidad/entidad/query/Token$Kind" "NAMED_PARAMETER" "Lcom/example/entidad/entidad/query/Token$Kind;" (.ref u3)) (S5 : Sta Z Z.heap "com/example/entidad/entidad/query/Token$Kind" "POSITIONAL_PARAMETER" "Lcom/example/entidad/entidad/query/Token$Kind;" (.ref u4)) (S6 : Sta Z Z.heap "com/example/entidad/entidad/query/Token$Kind" "SYMBOL" "Lcom/example/entidad/entidad/query/Token$Kind;" (.ref u5)) (S7 : Sta Z Z.heap "com/example/entidad/entidad/query/Token$Kind" "END" "Lcom/example/entidad/entidad/query/Token$Kind;" (.ref u6)) (a k n : Addr) (p : Int32) (h : Heap) (E : Exa Z h a "com/example/entidad/entidad/query/Token") (F1 : Fld Z h a "com/example/entidad/entidad/query/Token" "m_kind" "Lcom/example/entidad/entidad/query/Token$Kind;" .null) (F2 : Fld Z h a "com/example/entidad/entidad/query/Token" "m_text" "Ljava/lang/String;" .null) (F3 : Fld Z h a "com/example/entidad/entidad/query/Token" "m_value" "Ljava/lang/Object;" .null) (F4 : Fld Z h a "com/example/entidad/entidad/query/Token" "m_position" "I" (.int (0 : Int32))) :
    MetW true l Z [("java/lang/String", 7)] (⟨"com/example/entidad/entidad/query/Token", "<init>", "(Lcom/example/entidad/entidad/query/Token$Kind;Ljava/lang/String;Ljava/lang/Object;I)V"⟩ : MethodName) prog_5_method_1_code 5 none [] ({ frames := 1, cells := 0, slots := 0, locals := 12 } : Room) #[(.ref a), (.ref k), (.ref n), .null, (.int p)] [a] h (fun v h' => v = none ∧ Exa Z h' a "com/example/entidad/entidad/query/Token" ∧ Fld Z h' a "com/example/entidad/entidad/query/Token" "m_kind" "Lcom/example/entidad/entidad/query/Token$Kind;" (.ref k) ∧ Fld Z h' a "com/example/entidad/entidad/query/Token" "m_text" "Ljava/lang/String;" (.ref n)) := by
  refine MetW.of (Ls := #[.val (.ref a), .val (.ref k), .val (.ref n), .val .null, .val (.int p)]) (a0 := a0) (by first | (simp [plainName, overriddenIn]; done) | decide +kernel) (fun m => by first | (simp [entryFrame, mkF, argsToLocals, Value.category]; done) | rfl) (own_EW hw) (fun q => nomatch q) (fun p_ e_ s_ m_ below_ meth_ c_ hs0 C => ?_)
  refine g_aloadN C dJ_0 rfl rfl ?_
  refine g_objInit C dJ_1 (hw _ (List.mem_of_getElem? (i := 51) rfl)) (hw _ (List.mem_of_getElem? (i := 35) rfl)) (hw _ (List.mem_of_getElem? (i := 36) rfl)) rfl (by decide) (Nat.le_of_ble_eq_true rfl) ?_
  refine g_aloadN C dJ_4 rfl rfl ?_
  refine g_aloadN C dJ_5 rfl rfl ?_
  refine g_putfield (host := "") C dJ_6 (Or.inl (hw _ (List.mem_of_getElem? (i := 52) rfl))) Via.refl F1 E (Or.inr ⟨(hw _ (List.mem_of_getElem? (i := 53) rfl)), rfl, rfl⟩) (hw _ (List.mem_of_getElem? (i := 46) rfl)) (ty := (.object "com/example/entidad/entidad/query/Token$Kind")) (by decide) rfl rfl (List.mem_of_getElem? (i := 0) rfl) (fun h1 W2 K3 => ?_)
  have f4 := Fld.same W2 F1
  have f5 := Fld.other W2 F2 (Or.inr (slot_ne (Or.inr (hw _ (List.mem_of_getElem? (i := 55) rfl))) (Or.inr (hw _ (List.mem_of_getElem? (i := 53) rfl))) (by decide) (t := (.object "java/lang/String")) (t' := (.object "com/example/entidad/entidad/query/Token$Kind")) (by decide) (by decide)))
  have f6 := Fld.other W2 F3 (Or.inr (slot_ne (Or.inr (hw _ (List.mem_of_getElem? (i := 57) rfl))) (Or.inr (hw _ (List.mem_of_getElem? (i := 53) rfl))) (by decide) (t := (.object "java/lang/Object")) (t' := (.object "com/example/entidad/entidad/query/Token$Kind")) (by decide) (by decide)))
  have f7 := Fld.other W2 F4 (Or.inr (slot_ne (Or.inr (hw _ (List.mem_of_getElem? (i := 59) rfl))) (Or.inr (hw _ (List.mem_of_getElem? (i := 53) rfl))) (by decide) (t := .int) (t' := (.object "com/example/entidad/entidad/query/Token$Kind")) (by decide) (by decide)))
  refine g_aloadN C dJ_9 rfl rfl ?_
  refine g_aloadN C dJ_10 rfl rfl ?_
  have f8 := (E.keep K3)
  refine g_putfield (host := "") C dJ_11 (Or.inl (hw _ (List.mem_of_getElem? (i := 54) rfl))) Via.refl f5 f8 (Or.inr ⟨(hw _ (List.mem_of_getElem? (i := 55) rfl)), rfl, rfl⟩) (hw _ (List.mem_of_getElem? (i := 46) rfl)) (ty := (.object "java/lang/String")) (by decide) rfl rfl (List.mem_of_getElem? (i := 0) rfl) (fun h9 W10 K11 => ?_)
  have f12 := Fld.same W10 f5
  have f13 := Fld.other W10 f4 (Or.inr (slot_ne (Or.inr (hw _ (List.mem_of_getElem? (i := 53) rfl))) (Or.inr (hw _ (List.mem_of_getElem? (i := 55) rfl))) (by decide) (t := (.object "com/example/entidad/entidad/query/Token$Kind")) (t' := (.object "java/lang/String")) (by decide) (by decide)))
  have f14 := Fld.other W10 f6 (Or.inr (slot_ne (Or.inr (hw _ (List.mem_of_getElem? (i := 57) rfl))) (Or.inr (hw _ (List.mem_of_getElem? (i := 55) rfl))) (by decide) (t := (.object "java/lang/Object")) (t' := (.object "java/lang/String")) (by decide) (by decide)))
  have f15 := Fld.other W10 f7 (Or.inr (slot_ne (Or.inr (hw _ (List.mem_of_getElem? (i := 59) rfl))) (Or.inr (hw _ (List.mem_of_getElem? (i := 55) rfl))) (by decide) (t := .int) (t' := (.object "java/lang/String")) (by decide) (by decide)))
  refine g_aloadN C dJ_14 rfl rfl ?_
  refine g_aloadN C dJ_15 rfl rfl ?_
  have f16 := (f8.keep K11)
  refine g_putfield (host := "") C dJ_16 (Or.inl (hw _ (List.mem_of_getElem? (i := 56) rfl))) Via.refl f14 f16 (Or.inr ⟨(hw _ (List.mem_of_getElem? (i := 57) rfl)), rfl, rfl⟩) (hw _ (List.mem_of_getElem? (i := 46) rfl)) (ty := (.object "java/lang/Object")) (by decide) rfl rfl (List.mem_of_getElem? (i := 0) rfl) (fun h17 W18 K19 => ?_)
  have f20 := Fld.same W18 f14
  have f21 := Fld.other W18 f13 (Or.inr (slot_ne (Or.inr (hw _ (List.mem_of_getElem? (i := 53) rfl))) (Or.inr (hw _ (List.mem_of_getElem? (i := 57) rfl))) (by decide) (t := (.object "com/example/entidad/entidad/query/Token$Kind")) (t' := (.object "java/lang/Object")) (by decide) (by decide)))
  have f22 := Fld.other W18 f12 (Or.inr (slot_ne (Or.inr (hw _ (List.mem_of_getElem? (i := 55) rfl))) (Or.inr (hw _ (List.mem_of_getElem? (i := 57) rfl))) (by decide) (t := (.object "java/lang/String")) (t' := (.object "java/lang/Object")) (by decide) (by decide)))
  have f23 := Fld.other W18 f15 (Or.inr (slot_ne (Or.inr (hw _ (List.mem_of_getElem? (i := 59) rfl))) (Or.inr (hw _ (List.mem_of_getElem? (i := 57) rfl))) (by decide) (t := .int) (t' := (.object "java/lang/Object")) (by decide) (by decide)))
  refine g_aloadN C dJ_19 rfl rfl ?_
  refine g_iload C dJ_20 rfl ?_
  have f24 := (f16.keep K19)
  refine g_putfield (host := "") C dJ_22 (Or.inl (hw _ (List.mem_of_getElem? (i := 58) rfl))) Via.refl f23 f24 (Or.inr ⟨(hw _ (List.mem_of_getElem? (i := 59) rfl)), rfl, rfl⟩) (hw _ (List.mem_of_getElem? (i := 46) rfl)) (ty := .int) (by decide) rfl rfl (List.mem_of_getElem? (i := 0) rfl) (fun h25 W26 K27 => ?_)
  have f28 := Fld.same W26 f23
  have f29 := Fld.other W26 f21 (Or.inr (slot_ne (Or.inr (hw _ (List.mem_of_getElem? (i := 53) rfl))) (Or.inr (hw _ (List.mem_of_getElem? (i := 59) rfl))) (by decide) (t := (.object "com/example/entidad/entidad/query/Token$Kind")) (t' := .int) (by decide) (by decide)))
  have f30 := Fld.other W26 f22 (Or.inr (slot_ne (Or.inr (hw _ (List.mem_of_getElem? (i := 55) rfl))) (Or.inr (hw _ (List.mem_of_getElem? (i := 59) rfl))) (by decide) (t := (.object "java/lang/String")) (t' := .int) (by decide) (by decide)))
  have f31 := Fld.other W26 f20 (Or.inr (slot_ne (Or.inr (hw _ (List.mem_of_getElem? (i := 57) rfl))) (Or.inr (hw _ (List.mem_of_getElem? (i := 59) rfl))) (by decide) (t := (.object "java/lang/Object")) (t' := .int) (by decide) (by decide)))
  have f32 := (f24.keep K27)
  exact g_retU C dJ_25 ⟨rfl, f32, f29, f30⟩ (by decide) (by decide)
theorem dK_0 : decode prog_5_method_6_code 0 = .ok (.aload_n 0, 1) := by decide +kernel
theorem dK_1 : decode prog_5_method_6_code 1 = .ok (.getfield 7, 3) := by decide +kernel
theorem dK_4 : decode prog_5_method_6_code 4 = .ok (.getstatic 25, 3) := by decide +kernel
theorem dK_7 : decode prog_5_method_6_code 7 = .ok (.if_acmp .ne 14, 3) := by decide +kernel
theorem dK_10 : decode prog_5_method_6_code 10 = .ok (.aload_n 0, 1) := by decide +kernel
theorem dK_11 : decode prog_5_method_6_code 11 = .ok (.getfield 13, 3) := by decide +kernel
theorem dK_14 : decode prog_5_method_6_code 14 = .ok (.aload_n 1, 1) := by decide +kernel
theorem dK_15 : decode prog_5_method_6_code 15 = .ok (.invokevirtual 30, 3) := by decide +kernel
theorem dK_18 : decode prog_5_method_6_code 18 = .ok (.ifCond .ne 24, 3) := by decide +kernel
theorem dK_21 : decode prog_5_method_6_code 21 = .ok (.aload_n 0, 1) := by decide +kernel
theorem dK_22 : decode prog_5_method_6_code 22 = .ok (.getfield 7, 3) := by decide +kernel
theorem dK_25 : decode prog_5_method_6_code 25 = .ok (.getstatic 36, 3) := by decide +kernel
theorem dK_28 : decode prog_5_method_6_code 28 = .ok (.if_acmp .ne 18, 3) := by decide +kernel
theorem dK_31 : decode prog_5_method_6_code 31 = .ok (.aload_n 0, 1) := by decide +kernel
theorem dK_32 : decode prog_5_method_6_code 32 = .ok (.getfield 13, 3) := by decide +kernel
theorem dK_35 : decode prog_5_method_6_code 35 = .ok (.aload_n 1, 1) := by decide +kernel
theorem dK_36 : decode prog_5_method_6_code 36 = .ok (.invokevirtual 39, 3) := by decide +kernel
theorem dK_39 : decode prog_5_method_6_code 39 = .ok (.ifCond .eq 7, 3) := by decide +kernel
theorem dK_46 : decode prog_5_method_6_code 46 = .ok (.iconst 0, 1) := by decide +kernel
theorem dK_47 : decode prog_5_method_6_code 47 = .ok (.ireturn, 1) := by decide +kernel
set_option maxRecDepth 65536 in
set_option maxHeartbeats 80000000 in
theorem m_isN (l : Launch) (Z : State) (a0 : Array Value) {z0 : Int32} (hw : ∀ d ∈ tables_1, d.before a0 Z = true) (S0 : Sta Z Z.heap "java/lang/String" "COMPACT_STRINGS" "Z" (.int z0)) (hz0 : ¬ z0 = 0) {u0 u1 u2 u3 u4 u5 u6 : Addr} (S1 : Sta Z Z.heap "com/example/entidad/entidad/query/Token$Kind" "IDENTIFIER" "Lcom/example/entidad/entidad/query/Token$Kind;" (.ref u0)) (S2 : Sta Z Z.heap "com/example/entidad/entidad/query/Token$Kind" "STRING" "Lcom/example/entidad/entidad/query/Token$Kind;" (.ref u1)) (S3 : Sta Z Z.heap "com/example/entidad/entidad/query/Token$Kind" "NUMBER" "Lcom/example/entidad/entidad/query/Token$Kind;" (.ref u2)) (S4 : Sta Z Z.heap "com/example/entidad/entidad/query/Token$Kind" "NAMED_PARAMETER" "Lcom/example/entidad/entidad/query/Token$Kind;" (.ref u3)) (S5 : Sta Z Z.heap "com/example/entidad/entidad/query/Token$Kind" "POSITIONAL_PARAMETER" "Lcom/example/entidad/entidad/query/Token$Kind;" (.ref u4)) (S6 : Sta Z Z.heap "com/example/entidad/entidad/query/Token$Kind" "SYMBOL" "Lcom/example/entidad/entidad/query/Token$Kind;" (.ref u5)) (S7 : Sta Z Z.heap "com/example/entidad/entidad/query/Token$Kind" "END" "Lcom/example/entidad/entidad/query/Token$Kind;" (.ref u6)) (a k s : Addr) (h : Heap) (F1 : Fld Z h a "com/example/entidad/entidad/query/Token" "m_kind" "Lcom/example/entidad/entidad/query/Token$Kind;" (.ref k)) (F2 : Fld Z h a "com/example/entidad/entidad/query/Token" "m_text" "Ljava/lang/String;" (.ref s)) (Es : Exa Z h s "java/lang/String") :
    MetW true l Z [("java/lang/String", 7)] (⟨"com/example/entidad/entidad/query/Token", "is", "(Ljava/lang/String;)Z"⟩ : MethodName) prog_5_method_6_code 2 (Option.some Jvm.ClassFile.FieldType.boolean) [] ({ frames := 1, cells := 0, slots := 0, locals := 14 } : Room) #[(.ref a), .null] [] h (fun v h' => v = some (.int (0 : Int32))) := by
  refine MetW.of (Ls := #[.val (.ref a), .val .null]) (a0 := a0) (by first | (simp [plainName, overriddenIn]; done) | decide +kernel) (fun m => by first | (simp [entryFrame, mkF, argsToLocals, Value.category]; done) | rfl) (own_EW hw) (fun q => nomatch q) (fun p_ e_ s_ m_ below_ meth_ c_ hs0 C => ?_)
  refine g_aloadN C dK_0 rfl rfl ?_
  refine g_getfield (host := "") C dK_1 (Or.inl (hw _ (List.mem_of_getElem? (i := 52) rfl))) Via.refl F1 ?_
  refine g_getstatic (host := "") C dK_4 (Or.inl (hw _ (List.mem_of_getElem? (i := 65) rfl))) Via.refl S1 ?_
  by_cases cc1 : k = u0
  · skip
    refine g_acmpF C dK_7 rfl rfl (congrArg Value.ref cc1) ?_
    refine g_aloadN C dK_10 rfl rfl ?_
    refine g_getfield (host := "") C dK_11 (Or.inl (hw _ (List.mem_of_getElem? (i := 54) rfl))) Via.refl F2 ?_
    refine g_aloadN C dK_14 rfl rfl ?_
    refine g_invokevirtual [.null] [] 0 C dK_15 (hw _ (List.mem_of_getElem? (i := 66) rfl)) (hw _ (List.mem_of_getElem? (i := 67) rfl)) (hw _ (List.mem_of_getElem? (i := 69) rfl)) (hw _ (List.mem_of_getElem? (i := 68) rfl)) (hw _ (List.mem_of_getElem? (i := 25) rfl)) (hw _ (List.mem_of_getElem? (i := 70) rfl)) (fun _ hZ => notFace_of_selects (args := #[]) (mvT hZ (hw _ (List.mem_of_getElem? (i := 69) rfl)))) (by decide) Es (m_icN l Z a0 hw S0 hz0 S1 S2 S3 S4 S5 S6 S7 _ _) (lenOf pd7 rfl) rfl rfl (Nat.le_of_ble_eq_true rfl) (by decide) (by decide) (by decide) (by decide) all0 (fun v2 h3 L4 q5 K6 => ?_)
    obtain rfl := q5
    show Go _ _ _ _ _ _ _ _ _ _ _ _ _ _ _ _ _ _ _ _ _ _ (mkF _ 18 #[.val (.ref a), .val .null] [(.int (0 : Int32))])
    refine g_ifF C dK_18 (show (0 : Int32) = (0 : Int32) by decide) ?_
    refine g_aloadN C dK_21 rfl rfl ?_
    have f7 := (F1.keep K6 nin0)
    refine g_getfield (host := "") C dK_22 (Or.inl (hw _ (List.mem_of_getElem? (i := 52) rfl))) Via.refl f7 ?_
    refine g_getstatic (host := "") C dK_25 (Or.inl (hw _ (List.mem_of_getElem? (i := 101) rfl))) Via.refl S6 ?_
    by_cases cc8 : k = u5
    · skip
      refine g_acmpF C dK_28 rfl rfl (congrArg Value.ref cc8) ?_
      refine g_aloadN C dK_31 rfl rfl ?_
      have f9 := (F2.keep K6 nin0)
      refine g_getfield (host := "") C dK_32 (Or.inl (hw _ (List.mem_of_getElem? (i := 54) rfl))) Via.refl f9 ?_
      refine g_aloadN C dK_35 rfl rfl ?_
      have f15 := (Es.keep K6)
      refine g_invokevirtual [.null] [] 0 C dK_36 (hw _ (List.mem_of_getElem? (i := 102) rfl)) (hw _ (List.mem_of_getElem? (i := 103) rfl)) (hw _ (List.mem_of_getElem? (i := 105) rfl)) (hw _ (List.mem_of_getElem? (i := 104) rfl)) (hw _ (List.mem_of_getElem? (i := 25) rfl)) (hw _ (List.mem_of_getElem? (i := 106) rfl)) (fun _ hZ => notFace_of_selects (args := #[]) (mvT hZ (hw _ (List.mem_of_getElem? (i := 105) rfl)))) (by decide) f15 (m_seqN l Z a0 hw S0 hz0 S1 S2 S3 S4 S5 S6 S7 _ _) (lenOf pd8 rfl) rfl rfl (Nat.le_of_ble_eq_true rfl) (by decide) (by decide) (by decide) (by decide) all0 (fun v10 h11 L12 q13 K14 => ?_)
      obtain rfl := q13
      show Go _ _ _ _ _ _ _ _ _ _ _ _ _ _ _ _ _ _ _ _ _ _ (mkF _ 39 #[.val (.ref a), .val .null] [(.int (0 : Int32))])
      refine g_ifT 46 C dK_39 (show (0 : Int32) = (0 : Int32) by decide) (by decide) (by decide) ?_
      refine g_iconst (0 : Int32) C dK_46 (by decide) ?_
      exact g_retN C dK_47 (by simp) rfl (by decide) (by decide)
    · skip
      refine g_acmpT 46 C dK_28 rfl rfl (fun q => cc8 (by cases q; rfl)) (by decide) (by decide) ?_
      refine g_iconst (0 : Int32) C dK_46 (by decide) ?_
      exact g_retN C dK_47 (by simp) rfl (by decide) (by decide)
  · skip
    refine g_acmpT 21 C dK_7 rfl rfl (fun q => cc1 (by cases q; rfl)) (by decide) (by decide) ?_
    refine g_aloadN C dK_21 rfl rfl ?_
    refine g_getfield (host := "") C dK_22 (Or.inl (hw _ (List.mem_of_getElem? (i := 52) rfl))) Via.refl F1 ?_
    refine g_getstatic (host := "") C dK_25 (Or.inl (hw _ (List.mem_of_getElem? (i := 101) rfl))) Via.refl S6 ?_
    by_cases cc16 : k = u5
    · skip
      refine g_acmpF C dK_28 rfl rfl (congrArg Value.ref cc16) ?_
      refine g_aloadN C dK_31 rfl rfl ?_
      refine g_getfield (host := "") C dK_32 (Or.inl (hw _ (List.mem_of_getElem? (i := 54) rfl))) Via.refl F2 ?_
      refine g_aloadN C dK_35 rfl rfl ?_
      refine g_invokevirtual [.null] [] 0 C dK_36 (hw _ (List.mem_of_getElem? (i := 102) rfl)) (hw _ (List.mem_of_getElem? (i := 103) rfl)) (hw _ (List.mem_of_getElem? (i := 105) rfl)) (hw _ (List.mem_of_getElem? (i := 104) rfl)) (hw _ (List.mem_of_getElem? (i := 25) rfl)) (hw _ (List.mem_of_getElem? (i := 106) rfl)) (fun _ hZ => notFace_of_selects (args := #[]) (mvT hZ (hw _ (List.mem_of_getElem? (i := 105) rfl)))) (by decide) Es (m_seqN l Z a0 hw S0 hz0 S1 S2 S3 S4 S5 S6 S7 _ _) (lenOf pd8 rfl) rfl rfl (Nat.le_of_ble_eq_true rfl) (by decide) (by decide) (by decide) (by decide) all0 (fun v17 h18 L19 q20 K21 => ?_)
      obtain rfl := q20
      show Go _ _ _ _ _ _ _ _ _ _ _ _ _ _ _ _ _ _ _ _ _ _ (mkF _ 39 #[.val (.ref a), .val .null] [(.int (0 : Int32))])
      refine g_ifT 46 C dK_39 (show (0 : Int32) = (0 : Int32) by decide) (by decide) (by decide) ?_
      refine g_iconst (0 : Int32) C dK_46 (by decide) ?_
      exact g_retN C dK_47 (by simp) rfl (by decide) (by decide)
    · skip
      refine g_acmpT 46 C dK_28 rfl rfl (fun q => cc16 (by cases q; rfl)) (by decide) (by decide) ?_
      refine g_iconst (0 : Int32) C dK_46 (by decide) ?_
      exact g_retN C dK_47 (by simp) rfl (by decide) (by decide)
theorem dK_42 : decode prog_5_method_6_code 42 = .ok (.iconst 1, 1) := by decide +kernel
theorem dK_43 : decode prog_5_method_6_code 43 = .ok (.goto 4, 3) := by decide +kernel
set_option maxRecDepth 65536 in
set_option maxHeartbeats 80000000 in
theorem m_is (l : Launch) (Z : State) (a0 : Array Value) {z0 : Int32} (hw : ∀ d ∈ tables_1, d.before a0 Z = true) (S0 : Sta Z Z.heap "java/lang/String" "COMPACT_STRINGS" "Z" (.int z0)) (hz0 : ¬ z0 = 0) {u0 u1 u2 u3 u4 u5 u6 : Addr} (S1 : Sta Z Z.heap "com/example/entidad/entidad/query/Token$Kind" "IDENTIFIER" "Lcom/example/entidad/entidad/query/Token$Kind;" (.ref u0)) (S2 : Sta Z Z.heap "com/example/entidad/entidad/query/Token$Kind" "STRING" "Lcom/example/entidad/entidad/query/Token$Kind;" (.ref u1)) (S3 : Sta Z Z.heap "com/example/entidad/entidad/query/Token$Kind" "NUMBER" "Lcom/example/entidad/entidad/query/Token$Kind;" (.ref u2)) (S4 : Sta Z Z.heap "com/example/entidad/entidad/query/Token$Kind" "NAMED_PARAMETER" "Lcom/example/entidad/entidad/query/Token$Kind;" (.ref u3)) (S5 : Sta Z Z.heap "com/example/entidad/entidad/query/Token$Kind" "POSITIONAL_PARAMETER" "Lcom/example/entidad/entidad/query/Token$Kind;" (.ref u4)) (S6 : Sta Z Z.heap "com/example/entidad/entidad/query/Token$Kind" "SYMBOL" "Lcom/example/entidad/entidad/query/Token$Kind;" (.ref u5)) (S7 : Sta Z Z.heap "com/example/entidad/entidad/query/Token$Kind" "END" "Lcom/example/entidad/entidad/query/Token$Kind;" (.ref u6)) (a k s : Addr) (u t1 t2 : Addr) (n m c0 c1 d0 d1 : Int32) (h1 : n = 0 ∨ n = 1 ∨ n = 2) (h2 : m = 0 ∨ m = 1 ∨ m = 2) (b_c0 : ¬ c0 < 0 ∧ ¬ (255 : Int32) < c0) (b_c1 : ¬ c1 < 0 ∧ ¬ (255 : Int32) < c1) (b_d0 : ¬ d0 < 0 ∧ ¬ (255 : Int32) < d0) (b_d1 : ¬ d1 < 0 ∧ ¬ (255 : Int32) < d1) (h : Heap) (F1 : Fld Z h a "com/example/entidad/entidad/query/Token" "m_kind" "Lcom/example/entidad/entidad/query/Token$Kind;" (.ref k)) (F2 : Fld Z h a "com/example/entidad/entidad/query/Token" "m_text" "Ljava/lang/String;" (.ref s)) (ne : s ≠ u) (G1 : Str Z h s t1 (mkL n c0 c1)) (G2 : Str Z h u t2 (mkL m d0 d1)) :
    MetW true l Z [("java/lang/String", 7)] (⟨"com/example/entidad/entidad/query/Token", "is", "(Ljava/lang/String;)Z"⟩ : MethodName) prog_5_method_6_code 2 (Option.some Jvm.ClassFile.FieldType.boolean) [] ({ frames := 4, cells := 0, slots := 0, locals := 67 } : Room) #[(.ref a), (.ref u)] [] h (fun v h' => v = some (.int (if ((k = u0 ∧ (mkL n c0 c1).map foldI = (mkL m d0 d1).map foldI) ∨ (k = u5 ∧ mkL n c0 c1 = mkL m d0 d1)) then 1 else 0))) := by
  refine MetW.of (Ls := #[.val (.ref a), .val (.ref u)]) (a0 := a0) (by first | (simp [plainName, overriddenIn]; done) | decide +kernel) (fun m => by first | (simp [entryFrame, mkF, argsToLocals, Value.category]; done) | rfl) (own_EW hw) (fun q => nomatch q) (fun p_ e_ s_ m_ below_ meth_ c_ hs0 C => ?_)
  refine g_aloadN C dK_0 rfl rfl ?_
  refine g_getfield (host := "") C dK_1 (Or.inl (hw _ (List.mem_of_getElem? (i := 52) rfl))) Via.refl F1 ?_
  refine g_getstatic (host := "") C dK_4 (Or.inl (hw _ (List.mem_of_getElem? (i := 65) rfl))) Via.refl S1 ?_
  by_cases cc1 : k = u0
  · skip
    refine g_acmpF C dK_7 rfl rfl (congrArg Value.ref cc1) ?_
    refine g_aloadN C dK_10 rfl rfl ?_
    refine g_getfield (host := "") C dK_11 (Or.inl (hw _ (List.mem_of_getElem? (i := 54) rfl))) Via.refl F2 ?_
    refine g_aloadN C dK_14 rfl rfl ?_
    refine g_invokevirtual [(.ref u)] [] 0 C dK_15 (hw _ (List.mem_of_getElem? (i := 66) rfl)) (hw _ (List.mem_of_getElem? (i := 67) rfl)) (hw _ (List.mem_of_getElem? (i := 69) rfl)) (hw _ (List.mem_of_getElem? (i := 68) rfl)) (hw _ (List.mem_of_getElem? (i := 25) rfl)) (hw _ (List.mem_of_getElem? (i := 70) rfl)) (fun _ hZ => notFace_of_selects (args := #[]) (mvT hZ (hw _ (List.mem_of_getElem? (i := 69) rfl)))) (by decide) G1.1 (m_ic l Z a0 hw S0 hz0 S1 S2 S3 S4 S5 S6 S7 _ _ _ _ _ _ h1 h2 b_c0 b_c1 b_d0 b_d1 _ _ _ _ _ ne G1 G2) (lenOf pd7 rfl) rfl rfl (Nat.le_of_ble_eq_true rfl) (by decide) (by decide) (by decide) (by decide) all0 (fun v3 h4 L5 q6 K7 => ?_)
    obtain rfl := q6
    by_cases cc2 : (mkL n c0 c1).map foldI = (mkL m d0 d1).map foldI
    · rw [if_pos cc2]
      show Go _ _ _ _ _ _ _ _ _ _ _ _ _ _ _ _ _ _ _ _ _ _ (mkF _ 18 #[.val (.ref a), .val (.ref u)] [(.int (1 : Int32))])
      refine g_ifT 42 C dK_18 (show ¬ (1 : Int32) = (0 : Int32) by decide) (by decide) (by decide) ?_
      refine g_iconst (1 : Int32) C dK_42 (by decide) ?_
      refine g_goto 47 C dK_43 (by decide) (by decide) ?_
      have hq : (if ((k = u0 ∧ (mkL n c0 c1).map foldI = (mkL m d0 d1).map foldI) ∨ (k = u5 ∧ mkL n c0 c1 = mkL m d0 d1)) then (1 : Int32) else 0) = (1 : Int32) := by simp only [eq_true cc1, eq_true cc2]; simp
      exact g_retN C dK_47 (by simp) (by rw [hq]; rfl) (by decide) (by decide)
    · rw [if_neg cc2]
      show Go _ _ _ _ _ _ _ _ _ _ _ _ _ _ _ _ _ _ _ _ _ _ (mkF _ 18 #[.val (.ref a), .val (.ref u)] [(.int (0 : Int32))])
      refine g_ifF C dK_18 (show (0 : Int32) = (0 : Int32) by decide) ?_
      refine g_aloadN C dK_21 rfl rfl ?_
      have f8 := (F1.keep K7 nin0)
      refine g_getfield (host := "") C dK_22 (Or.inl (hw _ (List.mem_of_getElem? (i := 52) rfl))) Via.refl f8 ?_
      refine g_getstatic (host := "") C dK_25 (Or.inl (hw _ (List.mem_of_getElem? (i := 101) rfl))) Via.refl S6 ?_
      by_cases cc9 : k = u5
      · skip
        refine g_acmpF C dK_28 rfl rfl (congrArg Value.ref cc9) ?_
        refine g_aloadN C dK_31 rfl rfl ?_
        have f10 := (F2.keep K7 nin0)
        refine g_getfield (host := "") C dK_32 (Or.inl (hw _ (List.mem_of_getElem? (i := 54) rfl))) Via.refl f10 ?_
        refine g_aloadN C dK_35 rfl rfl ?_
        have f12 := (G1.keep K7 nin0 nin0)
        have f13 := (G2.keep K7 nin0 nin0)
        refine g_strEq (cs := (mkL n c0 c1)) (ds := (mkL m d0 d1)) [] 0 C dK_36 (own_hwe hw) (hw _ (List.mem_of_getElem? (i := 24) rfl)) (hw _ (List.mem_of_getElem? (i := 102) rfl)) (hw _ (List.mem_of_getElem? (i := 103) rfl)) (hw _ (List.mem_of_getElem? (i := 105) rfl)) (hw _ (List.mem_of_getElem? (i := 104) rfl)) f12 f13 S0 hz0 (mkL_len _ _ _) (mkL_len _ _ _) (mkL_bd b_c0 b_c1) (mkL_bd b_d0 b_d1) rfl (Nat.le_of_ble_eq_true rfl) (by decide) (by decide) (by decide) (by decide) (fun q11 => ?_) (fun q11 => ?_)
        · skip
          show Go _ _ _ _ _ _ _ _ _ _ _ _ _ _ _ _ _ _ _ _ _ _ (mkF _ 39 #[.val (.ref a), .val (.ref u)] [(.int (1 : Int32))])
          refine g_ifF C dK_39 (show ¬ (1 : Int32) = (0 : Int32) by decide) ?_
          refine g_iconst (1 : Int32) C dK_42 (by decide) ?_
          refine g_goto 47 C dK_43 (by decide) (by decide) ?_
          have hq : (if ((k = u0 ∧ (mkL n c0 c1).map foldI = (mkL m d0 d1).map foldI) ∨ (k = u5 ∧ mkL n c0 c1 = mkL m d0 d1)) then (1 : Int32) else 0) = (1 : Int32) := by simp only [eq_true cc1, eq_false cc2, eq_true cc9, eq_true q11]; simp
          exact g_retN C dK_47 (by simp) (by rw [hq]; rfl) (by decide) (by decide)
        · skip
          show Go _ _ _ _ _ _ _ _ _ _ _ _ _ _ _ _ _ _ _ _ _ _ (mkF _ 39 #[.val (.ref a), .val (.ref u)] [(.int (0 : Int32))])
          refine g_ifT 46 C dK_39 (show (0 : Int32) = (0 : Int32) by decide) (by decide) (by decide) ?_
          refine g_iconst (0 : Int32) C dK_46 (by decide) ?_
          have hq : (if ((k = u0 ∧ (mkL n c0 c1).map foldI = (mkL m d0 d1).map foldI) ∨ (k = u5 ∧ mkL n c0 c1 = mkL m d0 d1)) then (1 : Int32) else 0) = (0 : Int32) := by simp only [eq_true cc1, eq_false cc2, eq_true cc9, eq_false q11]; simp
          exact g_retN C dK_47 (by simp) (by rw [hq]; rfl) (by decide) (by decide)
      · skip
        refine g_acmpT 46 C dK_28 rfl rfl (fun q => cc9 (by cases q; rfl)) (by decide) (by decide) ?_
        refine g_iconst (0 : Int32) C dK_46 (by decide) ?_
        have hq : (if ((k = u0 ∧ (mkL n c0 c1).map foldI = (mkL m d0 d1).map foldI) ∨ (k = u5 ∧ mkL n c0 c1 = mkL m d0 d1)) then (1 : Int32) else 0) = (0 : Int32) := by simp only [eq_true cc1, eq_false cc2, eq_false cc9]; simp
        exact g_retN C dK_47 (by simp) (by rw [hq]; rfl) (by decide) (by decide)
  · skip
    refine g_acmpT 21 C dK_7 rfl rfl (fun q => cc1 (by cases q; rfl)) (by decide) (by decide) ?_
    refine g_aloadN C dK_21 rfl rfl ?_
    refine g_getfield (host := "") C dK_22 (Or.inl (hw _ (List.mem_of_getElem? (i := 52) rfl))) Via.refl F1 ?_
    refine g_getstatic (host := "") C dK_25 (Or.inl (hw _ (List.mem_of_getElem? (i := 101) rfl))) Via.refl S6 ?_
    by_cases cc14 : k = u5
    · skip
      refine g_acmpF C dK_28 rfl rfl (congrArg Value.ref cc14) ?_
      refine g_aloadN C dK_31 rfl rfl ?_
      refine g_getfield (host := "") C dK_32 (Or.inl (hw _ (List.mem_of_getElem? (i := 54) rfl))) Via.refl F2 ?_
      refine g_aloadN C dK_35 rfl rfl ?_
      refine g_strEq (cs := (mkL n c0 c1)) (ds := (mkL m d0 d1)) [] 0 C dK_36 (own_hwe hw) (hw _ (List.mem_of_getElem? (i := 24) rfl)) (hw _ (List.mem_of_getElem? (i := 102) rfl)) (hw _ (List.mem_of_getElem? (i := 103) rfl)) (hw _ (List.mem_of_getElem? (i := 105) rfl)) (hw _ (List.mem_of_getElem? (i := 104) rfl)) G1 G2 S0 hz0 (mkL_len _ _ _) (mkL_len _ _ _) (mkL_bd b_c0 b_c1) (mkL_bd b_d0 b_d1) rfl (Nat.le_of_ble_eq_true rfl) (by decide) (by decide) (by decide) (by decide) (fun q15 => ?_) (fun q15 => ?_)
      · skip
        show Go _ _ _ _ _ _ _ _ _ _ _ _ _ _ _ _ _ _ _ _ _ _ (mkF _ 39 #[.val (.ref a), .val (.ref u)] [(.int (1 : Int32))])
        refine g_ifF C dK_39 (show ¬ (1 : Int32) = (0 : Int32) by decide) ?_
        refine g_iconst (1 : Int32) C dK_42 (by decide) ?_
        refine g_goto 47 C dK_43 (by decide) (by decide) ?_
        have hq : (if ((k = u0 ∧ (mkL n c0 c1).map foldI = (mkL m d0 d1).map foldI) ∨ (k = u5 ∧ mkL n c0 c1 = mkL m d0 d1)) then (1 : Int32) else 0) = (1 : Int32) := by simp only [eq_false cc1, eq_true cc14, eq_true q15]; simp
        exact g_retN C dK_47 (by simp) (by rw [hq]; rfl) (by decide) (by decide)
      · skip
        show Go _ _ _ _ _ _ _ _ _ _ _ _ _ _ _ _ _ _ _ _ _ _ (mkF _ 39 #[.val (.ref a), .val (.ref u)] [(.int (0 : Int32))])
        refine g_ifT 46 C dK_39 (show (0 : Int32) = (0 : Int32) by decide) (by decide) (by decide) ?_
        refine g_iconst (0 : Int32) C dK_46 (by decide) ?_
        have hq : (if ((k = u0 ∧ (mkL n c0 c1).map foldI = (mkL m d0 d1).map foldI) ∨ (k = u5 ∧ mkL n c0 c1 = mkL m d0 d1)) then (1 : Int32) else 0) = (0 : Int32) := by simp only [eq_false cc1, eq_true cc14, eq_false q15]; simp
        exact g_retN C dK_47 (by simp) (by rw [hq]; rfl) (by decide) (by decide)
    · skip
      refine g_acmpT 46 C dK_28 rfl rfl (fun q => cc14 (by cases q; rfl)) (by decide) (by decide) ?_
      refine g_iconst (0 : Int32) C dK_46 (by decide) ?_
      have hq : (if ((k = u0 ∧ (mkL n c0 c1).map foldI = (mkL m d0 d1).map foldI) ∨ (k = u5 ∧ mkL n c0 c1 = mkL m d0 d1)) then (1 : Int32) else 0) = (0 : Int32) := by simp only [eq_false cc1, eq_false cc14]; simp
      exact g_retN C dK_47 (by simp) (by rw [hq]; rfl) (by decide) (by decide)
set_option maxRecDepth 65536 in
set_option maxHeartbeats 80000000 in
theorem m_law (l : Launch) (Z : State) (a0 : Array Value) {z0 : Int32} (hw : ∀ d ∈ tables_1, d.before a0 Z = true) (S0 : Sta Z Z.heap "java/lang/String" "COMPACT_STRINGS" "Z" (.int z0)) (hz0 : ¬ z0 = 0) {u0 u1 u2 u3 u4 u5 u6 : Addr} (S1 : Sta Z Z.heap "com/example/entidad/entidad/query/Token$Kind" "IDENTIFIER" "Lcom/example/entidad/entidad/query/Token$Kind;" (.ref u0)) (S2 : Sta Z Z.heap "com/example/entidad/entidad/query/Token$Kind" "STRING" "Lcom/example/entidad/entidad/query/Token$Kind;" (.ref u1)) (S3 : Sta Z Z.heap "com/example/entidad/entidad/query/Token$Kind" "NUMBER" "Lcom/example/entidad/entidad/query/Token$Kind;" (.ref u2)) (S4 : Sta Z Z.heap "com/example/entidad/entidad/query/Token$Kind" "NAMED_PARAMETER" "Lcom/example/entidad/entidad/query/Token$Kind;" (.ref u3)) (S5 : Sta Z Z.heap "com/example/entidad/entidad/query/Token$Kind" "POSITIONAL_PARAMETER" "Lcom/example/entidad/entidad/query/Token$Kind;" (.ref u4)) (S6 : Sta Z Z.heap "com/example/entidad/entidad/query/Token$Kind" "SYMBOL" "Lcom/example/entidad/entidad/query/Token$Kind;" (.ref u5)) (S7 : Sta Z Z.heap "com/example/entidad/entidad/query/Token$Kind" "END" "Lcom/example/entidad/entidad/query/Token$Kind;" (.ref u6)) (N01 : u0 ≠ u1) (N02 : u0 ≠ u2) (N03 : u0 ≠ u3) (N04 : u0 ≠ u4) (N05 : u0 ≠ u5) (N06 : u0 ≠ u6) (N12 : u1 ≠ u2) (N13 : u1 ≠ u3) (N14 : u1 ≠ u4) (N15 : u1 ≠ u5) (N16 : u1 ≠ u6) (N23 : u2 ≠ u3) (N24 : u2 ≠ u4) (N25 : u2 ≠ u5) (N26 : u2 ≠ u6) (N34 : u3 ≠ u4) (N35 : u3 ≠ u5) (N36 : u3 ≠ u6) (N45 : u4 ≠ u5) (N46 : u4 ≠ u6) (N56 : u5 ≠ u6) (p0 : Int32) (p1 : Int32) (p2 : Int32) (p3 : Int32) (p4 : Int32) (h : Heap) (X0 : Exa Z h u0 "com/example/entidad/entidad/query/Token$Kind") (X1 : Exa Z h u1 "com/example/entidad/entidad/query/Token$Kind") (X2 : Exa Z h u2 "com/example/entidad/entidad/query/Token$Kind") (X3 : Exa Z h u3 "com/example/entidad/entidad/query/Token$Kind") (X4 : Exa Z h u4 "com/example/entidad/entidad/query/Token$Kind") (X5 : Exa Z h u5 "com/example/entidad/entidad/query/Token$Kind") (X6 : Exa Z h u6 "com/example/entidad/entidad/query/Token$Kind") :
    MetW true l Z [("java/lang/String", 7)] x code maxLocals ret tables_1 room_1 #[.int p0, .int p1, .int p2, .int p3, .int p4] [] h (fun v _ => v = some (.int (1 : Int32))) := by
  refine MetW.of (y := x) (Ls := #[.val (.int p0), .val (.int p1), .val (.int p2), .val (.int p3), .val (.int p4), .unset, .unset, .unset, .unset, .unset, .unset, .unset, .unset, .unset, .unset, .unset, .unset, .unset, .unset, .unset]) (a0 := a0) (by first | (simp [x, plainName, overriddenIn]; done) | decide +kernel) (fun m => by first | (simp [entryFrame, mkF, argsToLocals, Value.category, maxLocals]; done) | rfl) (own_EW hw) (fun q => nomatch q) (fun p_ e_ s_ m_ below_ meth_ c_ hs0 C => ?_)
  refine g_bipush (7 : Int32) C at_0 (by decide) ?_
  refine g_anewarray_ (ad := "[Lcom/example/entidad/entidad/query/Token$Kind;") 7 [.null, .null, .null, .null, .null, .null, .null] C at_2 (hw _ (List.mem_of_getElem? (i := 0) rfl)) (hw _ (List.mem_of_getElem? (i := 1) rfl)) (by decide) (by decide) (by decide) (by decide) (by decide) (by decide) (by decide) (fun a1 h2 e3 E4 l5 f6 f7 f8 => ?_)
  have K9 := keep_ext E4
  have f8 : OvA Z h2 a1 "com/example/entidad/entidad/query/Token$Kind" := f8
  refine g_dup C at_5 rfl ?_
  refine g_iconst (0 : Int32) C at_6 (by decide) ?_
  refine g_getstatic (host := "") C at_7 (Or.inl (hw _ (List.mem_of_getElem? (i := 2) rfl))) Via.refl S1 ?_
  have f14 := (X0.keep K9)
  refine g_aastore 0 C at_10 f7 rfl rfl (Sto.ofAv f7 f8 (Ins.self f14)) (by decide) (by decide) (Nat.le_of_ble_eq_true rfl) (List.mem_of_getElem? (i := 0) rfl) (fun h10 K11 z12 f13 => ?_)
  have f15 : Av Z h10 a1 (.object "com/example/entidad/entidad/query/Token$Kind") [(.ref u0), .null, .null, .null, .null, .null, .null] := f13
  refine g_dup C at_11 rfl ?_
  refine g_iconst (1 : Int32) C at_12 (by decide) ?_
  refine g_getstatic (host := "") C at_13 (Or.inl (hw _ (List.mem_of_getElem? (i := 6) rfl))) Via.refl S2 ?_
  have f20 := (f8.keep K11)
  have f21 := ((X1.keep K9).keep K11)
  refine g_aastore 1 C at_16 f15 rfl rfl (Sto.ofAv f15 f20 (Ins.self f21)) (by decide) (by decide) (Nat.le_of_ble_eq_true rfl) (List.mem_of_getElem? (i := 0) rfl) (fun h16 K17 z18 f19 => ?_)
  have f22 : Av Z h16 a1 (.object "com/example/entidad/entidad/query/Token$Kind") [(.ref u0), (.ref u1), .null, .null, .null, .null, .null] := f19
  refine g_dup C at_17 rfl ?_
  refine g_iconst (2 : Int32) C at_18 (by decide) ?_
  refine g_getstatic (host := "") C at_19 (Or.inl (hw _ (List.mem_of_getElem? (i := 8) rfl))) Via.refl S3 ?_
  have f27 := (f20.keep K17)
  have f28 := (((X2.keep K9).keep K11).keep K17)
  refine g_aastore 2 C at_22 f22 rfl rfl (Sto.ofAv f22 f27 (Ins.self f28)) (by decide) (by decide) (Nat.le_of_ble_eq_true rfl) (List.mem_of_getElem? (i := 0) rfl) (fun h23 K24 z25 f26 => ?_)
  have f29 : Av Z h23 a1 (.object "com/example/entidad/entidad/query/Token$Kind") [(.ref u0), (.ref u1), (.ref u2), .null, .null, .null, .null] := f26
  refine g_dup C at_23 rfl ?_
  refine g_iconst (3 : Int32) C at_24 (by decide) ?_
  refine g_getstatic (host := "") C at_25 (Or.inl (hw _ (List.mem_of_getElem? (i := 10) rfl))) Via.refl S4 ?_
  have f34 := (f27.keep K24)
  have f35 := ((((X3.keep K9).keep K11).keep K17).keep K24)
  refine g_aastore 3 C at_28 f29 rfl rfl (Sto.ofAv f29 f34 (Ins.self f35)) (by decide) (by decide) (Nat.le_of_ble_eq_true rfl) (List.mem_of_getElem? (i := 0) rfl) (fun h30 K31 z32 f33 => ?_)
  have f36 : Av Z h30 a1 (.object "com/example/entidad/entidad/query/Token$Kind") [(.ref u0), (.ref u1), (.ref u2), (.ref u3), .null, .null, .null] := f33
  refine g_dup C at_29 rfl ?_
  refine g_iconst (4 : Int32) C at_30 (by decide) ?_
  refine g_getstatic (host := "") C at_31 (Or.inl (hw _ (List.mem_of_getElem? (i := 12) rfl))) Via.refl S5 ?_
  have f41 := (f34.keep K31)
  have f42 := (((((X4.keep K9).keep K11).keep K17).keep K24).keep K31)
  refine g_aastore 4 C at_34 f36 rfl rfl (Sto.ofAv f36 f41 (Ins.self f42)) (by decide) (by decide) (Nat.le_of_ble_eq_true rfl) (List.mem_of_getElem? (i := 0) rfl) (fun h37 K38 z39 f40 => ?_)
  have f43 : Av Z h37 a1 (.object "com/example/entidad/entidad/query/Token$Kind") [(.ref u0), (.ref u1), (.ref u2), (.ref u3), (.ref u4), .null, .null] := f40
  refine g_dup C at_35 rfl ?_
  refine g_iconst (5 : Int32) C at_36 (by decide) ?_
  refine g_getstatic (host := "") C at_37 (Or.inl (hw _ (List.mem_of_getElem? (i := 14) rfl))) Via.refl S6 ?_
  have f48 := (f41.keep K38)
  have f49 := ((((((X5.keep K9).keep K11).keep K17).keep K24).keep K31).keep K38)
  refine g_aastore 5 C at_40 f43 rfl rfl (Sto.ofAv f43 f48 (Ins.self f49)) (by decide) (by decide) (Nat.le_of_ble_eq_true rfl) (List.mem_of_getElem? (i := 0) rfl) (fun h44 K45 z46 f47 => ?_)
  have f50 : Av Z h44 a1 (.object "com/example/entidad/entidad/query/Token$Kind") [(.ref u0), (.ref u1), (.ref u2), (.ref u3), (.ref u4), (.ref u5), .null] := f47
  refine g_dup C at_41 rfl ?_
  refine g_bipush (6 : Int32) C at_42 (by decide) ?_
  refine g_getstatic (host := "") C at_44 (Or.inl (hw _ (List.mem_of_getElem? (i := 16) rfl))) Via.refl S7 ?_
  have f55 := (f48.keep K45)
  have f56 := (((((((X6.keep K9).keep K11).keep K17).keep K24).keep K31).keep K38).keep K45)
  refine g_aastore 6 C at_47 f50 rfl rfl (Sto.ofAv f50 f55 (Ins.self f56)) (by decide) (by decide) (Nat.le_of_ble_eq_true rfl) (List.mem_of_getElem? (i := 0) rfl) (fun h51 K52 z53 f54 => ?_)
  have f57 : Av Z h51 a1 (.object "com/example/entidad/entidad/query/Token$Kind") [(.ref u0), (.ref u1), (.ref u2), (.ref u3), (.ref u4), (.ref u5), (.ref u6)] := f54
  refine g_astore #[.val (.int p0), .val (.int p1), .val (.int p2), .val (.int p3), .val (.int p4), .val (.ref a1), .unset, .unset, .unset, .unset, .unset, .unset, .unset, .unset, .unset, .unset, .unset, .unset, .unset, .unset] C at_48 rfl rfl ?_
  refine g_iloadN C at_50 rfl ?_
  refine g_ldcInt (2147483647 : Int32) C at_51 (hw _ (List.mem_of_getElem? (i := 18) rfl)) ?_
  refine g_iand _ C at_53 rfl ?_
  refine g_bipush (7 : Int32) C at_54 (by decide) ?_
  refine g_irem _ C at_56 (by decide) rfl ?_
  obtain ⟨v6_58, hv6_58⟩ : ∃ z : Int32, z = ((p0 &&& (2147483647 : Int32)) - ((p0 &&& (2147483647 : Int32)) / (7 : Int32)) * (7 : Int32)) := ⟨_, rfl⟩
  rw [← hv6_58]
  refine g_istore #[.val (.int p0), .val (.int p1), .val (.int p2), .val (.int p3), .val (.int p4), .val (.ref a1), .val (.int v6_58), .unset, .unset, .unset, .unset, .unset, .unset, .unset, .unset, .unset, .unset, .unset, .unset, .unset] C at_57 rfl ?_
  refine g_aload C at_59 rfl rfl ?_
  refine g_iload C at_61 rfl ?_
  have hv6 : v6_58 = 0 ∨ v6_58 = 1 ∨ v6_58 = 2 ∨ v6_58 = 3 ∨ v6_58 = 4 ∨ v6_58 = 5 ∨ v6_58 = 6 := by rw [hv6_58]; exact own_rem7 _
  have hj6 : ¬ v6_58 < 0 := by rcases hv6 with r | r | r | r | r | r | r <;> rw [r] <;> decide
  refine g_aaload _ C at_63 f57 rfl hj6 rfl (v := .ref (kA v6_58 u0 u1 u2 u3 u4 u5 u6)) (by rcases hv6 with r | r | r | r | r | r | r <;> rw [r] <;> rfl) ?_
  have hk0 : kA v6_58 u0 u1 u2 u3 u4 u5 u6 = u0 ↔ v6_58 = 0 := by rcases hv6 with r | r | r | r | r | r | r <;> rw [r] <;> simp [kA, N01, N02, N03, N04, N05, N06, N01.symm, N02.symm, N03.symm, N04.symm, N05.symm, N06.symm]
  have hk5 : kA v6_58 u0 u1 u2 u3 u4 u5 u6 = u5 ↔ v6_58 = 5 := by rcases hv6 with r | r | r | r | r | r | r <;> rw [r] <;> simp [kA, N05, N15, N25, N35, N45, N56, N05.symm, N15.symm, N25.symm, N35.symm, N45.symm, N56.symm]
  refine g_astore #[.val (.int p0), .val (.int p1), .val (.int p2), .val (.int p3), .val (.int p4), .val (.ref a1), .val (.int v6_58), .val (.ref (kA v6_58 u0 u1 u2 u3 u4 u5 u6)), .unset, .unset, .unset, .unset, .unset, .unset, .unset, .unset, .unset, .unset, .unset, .unset] C at_64 rfl rfl ?_
  refine g_iloadN C at_66 rfl ?_
  refine g_ldcInt (2147483647 : Int32) C at_67 (hw _ (List.mem_of_getElem? (i := 18) rfl)) ?_
  refine g_iand _ C at_69 rfl ?_
  refine g_iconst (3 : Int32) C at_70 (by decide) ?_
  refine g_irem _ C at_71 (by decide) rfl ?_
  obtain ⟨v8_59, hv8_59⟩ : ∃ z : Int32, z = ((p1 &&& (2147483647 : Int32)) - ((p1 &&& (2147483647 : Int32)) / (3 : Int32)) * (3 : Int32)) := ⟨_, rfl⟩
  rw [← hv8_59]
  refine g_istore #[.val (.int p0), .val (.int p1), .val (.int p2), .val (.int p3), .val (.int p4), .val (.ref a1), .val (.int v6_58), .val (.ref (kA v6_58 u0 u1 u2 u3 u4 u5 u6)), .val (.int v8_59), .unset, .unset, .unset, .unset, .unset, .unset, .unset, .unset, .unset, .unset, .unset] C at_72 rfl ?_
  refine g_iloadN C at_74 rfl ?_
  refine g_iconst (2 : Int32) C at_75 (by decide) ?_
  refine g_iushr _ C at_76 rfl ?_
  refine g_iconst (3 : Int32) C at_77 (by decide) ?_
  refine g_irem _ C at_78 (by decide) rfl ?_
  obtain ⟨v9_60, hv9_60⟩ : ∃ z : Int32, z = ((XT.ushr p1 (2 : Int32)) - ((XT.ushr p1 (2 : Int32)) / (3 : Int32)) * (3 : Int32)) := ⟨_, rfl⟩
  rw [← hv9_60]
  refine g_istore #[.val (.int p0), .val (.int p1), .val (.int p2), .val (.int p3), .val (.int p4), .val (.ref a1), .val (.int v6_58), .val (.ref (kA v6_58 u0 u1 u2 u3 u4 u5 u6)), .val (.int v8_59), .val (.int v9_60), .unset, .unset, .unset, .unset, .unset, .unset, .unset, .unset, .unset, .unset] C at_79 rfl ?_
  have hl8 : v8_59 = 0 ∨ v8_59 = 1 ∨ v8_59 = 2 := by rw [hv8_59]; exact own_rem3 (own_pos1 _)
  have hl9 : v9_60 = 0 ∨ v9_60 = 1 ∨ v9_60 = 2 := by rw [hv9_60]; exact own_rem3 (own_pos2 _)
  refine g_iloadN C at_81 rfl ?_
  refine g_bipush (8 : Int32) C at_82 (by decide) ?_
  refine g_iushr _ C at_84 rfl ?_
  refine g_bipush (7 : Int32) C at_85 (by decide) ?_
  refine g_iand _ C at_87 rfl ?_
  refine g_bipush (7 : Int32) C at_88 (by decide) ?_
  by_cases cc61 : ((XT.ushr p1 (8 : Int32)) &&& (7 : Int32)) = (7 : Int32)
  · skip
    refine g_icmpF C at_90 (show ((XT.ushr p1 (8 : Int32)) &&& (7 : Int32)) = (7 : Int32) from cc61) ?_
    refine g_iconst (1 : Int32) C at_93 (by decide) ?_
    refine g_goto 98 C at_94 (by decide) (by decide) ?_
    refine g_istore #[.val (.int p0), .val (.int p1), .val (.int p2), .val (.int p3), .val (.int p4), .val (.ref a1), .val (.int v6_58), .val (.ref (kA v6_58 u0 u1 u2 u3 u4 u5 u6)), .val (.int v8_59), .val (.int v9_60), .val (.int (1 : Int32)), .unset, .unset, .unset, .unset, .unset, .unset, .unset, .unset, .unset] C at_98 rfl ?_
    refine g_iloadN C at_100 rfl ?_
    refine g_sipush (255 : Int32) C at_101 (by decide) ?_
    refine g_iand _ C at_104 rfl ?_
    refine g_i2c (p2 &&& (255 : Int32)) C at_105 (i2c_mask _) ?_
    obtain ⟨v11_62, hv11_62⟩ : ∃ z : Int32, z = (p2 &&& (255 : Int32)) := ⟨_, rfl⟩
    rw [← hv11_62]
    refine g_istore #[.val (.int p0), .val (.int p1), .val (.int p2), .val (.int p3), .val (.int p4), .val (.ref a1), .val (.int v6_58), .val (.ref (kA v6_58 u0 u1 u2 u3 u4 u5 u6)), .val (.int v8_59), .val (.int v9_60), .val (.int (1 : Int32)), .val (.int v11_62), .unset, .unset, .unset, .unset, .unset, .unset, .unset, .unset] C at_106 rfl ?_
    refine g_iloadN C at_108 rfl ?_
    refine g_bipush (8 : Int32) C at_109 (by decide) ?_
    refine g_iushr _ C at_111 rfl ?_
    refine g_sipush (255 : Int32) C at_112 (by decide) ?_
    refine g_iand _ C at_115 rfl ?_
    refine g_i2c ((XT.ushr p2 (8 : Int32)) &&& (255 : Int32)) C at_116 (i2c_mask _) ?_
    obtain ⟨v12_63, hv12_63⟩ : ∃ z : Int32, z = ((XT.ushr p2 (8 : Int32)) &&& (255 : Int32)) := ⟨_, rfl⟩
    rw [← hv12_63]
    refine g_istore #[.val (.int p0), .val (.int p1), .val (.int p2), .val (.int p3), .val (.int p4), .val (.ref a1), .val (.int v6_58), .val (.ref (kA v6_58 u0 u1 u2 u3 u4 u5 u6)), .val (.int v8_59), .val (.int v9_60), .val (.int (1 : Int32)), .val (.int v11_62), .val (.int v12_63), .unset, .unset, .unset, .unset, .unset, .unset, .unset] C at_117 rfl ?_
    have b11 : ¬ v11_62 < 0 ∧ ¬ (255 : Int32) < v11_62 := by rw [hv11_62]; exact own_mask255 _
    have b12 : ¬ v12_63 < 0 ∧ ¬ (255 : Int32) < v12_63 := by rw [hv12_63]; exact own_mask255 _
    refine Go.join (α := {z : Int32 // ¬ z < 0 ∧ ¬ (255 : Int32) < z}) (P := fun q => mkF m_ 145 #[.val (.int p0), .val (.int p1), .val (.int p2), .val (.int p3), .val (.int p4), .val (.ref a1), .val (.int v6_58), .val (.ref (kA v6_58 u0 u1 u2 u3 u4 u5 u6)), .val (.int v8_59), .val (.int v9_60), .val (.int (1 : Int32)), .val (.int v11_62), .val (.int v12_63), .unset, .unset, .unset, .unset, .unset, .unset, .unset] [.int q.1]) (fun q => ?_) (fun J => ?_)
    · obtain ⟨y13_64, hy13_64⟩ := q
      show Go _ _ _ _ _ _ _ _ _ _ _ _ _ _ _ _ _ _ _ _ _ _ (mkF _ 145 #[.val (.int p0), .val (.int p1), .val (.int p2), .val (.int p3), .val (.int p4), .val (.ref a1), .val (.int v6_58), .val (.ref (kA v6_58 u0 u1 u2 u3 u4 u5 u6)), .val (.int v8_59), .val (.int v9_60), .val (.int (1 : Int32)), .val (.int v11_62), .val (.int v12_63), .unset, .unset, .unset, .unset, .unset, .unset, .unset] [(.int y13_64)])
      refine g_istore #[.val (.int p0), .val (.int p1), .val (.int p2), .val (.int p3), .val (.int p4), .val (.ref a1), .val (.int v6_58), .val (.ref (kA v6_58 u0 u1 u2 u3 u4 u5 u6)), .val (.int v8_59), .val (.int v9_60), .val (.int (1 : Int32)), .val (.int v11_62), .val (.int v12_63), .val (.int y13_64), .unset, .unset, .unset, .unset, .unset, .unset] C at_145 rfl ?_
      refine Go.join (α := {z : Int32 // ¬ z < 0 ∧ ¬ (255 : Int32) < z}) (P := fun q => mkF m_ 175 #[.val (.int p0), .val (.int p1), .val (.int p2), .val (.int p3), .val (.int p4), .val (.ref a1), .val (.int v6_58), .val (.ref (kA v6_58 u0 u1 u2 u3 u4 u5 u6)), .val (.int v8_59), .val (.int v9_60), .val (.int (1 : Int32)), .val (.int v11_62), .val (.int v12_63), .val (.int y13_64), .unset, .unset, .unset, .unset, .unset, .unset] [.int q.1]) (fun q => ?_) (fun J => ?_)
      · obtain ⟨y14_65, hy14_65⟩ := q
        show Go _ _ _ _ _ _ _ _ _ _ _ _ _ _ _ _ _ _ _ _ _ _ (mkF _ 175 #[.val (.int p0), .val (.int p1), .val (.int p2), .val (.int p3), .val (.int p4), .val (.ref a1), .val (.int v6_58), .val (.ref (kA v6_58 u0 u1 u2 u3 u4 u5 u6)), .val (.int v8_59), .val (.int v9_60), .val (.int (1 : Int32)), .val (.int v11_62), .val (.int v12_63), .val (.int y13_64), .unset, .unset, .unset, .unset, .unset, .unset] [(.int y14_65)])
        refine g_istore #[.val (.int p0), .val (.int p1), .val (.int p2), .val (.int p3), .val (.int p4), .val (.ref a1), .val (.int v6_58), .val (.ref (kA v6_58 u0 u1 u2 u3 u4 u5 u6)), .val (.int v8_59), .val (.int v9_60), .val (.int (1 : Int32)), .val (.int v11_62), .val (.int v12_63), .val (.int y13_64), .val (.int y14_65), .unset, .unset, .unset, .unset, .unset] C at_175 rfl ?_
        refine g_iload C at_177 rfl ?_
        refine g_iload C at_179 rfl ?_
        refine g_iload C at_181 rfl ?_
        refine g_invokestatic [(.int v8_59), (.int v11_62), (.int v12_63)] [] 0 C at_183 (hw _ (List.mem_of_getElem? (i := 19) rfl)) (hw _ (List.mem_of_getElem? (i := 20) rfl)) (hw _ (List.mem_of_getElem? (i := 21) rfl)) (hw _ (List.mem_of_getElem? (i := 22) rfl)) (by decide) (m_mk l Z a0 hw S0 hz0 S1 S2 S3 S4 S5 S6 S7 _ _ _ b11 b12 _) (lenOf pd9 rfl) rfl rfl (Nat.le_of_ble_eq_true rfl) (by decide) (by decide) (by decide) (by decide) all0 (fun v71 h72 L73 q74 K75 => ?_)
        obtain ⟨s66, t67, rfl, g68, l69, f70⟩ := q74
        have f76 := f70.1
        show Go _ _ _ _ _ _ _ _ _ _ _ _ _ _ _ _ _ _ _ _ _ _ (mkF _ 186 #[.val (.int p0), .val (.int p1), .val (.int p2), .val (.int p3), .val (.int p4), .val (.ref a1), .val (.int v6_58), .val (.ref (kA v6_58 u0 u1 u2 u3 u4 u5 u6)), .val (.int v8_59), .val (.int v9_60), .val (.int (1 : Int32)), .val (.int v11_62), .val (.int v12_63), .val (.int y13_64), .val (.int y14_65), .unset, .unset, .unset, .unset, .unset] [(.ref s66)])
        refine g_astore #[.val (.int p0), .val (.int p1), .val (.int p2), .val (.int p3), .val (.int p4), .val (.ref a1), .val (.int v6_58), .val (.ref (kA v6_58 u0 u1 u2 u3 u4 u5 u6)), .val (.int v8_59), .val (.int v9_60), .val (.int (1 : Int32)), .val (.int v11_62), .val (.int v12_63), .val (.int y13_64), .val (.int y14_65), .val (.ref s66), .unset, .unset, .unset, .unset] C at_186 rfl rfl ?_
        refine g_iload C at_188 rfl ?_
        refine g_ifF C at_190 (show ¬ (1 : Int32) = (0 : Int32) by decide) ?_
        refine g_aconstNull C at_193 ?_
        refine g_goto 206 C at_194 (by decide) (by decide) ?_
        refine g_astore #[.val (.int p0), .val (.int p1), .val (.int p2), .val (.int p3), .val (.int p4), .val (.ref a1), .val (.int v6_58), .val (.ref (kA v6_58 u0 u1 u2 u3 u4 u5 u6)), .val (.int v8_59), .val (.int v9_60), .val (.int (1 : Int32)), .val (.int v11_62), .val (.int v12_63), .val (.int y13_64), .val (.int y14_65), .val (.ref s66), .val .null, .unset, .unset, .unset] C at_206 rfl rfl ?_
        refine g_new_ C at_208 (hw _ (List.mem_of_getElem? (i := 45) rfl)) (hw _ (List.mem_of_getElem? (i := 46) rfl)) (hw _ (List.mem_of_getElem? (i := 47) rfl)) (by decide) (by decide) (fun a77 h78 e79 E80 l81 f82 D83 => ?_)
        have K84 := keep_ext E80
        have f85 : Fld Z h78 a77 "com/example/entidad/entidad/query/Token" "m_kind" "Lcom/example/entidad/entidad/query/Token$Kind;" .null := D83 (Or.inr (hw _ (List.mem_of_getElem? (i := 53) rfl))) (ty := (.object "com/example/entidad/entidad/query/Token$Kind")) (by decide)
        have f86 : Fld Z h78 a77 "com/example/entidad/entidad/query/Token" "m_text" "Ljava/lang/String;" .null := D83 (Or.inr (hw _ (List.mem_of_getElem? (i := 55) rfl))) (ty := (.object "java/lang/String")) (by decide)
        have f87 : Fld Z h78 a77 "com/example/entidad/entidad/query/Token" "m_value" "Ljava/lang/Object;" .null := D83 (Or.inr (hw _ (List.mem_of_getElem? (i := 57) rfl))) (ty := (.object "java/lang/Object")) (by decide)
        have f88 : Fld Z h78 a77 "com/example/entidad/entidad/query/Token" "m_position" "I" (.int (0 : Int32)) := D83 (Or.inr (hw _ (List.mem_of_getElem? (i := 59) rfl))) (ty := .int) (by decide)
        refine g_dup C at_211 rfl ?_
        refine g_aload C at_212 rfl rfl ?_
        refine g_aload C at_214 rfl rfl ?_
        refine g_aconstNull C at_216 ?_
        refine g_iload C at_217 rfl ?_
        refine g_invokespecial [(.ref (kA v6_58 u0 u1 u2 u3 u4 u5 u6)), (.ref s66), .null, (.int p4)] [(.ref a77)] 1 C at_219 rfl (hw _ (List.mem_of_getElem? (i := 48) rfl)) (hw _ (List.mem_of_getElem? (i := 49) rfl)) (hw _ (List.mem_of_getElem? (i := 47) rfl)) (hw _ (List.mem_of_getElem? (i := 50) rfl)) (by decide) (m_ctor l Z a0 hw S0 hz0 S1 S2 S3 S4 S5 S6 S7 a77 (kA v6_58 u0 u1 u2 u3 u4 u5 u6) s66 p4 _ f82 f85 f86 f87 f88) (lenOf pd10 rfl) rfl rfl (Nat.le_of_ble_eq_true rfl) (by decide) (by decide) (by decide) (by decide) (allS (List.mem_of_getElem? (i := 0) rfl) all0) (fun v92 h93 L94 q95 K96 => ?_)
        obtain ⟨rfl, f89, f90, f91⟩ := q95
        show Go _ _ _ _ _ _ _ _ _ _ _ _ _ _ _ _ _ _ _ _ _ _ (mkF _ 222 #[.val (.int p0), .val (.int p1), .val (.int p2), .val (.int p3), .val (.int p4), .val (.ref a1), .val (.int v6_58), .val (.ref (kA v6_58 u0 u1 u2 u3 u4 u5 u6)), .val (.int v8_59), .val (.int v9_60), .val (.int (1 : Int32)), .val (.int v11_62), .val (.int v12_63), .val (.int y13_64), .val (.int y14_65), .val (.ref s66), .val .null, .unset, .unset, .unset] [(.ref a77)])
        refine g_astore #[.val (.int p0), .val (.int p1), .val (.int p2), .val (.int p3), .val (.int p4), .val (.ref a1), .val (.int v6_58), .val (.ref (kA v6_58 u0 u1 u2 u3 u4 u5 u6)), .val (.int v8_59), .val (.int v9_60), .val (.int (1 : Int32)), .val (.int v11_62), .val (.int v12_63), .val (.int y13_64), .val (.int y14_65), .val (.ref s66), .val .null, .val (.ref a77), .unset, .unset] C at_222 rfl rfl ?_
        refine g_aload C at_224 rfl rfl ?_
        refine g_aload C at_226 rfl rfl ?_
        have f97 := ((f76.keep K84).keep K96)
        refine g_invokevirtual [.null] [] 0 C at_228 (hw _ (List.mem_of_getElem? (i := 60) rfl)) (hw _ (List.mem_of_getElem? (i := 61) rfl)) (hw _ (List.mem_of_getElem? (i := 63) rfl)) (hw _ (List.mem_of_getElem? (i := 62) rfl)) (hw _ (List.mem_of_getElem? (i := 47) rfl)) (hw _ (List.mem_of_getElem? (i := 64) rfl)) (fun _ hZ => notFace_of_selects (args := #[]) (mvT hZ (hw _ (List.mem_of_getElem? (i := 63) rfl)))) (by decide) f89 (m_isN l Z a0 hw S0 hz0 S1 S2 S3 S4 S5 S6 S7 _ _ _ _ f90 f91 f97) (lenOf pd7 rfl) rfl rfl (Nat.le_of_ble_eq_true rfl) (by decide) (by decide) (by decide) (by decide) all0 (fun v98 h99 L100 q101 K102 => ?_)
        obtain rfl := q101
        show Go _ _ _ _ _ _ _ _ _ _ _ _ _ _ _ _ _ _ _ _ _ _ (mkF _ 231 #[.val (.int p0), .val (.int p1), .val (.int p2), .val (.int p3), .val (.int p4), .val (.ref a1), .val (.int v6_58), .val (.ref (kA v6_58 u0 u1 u2 u3 u4 u5 u6)), .val (.int v8_59), .val (.int v9_60), .val (.int (1 : Int32)), .val (.int v11_62), .val (.int v12_63), .val (.int y13_64), .val (.int y14_65), .val (.ref s66), .val .null, .val (.ref a77), .unset, .unset] [(.int (0 : Int32))])
        refine g_istore #[.val (.int p0), .val (.int p1), .val (.int p2), .val (.int p3), .val (.int p4), .val (.ref a1), .val (.int v6_58), .val (.ref (kA v6_58 u0 u1 u2 u3 u4 u5 u6)), .val (.int v8_59), .val (.int v9_60), .val (.int (1 : Int32)), .val (.int v11_62), .val (.int v12_63), .val (.int y13_64), .val (.int y14_65), .val (.ref s66), .val .null, .val (.ref a77), .val (.int (0 : Int32)), .unset] C at_231 rfl ?_
        refine g_iload C at_233 rfl ?_
        refine g_ifF C at_235 (show ¬ (1 : Int32) = (0 : Int32) by decide) ?_
        refine g_iconst (0 : Int32) C at_238 (by decide) ?_
        refine g_istore #[.val (.int p0), .val (.int p1), .val (.int p2), .val (.int p3), .val (.int p4), .val (.ref a1), .val (.int v6_58), .val (.ref (kA v6_58 u0 u1 u2 u3 u4 u5 u6)), .val (.int v8_59), .val (.int v9_60), .val (.int (1 : Int32)), .val (.int v11_62), .val (.int v12_63), .val (.int y13_64), .val (.int y14_65), .val (.ref s66), .val .null, .val (.ref a77), .val (.int (0 : Int32)), .val (.int (0 : Int32))] C at_239 rfl ?_
        refine g_goto 356 C at_241 (by decide) (by decide) ?_
        refine g_iload C at_356 rfl ?_
        refine g_iload C at_358 rfl ?_
        refine g_icmpF C at_360 (show (0 : Int32) = (0 : Int32) by decide) ?_
        refine g_iconst (1 : Int32) C at_363 (by decide) ?_
        refine g_goto 368 C at_364 (by decide) (by decide) ?_
        exact g_retN C at_368 (by simp) rfl (by decide) (by decide)
      · skip
        refine g_iloadN C at_147 rfl ?_
        refine g_iconst (2 : Int32) C at_148 (by decide) ?_
        refine g_iand _ C at_149 rfl ?_
        by_cases cc103 : (p3 &&& (2 : Int32)) = (0 : Int32)
        · skip
          refine g_ifT 166 C at_150 (show (p3 &&& (2 : Int32)) = (0 : Int32) from cc103) (by decide) (by decide) ?_
          refine g_iloadN C at_166 rfl ?_
          refine g_bipush (16 : Int32) C at_167 (by decide) ?_
          refine g_iushr _ C at_169 rfl ?_
          refine g_sipush (255 : Int32) C at_170 (by decide) ?_
          refine g_iand _ C at_173 rfl ?_
          refine g_i2c ((XT.ushr p3 (16 : Int32)) &&& (255 : Int32)) C at_174 (i2c_mask _) ?_
          exact J ⟨_, own_mask255 _⟩
        · skip
          refine g_ifF C at_150 (show ¬ (p3 &&& (2 : Int32)) = (0 : Int32) from cc103) ?_
          refine g_iload C at_153 rfl ?_
          refine g_iloadN C at_155 rfl ?_
          refine g_iconst (1 : Int32) C at_156 (by decide) ?_
          refine g_iushr _ C at_157 rfl ?_
          refine g_bipush (32 : Int32) C at_158 (by decide) ?_
          refine g_iand _ C at_160 rfl ?_
          refine g_ixor _ C at_161 rfl ?_
          refine g_i2c _ C at_162 rfl ?_
          refine g_goto 175 C at_163 (by decide) (by decide) ?_
          exact J ⟨_, own_xor b12⟩
    · skip
      refine g_iloadN C at_119 rfl ?_
      refine g_iconst (1 : Int32) C at_120 (by decide) ?_
      refine g_iand _ C at_121 rfl ?_
      by_cases cc104 : (p3 &&& (1 : Int32)) = (0 : Int32)
      · skip
        refine g_ifT 136 C at_122 (show (p3 &&& (1 : Int32)) = (0 : Int32) from cc104) (by decide) (by decide) ?_
        refine g_iloadN C at_136 rfl ?_
        refine g_bipush (8 : Int32) C at_137 (by decide) ?_
        refine g_iushr _ C at_139 rfl ?_
        refine g_sipush (255 : Int32) C at_140 (by decide) ?_
        refine g_iand _ C at_143 rfl ?_
        refine g_i2c ((XT.ushr p3 (8 : Int32)) &&& (255 : Int32)) C at_144 (i2c_mask _) ?_
        exact J ⟨_, own_mask255 _⟩
      · skip
        refine g_ifF C at_122 (show ¬ (p3 &&& (1 : Int32)) = (0 : Int32) from cc104) ?_
        refine g_iload C at_125 rfl ?_
        refine g_iloadN C at_127 rfl ?_
        refine g_bipush (32 : Int32) C at_128 (by decide) ?_
        refine g_iand _ C at_130 rfl ?_
        refine g_ixor _ C at_131 rfl ?_
        refine g_i2c _ C at_132 rfl ?_
        refine g_goto 145 C at_133 (by decide) (by decide) ?_
        exact J ⟨_, own_xor b11⟩
  · skip
    refine g_icmpT 97 C at_90 (show ¬ ((XT.ushr p1 (8 : Int32)) &&& (7 : Int32)) = (7 : Int32) from cc61) (by decide) (by decide) ?_
    refine g_iconst (0 : Int32) C at_97 (by decide) ?_
    refine g_istore #[.val (.int p0), .val (.int p1), .val (.int p2), .val (.int p3), .val (.int p4), .val (.ref a1), .val (.int v6_58), .val (.ref (kA v6_58 u0 u1 u2 u3 u4 u5 u6)), .val (.int v8_59), .val (.int v9_60), .val (.int (0 : Int32)), .unset, .unset, .unset, .unset, .unset, .unset, .unset, .unset, .unset] C at_98 rfl ?_
    refine g_iloadN C at_100 rfl ?_
    refine g_sipush (255 : Int32) C at_101 (by decide) ?_
    refine g_iand _ C at_104 rfl ?_
    refine g_i2c (p2 &&& (255 : Int32)) C at_105 (i2c_mask _) ?_
    obtain ⟨v11_105, hv11_105⟩ : ∃ z : Int32, z = (p2 &&& (255 : Int32)) := ⟨_, rfl⟩
    rw [← hv11_105]
    refine g_istore #[.val (.int p0), .val (.int p1), .val (.int p2), .val (.int p3), .val (.int p4), .val (.ref a1), .val (.int v6_58), .val (.ref (kA v6_58 u0 u1 u2 u3 u4 u5 u6)), .val (.int v8_59), .val (.int v9_60), .val (.int (0 : Int32)), .val (.int v11_105), .unset, .unset, .unset, .unset, .unset, .unset, .unset, .unset] C at_106 rfl ?_
    refine g_iloadN C at_108 rfl ?_
    refine g_bipush (8 : Int32) C at_109 (by decide) ?_
    refine g_iushr _ C at_111 rfl ?_
    refine g_sipush (255 : Int32) C at_112 (by decide) ?_
    refine g_iand _ C at_115 rfl ?_
    refine g_i2c ((XT.ushr p2 (8 : Int32)) &&& (255 : Int32)) C at_116 (i2c_mask _) ?_
    obtain ⟨v12_106, hv12_106⟩ : ∃ z : Int32, z = ((XT.ushr p2 (8 : Int32)) &&& (255 : Int32)) := ⟨_, rfl⟩
    rw [← hv12_106]
    refine g_istore #[.val (.int p0), .val (.int p1), .val (.int p2), .val (.int p3), .val (.int p4), .val (.ref a1), .val (.int v6_58), .val (.ref (kA v6_58 u0 u1 u2 u3 u4 u5 u6)), .val (.int v8_59), .val (.int v9_60), .val (.int (0 : Int32)), .val (.int v11_105), .val (.int v12_106), .unset, .unset, .unset, .unset, .unset, .unset, .unset] C at_117 rfl ?_
    have b11 : ¬ v11_105 < 0 ∧ ¬ (255 : Int32) < v11_105 := by rw [hv11_105]; exact own_mask255 _
    have b12 : ¬ v12_106 < 0 ∧ ¬ (255 : Int32) < v12_106 := by rw [hv12_106]; exact own_mask255 _
    refine Go.join (α := {z : Int32 // ¬ z < 0 ∧ ¬ (255 : Int32) < z}) (P := fun q => mkF m_ 145 #[.val (.int p0), .val (.int p1), .val (.int p2), .val (.int p3), .val (.int p4), .val (.ref a1), .val (.int v6_58), .val (.ref (kA v6_58 u0 u1 u2 u3 u4 u5 u6)), .val (.int v8_59), .val (.int v9_60), .val (.int (0 : Int32)), .val (.int v11_105), .val (.int v12_106), .unset, .unset, .unset, .unset, .unset, .unset, .unset] [.int q.1]) (fun q => ?_) (fun J => ?_)
    · obtain ⟨y13_107, hy13_107⟩ := q
      show Go _ _ _ _ _ _ _ _ _ _ _ _ _ _ _ _ _ _ _ _ _ _ (mkF _ 145 #[.val (.int p0), .val (.int p1), .val (.int p2), .val (.int p3), .val (.int p4), .val (.ref a1), .val (.int v6_58), .val (.ref (kA v6_58 u0 u1 u2 u3 u4 u5 u6)), .val (.int v8_59), .val (.int v9_60), .val (.int (0 : Int32)), .val (.int v11_105), .val (.int v12_106), .unset, .unset, .unset, .unset, .unset, .unset, .unset] [(.int y13_107)])
      refine g_istore #[.val (.int p0), .val (.int p1), .val (.int p2), .val (.int p3), .val (.int p4), .val (.ref a1), .val (.int v6_58), .val (.ref (kA v6_58 u0 u1 u2 u3 u4 u5 u6)), .val (.int v8_59), .val (.int v9_60), .val (.int (0 : Int32)), .val (.int v11_105), .val (.int v12_106), .val (.int y13_107), .unset, .unset, .unset, .unset, .unset, .unset] C at_145 rfl ?_
      refine Go.join (α := {z : Int32 // ¬ z < 0 ∧ ¬ (255 : Int32) < z}) (P := fun q => mkF m_ 175 #[.val (.int p0), .val (.int p1), .val (.int p2), .val (.int p3), .val (.int p4), .val (.ref a1), .val (.int v6_58), .val (.ref (kA v6_58 u0 u1 u2 u3 u4 u5 u6)), .val (.int v8_59), .val (.int v9_60), .val (.int (0 : Int32)), .val (.int v11_105), .val (.int v12_106), .val (.int y13_107), .unset, .unset, .unset, .unset, .unset, .unset] [.int q.1]) (fun q => ?_) (fun J => ?_)
      · obtain ⟨y14_108, hy14_108⟩ := q
        show Go _ _ _ _ _ _ _ _ _ _ _ _ _ _ _ _ _ _ _ _ _ _ (mkF _ 175 #[.val (.int p0), .val (.int p1), .val (.int p2), .val (.int p3), .val (.int p4), .val (.ref a1), .val (.int v6_58), .val (.ref (kA v6_58 u0 u1 u2 u3 u4 u5 u6)), .val (.int v8_59), .val (.int v9_60), .val (.int (0 : Int32)), .val (.int v11_105), .val (.int v12_106), .val (.int y13_107), .unset, .unset, .unset, .unset, .unset, .unset] [(.int y14_108)])
        refine g_istore #[.val (.int p0), .val (.int p1), .val (.int p2), .val (.int p3), .val (.int p4), .val (.ref a1), .val (.int v6_58), .val (.ref (kA v6_58 u0 u1 u2 u3 u4 u5 u6)), .val (.int v8_59), .val (.int v9_60), .val (.int (0 : Int32)), .val (.int v11_105), .val (.int v12_106), .val (.int y13_107), .val (.int y14_108), .unset, .unset, .unset, .unset, .unset] C at_175 rfl ?_
        refine g_iload C at_177 rfl ?_
        refine g_iload C at_179 rfl ?_
        refine g_iload C at_181 rfl ?_
        refine g_invokestatic [(.int v8_59), (.int v11_105), (.int v12_106)] [] 0 C at_183 (hw _ (List.mem_of_getElem? (i := 19) rfl)) (hw _ (List.mem_of_getElem? (i := 20) rfl)) (hw _ (List.mem_of_getElem? (i := 21) rfl)) (hw _ (List.mem_of_getElem? (i := 22) rfl)) (by decide) (m_mk l Z a0 hw S0 hz0 S1 S2 S3 S4 S5 S6 S7 _ _ _ b11 b12 _) (lenOf pd9 rfl) rfl rfl (Nat.le_of_ble_eq_true rfl) (by decide) (by decide) (by decide) (by decide) all0 (fun v114 h115 L116 q117 K118 => ?_)
        obtain ⟨s109, t110, rfl, g111, l112, f113⟩ := q117
        have f119 := f113.1
        show Go _ _ _ _ _ _ _ _ _ _ _ _ _ _ _ _ _ _ _ _ _ _ (mkF _ 186 #[.val (.int p0), .val (.int p1), .val (.int p2), .val (.int p3), .val (.int p4), .val (.ref a1), .val (.int v6_58), .val (.ref (kA v6_58 u0 u1 u2 u3 u4 u5 u6)), .val (.int v8_59), .val (.int v9_60), .val (.int (0 : Int32)), .val (.int v11_105), .val (.int v12_106), .val (.int y13_107), .val (.int y14_108), .unset, .unset, .unset, .unset, .unset] [(.ref s109)])
        refine g_astore #[.val (.int p0), .val (.int p1), .val (.int p2), .val (.int p3), .val (.int p4), .val (.ref a1), .val (.int v6_58), .val (.ref (kA v6_58 u0 u1 u2 u3 u4 u5 u6)), .val (.int v8_59), .val (.int v9_60), .val (.int (0 : Int32)), .val (.int v11_105), .val (.int v12_106), .val (.int y13_107), .val (.int y14_108), .val (.ref s109), .unset, .unset, .unset, .unset] C at_186 rfl rfl ?_
        refine g_iload C at_188 rfl ?_
        refine g_ifT 197 C at_190 (show (0 : Int32) = (0 : Int32) by decide) (by decide) (by decide) ?_
        refine g_iload C at_197 rfl ?_
        refine g_iload C at_199 rfl ?_
        refine g_iload C at_201 rfl ?_
        refine g_invokestatic [(.int v9_60), (.int y13_107), (.int y14_108)] [] 0 C at_203 (hw _ (List.mem_of_getElem? (i := 19) rfl)) (hw _ (List.mem_of_getElem? (i := 20) rfl)) (hw _ (List.mem_of_getElem? (i := 21) rfl)) (hw _ (List.mem_of_getElem? (i := 22) rfl)) (by decide) (m_mk l Z a0 hw S0 hz0 S1 S2 S3 S4 S5 S6 S7 _ _ _ hy13_107 hy14_108 _) (lenOf pd9 rfl) rfl rfl (Nat.le_of_ble_eq_true rfl) (by decide) (by decide) (by decide) (by decide) all0 (fun v125 h126 L127 q128 K129 => ?_)
        obtain ⟨s120, t121, rfl, g122, l123, f124⟩ := q128
        have f130 := f124.1
        show Go _ _ _ _ _ _ _ _ _ _ _ _ _ _ _ _ _ _ _ _ _ _ (mkF _ 206 #[.val (.int p0), .val (.int p1), .val (.int p2), .val (.int p3), .val (.int p4), .val (.ref a1), .val (.int v6_58), .val (.ref (kA v6_58 u0 u1 u2 u3 u4 u5 u6)), .val (.int v8_59), .val (.int v9_60), .val (.int (0 : Int32)), .val (.int v11_105), .val (.int v12_106), .val (.int y13_107), .val (.int y14_108), .val (.ref s109), .unset, .unset, .unset, .unset] [(.ref s120)])
        refine g_astore #[.val (.int p0), .val (.int p1), .val (.int p2), .val (.int p3), .val (.int p4), .val (.ref a1), .val (.int v6_58), .val (.ref (kA v6_58 u0 u1 u2 u3 u4 u5 u6)), .val (.int v8_59), .val (.int v9_60), .val (.int (0 : Int32)), .val (.int v11_105), .val (.int v12_106), .val (.int y13_107), .val (.int y14_108), .val (.ref s109), .val (.ref s120), .unset, .unset, .unset] C at_206 rfl rfl ?_
        refine g_new_ C at_208 (hw _ (List.mem_of_getElem? (i := 45) rfl)) (hw _ (List.mem_of_getElem? (i := 46) rfl)) (hw _ (List.mem_of_getElem? (i := 47) rfl)) (by decide) (by decide) (fun a131 h132 e133 E134 l135 f136 D137 => ?_)
        have K138 := keep_ext E134
        have f139 : Fld Z h132 a131 "com/example/entidad/entidad/query/Token" "m_kind" "Lcom/example/entidad/entidad/query/Token$Kind;" .null := D137 (Or.inr (hw _ (List.mem_of_getElem? (i := 53) rfl))) (ty := (.object "com/example/entidad/entidad/query/Token$Kind")) (by decide)
        have f140 : Fld Z h132 a131 "com/example/entidad/entidad/query/Token" "m_text" "Ljava/lang/String;" .null := D137 (Or.inr (hw _ (List.mem_of_getElem? (i := 55) rfl))) (ty := (.object "java/lang/String")) (by decide)
        have f141 : Fld Z h132 a131 "com/example/entidad/entidad/query/Token" "m_value" "Ljava/lang/Object;" .null := D137 (Or.inr (hw _ (List.mem_of_getElem? (i := 57) rfl))) (ty := (.object "java/lang/Object")) (by decide)
        have f142 : Fld Z h132 a131 "com/example/entidad/entidad/query/Token" "m_position" "I" (.int (0 : Int32)) := D137 (Or.inr (hw _ (List.mem_of_getElem? (i := 59) rfl))) (ty := .int) (by decide)
        refine g_dup C at_211 rfl ?_
        refine g_aload C at_212 rfl rfl ?_
        refine g_aload C at_214 rfl rfl ?_
        refine g_aconstNull C at_216 ?_
        refine g_iload C at_217 rfl ?_
        refine g_invokespecial [(.ref (kA v6_58 u0 u1 u2 u3 u4 u5 u6)), (.ref s109), .null, (.int p4)] [(.ref a131)] 1 C at_219 rfl (hw _ (List.mem_of_getElem? (i := 48) rfl)) (hw _ (List.mem_of_getElem? (i := 49) rfl)) (hw _ (List.mem_of_getElem? (i := 47) rfl)) (hw _ (List.mem_of_getElem? (i := 50) rfl)) (by decide) (m_ctor l Z a0 hw S0 hz0 S1 S2 S3 S4 S5 S6 S7 a131 (kA v6_58 u0 u1 u2 u3 u4 u5 u6) s109 p4 _ f136 f139 f140 f141 f142) (lenOf pd10 rfl) rfl rfl (Nat.le_of_ble_eq_true rfl) (by decide) (by decide) (by decide) (by decide) (allS (List.mem_of_getElem? (i := 0) rfl) all0) (fun v146 h147 L148 q149 K150 => ?_)
        obtain ⟨rfl, f143, f144, f145⟩ := q149
        show Go _ _ _ _ _ _ _ _ _ _ _ _ _ _ _ _ _ _ _ _ _ _ (mkF _ 222 #[.val (.int p0), .val (.int p1), .val (.int p2), .val (.int p3), .val (.int p4), .val (.ref a1), .val (.int v6_58), .val (.ref (kA v6_58 u0 u1 u2 u3 u4 u5 u6)), .val (.int v8_59), .val (.int v9_60), .val (.int (0 : Int32)), .val (.int v11_105), .val (.int v12_106), .val (.int y13_107), .val (.int y14_108), .val (.ref s109), .val (.ref s120), .unset, .unset, .unset] [(.ref a131)])
        refine g_astore #[.val (.int p0), .val (.int p1), .val (.int p2), .val (.int p3), .val (.int p4), .val (.ref a1), .val (.int v6_58), .val (.ref (kA v6_58 u0 u1 u2 u3 u4 u5 u6)), .val (.int v8_59), .val (.int v9_60), .val (.int (0 : Int32)), .val (.int v11_105), .val (.int v12_106), .val (.int y13_107), .val (.int y14_108), .val (.ref s109), .val (.ref s120), .val (.ref a131), .unset, .unset] C at_222 rfl rfl ?_
        refine g_aload C at_224 rfl rfl ?_
        refine g_aload C at_226 rfl rfl ?_
        have f151 := (((f113.keep K129 nin0 nin0).keep K138 nin0 nin0).keep K150 (ninS (Nat.ne_of_lt (Nat.lt_of_lt_of_le (Nat.lt_of_lt_of_le f119.lt K129.1) (Nat.le_of_eq e133.symm))) nin0) (ninS (Nat.ne_of_lt (Nat.lt_of_lt_of_le (Nat.lt_of_lt_of_le l112 K129.1) (Nat.le_of_eq e133.symm))) nin0))
        have f152 := ((f124.keep K138 nin0 nin0).keep K150 (ninS (Nat.ne_of_lt (Nat.lt_of_lt_of_le f130.lt (Nat.le_of_eq e133.symm))) nin0) (ninS (Nat.ne_of_lt (Nat.lt_of_lt_of_le l123 (Nat.le_of_eq e133.symm))) nin0))
        refine g_invokevirtual [(.ref s120)] [] 0 C at_228 (hw _ (List.mem_of_getElem? (i := 60) rfl)) (hw _ (List.mem_of_getElem? (i := 61) rfl)) (hw _ (List.mem_of_getElem? (i := 63) rfl)) (hw _ (List.mem_of_getElem? (i := 62) rfl)) (hw _ (List.mem_of_getElem? (i := 47) rfl)) (hw _ (List.mem_of_getElem? (i := 64) rfl)) (fun _ hZ => notFace_of_selects (args := #[]) (mvT hZ (hw _ (List.mem_of_getElem? (i := 63) rfl)))) (by decide) f143 (m_is l Z a0 hw S0 hz0 S1 S2 S3 S4 S5 S6 S7 _ _ _ _ _ _ _ _ _ _ _ _ hl8 hl9 b11 b12 hy13_107 hy14_108 _ f144 f145 (Nat.ne_of_lt (Nat.lt_of_lt_of_le f119.lt g122)) f151 f152) (lenOf pd7 rfl) rfl rfl (Nat.le_of_ble_eq_true rfl) (by decide) (by decide) (by decide) (by decide) all0 (fun v153 h154 L155 q156 K157 => ?_)
        obtain rfl := q156
        simp only [hk0, hk5, mkL_map hl8 hl9, mkL_eq hl8 hl9]
        show Go _ _ _ _ _ _ _ _ _ _ _ _ _ _ _ _ _ _ _ _ _ _ (mkF _ 231 #[.val (.int p0), .val (.int p1), .val (.int p2), .val (.int p3), .val (.int p4), .val (.ref a1), .val (.int v6_58), .val (.ref (kA v6_58 u0 u1 u2 u3 u4 u5 u6)), .val (.int v8_59), .val (.int v9_60), .val (.int (0 : Int32)), .val (.int v11_105), .val (.int v12_106), .val (.int y13_107), .val (.int y14_108), .val (.ref s109), .val (.ref s120), .val (.ref a131), .unset, .unset] [(.int (if (v6_58 = 0 ∧ v8_59 = v9_60 ∧ (v8_59 < 1 ∨ foldI v11_105 = foldI y13_107) ∧ (v8_59 < 2 ∨ foldI v12_106 = foldI y14_108)) ∨ (v6_58 = 5 ∧ v8_59 = v9_60 ∧ (v8_59 < 1 ∨ v11_105 = y13_107) ∧ (v8_59 < 2 ∨ v12_106 = y14_108)) then (1 : Int32) else 0))])
        obtain ⟨v18_158, hv18_158⟩ : ∃ z : Int32, z = (if (v6_58 = 0 ∧ v8_59 = v9_60 ∧ (v8_59 < 1 ∨ foldI v11_105 = foldI y13_107) ∧ (v8_59 < 2 ∨ foldI v12_106 = foldI y14_108)) ∨ (v6_58 = 5 ∧ v8_59 = v9_60 ∧ (v8_59 < 1 ∨ v11_105 = y13_107) ∧ (v8_59 < 2 ∨ v12_106 = y14_108)) then (1 : Int32) else 0) := ⟨_, rfl⟩
        rw [← hv18_158]
        refine g_istore #[.val (.int p0), .val (.int p1), .val (.int p2), .val (.int p3), .val (.int p4), .val (.ref a1), .val (.int v6_58), .val (.ref (kA v6_58 u0 u1 u2 u3 u4 u5 u6)), .val (.int v8_59), .val (.int v9_60), .val (.int (0 : Int32)), .val (.int v11_105), .val (.int v12_106), .val (.int y13_107), .val (.int y14_108), .val (.ref s109), .val (.ref s120), .val (.ref a131), .val (.int v18_158), .unset] C at_231 rfl ?_
        refine g_iload C at_233 rfl ?_
        refine g_ifT 244 C at_235 (show (0 : Int32) = (0 : Int32) by decide) (by decide) (by decide) ?_
        refine g_iload C at_244 rfl ?_
        by_cases cc159 : v6_58 = (0 : Int32)
        · skip
          refine g_ifF C at_246 (show v6_58 = (0 : Int32) from cc159) ?_
          refine g_iload C at_249 rfl ?_
          refine g_iload C at_251 rfl ?_
          by_cases cc160 : v8_59 = v9_60
          · skip
            refine g_icmpF C at_253 (show v8_59 = v9_60 from cc160) ?_
            refine g_iload C at_256 rfl ?_
            refine g_iconst (1 : Int32) C at_258 (by decide) ?_
            by_cases cc161 : v8_59 < (1 : Int32)
            · skip
              refine g_icmpT 275 C at_259 (show v8_59 < (1 : Int32) from cc161) (by decide) (by decide) ?_
              refine g_iload C at_275 rfl ?_
              refine g_iconst (2 : Int32) C at_277 (by decide) ?_
              by_cases cc162 : v8_59 < (2 : Int32)
              · skip
                refine g_icmpT 294 C at_278 (show v8_59 < (2 : Int32) from cc162) (by decide) (by decide) ?_
                refine g_iconst (1 : Int32) C at_294 (by decide) ?_
                refine g_goto 299 C at_295 (by decide) (by decide) ?_
                refine g_istore #[.val (.int p0), .val (.int p1), .val (.int p2), .val (.int p3), .val (.int p4), .val (.ref a1), .val (.int v6_58), .val (.ref (kA v6_58 u0 u1 u2 u3 u4 u5 u6)), .val (.int v8_59), .val (.int v9_60), .val (.int (0 : Int32)), .val (.int v11_105), .val (.int v12_106), .val (.int y13_107), .val (.int y14_108), .val (.ref s109), .val (.ref s120), .val (.ref a131), .val (.int v18_158), .val (.int (1 : Int32))] C at_299 rfl ?_
                refine g_goto 356 C at_301 (by decide) (by decide) ?_
                refine g_iload C at_356 rfl ?_
                refine g_iload C at_358 rfl ?_
                refine g_icmpF C at_360 (show v18_158 = (1 : Int32) from (by rw [hv18_158]; simp only [eq_false cc61, eq_true cc159, eq_true cc160, eq_true cc161, eq_true cc162, eq_false (show ¬ v6_58 = 5 by rw [cc159]; decide)]; simp)) ?_
                refine g_iconst (1 : Int32) C at_363 (by decide) ?_
                refine g_goto 368 C at_364 (by decide) (by decide) ?_
                exact g_retN C at_368 (by simp) rfl (by decide) (by decide)
              · skip
                refine g_icmpF C at_278 (show ¬ v8_59 < (2 : Int32) from cc162) ?_
                refine g_iload C at_281 rfl ?_
                refine g_invokestatic [(.int v12_106)] [] 0 C at_283 (hw _ (List.mem_of_getElem? (i := 115) rfl)) (hw _ (List.mem_of_getElem? (i := 116) rfl)) (hw _ (List.mem_of_getElem? (i := 21) rfl)) (hw _ (List.mem_of_getElem? (i := 117) rfl)) (by decide) (m_fold l Z a0 hw S0 hz0 S1 S2 S3 S4 S5 S6 S7 _ _) (lenOf pd11 rfl) rfl rfl (Nat.le_of_ble_eq_true rfl) (by decide) (by decide) (by decide) (by decide) all0 (fun v163 h164 L165 q166 K167 => ?_)
                obtain rfl := q166
                show Go _ _ _ _ _ _ _ _ _ _ _ _ _ _ _ _ _ _ _ _ _ _ (mkF _ 286 #[.val (.int p0), .val (.int p1), .val (.int p2), .val (.int p3), .val (.int p4), .val (.ref a1), .val (.int v6_58), .val (.ref (kA v6_58 u0 u1 u2 u3 u4 u5 u6)), .val (.int v8_59), .val (.int v9_60), .val (.int (0 : Int32)), .val (.int v11_105), .val (.int v12_106), .val (.int y13_107), .val (.int y14_108), .val (.ref s109), .val (.ref s120), .val (.ref a131), .val (.int v18_158), .unset] [(.int (foldI v12_106))])
                refine g_iload C at_286 rfl ?_
                refine g_invokestatic [(.int y14_108)] [(.int (foldI v12_106))] 1 C at_288 (hw _ (List.mem_of_getElem? (i := 115) rfl)) (hw _ (List.mem_of_getElem? (i := 116) rfl)) (hw _ (List.mem_of_getElem? (i := 21) rfl)) (hw _ (List.mem_of_getElem? (i := 117) rfl)) (by decide) (m_fold l Z a0 hw S0 hz0 S1 S2 S3 S4 S5 S6 S7 _ _) (lenOf pd11 rfl) rfl rfl (Nat.le_of_ble_eq_true rfl) (by decide) (by decide) (by decide) (by decide) all0 (fun v168 h169 L170 q171 K172 => ?_)
                obtain rfl := q171
                show Go _ _ _ _ _ _ _ _ _ _ _ _ _ _ _ _ _ _ _ _ _ _ (mkF _ 291 #[.val (.int p0), .val (.int p1), .val (.int p2), .val (.int p3), .val (.int p4), .val (.ref a1), .val (.int v6_58), .val (.ref (kA v6_58 u0 u1 u2 u3 u4 u5 u6)), .val (.int v8_59), .val (.int v9_60), .val (.int (0 : Int32)), .val (.int v11_105), .val (.int v12_106), .val (.int y13_107), .val (.int y14_108), .val (.ref s109), .val (.ref s120), .val (.ref a131), .val (.int v18_158), .unset] [(.int (foldI y14_108)), (.int (foldI v12_106))])
                by_cases cc173 : (foldI v12_106) = (foldI y14_108)
                · skip
                  refine g_icmpF C at_291 (show (foldI v12_106) = (foldI y14_108) from cc173) ?_
                  refine g_iconst (1 : Int32) C at_294 (by decide) ?_
                  refine g_goto 299 C at_295 (by decide) (by decide) ?_
                  refine g_istore #[.val (.int p0), .val (.int p1), .val (.int p2), .val (.int p3), .val (.int p4), .val (.ref a1), .val (.int v6_58), .val (.ref (kA v6_58 u0 u1 u2 u3 u4 u5 u6)), .val (.int v8_59), .val (.int v9_60), .val (.int (0 : Int32)), .val (.int v11_105), .val (.int v12_106), .val (.int y13_107), .val (.int y14_108), .val (.ref s109), .val (.ref s120), .val (.ref a131), .val (.int v18_158), .val (.int (1 : Int32))] C at_299 rfl ?_
                  refine g_goto 356 C at_301 (by decide) (by decide) ?_
                  refine g_iload C at_356 rfl ?_
                  refine g_iload C at_358 rfl ?_
                  refine g_icmpF C at_360 (show v18_158 = (1 : Int32) from (by rw [hv18_158]; simp only [eq_false cc61, eq_true cc159, eq_true cc160, eq_true cc161, eq_false cc162, eq_true cc173, eq_false (show ¬ v6_58 = 5 by rw [cc159]; decide)]; simp)) ?_
                  refine g_iconst (1 : Int32) C at_363 (by decide) ?_
                  refine g_goto 368 C at_364 (by decide) (by decide) ?_
                  exact g_retN C at_368 (by simp) rfl (by decide) (by decide)
                · skip
                  refine g_icmpT 298 C at_291 (show ¬ (foldI v12_106) = (foldI y14_108) from cc173) (by decide) (by decide) ?_
                  refine g_iconst (0 : Int32) C at_298 (by decide) ?_
                  refine g_istore #[.val (.int p0), .val (.int p1), .val (.int p2), .val (.int p3), .val (.int p4), .val (.ref a1), .val (.int v6_58), .val (.ref (kA v6_58 u0 u1 u2 u3 u4 u5 u6)), .val (.int v8_59), .val (.int v9_60), .val (.int (0 : Int32)), .val (.int v11_105), .val (.int v12_106), .val (.int y13_107), .val (.int y14_108), .val (.ref s109), .val (.ref s120), .val (.ref a131), .val (.int v18_158), .val (.int (0 : Int32))] C at_299 rfl ?_
                  refine g_goto 356 C at_301 (by decide) (by decide) ?_
                  refine g_iload C at_356 rfl ?_
                  refine g_iload C at_358 rfl ?_
                  refine g_icmpF C at_360 (show v18_158 = (0 : Int32) from (by rw [hv18_158]; simp only [eq_false cc61, eq_true cc159, eq_true cc160, eq_true cc161, eq_false cc162, eq_false cc173, eq_false (show ¬ v6_58 = 5 by rw [cc159]; decide)]; simp)) ?_
                  refine g_iconst (1 : Int32) C at_363 (by decide) ?_
                  refine g_goto 368 C at_364 (by decide) (by decide) ?_
                  exact g_retN C at_368 (by simp) rfl (by decide) (by decide)
            · skip
              refine g_icmpF C at_259 (show ¬ v8_59 < (1 : Int32) from cc161) ?_
              refine g_iload C at_262 rfl ?_
              refine g_invokestatic [(.int v11_105)] [] 0 C at_264 (hw _ (List.mem_of_getElem? (i := 115) rfl)) (hw _ (List.mem_of_getElem? (i := 116) rfl)) (hw _ (List.mem_of_getElem? (i := 21) rfl)) (hw _ (List.mem_of_getElem? (i := 117) rfl)) (by decide) (m_fold l Z a0 hw S0 hz0 S1 S2 S3 S4 S5 S6 S7 _ _) (lenOf pd11 rfl) rfl rfl (Nat.le_of_ble_eq_true rfl) (by decide) (by decide) (by decide) (by decide) all0 (fun v174 h175 L176 q177 K178 => ?_)
              obtain rfl := q177
              show Go _ _ _ _ _ _ _ _ _ _ _ _ _ _ _ _ _ _ _ _ _ _ (mkF _ 267 #[.val (.int p0), .val (.int p1), .val (.int p2), .val (.int p3), .val (.int p4), .val (.ref a1), .val (.int v6_58), .val (.ref (kA v6_58 u0 u1 u2 u3 u4 u5 u6)), .val (.int v8_59), .val (.int v9_60), .val (.int (0 : Int32)), .val (.int v11_105), .val (.int v12_106), .val (.int y13_107), .val (.int y14_108), .val (.ref s109), .val (.ref s120), .val (.ref a131), .val (.int v18_158), .unset] [(.int (foldI v11_105))])
              refine g_iload C at_267 rfl ?_
              refine g_invokestatic [(.int y13_107)] [(.int (foldI v11_105))] 1 C at_269 (hw _ (List.mem_of_getElem? (i := 115) rfl)) (hw _ (List.mem_of_getElem? (i := 116) rfl)) (hw _ (List.mem_of_getElem? (i := 21) rfl)) (hw _ (List.mem_of_getElem? (i := 117) rfl)) (by decide) (m_fold l Z a0 hw S0 hz0 S1 S2 S3 S4 S5 S6 S7 _ _) (lenOf pd11 rfl) rfl rfl (Nat.le_of_ble_eq_true rfl) (by decide) (by decide) (by decide) (by decide) all0 (fun v179 h180 L181 q182 K183 => ?_)
              obtain rfl := q182
              show Go _ _ _ _ _ _ _ _ _ _ _ _ _ _ _ _ _ _ _ _ _ _ (mkF _ 272 #[.val (.int p0), .val (.int p1), .val (.int p2), .val (.int p3), .val (.int p4), .val (.ref a1), .val (.int v6_58), .val (.ref (kA v6_58 u0 u1 u2 u3 u4 u5 u6)), .val (.int v8_59), .val (.int v9_60), .val (.int (0 : Int32)), .val (.int v11_105), .val (.int v12_106), .val (.int y13_107), .val (.int y14_108), .val (.ref s109), .val (.ref s120), .val (.ref a131), .val (.int v18_158), .unset] [(.int (foldI y13_107)), (.int (foldI v11_105))])
              by_cases cc184 : (foldI v11_105) = (foldI y13_107)
              · skip
                refine g_icmpF C at_272 (show (foldI v11_105) = (foldI y13_107) from cc184) ?_
                refine g_iload C at_275 rfl ?_
                refine g_iconst (2 : Int32) C at_277 (by decide) ?_
                by_cases cc185 : v8_59 < (2 : Int32)
                · skip
                  refine g_icmpT 294 C at_278 (show v8_59 < (2 : Int32) from cc185) (by decide) (by decide) ?_
                  refine g_iconst (1 : Int32) C at_294 (by decide) ?_
                  refine g_goto 299 C at_295 (by decide) (by decide) ?_
                  refine g_istore #[.val (.int p0), .val (.int p1), .val (.int p2), .val (.int p3), .val (.int p4), .val (.ref a1), .val (.int v6_58), .val (.ref (kA v6_58 u0 u1 u2 u3 u4 u5 u6)), .val (.int v8_59), .val (.int v9_60), .val (.int (0 : Int32)), .val (.int v11_105), .val (.int v12_106), .val (.int y13_107), .val (.int y14_108), .val (.ref s109), .val (.ref s120), .val (.ref a131), .val (.int v18_158), .val (.int (1 : Int32))] C at_299 rfl ?_
                  refine g_goto 356 C at_301 (by decide) (by decide) ?_
                  refine g_iload C at_356 rfl ?_
                  refine g_iload C at_358 rfl ?_
                  refine g_icmpF C at_360 (show v18_158 = (1 : Int32) from (by rw [hv18_158]; simp only [eq_false cc61, eq_true cc159, eq_true cc160, eq_false cc161, eq_true cc184, eq_true cc185, eq_false (show ¬ v6_58 = 5 by rw [cc159]; decide)]; simp)) ?_
                  refine g_iconst (1 : Int32) C at_363 (by decide) ?_
                  refine g_goto 368 C at_364 (by decide) (by decide) ?_
                  exact g_retN C at_368 (by simp) rfl (by decide) (by decide)
                · skip
                  refine g_icmpF C at_278 (show ¬ v8_59 < (2 : Int32) from cc185) ?_
                  refine g_iload C at_281 rfl ?_
                  refine g_invokestatic [(.int v12_106)] [] 0 C at_283 (hw _ (List.mem_of_getElem? (i := 115) rfl)) (hw _ (List.mem_of_getElem? (i := 116) rfl)) (hw _ (List.mem_of_getElem? (i := 21) rfl)) (hw _ (List.mem_of_getElem? (i := 117) rfl)) (by decide) (m_fold l Z a0 hw S0 hz0 S1 S2 S3 S4 S5 S6 S7 _ _) (lenOf pd11 rfl) rfl rfl (Nat.le_of_ble_eq_true rfl) (by decide) (by decide) (by decide) (by decide) all0 (fun v186 h187 L188 q189 K190 => ?_)
                  obtain rfl := q189
                  show Go _ _ _ _ _ _ _ _ _ _ _ _ _ _ _ _ _ _ _ _ _ _ (mkF _ 286 #[.val (.int p0), .val (.int p1), .val (.int p2), .val (.int p3), .val (.int p4), .val (.ref a1), .val (.int v6_58), .val (.ref (kA v6_58 u0 u1 u2 u3 u4 u5 u6)), .val (.int v8_59), .val (.int v9_60), .val (.int (0 : Int32)), .val (.int v11_105), .val (.int v12_106), .val (.int y13_107), .val (.int y14_108), .val (.ref s109), .val (.ref s120), .val (.ref a131), .val (.int v18_158), .unset] [(.int (foldI v12_106))])
                  refine g_iload C at_286 rfl ?_
                  refine g_invokestatic [(.int y14_108)] [(.int (foldI v12_106))] 1 C at_288 (hw _ (List.mem_of_getElem? (i := 115) rfl)) (hw _ (List.mem_of_getElem? (i := 116) rfl)) (hw _ (List.mem_of_getElem? (i := 21) rfl)) (hw _ (List.mem_of_getElem? (i := 117) rfl)) (by decide) (m_fold l Z a0 hw S0 hz0 S1 S2 S3 S4 S5 S6 S7 _ _) (lenOf pd11 rfl) rfl rfl (Nat.le_of_ble_eq_true rfl) (by decide) (by decide) (by decide) (by decide) all0 (fun v191 h192 L193 q194 K195 => ?_)
                  obtain rfl := q194
                  show Go _ _ _ _ _ _ _ _ _ _ _ _ _ _ _ _ _ _ _ _ _ _ (mkF _ 291 #[.val (.int p0), .val (.int p1), .val (.int p2), .val (.int p3), .val (.int p4), .val (.ref a1), .val (.int v6_58), .val (.ref (kA v6_58 u0 u1 u2 u3 u4 u5 u6)), .val (.int v8_59), .val (.int v9_60), .val (.int (0 : Int32)), .val (.int v11_105), .val (.int v12_106), .val (.int y13_107), .val (.int y14_108), .val (.ref s109), .val (.ref s120), .val (.ref a131), .val (.int v18_158), .unset] [(.int (foldI y14_108)), (.int (foldI v12_106))])
                  by_cases cc196 : (foldI v12_106) = (foldI y14_108)
                  · skip
                    refine g_icmpF C at_291 (show (foldI v12_106) = (foldI y14_108) from cc196) ?_
                    refine g_iconst (1 : Int32) C at_294 (by decide) ?_
                    refine g_goto 299 C at_295 (by decide) (by decide) ?_
                    refine g_istore #[.val (.int p0), .val (.int p1), .val (.int p2), .val (.int p3), .val (.int p4), .val (.ref a1), .val (.int v6_58), .val (.ref (kA v6_58 u0 u1 u2 u3 u4 u5 u6)), .val (.int v8_59), .val (.int v9_60), .val (.int (0 : Int32)), .val (.int v11_105), .val (.int v12_106), .val (.int y13_107), .val (.int y14_108), .val (.ref s109), .val (.ref s120), .val (.ref a131), .val (.int v18_158), .val (.int (1 : Int32))] C at_299 rfl ?_
                    refine g_goto 356 C at_301 (by decide) (by decide) ?_
                    refine g_iload C at_356 rfl ?_
                    refine g_iload C at_358 rfl ?_
                    refine g_icmpF C at_360 (show v18_158 = (1 : Int32) from (by rw [hv18_158]; simp only [eq_false cc61, eq_true cc159, eq_true cc160, eq_false cc161, eq_true cc184, eq_false cc185, eq_true cc196, eq_false (show ¬ v6_58 = 5 by rw [cc159]; decide)]; simp)) ?_
                    refine g_iconst (1 : Int32) C at_363 (by decide) ?_
                    refine g_goto 368 C at_364 (by decide) (by decide) ?_
                    exact g_retN C at_368 (by simp) rfl (by decide) (by decide)
                  · skip
                    refine g_icmpT 298 C at_291 (show ¬ (foldI v12_106) = (foldI y14_108) from cc196) (by decide) (by decide) ?_
                    refine g_iconst (0 : Int32) C at_298 (by decide) ?_
                    refine g_istore #[.val (.int p0), .val (.int p1), .val (.int p2), .val (.int p3), .val (.int p4), .val (.ref a1), .val (.int v6_58), .val (.ref (kA v6_58 u0 u1 u2 u3 u4 u5 u6)), .val (.int v8_59), .val (.int v9_60), .val (.int (0 : Int32)), .val (.int v11_105), .val (.int v12_106), .val (.int y13_107), .val (.int y14_108), .val (.ref s109), .val (.ref s120), .val (.ref a131), .val (.int v18_158), .val (.int (0 : Int32))] C at_299 rfl ?_
                    refine g_goto 356 C at_301 (by decide) (by decide) ?_
                    refine g_iload C at_356 rfl ?_
                    refine g_iload C at_358 rfl ?_
                    refine g_icmpF C at_360 (show v18_158 = (0 : Int32) from (by rw [hv18_158]; simp only [eq_false cc61, eq_true cc159, eq_true cc160, eq_false cc161, eq_true cc184, eq_false cc185, eq_false cc196, eq_false (show ¬ v6_58 = 5 by rw [cc159]; decide)]; simp)) ?_
                    refine g_iconst (1 : Int32) C at_363 (by decide) ?_
                    refine g_goto 368 C at_364 (by decide) (by decide) ?_
                    exact g_retN C at_368 (by simp) rfl (by decide) (by decide)
              · skip
                refine g_icmpT 298 C at_272 (show ¬ (foldI v11_105) = (foldI y13_107) from cc184) (by decide) (by decide) ?_
                refine g_iconst (0 : Int32) C at_298 (by decide) ?_
                refine g_istore #[.val (.int p0), .val (.int p1), .val (.int p2), .val (.int p3), .val (.int p4), .val (.ref a1), .val (.int v6_58), .val (.ref (kA v6_58 u0 u1 u2 u3 u4 u5 u6)), .val (.int v8_59), .val (.int v9_60), .val (.int (0 : Int32)), .val (.int v11_105), .val (.int v12_106), .val (.int y13_107), .val (.int y14_108), .val (.ref s109), .val (.ref s120), .val (.ref a131), .val (.int v18_158), .val (.int (0 : Int32))] C at_299 rfl ?_
                refine g_goto 356 C at_301 (by decide) (by decide) ?_
                refine g_iload C at_356 rfl ?_
                refine g_iload C at_358 rfl ?_
                refine g_icmpF C at_360 (show v18_158 = (0 : Int32) from (by rw [hv18_158]; simp only [eq_false cc61, eq_true cc159, eq_true cc160, eq_false cc161, eq_false cc184, eq_false (show ¬ v6_58 = 5 by rw [cc159]; decide)]; simp)) ?_
                refine g_iconst (1 : Int32) C at_363 (by decide) ?_
                refine g_goto 368 C at_364 (by decide) (by decide) ?_
                exact g_retN C at_368 (by simp) rfl (by decide) (by decide)
          · skip
            refine g_icmpT 298 C at_253 (show ¬ v8_59 = v9_60 from cc160) (by decide) (by decide) ?_
            refine g_iconst (0 : Int32) C at_298 (by decide) ?_
            refine g_istore #[.val (.int p0), .val (.int p1), .val (.int p2), .val (.int p3), .val (.int p4), .val (.ref a1), .val (.int v6_58), .val (.ref (kA v6_58 u0 u1 u2 u3 u4 u5 u6)), .val (.int v8_59), .val (.int v9_60), .val (.int (0 : Int32)), .val (.int v11_105), .val (.int v12_106), .val (.int y13_107), .val (.int y14_108), .val (.ref s109), .val (.ref s120), .val (.ref a131), .val (.int v18_158), .val (.int (0 : Int32))] C at_299 rfl ?_
            refine g_goto 356 C at_301 (by decide) (by decide) ?_
            refine g_iload C at_356 rfl ?_
            refine g_iload C at_358 rfl ?_
            refine g_icmpF C at_360 (show v18_158 = (0 : Int32) from (by rw [hv18_158]; simp only [eq_false cc61, eq_true cc159, eq_false cc160, eq_false (show ¬ v6_58 = 5 by rw [cc159]; decide)]; simp)) ?_
            refine g_iconst (1 : Int32) C at_363 (by decide) ?_
            refine g_goto 368 C at_364 (by decide) (by decide) ?_
            exact g_retN C at_368 (by simp) rfl (by decide) (by decide)
        · skip
          refine g_ifT 304 C at_246 (show ¬ v6_58 = (0 : Int32) from cc159) (by decide) (by decide) ?_
          refine g_iload C at_304 rfl ?_
          refine g_iconst (5 : Int32) C at_306 (by decide) ?_
          by_cases cc197 : v6_58 = (5 : Int32)
          · skip
            refine g_icmpF C at_307 (show v6_58 = (5 : Int32) from cc197) ?_
            refine g_iload C at_310 rfl ?_
            refine g_iload C at_312 rfl ?_
            by_cases cc198 : v8_59 = v9_60
            · skip
              refine g_icmpF C at_314 (show v8_59 = v9_60 from cc198) ?_
              refine g_iload C at_317 rfl ?_
              refine g_iconst (1 : Int32) C at_319 (by decide) ?_
              by_cases cc199 : v8_59 < (1 : Int32)
              · skip
                refine g_icmpT 330 C at_320 (show v8_59 < (1 : Int32) from cc199) (by decide) (by decide) ?_
                refine g_iload C at_330 rfl ?_
                refine g_iconst (2 : Int32) C at_332 (by decide) ?_
                by_cases cc200 : v8_59 < (2 : Int32)
                · skip
                  refine g_icmpT 343 C at_333 (show v8_59 < (2 : Int32) from cc200) (by decide) (by decide) ?_
                  refine g_iconst (1 : Int32) C at_343 (by decide) ?_
                  refine g_goto 348 C at_344 (by decide) (by decide) ?_
                  refine g_istore #[.val (.int p0), .val (.int p1), .val (.int p2), .val (.int p3), .val (.int p4), .val (.ref a1), .val (.int v6_58), .val (.ref (kA v6_58 u0 u1 u2 u3 u4 u5 u6)), .val (.int v8_59), .val (.int v9_60), .val (.int (0 : Int32)), .val (.int v11_105), .val (.int v12_106), .val (.int y13_107), .val (.int y14_108), .val (.ref s109), .val (.ref s120), .val (.ref a131), .val (.int v18_158), .val (.int (1 : Int32))] C at_348 rfl ?_
                  refine g_goto 356 C at_350 (by decide) (by decide) ?_
                  refine g_iload C at_356 rfl ?_
                  refine g_iload C at_358 rfl ?_
                  refine g_icmpF C at_360 (show v18_158 = (1 : Int32) from (by rw [hv18_158]; simp only [eq_false cc61, eq_false cc159, eq_true cc197, eq_true cc198, eq_true cc199, eq_true cc200]; simp)) ?_
                  refine g_iconst (1 : Int32) C at_363 (by decide) ?_
                  refine g_goto 368 C at_364 (by decide) (by decide) ?_
                  exact g_retN C at_368 (by simp) rfl (by decide) (by decide)
                · skip
                  refine g_icmpF C at_333 (show ¬ v8_59 < (2 : Int32) from cc200) ?_
                  refine g_iload C at_336 rfl ?_
                  refine g_iload C at_338 rfl ?_
                  by_cases cc201 : v12_106 = y14_108
                  · skip
                    refine g_icmpF C at_340 (show v12_106 = y14_108 from cc201) ?_
                    refine g_iconst (1 : Int32) C at_343 (by decide) ?_
                    refine g_goto 348 C at_344 (by decide) (by decide) ?_
                    refine g_istore #[.val (.int p0), .val (.int p1), .val (.int p2), .val (.int p3), .val (.int p4), .val (.ref a1), .val (.int v6_58), .val (.ref (kA v6_58 u0 u1 u2 u3 u4 u5 u6)), .val (.int v8_59), .val (.int v9_60), .val (.int (0 : Int32)), .val (.int v11_105), .val (.int v12_106), .val (.int y13_107), .val (.int y14_108), .val (.ref s109), .val (.ref s120), .val (.ref a131), .val (.int v18_158), .val (.int (1 : Int32))] C at_348 rfl ?_
                    refine g_goto 356 C at_350 (by decide) (by decide) ?_
                    refine g_iload C at_356 rfl ?_
                    refine g_iload C at_358 rfl ?_
                    refine g_icmpF C at_360 (show v18_158 = (1 : Int32) from (by rw [hv18_158]; simp only [eq_false cc61, eq_false cc159, eq_true cc197, eq_true cc198, eq_true cc199, eq_false cc200, eq_true cc201]; simp)) ?_
                    refine g_iconst (1 : Int32) C at_363 (by decide) ?_
                    refine g_goto 368 C at_364 (by decide) (by decide) ?_
                    exact g_retN C at_368 (by simp) rfl (by decide) (by decide)
                  · skip
                    refine g_icmpT 347 C at_340 (show ¬ v12_106 = y14_108 from cc201) (by decide) (by decide) ?_
                    refine g_iconst (0 : Int32) C at_347 (by decide) ?_
                    refine g_istore #[.val (.int p0), .val (.int p1), .val (.int p2), .val (.int p3), .val (.int p4), .val (.ref a1), .val (.int v6_58), .val (.ref (kA v6_58 u0 u1 u2 u3 u4 u5 u6)), .val (.int v8_59), .val (.int v9_60), .val (.int (0 : Int32)), .val (.int v11_105), .val (.int v12_106), .val (.int y13_107), .val (.int y14_108), .val (.ref s109), .val (.ref s120), .val (.ref a131), .val (.int v18_158), .val (.int (0 : Int32))] C at_348 rfl ?_
                    refine g_goto 356 C at_350 (by decide) (by decide) ?_
                    refine g_iload C at_356 rfl ?_
                    refine g_iload C at_358 rfl ?_
                    refine g_icmpF C at_360 (show v18_158 = (0 : Int32) from (by rw [hv18_158]; simp only [eq_false cc61, eq_false cc159, eq_true cc197, eq_true cc198, eq_true cc199, eq_false cc200, eq_false cc201]; simp)) ?_
                    refine g_iconst (1 : Int32) C at_363 (by decide) ?_
                    refine g_goto 368 C at_364 (by decide) (by decide) ?_
                    exact g_retN C at_368 (by simp) rfl (by decide) (by decide)
              · skip
                refine g_icmpF C at_320 (show ¬ v8_59 < (1 : Int32) from cc199) ?_
                refine g_iload C at_323 rfl ?_
                refine g_iload C at_325 rfl ?_
                by_cases cc202 : v11_105 = y13_107
                · skip
                  refine g_icmpF C at_327 (show v11_105 = y13_107 from cc202) ?_
                  refine g_iload C at_330 rfl ?_
                  refine g_iconst (2 : Int32) C at_332 (by decide) ?_
                  by_cases cc203 : v8_59 < (2 : Int32)
                  · skip
                    refine g_icmpT 343 C at_333 (show v8_59 < (2 : Int32) from cc203) (by decide) (by decide) ?_
                    refine g_iconst (1 : Int32) C at_343 (by decide) ?_
                    refine g_goto 348 C at_344 (by decide) (by decide) ?_
                    refine g_istore #[.val (.int p0), .val (.int p1), .val (.int p2), .val (.int p3), .val (.int p4), .val (.ref a1), .val (.int v6_58), .val (.ref (kA v6_58 u0 u1 u2 u3 u4 u5 u6)), .val (.int v8_59), .val (.int v9_60), .val (.int (0 : Int32)), .val (.int v11_105), .val (.int v12_106), .val (.int y13_107), .val (.int y14_108), .val (.ref s109), .val (.ref s120), .val (.ref a131), .val (.int v18_158), .val (.int (1 : Int32))] C at_348 rfl ?_
                    refine g_goto 356 C at_350 (by decide) (by decide) ?_
                    refine g_iload C at_356 rfl ?_
                    refine g_iload C at_358 rfl ?_
                    refine g_icmpF C at_360 (show v18_158 = (1 : Int32) from (by rw [hv18_158]; simp only [eq_false cc61, eq_false cc159, eq_true cc197, eq_true cc198, eq_false cc199, eq_true cc202, eq_true cc203]; simp)) ?_
                    refine g_iconst (1 : Int32) C at_363 (by decide) ?_
                    refine g_goto 368 C at_364 (by decide) (by decide) ?_
                    exact g_retN C at_368 (by simp) rfl (by decide) (by decide)
                  · skip
                    refine g_icmpF C at_333 (show ¬ v8_59 < (2 : Int32) from cc203) ?_
                    refine g_iload C at_336 rfl ?_
                    refine g_iload C at_338 rfl ?_
                    by_cases cc204 : v12_106 = y14_108
                    · skip
                      refine g_icmpF C at_340 (show v12_106 = y14_108 from cc204) ?_
                      refine g_iconst (1 : Int32) C at_343 (by decide) ?_
                      refine g_goto 348 C at_344 (by decide) (by decide) ?_
                      refine g_istore #[.val (.int p0), .val (.int p1), .val (.int p2), .val (.int p3), .val (.int p4), .val (.ref a1), .val (.int v6_58), .val (.ref (kA v6_58 u0 u1 u2 u3 u4 u5 u6)), .val (.int v8_59), .val (.int v9_60), .val (.int (0 : Int32)), .val (.int v11_105), .val (.int v12_106), .val (.int y13_107), .val (.int y14_108), .val (.ref s109), .val (.ref s120), .val (.ref a131), .val (.int v18_158), .val (.int (1 : Int32))] C at_348 rfl ?_
                      refine g_goto 356 C at_350 (by decide) (by decide) ?_
                      refine g_iload C at_356 rfl ?_
                      refine g_iload C at_358 rfl ?_
                      refine g_icmpF C at_360 (show v18_158 = (1 : Int32) from (by rw [hv18_158]; simp only [eq_false cc61, eq_false cc159, eq_true cc197, eq_true cc198, eq_false cc199, eq_true cc202, eq_false cc203, eq_true cc204]; simp)) ?_
                      refine g_iconst (1 : Int32) C at_363 (by decide) ?_
                      refine g_goto 368 C at_364 (by decide) (by decide) ?_
                      exact g_retN C at_368 (by simp) rfl (by decide) (by decide)
                    · skip
                      refine g_icmpT 347 C at_340 (show ¬ v12_106 = y14_108 from cc204) (by decide) (by decide) ?_
                      refine g_iconst (0 : Int32) C at_347 (by decide) ?_
                      refine g_istore #[.val (.int p0), .val (.int p1), .val (.int p2), .val (.int p3), .val (.int p4), .val (.ref a1), .val (.int v6_58), .val (.ref (kA v6_58 u0 u1 u2 u3 u4 u5 u6)), .val (.int v8_59), .val (.int v9_60), .val (.int (0 : Int32)), .val (.int v11_105), .val (.int v12_106), .val (.int y13_107), .val (.int y14_108), .val (.ref s109), .val (.ref s120), .val (.ref a131), .val (.int v18_158), .val (.int (0 : Int32))] C at_348 rfl ?_
                      refine g_goto 356 C at_350 (by decide) (by decide) ?_
                      refine g_iload C at_356 rfl ?_
                      refine g_iload C at_358 rfl ?_
                      refine g_icmpF C at_360 (show v18_158 = (0 : Int32) from (by rw [hv18_158]; simp only [eq_false cc61, eq_false cc159, eq_true cc197, eq_true cc198, eq_false cc199, eq_true cc202, eq_false cc203, eq_false cc204]; simp)) ?_
                      refine g_iconst (1 : Int32) C at_363 (by decide) ?_
                      refine g_goto 368 C at_364 (by decide) (by decide) ?_
                      exact g_retN C at_368 (by simp) rfl (by decide) (by decide)
                · skip
                  refine g_icmpT 347 C at_327 (show ¬ v11_105 = y13_107 from cc202) (by decide) (by decide) ?_
                  refine g_iconst (0 : Int32) C at_347 (by decide) ?_
                  refine g_istore #[.val (.int p0), .val (.int p1), .val (.int p2), .val (.int p3), .val (.int p4), .val (.ref a1), .val (.int v6_58), .val (.ref (kA v6_58 u0 u1 u2 u3 u4 u5 u6)), .val (.int v8_59), .val (.int v9_60), .val (.int (0 : Int32)), .val (.int v11_105), .val (.int v12_106), .val (.int y13_107), .val (.int y14_108), .val (.ref s109), .val (.ref s120), .val (.ref a131), .val (.int v18_158), .val (.int (0 : Int32))] C at_348 rfl ?_
                  refine g_goto 356 C at_350 (by decide) (by decide) ?_
                  refine g_iload C at_356 rfl ?_
                  refine g_iload C at_358 rfl ?_
                  refine g_icmpF C at_360 (show v18_158 = (0 : Int32) from (by rw [hv18_158]; simp only [eq_false cc61, eq_false cc159, eq_true cc197, eq_true cc198, eq_false cc199, eq_false cc202]; simp)) ?_
                  refine g_iconst (1 : Int32) C at_363 (by decide) ?_
                  refine g_goto 368 C at_364 (by decide) (by decide) ?_
                  exact g_retN C at_368 (by simp) rfl (by decide) (by decide)
            · skip
              refine g_icmpT 347 C at_314 (show ¬ v8_59 = v9_60 from cc198) (by decide) (by decide) ?_
              refine g_iconst (0 : Int32) C at_347 (by decide) ?_
              refine g_istore #[.val (.int p0), .val (.int p1), .val (.int p2), .val (.int p3), .val (.int p4), .val (.ref a1), .val (.int v6_58), .val (.ref (kA v6_58 u0 u1 u2 u3 u4 u5 u6)), .val (.int v8_59), .val (.int v9_60), .val (.int (0 : Int32)), .val (.int v11_105), .val (.int v12_106), .val (.int y13_107), .val (.int y14_108), .val (.ref s109), .val (.ref s120), .val (.ref a131), .val (.int v18_158), .val (.int (0 : Int32))] C at_348 rfl ?_
              refine g_goto 356 C at_350 (by decide) (by decide) ?_
              refine g_iload C at_356 rfl ?_
              refine g_iload C at_358 rfl ?_
              refine g_icmpF C at_360 (show v18_158 = (0 : Int32) from (by rw [hv18_158]; simp only [eq_false cc61, eq_false cc159, eq_true cc197, eq_false cc198]; simp)) ?_
              refine g_iconst (1 : Int32) C at_363 (by decide) ?_
              refine g_goto 368 C at_364 (by decide) (by decide) ?_
              exact g_retN C at_368 (by simp) rfl (by decide) (by decide)
          · skip
            refine g_icmpT 353 C at_307 (show ¬ v6_58 = (5 : Int32) from cc197) (by decide) (by decide) ?_
            refine g_iconst (0 : Int32) C at_353 (by decide) ?_
            refine g_istore #[.val (.int p0), .val (.int p1), .val (.int p2), .val (.int p3), .val (.int p4), .val (.ref a1), .val (.int v6_58), .val (.ref (kA v6_58 u0 u1 u2 u3 u4 u5 u6)), .val (.int v8_59), .val (.int v9_60), .val (.int (0 : Int32)), .val (.int v11_105), .val (.int v12_106), .val (.int y13_107), .val (.int y14_108), .val (.ref s109), .val (.ref s120), .val (.ref a131), .val (.int v18_158), .val (.int (0 : Int32))] C at_354 rfl ?_
            refine g_iload C at_356 rfl ?_
            refine g_iload C at_358 rfl ?_
            refine g_icmpF C at_360 (show v18_158 = (0 : Int32) from (by rw [hv18_158]; simp only [eq_false cc61, eq_false cc159, eq_false cc197]; simp)) ?_
            refine g_iconst (1 : Int32) C at_363 (by decide) ?_
            refine g_goto 368 C at_364 (by decide) (by decide) ?_
            exact g_retN C at_368 (by simp) rfl (by decide) (by decide)
      · skip
        refine g_iloadN C at_147 rfl ?_
        refine g_iconst (2 : Int32) C at_148 (by decide) ?_
        refine g_iand _ C at_149 rfl ?_
        by_cases cc205 : (p3 &&& (2 : Int32)) = (0 : Int32)
        · skip
          refine g_ifT 166 C at_150 (show (p3 &&& (2 : Int32)) = (0 : Int32) from cc205) (by decide) (by decide) ?_
          refine g_iloadN C at_166 rfl ?_
          refine g_bipush (16 : Int32) C at_167 (by decide) ?_
          refine g_iushr _ C at_169 rfl ?_
          refine g_sipush (255 : Int32) C at_170 (by decide) ?_
          refine g_iand _ C at_173 rfl ?_
          refine g_i2c ((XT.ushr p3 (16 : Int32)) &&& (255 : Int32)) C at_174 (i2c_mask _) ?_
          exact J ⟨_, own_mask255 _⟩
        · skip
          refine g_ifF C at_150 (show ¬ (p3 &&& (2 : Int32)) = (0 : Int32) from cc205) ?_
          refine g_iload C at_153 rfl ?_
          refine g_iloadN C at_155 rfl ?_
          refine g_iconst (1 : Int32) C at_156 (by decide) ?_
          refine g_iushr _ C at_157 rfl ?_
          refine g_bipush (32 : Int32) C at_158 (by decide) ?_
          refine g_iand _ C at_160 rfl ?_
          refine g_ixor _ C at_161 rfl ?_
          refine g_i2c _ C at_162 rfl ?_
          refine g_goto 175 C at_163 (by decide) (by decide) ?_
          exact J ⟨_, own_xor b12⟩
    · skip
      refine g_iloadN C at_119 rfl ?_
      refine g_iconst (1 : Int32) C at_120 (by decide) ?_
      refine g_iand _ C at_121 rfl ?_
      by_cases cc206 : (p3 &&& (1 : Int32)) = (0 : Int32)
      · skip
        refine g_ifT 136 C at_122 (show (p3 &&& (1 : Int32)) = (0 : Int32) from cc206) (by decide) (by decide) ?_
        refine g_iloadN C at_136 rfl ?_
        refine g_bipush (8 : Int32) C at_137 (by decide) ?_
        refine g_iushr _ C at_139 rfl ?_
        refine g_sipush (255 : Int32) C at_140 (by decide) ?_
        refine g_iand _ C at_143 rfl ?_
        refine g_i2c ((XT.ushr p3 (8 : Int32)) &&& (255 : Int32)) C at_144 (i2c_mask _) ?_
        exact J ⟨_, own_mask255 _⟩
      · skip
        refine g_ifF C at_122 (show ¬ (p3 &&& (1 : Int32)) = (0 : Int32) from cc206) ?_
        refine g_iload C at_125 rfl ?_
        refine g_iloadN C at_127 rfl ?_
        refine g_bipush (32 : Int32) C at_128 (by decide) ?_
        refine g_iand _ C at_130 rfl ?_
        refine g_ixor _ C at_131 rfl ?_
        refine g_i2c _ C at_132 rfl ?_
        refine g_goto 145 C at_133 (by decide) (by decide) ?_
        exact J ⟨_, own_xor b11⟩
set_option maxRecDepth 65536 in
set_option maxHeartbeats 40000000 in
theorem comes_1 {Post : Tables → Env → Array Value → State → Outcome → State → Prop} (hpost : ∀ tb e args s v u, (limb_1_1.after args s (.returned v) u = true ∧ limb_1_2.after args s (.returned v) u = true ∧ True) → ReturnedEndW s (.returned v) u (Jvm.fieldLocs frame_1_writes args s ++ Jvm.arrayLocs frame_1_arrays args s ++ Jvm.staticLocs frame_1_statics s) 32 1152 → Post tb e args s (.returned v) u) :
    ArmFor flags0 classFile x code maxLocals ret World_1 tables_1 room_1 Calls_1 rest_1 Pre_1 Post := by
  intro l hfl _ _ p e ha hc hk s m args below hf hA hF happ hP
  obtain ⟨hcalls, hrest, hpre⟩ := hP
  obtain ⟨-, -, -, hnamed, -, -, -, hat⟩ := (Spec.applies_iff hf).mp happ
  obtain ⟨hg, hn⟩ := and_e (Cond.before_iff.mp (show (Jvm.Cond.and given_1 narrow_1).before args s = true from hpre))
  obtain ⟨h1, h2⟩ := and_e hg
  obtain ⟨g0, h2⟩ := and_e h2
  obtain ⟨g1, h2⟩ := and_e h2
  obtain ⟨g2, h2⟩ := and_e h2
  obtain ⟨g3, g4⟩ := and_e h2
  obtain ⟨w0, w1, w2, w3, w4, rfl⟩ : ∃ w0 w1 w2 w3 w4 : Value, args = #[w0, w1, w2, w3, w4] := by
    have hs : args.size = 5 := by simpa [Cond.value, given_1] using h1
    obtain ⟨L⟩ := args
    match L, hs with
    | [w0, w1, w2, w3, w4], _ => exact ⟨w0, w1, w2, w3, w4, rfl⟩
  have hw := fun d (hd : d ∈ tables_1) => atoms_spec (ws := Jvm.Cond.code x code maxLocals ret :: tables_1) hat d (List.mem_cons_of_mem _ hd)
  obtain ⟨i0, e0⟩ := is_v g0
  obtain rfl : w0 = (.int i0) := Option.some.inj e0
  obtain ⟨i1, e1⟩ := is_v g1
  obtain rfl : w1 = (.int i1) := Option.some.inj e1
  obtain ⟨i2, e2⟩ := is_v g2
  obtain rfl : w2 = (.int i2) := Option.some.inj e2
  obtain ⟨i3, e3⟩ := is_v g3
  obtain rfl : w3 = (.int i3) := Option.some.inj e3
  obtain ⟨i4, e4⟩ := is_v g4
  obtain rfl : w4 = (.int i4) := Option.some.inj e4
  obtain ⟨hsets, hown0⟩ := atoms_of _ (rest_1_c_eq ▸ (show rest_1_c.before _ s = true from hrest))
  have n5 := not_v (Cond.before_iff.mp (hsets _ (List.mem_of_getElem? (i := 2) rfl)))
  obtain ⟨i11, e10⟩ := is_v (Cond.before_iff.mp (hsets _ (List.mem_of_getElem? (i := 1) rfl)))
  have S0 : Sta s s.heap "java/lang/String" "COMPACT_STRINGS" "Z" (.int i11) := Sta.start e10 (Or.inl (hsets _ (List.mem_of_getElem? (i := 0) rfl)))
  have c17 : ¬ (i11 = (0 : Int32)) := gotF (Cond.eq_ints e10 (Term.int_eval (0))) n5
  obtain ⟨m0, hn⟩ := and_e hn
  obtain ⟨m1, hn⟩ := and_e hn
  obtain ⟨m2, hn⟩ := and_e hn
  obtain ⟨m3, hn⟩ := and_e hn
  obtain ⟨m4, hn⟩ := and_e hn
  obtain ⟨m5, hn⟩ := and_e hn
  obtain ⟨m6, hn⟩ := and_e hn
  obtain ⟨o3, hn⟩ := and_e hn
  obtain ⟨o0, hn⟩ := and_e hn
  obtain ⟨o5, hn⟩ := and_e hn
  obtain ⟨o1, hn⟩ := and_e hn
  obtain ⟨o6, hn⟩ := and_e hn
  obtain ⟨o2, hn⟩ := and_e hn
  have o4 := hn
  obtain ⟨q0, _, _, _, d0, -⟩ := Cond.exactly_spec (Cond.before_iff.mpr m0)
  have X0 : Exa s s.heap q0 "com/example/entidad/entidad/query/Token$Kind" := Exa.start d0 m0
  have T0 : Sta s s.heap "com/example/entidad/entidad/query/Token$Kind" "IDENTIFIER" "Lcom/example/entidad/entidad/query/Token$Kind;" (.ref q0) := Sta.start d0 (Or.inr ⟨(hw _ (List.mem_of_getElem? (i := 3) rfl)), (hw _ (List.mem_of_getElem? (i := 4) rfl))⟩)
  have F0 : Fld s s.heap q0 "java/lang/Enum" "ordinal" "I" (.int 0) := Fld.start ((fld_at d0).symm.trans (eqv_i (Term.int_eval (0)) o0))
  obtain ⟨q1, _, _, _, d1, -⟩ := Cond.exactly_spec (Cond.before_iff.mpr m1)
  have X1 : Exa s s.heap q1 "com/example/entidad/entidad/query/Token$Kind" := Exa.start d1 m1
  have T1 : Sta s s.heap "com/example/entidad/entidad/query/Token$Kind" "STRING" "Lcom/example/entidad/entidad/query/Token$Kind;" (.ref q1) := Sta.start d1 (Or.inr ⟨(hw _ (List.mem_of_getElem? (i := 3) rfl)), (hw _ (List.mem_of_getElem? (i := 7) rfl))⟩)
  have F1 : Fld s s.heap q1 "java/lang/Enum" "ordinal" "I" (.int 1) := Fld.start ((fld_at d1).symm.trans (eqv_i (Term.int_eval (1)) o1))
  obtain ⟨q2, _, _, _, d2, -⟩ := Cond.exactly_spec (Cond.before_iff.mpr m2)
  have X2 : Exa s s.heap q2 "com/example/entidad/entidad/query/Token$Kind" := Exa.start d2 m2
  have T2 : Sta s s.heap "com/example/entidad/entidad/query/Token$Kind" "NUMBER" "Lcom/example/entidad/entidad/query/Token$Kind;" (.ref q2) := Sta.start d2 (Or.inr ⟨(hw _ (List.mem_of_getElem? (i := 3) rfl)), (hw _ (List.mem_of_getElem? (i := 9) rfl))⟩)
  have F2 : Fld s s.heap q2 "java/lang/Enum" "ordinal" "I" (.int 2) := Fld.start ((fld_at d2).symm.trans (eqv_i (Term.int_eval (2)) o2))
  obtain ⟨q3, _, _, _, d3, -⟩ := Cond.exactly_spec (Cond.before_iff.mpr m3)
  have X3 : Exa s s.heap q3 "com/example/entidad/entidad/query/Token$Kind" := Exa.start d3 m3
  have T3 : Sta s s.heap "com/example/entidad/entidad/query/Token$Kind" "NAMED_PARAMETER" "Lcom/example/entidad/entidad/query/Token$Kind;" (.ref q3) := Sta.start d3 (Or.inr ⟨(hw _ (List.mem_of_getElem? (i := 3) rfl)), (hw _ (List.mem_of_getElem? (i := 11) rfl))⟩)
  have F3 : Fld s s.heap q3 "java/lang/Enum" "ordinal" "I" (.int 3) := Fld.start ((fld_at d3).symm.trans (eqv_i (Term.int_eval (3)) o3))
  obtain ⟨q4, _, _, _, d4, -⟩ := Cond.exactly_spec (Cond.before_iff.mpr m4)
  have X4 : Exa s s.heap q4 "com/example/entidad/entidad/query/Token$Kind" := Exa.start d4 m4
  have T4 : Sta s s.heap "com/example/entidad/entidad/query/Token$Kind" "POSITIONAL_PARAMETER" "Lcom/example/entidad/entidad/query/Token$Kind;" (.ref q4) := Sta.start d4 (Or.inr ⟨(hw _ (List.mem_of_getElem? (i := 3) rfl)), (hw _ (List.mem_of_getElem? (i := 13) rfl))⟩)
  have F4 : Fld s s.heap q4 "java/lang/Enum" "ordinal" "I" (.int 4) := Fld.start ((fld_at d4).symm.trans (eqv_i (Term.int_eval (4)) o4))
  obtain ⟨q5, _, _, _, d5, -⟩ := Cond.exactly_spec (Cond.before_iff.mpr m5)
  have X5 : Exa s s.heap q5 "com/example/entidad/entidad/query/Token$Kind" := Exa.start d5 m5
  have T5 : Sta s s.heap "com/example/entidad/entidad/query/Token$Kind" "SYMBOL" "Lcom/example/entidad/entidad/query/Token$Kind;" (.ref q5) := Sta.start d5 (Or.inr ⟨(hw _ (List.mem_of_getElem? (i := 3) rfl)), (hw _ (List.mem_of_getElem? (i := 15) rfl))⟩)
  have F5 : Fld s s.heap q5 "java/lang/Enum" "ordinal" "I" (.int 5) := Fld.start ((fld_at d5).symm.trans (eqv_i (Term.int_eval (5)) o5))
  obtain ⟨q6, _, _, _, d6, -⟩ := Cond.exactly_spec (Cond.before_iff.mpr m6)
  have X6 : Exa s s.heap q6 "com/example/entidad/entidad/query/Token$Kind" := Exa.start d6 m6
  have T6 : Sta s s.heap "com/example/entidad/entidad/query/Token$Kind" "END" "Lcom/example/entidad/entidad/query/Token$Kind;" (.ref q6) := Sta.start d6 (Or.inr ⟨(hw _ (List.mem_of_getElem? (i := 3) rfl)), (hw _ (List.mem_of_getElem? (i := 17) rfl))⟩)
  have F6 : Fld s s.heap q6 "java/lang/Enum" "ordinal" "I" (.int 6) := Fld.start ((fld_at d6).symm.trans (eqv_i (Term.int_eval (6)) o6))
  have hheld : CHv s [("java/lang/String", 7)] s.vm s.heap := CHv.start (own_EW hw) (fun q hq => hcalls.1 q ((by decide : ∀ q ∈ ([("java/lang/String", 7)] : List (String × Nat)), q ∈ consts_1) q hq)) (hsets _ (List.mem_of_getElem? (i := 2) rfl)) (hw _ (List.mem_of_getElem? (i := 38) rfl)) (hw _ (List.mem_of_getElem? (i := 24) rfl))
  obtain ⟨n, o, h1, h2, h3, _, L, rfl, rfl, -, hfin, -, -, N⟩ := m_law l s _ hw S0 c17 T0 T1 T2 T3 T4 T5 T6 (F0.ne F1 (by decide)) (F0.ne F2 (by decide)) (F0.ne F3 (by decide)) (F0.ne F4 (by decide)) (F0.ne F5 (by decide)) (F0.ne F6 (by decide)) (F1.ne F2 (by decide)) (F1.ne F3 (by decide)) (F1.ne F4 (by decide)) (F1.ne F5 (by decide)) (F1.ne F6 (by decide)) (F2.ne F3 (by decide)) (F2.ne F4 (by decide)) (F2.ne F5 (by decide)) (F2.ne F6 (by decide)) (F3.ne F4 (by decide)) (F3.ne F5 (by decide)) (F3.ne F6 (by decide)) (F4.ne F5 (by decide)) (F4.ne F6 (by decide)) (F5.ne F6 (by decide)) i0 i1 i2 i3 i4 s.heap X0 X1 X2 X3 X4 X5 X6 p e ha hc hk s m _ below hf ((Spec.applies_iff_loose hf).mp happ).1 ⟨rfl, State.Warmed39.refl s, rfl, hheld, all0, ⟨Nat.le_refl _, fun _ _ q => q⟩⟩ trivial
  have hq := hfin.2
  refine ⟨n, _, h1, h2, h3, hpost _ _ _ _ _ _ ⟨Cond.after_iff.mpr rfl, Cond.after_iff.mpr (eq_i res_at (Term.int_eval (1)) rfl), trivial⟩ ⟨hq.1, hq.2.1, hq.2.2.1, (hq.2.2.2.sift fun y hy => Or.inr (N y hy)).mono (by decide) (by decide)⟩⟩
theorem main_1_1 : Claimed_1_1 := comes_1 fun _ _ _ _ _ _ h hF => ⟨h.1, hF⟩
theorem main_1_2 : Claimed_1_2 := comes_1 fun _ _ _ _ _ _ h hF => ⟨h.2.1, hF⟩
end Jvm.Pilot.@@N@@
namespace Jvm.Pilot.@@N@@
open Jvm Jvm.ClassFile Sem Op Lib Jvm.Free Jvm.Stand Jvm.Pilot.@@N@@.Jvm.D
/-! MADE BY PROGRAM (witnessworld.py) out of the Statement's table words and the real class files: 25 classes; the members and pool entries that the words name. The judged class is class 1, her method 1. -/
namespace start1
open Jvm.ClassFile
def u (s : String) : CpInfo := .utf8 (stringToUtf16 s)
/-- a pool by its gaps: so many unusable entries, then the entry; so many at the end -/
def gap : Nat → List CpInfo → List CpInfo
  | 0, r => r
  | n + 1, r => .unusable :: gap n r
def poolList (es : List (Nat × CpInfo)) (last : Nat) : List CpInfo := es.foldr (fun e r => gap e.1 (e.2 :: r)) (gap last [])
def pool (es : List (Nat × CpInfo)) (last : Nat) : Array CpInfo := ⟨poolList es last⟩
def fileOf (pool : Array CpInfo) (this : Nat) (attrs : Array Attribute := #[]) (ms : Array MethodInfo := #[]) (fl : Nat := 33) (sup : Nat := 0) (ifs : Array Nat := #[]) (fds : Array FieldInfo := #[]) : ClassFile where
  minorVersion := 0
  majorVersion := 65
  constantPool := pool
  accessFlags := fl
  thisClass := this
  superClass := sup
  interfaces := ifs
  fields := fds
  methods := ms
  attributes := attrs
def plain (name : String) (sup : Option ClassId) : Class where
  name := name
  kind := .ordinary
  loader := none
  accessFlags := 33
  super := sup
  interfaces := #[]
  cf := none
  fields := #[]
  methods := #[]
  instanceTypes := #[]
  staticTypes := #[]
  resolved := #[]
  callSites := []
  init := .initialized
  statics := none
  mirror := none

def pool0 : Array CpInfo := pool [(5, u "<init>"), (0, u "()V"), (1, .class_ 10), (1, u "java/lang/Object")] 113

def k0c0 : Code := { maxStack := 0, maxLocals := 1, code := object_method_1_code, exceptionTable := #[], attributes := #[] }
def k0m0 : Method := { name := "<init>", desc := "()V", sig := { parameters := [], returnType := none }, accessFlags := 1, code := some k0c0 }
/-- java/lang/Object -/
def k0 : Class := { plain "java/lang/Object" none with
  accessFlags := 33
  interfaces := #[]
  cf := some (fileOf pool0 8 #[] #[{ accessFlags := 1, nameIndex := 5, descriptorIndex := 6, attributes := #[] }] 33 0 #[] #[])
  fields := #[]
  methods := #[k0m0]
  instanceTypes := #[]
  staticTypes := #[]
  resolved := Array.replicate 124 none
  statics := none }

def pool1 : Array CpInfo := pool [(2, .class_ 4), (1, u "java/lang/Object"), (0, u "<init>"), (0, u "()V"), (0, .class_ 8), (0, u "com/example/entidad/entidad/query/Token$Kind"), (0, .fieldref 7 10), (0, .nameAndType 11 12), (0, u "IDENTIFIER"), (0, u "Lcom/example/entidad/entidad/query/Token$Kind;"), (0, .fieldref 7 14), (0, .nameAndType 15 12), (0, u "STRING"), (0, .fieldref 7 17), (0, .nameAndType 18 12), (0, u "NUMBER"), (0, .fieldref 7 20), (0, .nameAndType 21 12), (0, u "NAMED_PARAMETER"), (0, .fieldref 7 23), (0, .nameAndType 24 12), (0, u "POSITIONAL_PARAMETER"), (0, .fieldref 7 26), (0, .nameAndType 27 12), (0, u "SYMBOL"), (0, .fieldref 7 29), (0, .nameAndType 30 12), (0, u "END"), (0, .integer 2147483647), (0, .methodref 33 34), (0, .class_ 35), (0, .nameAndType 36 37), (0, u "com/example/entidad/entidad/query/TokenIsPinLaw"), (0, u "mk"), (0, u "(ICC)Ljava/lang/String;"), (0, .class_ 39), (0, u "com/example/entidad/entidad/query/Token"), (0, .methodref 38 41), (0, .nameAndType 5 42), (0, u "(Lcom/example/entidad/entidad/query/Token$Kind;Ljava/lang/String;Ljava/lang/Object;I)V"), (0, .methodref 38 44), (0, .nameAndType 45 46), (0, u "is"), (0, u "(Ljava/lang/String;)Z"), (0, .methodref 33 48), (0, .nameAndType 49 50), (0, u "fold"), (0, u "(C)I"), (0, .class_ 52), (0, u "java/lang/String"), (0, .methodref 51 54), (0, .nameAndType 5 55), (0, u "([C)V"), (2, u "law"), (0, u "(IIIII)Z")] 7

def k1m0 : Method := { name := "<init>", desc := "()V", sig := { parameters := [], returnType := none }, accessFlags := 1, code := none }
def k1c1 : Code := { maxStack := 6, maxLocals := 20, code := code, exceptionTable := #[], attributes := #[] }
def k1m1 : Method := { name := "law", desc := "(IIIII)Z", sig := { parameters := [.int, .int, .int, .int, .int], returnType := some .boolean }, accessFlags := 9, code := some k1c1 }
def k1c2 : Code := { maxStack := 6, maxLocals := 3, code := method_3_code, exceptionTable := #[], attributes := #[] }
def k1m2 : Method := { name := "mk", desc := "(ICC)Ljava/lang/String;", sig := { parameters := [.int, .char, .char], returnType := some (.object "java/lang/String") }, accessFlags := 10, code := some k1c2 }
def k1c3 : Code := { maxStack := 2, maxLocals := 1, code := method_4_code, exceptionTable := #[], attributes := #[] }
def k1m3 : Method := { name := "fold", desc := "(C)I", sig := { parameters := [.char], returnType := some .int }, accessFlags := 10, code := some k1c3 }
/-- com/example/entidad/entidad/query/TokenIsPinLaw -/
def k1 : Class := { plain "com/example/entidad/entidad/query/TokenIsPinLaw" (some 0) with
  accessFlags := 49
  interfaces := #[]
  cf := some (fileOf pool1 33 #[] #[{ accessFlags := 1, nameIndex := 5, descriptorIndex := 6, attributes := #[] }, { accessFlags := 9, nameIndex := 58, descriptorIndex := 59, attributes := #[] }, { accessFlags := 10, nameIndex := 36, descriptorIndex := 37, attributes := #[] }, { accessFlags := 10, nameIndex := 49, descriptorIndex := 50, attributes := #[] }] 49 2 #[] #[])
  fields := #[]
  methods := #[k1m0, k1m1, k1m2, k1m3]
  instanceTypes := #[]
  staticTypes := #[]
  resolved := Array.replicate 67 none
  statics := none }

def pool2 : Array CpInfo := pool [(1, .class_ 2), (0, u "java/lang/constant/Constable"), (0, .class_ 4), (0, u "java/lang/Object")] 6

/-- java/lang/constant/Constable -/
def k2 : Class := { plain "java/lang/constant/Constable" (some 0) with
  accessFlags := 1537
  interfaces := #[]
  cf := some (fileOf pool2 1 #[] #[] 1537 3 #[] #[])
  fields := #[]
  methods := #[]
  instanceTypes := #[]
  staticTypes := #[]
  resolved := Array.replicate 11 none
  statics := none }

def pool3 : Array CpInfo := pool [(1, .class_ 2), (0, u "java/lang/Comparable"), (0, .class_ 4), (0, u "java/lang/Object")] 7

/-- java/lang/Comparable -/
def k3 : Class := { plain "java/lang/Comparable" (some 0) with
  accessFlags := 1537
  interfaces := #[]
  cf := some (fileOf pool3 1 #[] #[] 1537 3 #[] #[])
  fields := #[]
  methods := #[]
  instanceTypes := #[]
  staticTypes := #[]
  resolved := Array.replicate 12 none
  statics := none }

def pool4 : Array CpInfo := pool [(1, .class_ 2), (0, u "java/io/Serializable"), (0, .class_ 4), (0, u "java/lang/Object")] 2

/-- java/io/Serializable -/
def k4 : Class := { plain "java/io/Serializable" (some 0) with
  accessFlags := 1537
  interfaces := #[]
  cf := some (fileOf pool4 1 #[] #[] 1537 3 #[] #[])
  fields := #[]
  methods := #[]
  instanceTypes := #[]
  staticTypes := #[]
  resolved := Array.replicate 7 none
  statics := none }

def pool5 : Array CpInfo := pool [(2, .class_ 4), (1, u "java/lang/Enum"), (0, u "name"), (0, u "Ljava/lang/String;"), (2, u "ordinal"), (0, u "I"), (1, .class_ 14), (1, u "java/lang/Object"), (4, u "hash"), (86, .class_ 108), (1, u "java/lang/Enum$EnumDesc"), (2, .class_ 112), (0, u "java/lang/constant/Constable"), (0, .class_ 114), (0, u "java/lang/Comparable"), (0, .class_ 116), (0, u "java/io/Serializable")] 87

/-- java/lang/Enum -/
def k5 : Class := { plain "java/lang/Enum" (some 0) with
  accessFlags := 1057
  interfaces := #[2, 3, 4]
  cf := some (fileOf pool5 2 #[.nestMembers #[106]] #[] 1057 12 #[111, 113, 115] #[{ accessFlags := 18, nameIndex := 5, descriptorIndex := 6, attributes := #[] }, { accessFlags := 18, nameIndex := 9, descriptorIndex := 10, attributes := #[] }, { accessFlags := 2, nameIndex := 19, descriptorIndex := 10, attributes := #[] }])
  fields := #[{ name := "name", type := (.object "java/lang/String"), accessFlags := 18, slot := 0, constantValue := 0 }, { name := "ordinal", type := .int, accessFlags := 18, slot := 1, constantValue := 0 }, { name := "hash", type := .int, accessFlags := 2, slot := 2, constantValue := 0 }]
  methods := #[]
  instanceTypes := #[(.object "java/lang/String"), .int, .int]
  staticTypes := #[]
  resolved := Array.replicate 204 none
  statics := none }

def pool6 : Array CpInfo := pool [(1, .class_ 2), (0, u "com/example/entidad/entidad/query/Token$Kind"), (2, u "IDENTIFIER"), (0, u "Lcom/example/entidad/entidad/query/Token$Kind;"), (2, u "STRING"), (2, u "NUMBER"), (2, u "NAMED_PARAMETER"), (2, u "POSITIONAL_PARAMETER"), (2, u "SYMBOL"), (2, u "END"), (2, u "$VALUES"), (0, u "[Lcom/example/entidad/entidad/query/Token$Kind;"), (6, .class_ 37), (1, u "java/lang/Enum"), (30, .class_ 69), (0, u "com/example/entidad/entidad/query/Token")] 2

/-- com/example/entidad/entidad/query/Token$Kind -/
def k6 : Class := { plain "com/example/entidad/entidad/query/Token$Kind" (some 5) with
  accessFlags := 16432
  interfaces := #[]
  cf := some (fileOf pool6 1 #[.nestHost 68] #[] 16432 35 #[] #[{ accessFlags := 16409, nameIndex := 5, descriptorIndex := 6, attributes := #[] }, { accessFlags := 16409, nameIndex := 9, descriptorIndex := 6, attributes := #[] }, { accessFlags := 16409, nameIndex := 12, descriptorIndex := 6, attributes := #[] }, { accessFlags := 16409, nameIndex := 15, descriptorIndex := 6, attributes := #[] }, { accessFlags := 16409, nameIndex := 18, descriptorIndex := 6, attributes := #[] }, { accessFlags := 16409, nameIndex := 21, descriptorIndex := 6, attributes := #[] }, { accessFlags := 16409, nameIndex := 24, descriptorIndex := 6, attributes := #[] }, { accessFlags := 4122, nameIndex := 27, descriptorIndex := 28, attributes := #[] }])
  fields := #[{ name := "IDENTIFIER", type := (.object "com/example/entidad/entidad/query/Token$Kind"), accessFlags := 16409, slot := 0, constantValue := 0 }, { name := "STRING", type := (.object "com/example/entidad/entidad/query/Token$Kind"), accessFlags := 16409, slot := 1, constantValue := 0 }, { name := "NUMBER", type := (.object "com/example/entidad/entidad/query/Token$Kind"), accessFlags := 16409, slot := 2, constantValue := 0 }, { name := "NAMED_PARAMETER", type := (.object "com/example/entidad/entidad/query/Token$Kind"), accessFlags := 16409, slot := 3, constantValue := 0 }, { name := "POSITIONAL_PARAMETER", type := (.object "com/example/entidad/entidad/query/Token$Kind"), accessFlags := 16409, slot := 4, constantValue := 0 }, { name := "SYMBOL", type := (.object "com/example/entidad/entidad/query/Token$Kind"), accessFlags := 16409, slot := 5, constantValue := 0 }, { name := "END", type := (.object "com/example/entidad/entidad/query/Token$Kind"), accessFlags := 16409, slot := 6, constantValue := 0 }, { name := "$VALUES", type := (.array (.object "com/example/entidad/entidad/query/Token$Kind")), accessFlags := 4122, slot := 7, constantValue := 0 }]
  methods := #[]
  instanceTypes := #[(.object "java/lang/String"), .int, .int]
  staticTypes := #[(.object "com/example/entidad/entidad/query/Token$Kind"), (.object "com/example/entidad/entidad/query/Token$Kind"), (.object "com/example/entidad/entidad/query/Token$Kind"), (.object "com/example/entidad/entidad/query/Token$Kind"), (.object "com/example/entidad/entidad/query/Token$Kind"), (.object "com/example/entidad/entidad/query/Token$Kind"), (.object "com/example/entidad/entidad/query/Token$Kind"), (.array (.object "com/example/entidad/entidad/query/Token$Kind"))]
  resolved := Array.replicate 72 none
  statics := some 0 }

def pool7 : Array CpInfo := pool [(2, .class_ 4), (1, u "java/lang/CharSequence"), (42, .class_ 48), (0, u "java/lang/CharSequence$1CodePointIterator"), (10, .class_ 60), (0, u "java/lang/CharSequence$1CharIterator"), (5, .class_ 67), (0, u "java/lang/Object")] 63

/-- java/lang/CharSequence -/
def k7 : Class := { plain "java/lang/CharSequence" (some 0) with
  accessFlags := 1537
  interfaces := #[]
  cf := some (fileOf pool7 2 #[.nestMembers #[47, 59]] #[] 1537 66 #[] #[])
  fields := #[]
  methods := #[]
  instanceTypes := #[]
  staticTypes := #[]
  resolved := Array.replicate 131 none
  statics := none }

def pool8 : Array CpInfo := pool [(1, .class_ 2), (0, u "java/lang/constant/ConstantDesc"), (0, .class_ 4), (0, u "java/lang/Object")] 32

/-- java/lang/constant/ConstantDesc -/
def k8 : Class := { plain "java/lang/constant/ConstantDesc" (some 0) with
  accessFlags := 1537
  interfaces := #[]
  cf := some (fileOf pool8 1 #[] #[] 1537 3 #[] #[])
  fields := #[]
  methods := #[]
  instanceTypes := #[]
  staticTypes := #[]
  resolved := Array.replicate 37 none
  statics := none }

def pool9 : Array CpInfo := pool [(1, .methodref 2 3), (0, .class_ 4), (0, .nameAndType 5 6), (0, u "java/lang/Object"), (0, u "<init>"), (0, u "()V"), (0, .string 8), (0, u ""), (0, .fieldref 10 11), (0, .class_ 12), (0, .nameAndType 13 14), (0, u "java/lang/String"), (0, u "value"), (0, u "[B"), (0, .fieldref 10 16), (0, .nameAndType 17 18), (0, u "coder"), (0, u "B"), (2, u "hash"), (0, u "I"), (2, u "hashIsZero"), (0, u "Z"), (0, .methodref 10 28), (0, .nameAndType 5 29), (0, u "([CIILjava/lang/Void;)V"), (8, .fieldref 10 39), (0, .nameAndType 40 26), (0, u "COMPACT_STRINGS"), (1, .class_ 44), (1, u "java/lang/StringUTF16"), (0, u "compress"), (1, .methodref 42 48), (0, .nameAndType 49 50), (0, u "coderFromArrayLen"), (0, u "([BI)B"), (56, .class_ 109), (1, u "java/lang/StringLatin1"), (67, .methodref 42 178), (0, .nameAndType 45 179), (0, u "([CII)[B"), (154, u "()I"), (0, .methodref 10 336), (0, .nameAndType 17 337), (0, u "()B"), (167, .methodref 10 506), (0, .nameAndType 507 334), (0, u "length"), (33, .methodref 107 542), (0, .nameAndType 543 544), (0, u "equals"), (0, u "([B[B)Z"), (28, u "(Ljava/lang/Object;)Z"), (1, .class_ 576), (0, u "java/lang/CharSequence"), (5, .methodref 10 583), (0, .nameAndType 584 585), (0, u "regionMatches"), (0, u "(ZILjava/lang/String;II)Z"), (13, u "CASE_INSENSITIVE_ORDER"), (0, u "Ljava/util/Comparator;"), (12, .methodref 107 614), (0, .nameAndType 615 616), (0, u "regionMatchesCI"), (0, u "([BI[BII)Z"), (393, u "([C)V"), (90, u "serialPersistentFields"), (0, u "[Ljava/io/ObjectStreamField;"), (0, .class_ 1104), (0, u "java/lang/String$CaseInsensitiveComparator"), (1, .class_ 1107), (0, u "java/io/Serializable"), (0, .class_ 1109), (0, u "java/lang/Comparable"), (0, .class_ 1111), (0, u "java/lang/constant/Constable"), (0, .class_ 1113), (0, u "java/lang/constant/ConstantDesc"), (2, u "serialVersionUID"), (0, u "J"), (3, u "REPL"), (0, u "C"), (2, u "LATIN1"), (1, u "UTF16"), (128, u "equalsIgnoreCase"), (0, u "(Ljava/lang/String;)Z")] 193

def k9m0 : Method := { name := "<init>", desc := "()V", sig := { parameters := [], returnType := none }, accessFlags := 1, code := none }
def k9c1 : Code := { maxStack := 5, maxLocals := 2, code := jdk_42_method_3_code, exceptionTable := #[], attributes := #[] }
def k9m1 : Method := { name := "<init>", desc := "([C)V", sig := { parameters := [(.array .char)], returnType := none }, accessFlags := 1, code := some k9c1 }
def k9c2 : Code := { maxStack := 2, maxLocals := 1, code := jdk_42_method_54_code, exceptionTable := #[], attributes := #[] }
def k9m2 : Method := { name := "length", desc := "()I", sig := { parameters := [], returnType := some .int }, accessFlags := 1, code := some k9c2 }
def k9c3 : Code := { maxStack := 2, maxLocals := 3, code := jdk_42_method_66_code, exceptionTable := #[], attributes := #[] }
def k9m3 : Method := { name := "equals", desc := "(Ljava/lang/Object;)Z", sig := { parameters := [(.object "java/lang/Object")], returnType := some .boolean }, accessFlags := 1, code := some k9c3 }
def k9c4 : Code := { maxStack := 6, maxLocals := 2, code := jdk_42_method_70_code, exceptionTable := #[], attributes := #[] }
def k9m4 : Method := { name := "equalsIgnoreCase", desc := "(Ljava/lang/String;)Z", sig := { parameters := [(.object "java/lang/String")], returnType := some .boolean }, accessFlags := 1, code := some k9c4 }
def k9c5 : Code := { maxStack := 6, maxLocals := 9, code := jdk_42_method_74_code, exceptionTable := #[], attributes := #[] }
def k9m5 : Method := { name := "regionMatches", desc := "(ZILjava/lang/String;II)Z", sig := { parameters := [.boolean, .int, (.object "java/lang/String"), .int, .int], returnType := some .boolean }, accessFlags := 1, code := some k9c5 }
def k9c6 : Code := { maxStack := 4, maxLocals := 6, code := jdk_42_method_149_code, exceptionTable := #[], attributes := #[] }
def k9m6 : Method := { name := "<init>", desc := "([CIILjava/lang/Void;)V", sig := { parameters := [(.array .char), .int, .int, (.object "java/lang/Void")], returnType := none }, accessFlags := 2, code := some k9c6 }
def k9c7 : Code := { maxStack := 1, maxLocals := 1, code := jdk_42_method_152_code, exceptionTable := #[], attributes := #[] }
def k9m7 : Method := { name := "coder", desc := "()B", sig := { parameters := [], returnType := some .byte }, accessFlags := 0, code := some k9c7 }
/-- java/lang/String -/
def k9 : Class := { plain "java/lang/String" (some 0) with
  accessFlags := 49
  interfaces := #[4, 3, 7, 2, 8]
  cf := some (fileOf pool9 10 #[.nestMembers #[1103]] #[{ accessFlags := 1, nameIndex := 5, descriptorIndex := 6, attributes := #[] }, { accessFlags := 1, nameIndex := 5, descriptorIndex := 1010, attributes := #[] }, { accessFlags := 1, nameIndex := 507, descriptorIndex := 334, attributes := #[] }, { accessFlags := 1, nameIndex := 543, descriptorIndex := 573, attributes := #[] }, { accessFlags := 1, nameIndex := 1256, descriptorIndex := 1257, attributes := #[] }, { accessFlags := 1, nameIndex := 584, descriptorIndex := 585, attributes := #[] }, { accessFlags := 2, nameIndex := 5, descriptorIndex := 29, attributes := #[] }, { accessFlags := 0, nameIndex := 17, descriptorIndex := 337, attributes := #[] }] 49 2 #[1106, 1108, 575, 1110, 1112] #[{ accessFlags := 18, nameIndex := 13, descriptorIndex := 14, attributes := #[] }, { accessFlags := 18, nameIndex := 17, descriptorIndex := 18, attributes := #[] }, { accessFlags := 2, nameIndex := 21, descriptorIndex := 22, attributes := #[] }, { accessFlags := 2, nameIndex := 25, descriptorIndex := 26, attributes := #[] }, { accessFlags := 26, nameIndex := 1116, descriptorIndex := 1117, attributes := #[] }, { accessFlags := 24, nameIndex := 40, descriptorIndex := 26, attributes := #[] }, { accessFlags := 26, nameIndex := 1101, descriptorIndex := 1102, attributes := #[] }, { accessFlags := 26, nameIndex := 1121, descriptorIndex := 1122, attributes := #[] }, { accessFlags := 25, nameIndex := 599, descriptorIndex := 600, attributes := #[] }, { accessFlags := 24, nameIndex := 1125, descriptorIndex := 18, attributes := #[] }, { accessFlags := 24, nameIndex := 1127, descriptorIndex := 18, attributes := #[] }])
  fields := #[{ name := "value", type := (.array .byte), accessFlags := 18, slot := 0, constantValue := 0 }, { name := "coder", type := .byte, accessFlags := 18, slot := 1, constantValue := 0 }, { name := "hash", type := .int, accessFlags := 2, slot := 2, constantValue := 0 }, { name := "hashIsZero", type := .boolean, accessFlags := 2, slot := 3, constantValue := 0 }, { name := "serialVersionUID", type := .long, accessFlags := 26, slot := 0, constantValue := 0 }, { name := "COMPACT_STRINGS", type := .boolean, accessFlags := 24, slot := 1, constantValue := 0 }, { name := "serialPersistentFields", type := (.array (.object "java/io/ObjectStreamField")), accessFlags := 26, slot := 2, constantValue := 0 }, { name := "REPL", type := .char, accessFlags := 26, slot := 3, constantValue := 0 }, { name := "CASE_INSENSITIVE_ORDER", type := (.object "java/util/Comparator"), accessFlags := 25, slot := 4, constantValue := 0 }, { name := "LATIN1", type := .byte, accessFlags := 24, slot := 5, constantValue := 0 }, { name := "UTF16", type := .byte, accessFlags := 24, slot := 6, constantValue := 0 }]
  methods := #[k9m0, k9m1, k9m2, k9m3, k9m4, k9m5, k9m6, k9m7]
  instanceTypes := #[(.array .byte), .byte, .int, .boolean]
  staticTypes := #[.long, .boolean, (.array (.object "java/io/ObjectStreamField")), .char, (.object "java/util/Comparator"), .byte, .byte]
  resolved := Array.replicate 1451 none
  statics := some 1 }

def pool10 : Array CpInfo := pool [(1, .methodref 2 3), (0, .class_ 4), (0, .nameAndType 5 6), (0, u "java/lang/Object"), (0, u "<init>"), (0, u "()V"), (0, .fieldref 8 9), (0, .class_ 10), (0, .nameAndType 11 12), (0, u "com/example/entidad/entidad/query/Token"), (0, u "m_kind"), (0, u "Lcom/example/entidad/entidad/query/Token$Kind;"), (0, .fieldref 8 14), (0, .nameAndType 15 16), (0, u "m_text"), (0, u "Ljava/lang/String;"), (0, .fieldref 8 18), (0, .nameAndType 19 20), (0, u "m_value"), (0, u "Ljava/lang/Object;"), (0, .fieldref 8 22), (0, .nameAndType 23 24), (0, u "m_position"), (0, u "I"), (0, .fieldref 26 27), (0, .class_ 28), (0, .nameAndType 29 12), (0, u "com/example/entidad/entidad/query/Token$Kind"), (0, u "IDENTIFIER"), (0, .methodref 31 32), (0, .class_ 33), (0, .nameAndType 34 35), (0, u "java/lang/String"), (0, u "equalsIgnoreCase"), (0, u "(Ljava/lang/String;)Z"), (0, .fieldref 26 37), (0, .nameAndType 38 12), (0, u "SYMBOL"), (0, .methodref 31 40), (0, .nameAndType 41 42), (0, u "equals"), (0, u "(Ljava/lang/Object;)Z"), (9, u "(Lcom/example/entidad/entidad/query/Token$Kind;Ljava/lang/String;Ljava/lang/Object;I)V"), (10, u "is")] 21

def k10c0 : Code := { maxStack := 2, maxLocals := 5, code := prog_5_method_1_code, exceptionTable := #[], attributes := #[] }
def k10m0 : Method := { name := "<init>", desc := "(Lcom/example/entidad/entidad/query/Token$Kind;Ljava/lang/String;Ljava/lang/Object;I)V", sig := { parameters := [(.object "com/example/entidad/entidad/query/Token$Kind"), (.object "java/lang/String"), (.object "java/lang/Object"), .int], returnType := none }, accessFlags := 0, code := some k10c0 }
def k10c1 : Code := { maxStack := 2, maxLocals := 2, code := prog_5_method_6_code, exceptionTable := #[], attributes := #[] }
def k10m1 : Method := { name := "is", desc := "(Ljava/lang/String;)Z", sig := { parameters := [(.object "java/lang/String")], returnType := some .boolean }, accessFlags := 0, code := some k10c1 }
/-- com/example/entidad/entidad/query/Token -/
def k10 : Class := { plain "com/example/entidad/entidad/query/Token" (some 0) with
  accessFlags := 32
  interfaces := #[]
  cf := some (fileOf pool10 8 #[.nestMembers #[26]] #[{ accessFlags := 0, nameIndex := 5, descriptorIndex := 52, attributes := #[] }, { accessFlags := 0, nameIndex := 63, descriptorIndex := 35, attributes := #[] }] 32 2 #[] #[{ accessFlags := 18, nameIndex := 11, descriptorIndex := 12, attributes := #[] }, { accessFlags := 18, nameIndex := 15, descriptorIndex := 16, attributes := #[] }, { accessFlags := 18, nameIndex := 19, descriptorIndex := 20, attributes := #[] }, { accessFlags := 18, nameIndex := 23, descriptorIndex := 24, attributes := #[] }])
  fields := #[{ name := "m_kind", type := (.object "com/example/entidad/entidad/query/Token$Kind"), accessFlags := 18, slot := 0, constantValue := 0 }, { name := "m_text", type := (.object "java/lang/String"), accessFlags := 18, slot := 1, constantValue := 0 }, { name := "m_value", type := (.object "java/lang/Object"), accessFlags := 18, slot := 2, constantValue := 0 }, { name := "m_position", type := .int, accessFlags := 18, slot := 3, constantValue := 0 }]
  methods := #[k10m0, k10m1]
  instanceTypes := #[(.object "com/example/entidad/entidad/query/Token$Kind"), (.object "java/lang/String"), (.object "java/lang/Object"), .int]
  staticTypes := #[]
  resolved := Array.replicate 85 none
  statics := none }

def pool11 : Array CpInfo := pool [(4, .class_ 6), (1, u "java/lang/Object"), (0, u "<init>"), (0, u "()V"), (5, .class_ 16), (1, u "java/lang/StringLatin1"), (50, .class_ 69), (1, u "java/lang/CharacterDataLatin1"), (51, u "$assertionsDisabled"), (0, u "Z"), (30, .methodref 67 154), (0, .nameAndType 155 156), (0, u "equalsIgnoreCase"), (0, u "(BB)Z"), (64, .class_ 223), (1, u "java/lang/StringLatin1$LinesSpliterator"), (57, u "equals"), (0, u "([B[B)Z"), (57, u "regionMatchesCI"), (0, u "([BI[BII)Z"), (48, .class_ 391), (0, u "java/lang/StringLatin1$CharsSpliterator")] 3

def k11m0 : Method := { name := "<init>", desc := "()V", sig := { parameters := [], returnType := none }, accessFlags := 0, code := none }
def k11c1 : Code := { maxStack := 3, maxLocals := 3, code := jdk_43_method_13_code, exceptionTable := #[], attributes := #[] }
def k11m1 : Method := { name := "equals", desc := "([B[B)Z", sig := { parameters := [(.array .byte), (.array .byte)], returnType := some .boolean }, accessFlags := 9, code := some k11c1 }
def k11c2 : Code := { maxStack := 2, maxLocals := 8, code := jdk_43_method_30_code, exceptionTable := #[], attributes := #[] }
def k11m2 : Method := { name := "regionMatchesCI", desc := "([BI[BII)Z", sig := { parameters := [(.array .byte), .int, (.array .byte), .int, .int], returnType := some .boolean }, accessFlags := 9, code := some k11c2 }
/-- java/lang/StringLatin1 -/
def k11 : Class := { plain "java/lang/StringLatin1" (some 0) with
  accessFlags := 48
  interfaces := #[]
  cf := some (fileOf pool11 14 #[.nestMembers #[390, 221]] #[{ accessFlags := 0, nameIndex := 7, descriptorIndex := 8, attributes := #[] }, { accessFlags := 9, nameIndex := 281, descriptorIndex := 282, attributes := #[] }, { accessFlags := 9, nameIndex := 340, descriptorIndex := 341, attributes := #[] }] 48 4 #[] #[{ accessFlags := 4120, nameIndex := 121, descriptorIndex := 122, attributes := #[] }])
  fields := #[{ name := "$assertionsDisabled", type := .boolean, accessFlags := 4120, slot := 0, constantValue := 0 }]
  methods := #[k11m0, k11m1, k11m2]
  instanceTypes := #[]
  staticTypes := #[.boolean]
  resolved := Array.replicate 395 none
  statics := none }

def pool12 : Array CpInfo := pool [(6, .class_ 8), (1, u "java/lang/Object"), (0, u "<init>"), (0, u "()V"), (1, .class_ 14), (1, u "java/lang/StringUTF16"), (31, u "$assertionsDisabled"), (0, u "Z"), (13, u "HI_BYTE_SHIFT"), (0, u "I"), (2, u "LO_BYTE_SHIFT"), (49, .methodref 12 116), (0, .nameAndType 117 118), (0, u "compress"), (0, u "([CI[BII)I"), (3, u "([CII)[B"), (138, u "coderFromArrayLen"), (0, u "([BI)B"), (106, .class_ 371), (1, u "java/lang/StringUTF16$LinesSpliterator"), (58, u "MAX_LENGTH"), (196, .class_ 628), (0, u "java/lang/StringUTF16$CodePointsSpliterator"), (0, .class_ 630), (0, u "java/lang/StringUTF16$CharsSpliterator")] 4

def k12m0 : Method := { name := "<init>", desc := "()V", sig := { parameters := [], returnType := none }, accessFlags := 0, code := none }
def k12c1 : Code := { maxStack := 2, maxLocals := 2, code := jdk_52_method_15_code, exceptionTable := #[], attributes := #[] }
def k12m1 : Method := { name := "coderFromArrayLen", desc := "([BI)B", sig := { parameters := [(.array .byte), .int], returnType := some .byte }, accessFlags := 8, code := some k12c1 }
def k12c2 : Code := { maxStack := 5, maxLocals := 6, code := jdk_52_method_16_code, exceptionTable := #[], attributes := #[] }
def k12m2 : Method := { name := "compress", desc := "([CII)[B", sig := { parameters := [(.array .char), .int, .int], returnType := some (.array .byte) }, accessFlags := 9, code := some k12c2 }
def k12c3 : Code := { maxStack := 3, maxLocals := 7, code := jdk_52_method_21_code, exceptionTable := #[], attributes := #[] }
def k12m3 : Method := { name := "compress", desc := "([CI[BII)I", sig := { parameters := [(.array .char), .int, (.array .byte), .int, .int], returnType := some .int }, accessFlags := 9, code := some k12c3 }
/-- java/lang/StringUTF16 -/
def k12 : Class := { plain "java/lang/StringUTF16" (some 0) with
  accessFlags := 48
  interfaces := #[]
  cf := some (fileOf pool12 12 #[.nestMembers #[627, 629, 369]] #[{ accessFlags := 0, nameIndex := 9, descriptorIndex := 10, attributes := #[] }, { accessFlags := 8, nameIndex := 261, descriptorIndex := 262, attributes := #[] }, { accessFlags := 9, nameIndex := 117, descriptorIndex := 122, attributes := #[] }, { accessFlags := 9, nameIndex := 117, descriptorIndex := 118, attributes := #[] }] 48 6 #[] #[{ accessFlags := 26, nameIndex := 61, descriptorIndex := 62, attributes := #[] }, { accessFlags := 26, nameIndex := 65, descriptorIndex := 62, attributes := #[] }, { accessFlags := 24, nameIndex := 430, descriptorIndex := 62, attributes := #[] }, { accessFlags := 4120, nameIndex := 46, descriptorIndex := 47, attributes := #[] }])
  fields := #[{ name := "HI_BYTE_SHIFT", type := .int, accessFlags := 26, slot := 0, constantValue := 0 }, { name := "LO_BYTE_SHIFT", type := .int, accessFlags := 26, slot := 1, constantValue := 0 }, { name := "MAX_LENGTH", type := .int, accessFlags := 24, slot := 2, constantValue := 0 }, { name := "$assertionsDisabled", type := .boolean, accessFlags := 4120, slot := 3, constantValue := 0 }]
  methods := #[k12m0, k12m1, k12m2, k12m3]
  instanceTypes := #[]
  staticTypes := #[.int, .int, .int, .boolean]
  resolved := Array.replicate 635 none
  statics := none }

def pool13 : Array CpInfo := pool [(2, .class_ 4), (1, u "java/lang/Object"), (0, u "<init>"), (0, u "()V"), (1, .class_ 10), (1, u "java/lang/CharacterData")] 75

def k13m0 : Method := { name := "<init>", desc := "()V", sig := { parameters := [], returnType := none }, accessFlags := 0, code := none }
/-- java/lang/CharacterData -/
def k13 : Class := { plain "java/lang/CharacterData" (some 0) with
  accessFlags := 1056
  interfaces := #[]
  cf := some (fileOf pool13 8 #[] #[{ accessFlags := 0, nameIndex := 5, descriptorIndex := 6, attributes := #[] }] 1056 2 #[] #[])
  fields := #[]
  methods := #[k13m0]
  instanceTypes := #[]
  staticTypes := #[]
  resolved := Array.replicate 86 none
  statics := none }

def pool14 : Array CpInfo := pool [(2, .class_ 4), (1, u "java/lang/CharacterDataLatin1"), (0, u "A"), (0, u "[I"), (2, u "B"), (0, u "[C"), (16, u "DIGITS"), (0, u "[B"), (8, u "sharpsMap"), (1, .class_ 41), (1, u "java/lang/CharacterData"), (0, u "<init>"), (0, u "()V"), (3, u "instance"), (0, u "Ljava/lang/CharacterDataLatin1;"), (66, u "equalsIgnoreCase"), (0, u "(BB)Z")] 24

def k14c0 : Code := { maxStack := 3, maxLocals := 3, code := jdk_116_method_22_code, exceptionTable := #[], attributes := #[] }
def k14m0 : Method := { name := "equalsIgnoreCase", desc := "(BB)Z", sig := { parameters := [.byte, .byte], returnType := some .boolean }, accessFlags := 8, code := some k14c0 }
def k14m1 : Method := { name := "<init>", desc := "()V", sig := { parameters := [], returnType := none }, accessFlags := 2, code := none }
/-- java/lang/CharacterDataLatin1 -/
def k14 : Class := { plain "java/lang/CharacterDataLatin1" (some 13) with
  accessFlags := 32
  interfaces := #[]
  cf := some (fileOf pool14 2 #[] #[{ accessFlags := 8, nameIndex := 115, descriptorIndex := 116, attributes := #[] }, { accessFlags := 2, nameIndex := 42, descriptorIndex := 43, attributes := #[] }] 32 39 #[] #[{ accessFlags := 26, nameIndex := 27, descriptorIndex := 28, attributes := #[] }, { accessFlags := 8, nameIndex := 37, descriptorIndex := 10, attributes := #[] }, { accessFlags := 24, nameIndex := 47, descriptorIndex := 48, attributes := #[] }, { accessFlags := 24, nameIndex := 5, descriptorIndex := 6, attributes := #[] }, { accessFlags := 24, nameIndex := 9, descriptorIndex := 10, attributes := #[] }])
  fields := #[{ name := "DIGITS", type := (.array .byte), accessFlags := 26, slot := 0, constantValue := 0 }, { name := "sharpsMap", type := (.array .char), accessFlags := 8, slot := 1, constantValue := 0 }, { name := "instance", type := (.object "java/lang/CharacterDataLatin1"), accessFlags := 24, slot := 2, constantValue := 0 }, { name := "A", type := (.array .int), accessFlags := 24, slot := 3, constantValue := 0 }, { name := "B", type := (.array .char), accessFlags := 24, slot := 4, constantValue := 0 }]
  methods := #[k14m0, k14m1]
  instanceTypes := #[]
  staticTypes := #[(.array .byte), (.array .char), (.object "java/lang/CharacterDataLatin1"), (.array .int), (.array .char)]
  resolved := Array.replicate 141 none
  statics := none }

def pool15 : Array CpInfo := pool [(2, .class_ 4), (1, u "java/lang/Object"), (0, u "<init>"), (0, u "()V"), (17, .class_ 26), (1, u "jdk/internal/util/Preconditions"), (28, .class_ 56), (0, u "jdk/internal/util/Preconditions$4"), (57, .class_ 115), (0, u "jdk/internal/util/Preconditions$1"), (7, u "SIOOBE_FORMATTER"), (0, u "Ljava/util/function/BiFunction;"), (0, .class_ 126), (0, u "jdk/internal/util/Preconditions$2"), (3, u "AIOOBE_FORMATTER"), (0, .class_ 132), (0, u "jdk/internal/util/Preconditions$3"), (3, u "IOOBE_FORMATTER")] 57

def k15m0 : Method := { name := "<init>", desc := "()V", sig := { parameters := [], returnType := none }, accessFlags := 1, code := none }
/-- jdk/internal/util/Preconditions -/
def k15 : Class := { plain "jdk/internal/util/Preconditions" (some 0) with
  accessFlags := 33
  interfaces := #[]
  cf := some (fileOf pool15 24 #[.nestMembers #[55, 131, 125, 114]] #[{ accessFlags := 1, nameIndex := 5, descriptorIndex := 6, attributes := #[] }] 33 2 #[] #[{ accessFlags := 25, nameIndex := 123, descriptorIndex := 124, attributes := #[] }, { accessFlags := 25, nameIndex := 130, descriptorIndex := 124, attributes := #[] }, { accessFlags := 25, nameIndex := 136, descriptorIndex := 124, attributes := #[] }])
  fields := #[{ name := "SIOOBE_FORMATTER", type := (.object "java/util/function/BiFunction"), accessFlags := 25, slot := 0, constantValue := 0 }, { name := "AIOOBE_FORMATTER", type := (.object "java/util/function/BiFunction"), accessFlags := 25, slot := 1, constantValue := 0 }, { name := "IOOBE_FORMATTER", type := (.object "java/util/function/BiFunction"), accessFlags := 25, slot := 2, constantValue := 0 }]
  methods := #[k15m0]
  instanceTypes := #[]
  staticTypes := #[(.object "java/util/function/BiFunction"), (.object "java/util/function/BiFunction"), (.object "java/util/function/BiFunction")]
  resolved := Array.replicate 194 none
  statics := some 2 }

def pool16 : Array CpInfo := pool [(9, u "<init>"), (6, .class_ 18), (1, u "java/lang/Object"), (0, u "()V"), (1, .class_ 23), (1, u "jdk/internal/util/ArraysSupport"), (0, u "LOG2_ARRAY_LONG_INDEX_SCALE"), (0, u "I"), (2, u "U"), (0, u "Ljdk/internal/misc/Unsafe;"), (8, u "BIG_ENDIAN"), (0, u "Z"), (8, u "LOG2_BYTE_BIT_SIZE"), (4, u "LOG2_ARRAY_INT_INDEX_SCALE"), (54, u "JLA"), (0, u "Ljdk/internal/access/JavaLangAccess;"), (11, u "LOG2_ARRAY_BOOLEAN_INDEX_SCALE"), (9, u "LOG2_ARRAY_BYTE_INDEX_SCALE"), (5, u "LOG2_ARRAY_CHAR_INDEX_SCALE"), (5, u "LOG2_ARRAY_SHORT_INDEX_SCALE"), (18, u "LOG2_ARRAY_FLOAT_INDEX_SCALE"), (24, u "LOG2_ARRAY_DOUBLE_INDEX_SCALE"), (89, u "T_BOOLEAN"), (2, u "T_CHAR"), (1, u "T_FLOAT"), (1, u "T_DOUBLE"), (1, u "T_BYTE"), (1, u "T_SHORT"), (1, u "T_INT"), (1, u "T_LONG"), (1, u "SOFT_MAX_ARRAY_LENGTH")] 83

def k16m0 : Method := { name := "<init>", desc := "()V", sig := { parameters := [], returnType := none }, accessFlags := 2, code := none }
/-- jdk/internal/util/ArraysSupport -/
def k16 : Class := { plain "jdk/internal/util/ArraysSupport" (some 0) with
  accessFlags := 33
  interfaces := #[]
  cf := some (fileOf pool16 21 #[] #[{ accessFlags := 2, nameIndex := 9, descriptorIndex := 19, attributes := #[] }] 33 16 #[] #[{ accessFlags := 24, nameIndex := 28, descriptorIndex := 29, attributes := #[] }, { accessFlags := 26, nameIndex := 38, descriptorIndex := 39, attributes := #[] }, { accessFlags := 25, nameIndex := 121, descriptorIndex := 25, attributes := #[] }, { accessFlags := 25, nameIndex := 131, descriptorIndex := 25, attributes := #[] }, { accessFlags := 25, nameIndex := 137, descriptorIndex := 25, attributes := #[] }, { accessFlags := 25, nameIndex := 143, descriptorIndex := 25, attributes := #[] }, { accessFlags := 25, nameIndex := 53, descriptorIndex := 25, attributes := #[] }, { accessFlags := 25, nameIndex := 24, descriptorIndex := 25, attributes := #[] }, { accessFlags := 25, nameIndex := 162, descriptorIndex := 25, attributes := #[] }, { accessFlags := 25, nameIndex := 187, descriptorIndex := 25, attributes := #[] }, { accessFlags := 26, nameIndex := 48, descriptorIndex := 25, attributes := #[] }, { accessFlags := 25, nameIndex := 277, descriptorIndex := 25, attributes := #[] }, { accessFlags := 25, nameIndex := 280, descriptorIndex := 25, attributes := #[] }, { accessFlags := 25, nameIndex := 282, descriptorIndex := 25, attributes := #[] }, { accessFlags := 25, nameIndex := 284, descriptorIndex := 25, attributes := #[] }, { accessFlags := 25, nameIndex := 286, descriptorIndex := 25, attributes := #[] }, { accessFlags := 25, nameIndex := 288, descriptorIndex := 25, attributes := #[] }, { accessFlags := 25, nameIndex := 290, descriptorIndex := 25, attributes := #[] }, { accessFlags := 25, nameIndex := 292, descriptorIndex := 25, attributes := #[] }, { accessFlags := 26, nameIndex := 108, descriptorIndex := 109, attributes := #[] }, { accessFlags := 25, nameIndex := 294, descriptorIndex := 25, attributes := #[] }])
  fields := #[{ name := "U", type := (.object "jdk/internal/misc/Unsafe"), accessFlags := 24, slot := 0, constantValue := 0 }, { name := "BIG_ENDIAN", type := .boolean, accessFlags := 26, slot := 1, constantValue := 0 }, { name := "LOG2_ARRAY_BOOLEAN_INDEX_SCALE", type := .int, accessFlags := 25, slot := 2, constantValue := 0 }, { name := "LOG2_ARRAY_BYTE_INDEX_SCALE", type := .int, accessFlags := 25, slot := 3, constantValue := 0 }, { name := "LOG2_ARRAY_CHAR_INDEX_SCALE", type := .int, accessFlags := 25, slot := 4, constantValue := 0 }, { name := "LOG2_ARRAY_SHORT_INDEX_SCALE", type := .int, accessFlags := 25, slot := 5, constantValue := 0 }, { name := "LOG2_ARRAY_INT_INDEX_SCALE", type := .int, accessFlags := 25, slot := 6, constantValue := 0 }, { name := "LOG2_ARRAY_LONG_INDEX_SCALE", type := .int, accessFlags := 25, slot := 7, constantValue := 0 }, { name := "LOG2_ARRAY_FLOAT_INDEX_SCALE", type := .int, accessFlags := 25, slot := 8, constantValue := 0 }, { name := "LOG2_ARRAY_DOUBLE_INDEX_SCALE", type := .int, accessFlags := 25, slot := 9, constantValue := 0 }, { name := "LOG2_BYTE_BIT_SIZE", type := .int, accessFlags := 26, slot := 10, constantValue := 0 }, { name := "T_BOOLEAN", type := .int, accessFlags := 25, slot := 11, constantValue := 0 }, { name := "T_CHAR", type := .int, accessFlags := 25, slot := 12, constantValue := 0 }, { name := "T_FLOAT", type := .int, accessFlags := 25, slot := 13, constantValue := 0 }, { name := "T_DOUBLE", type := .int, accessFlags := 25, slot := 14, constantValue := 0 }, { name := "T_BYTE", type := .int, accessFlags := 25, slot := 15, constantValue := 0 }, { name := "T_SHORT", type := .int, accessFlags := 25, slot := 16, constantValue := 0 }, { name := "T_INT", type := .int, accessFlags := 25, slot := 17, constantValue := 0 }, { name := "T_LONG", type := .int, accessFlags := 25, slot := 18, constantValue := 0 }, { name := "JLA", type := (.object "jdk/internal/access/JavaLangAccess"), accessFlags := 26, slot := 19, constantValue := 0 }, { name := "SOFT_MAX_ARRAY_LENGTH", type := .int, accessFlags := 25, slot := 20, constantValue := 0 }]
  methods := #[k16m0]
  instanceTypes := #[]
  staticTypes := #[(.object "jdk/internal/misc/Unsafe"), .boolean, .int, .int, .int, .int, .int, .int, .int, .int, .int, .int, .int, .int, .int, .int, .int, .int, .int, (.object "jdk/internal/access/JavaLangAccess"), .int]
  resolved := Array.replicate 378 none
  statics := none }

def pool17 : Array CpInfo := pool [(1, u "java/lang/Cloneable"), (0, .class_ 1), (0, u "java/lang/Object"), (0, .class_ 3)] 3

/-- java/lang/Cloneable -/
def k17 : Class := { plain "java/lang/Cloneable" (some 0) with
  accessFlags := 1537
  interfaces := #[]
  cf := some (fileOf pool17 2 #[] #[] 1537 4 #[] #[])
  fields := #[]
  methods := #[]
  instanceTypes := #[]
  staticTypes := #[]
  resolved := Array.replicate 8 none
  statics := none }

/-- the primitive byte -/
def k18 : Class := { plain "byte" none with kind := .primitive 'B', accessFlags := 0x411 }
/-- [B -/
def k19 : Class := { plain "[B" (some 0) with kind := .array 18 .byte, interfaces := #[17, 4], accessFlags := 1041 }

/-- the primitive char -/
def k20 : Class := { plain "char" none with kind := .primitive 'C', accessFlags := 0x411 }
/-- [C -/
def k21 : Class := { plain "[C" (some 0) with kind := .array 20 .char, interfaces := #[17, 4], accessFlags := 1041 }

/-- the primitive int -/
def k22 : Class := { plain "int" none with kind := .primitive 'I', accessFlags := 0x411 }
/-- [I -/
def k23 : Class := { plain "[I" (some 0) with kind := .array 22 .int, interfaces := #[17, 4], accessFlags := 1041 }

/-- [Lcom/example/entidad/entidad/query/Token$Kind; -/
def k24 : Class := { plain "[Lcom/example/entidad/entidad/query/Token$Kind;" (some 0) with kind := .array 6 (.object "com/example/entidad/entidad/query/Token$Kind"), interfaces := #[17, 4], accessFlags := 1041 }

def heap : Heap := #[{ cls := 6, slots := #[.ref 3, .ref 4, .ref 5, .ref 6, .ref 7, .ref 8, .ref 9, .null], vm := .statics 6 },
  { cls := 9, slots := #[.long 0, .int 1, .null, .int 0, .null, .int 0, .int 0], vm := .statics 9 },
  { cls := 15, slots := #[.null, .null, .null], vm := .statics 15 },
  { cls := 6, slots := #[.null, .int 0, .int 0], vm := .none },
  { cls := 6, slots := #[.null, .int 1, .int 0], vm := .none },
  { cls := 6, slots := #[.null, .int 2, .int 0], vm := .none },
  { cls := 6, slots := #[.null, .int 3, .int 0], vm := .none },
  { cls := 6, slots := #[.null, .int 4, .int 0], vm := .none },
  { cls := 6, slots := #[.null, .int 5, .int 0], vm := .none },
  { cls := 6, slots := #[.null, .int 6, .int 0], vm := .none }]
def classes : Array Class := #[k0, k1, k2, k3, k4, k5, k6, k7, k8, k9, k10, k11, k12, k13, k14, k15, k16, k17, k18, k19, k20, k21, k22, k23, k24]
def interned : List (Array UInt16 × Addr) := []
def slotsUsed : Nat := 39
def theMethod : MethodId := ⟨1, 1⟩
def args0 : Array Value := #[.int 5, .int 6, .int 7, .int 8, .int 9]
def aboutOver (below : List Frame) : State where
  vm := { classes := classes, interned := interned.toArray }
  heap := heap
  slotsUsed := slotsUsed
  threads := #[{ frames := .invoking theMethod args0 :: below }]
def below0 : List Frame := [.native { method := ⟨0, 0⟩, args := #[] }]
def about1 : State := aboutOver below0
def p0 : Program := .bare "" "" ""
def e0 : Env := launch0.env 0 0 0
theorem w_frames : about1.frames = Frame.invoking theMethod args0 :: below0 := rfl
set_option maxRecDepth 65536 in
theorem w_args : argsFit about1.vm theMethod args0 = true := by decide +kernel
set_option maxRecDepth 65536 in
theorem w_heap : heapFits about1 = true := by decide +kernel
set_option maxRecDepth 65536 in
theorem w_runnable : about1.curStatus? = some .runnable := by decide +kernel
set_option maxRecDepth 65536 in
theorem w_alone : about1.alone = true := by decide +kernel
set_option maxRecDepth 65536 in
theorem w_named : about1.methodNamed? x = some theMethod := by decide +kernel
set_option maxRecDepth 65536 in
theorem w_hears : about1.hears theMethod below0 = true := by decide +kernel
set_option maxRecDepth 65536 in
theorem w_ripe : about1.ripe theMethod args0 below0 = true := by decide +kernel
theorem w_running : about1.status = .running := rfl
set_option maxRecDepth 65536 in
theorem w_room : about1.hasRoom e0.platform room_1 = true :=
  launch0.hasRoom_least _ room_1 (by decide +kernel) (by decide +kernel) (by decide +kernel) (by decide +kernel) (by decide +kernel) (by decide +kernel)
theorem allAtoms_all (ts : List Jvm.Cond) (a : Array Jvm.Value) (st : Jvm.State) : (allAtoms ts).before a st = ts.all (fun c => c.before a st) := by
  induction ts with
  | nil => rfl
  | cons c t ih =>
    show (Jvm.Cond.and c (allAtoms t)).before a st = _
    rw [Jvm.Cond.before_and, ih, List.all_cons]
def words1 : List Jvm.Cond := Jvm.Cond.code x code maxLocals ret :: tables_1
/-- a 'code' word, met by the world's own term for the bytes: nothing is compared byte by byte -/
theorem code_word {y : MethodName} {bytes : ByteArray} {mx : Nat} {rt : Option FieldType} {a : Array Value} {s : State} {m : MethodId} {meth : Method} {c : Code} (h1 : s.methodNamed? y = some m) (h2 : s.vm.method? m = some meth) (h3 : meth.code = some c) (h4 : c.code = bytes)
    (h5 : (c.maxLocals == mx && c.exceptionTable.isEmpty && decide (c.maxStack ≤ mostOperands) && decide (meth.sig.returnType = rt) && !meth.locks && decide (parseMethodDescriptor y.desc = some meth.sig)) = true) : (Jvm.Cond.code y bytes mx rt).before a s = true := by
  simp only [Bool.and_eq_true, beq_iff_eq, Bool.not_eq_true', decide_eq_true_eq] at h5
  obtain ⟨⟨⟨⟨⟨g1, g2⟩, g3⟩, g4⟩, g5⟩, g6⟩ := h5
  simp [Cond.before, Cond.holds, Cond.value, h1, h2, h3, h4, g1, g2, g3, g4, g5, g6]
def isCode : Jvm.Cond → Bool
  | .code _ _ _ _ => true
  | _ => false
theorem all_split {L : List Jvm.Cond} {P : Jvm.Cond → Bool} (h1 : L.all (fun c => isCode c || P c) = true) (h2 : ∀ c ∈ L.filter isCode, P c = true) : L.all P = true := by
  refine List.all_eq_true.mpr fun c hc => ?_
  have h := List.all_eq_true.mp h1 c hc
  rcases Bool.eq_false_or_eq_true (isCode c) with hi | hi
  · exact h2 c (List.mem_filter.mpr ⟨hc, hi⟩)
  · simpa [hi] using h
set_option maxRecDepth 65536 in
theorem w_c0 : (Jvm.Cond.code x code maxLocals ret).before args0 about1 = true := code_word (m := ⟨1, 1⟩) (meth := k1m1) (c := k1c1) (by decide +kernel) rfl rfl rfl (by decide +kernel)
set_option maxRecDepth 65536 in
theorem w_c1 : (Jvm.Cond.code ({ cls := "com/example/entidad/entidad/query/TokenIsPinLaw", name := "mk", desc := "(ICC)Ljava/lang/String;" } : Jvm.MethodName) method_3_code (3 : Nat) (Option.some (Jvm.ClassFile.FieldType.object "java/lang/String"))).before args0 about1 = true := code_word (m := ⟨1, 2⟩) (meth := k1m2) (c := k1c2) (by decide +kernel) rfl rfl rfl (by decide +kernel)
set_option maxRecDepth 65536 in
theorem w_c2 : (Jvm.Cond.code ({ cls := "java/lang/String", name := "<init>", desc := "([C)V" } : Jvm.MethodName) jdk_42_method_3_code (2 : Nat) (Option.none : Option Jvm.ClassFile.FieldType)).before args0 about1 = true := code_word (m := ⟨9, 1⟩) (meth := k9m1) (c := k9c1) (by decide +kernel) rfl rfl rfl (by decide +kernel)
set_option maxRecDepth 65536 in
theorem w_c3 : (Jvm.Cond.code ({ cls := "java/lang/String", name := "<init>", desc := "([CIILjava/lang/Void;)V" } : Jvm.MethodName) jdk_42_method_149_code (6 : Nat) (Option.none : Option Jvm.ClassFile.FieldType)).before args0 about1 = true := code_word (m := ⟨9, 6⟩) (meth := k9m6) (c := k9c6) (by decide +kernel) rfl rfl rfl (by decide +kernel)
set_option maxRecDepth 65536 in
theorem w_c4 : (Jvm.Cond.code ({ cls := "java/lang/Object", name := "<init>", desc := "()V" } : Jvm.MethodName) object_method_1_code (1 : Nat) (Option.none : Option Jvm.ClassFile.FieldType)).before args0 about1 = true := code_word (m := ⟨0, 0⟩) (meth := k0m0) (c := k0c0) (by decide +kernel) rfl rfl rfl (by decide +kernel)
set_option maxRecDepth 65536 in
theorem w_c5 : (Jvm.Cond.code ({ cls := "com/example/entidad/entidad/query/Token", name := "<init>", desc := "(Lcom/example/entidad/entidad/query/Token$Kind;Ljava/lang/String;Ljava/lang/Object;I)V" } : Jvm.MethodName) prog_5_method_1_code (5 : Nat) (Option.none : Option Jvm.ClassFile.FieldType)).before args0 about1 = true := code_word (m := ⟨10, 0⟩) (meth := k10m0) (c := k10c0) (by decide +kernel) rfl rfl rfl (by decide +kernel)
set_option maxRecDepth 65536 in
theorem w_c6 : (Jvm.Cond.code ({ cls := "com/example/entidad/entidad/query/Token", name := "is", desc := "(Ljava/lang/String;)Z" } : Jvm.MethodName) prog_5_method_6_code (2 : Nat) (Option.some Jvm.ClassFile.FieldType.boolean)).before args0 about1 = true := code_word (m := ⟨10, 1⟩) (meth := k10m1) (c := k10c1) (by decide +kernel) rfl rfl rfl (by decide +kernel)
set_option maxRecDepth 65536 in
theorem w_c7 : (Jvm.Cond.code ({ cls := "java/lang/String", name := "equalsIgnoreCase", desc := "(Ljava/lang/String;)Z" } : Jvm.MethodName) jdk_42_method_70_code (2 : Nat) (Option.some Jvm.ClassFile.FieldType.boolean)).before args0 about1 = true := code_word (m := ⟨9, 4⟩) (meth := k9m4) (c := k9c4) (by decide +kernel) rfl rfl rfl (by decide +kernel)
set_option maxRecDepth 65536 in
theorem w_c8 : (Jvm.Cond.code ({ cls := "java/lang/String", name := "length", desc := "()I" } : Jvm.MethodName) jdk_42_method_54_code (1 : Nat) (Option.some Jvm.ClassFile.FieldType.int)).before args0 about1 = true := code_word (m := ⟨9, 2⟩) (meth := k9m2) (c := k9c2) (by decide +kernel) rfl rfl rfl (by decide +kernel)
set_option maxRecDepth 65536 in
theorem w_c9 : (Jvm.Cond.code ({ cls := "java/lang/String", name := "coder", desc := "()B" } : Jvm.MethodName) jdk_42_method_152_code (1 : Nat) (Option.some Jvm.ClassFile.FieldType.byte)).before args0 about1 = true := code_word (m := ⟨9, 7⟩) (meth := k9m7) (c := k9c7) (by decide +kernel) rfl rfl rfl (by decide +kernel)
set_option maxRecDepth 65536 in
theorem w_c10 : (Jvm.Cond.code ({ cls := "java/lang/String", name := "regionMatches", desc := "(ZILjava/lang/String;II)Z" } : Jvm.MethodName) jdk_42_method_74_code (9 : Nat) (Option.some Jvm.ClassFile.FieldType.boolean)).before args0 about1 = true := code_word (m := ⟨9, 5⟩) (meth := k9m5) (c := k9c5) (by decide +kernel) rfl rfl rfl (by decide +kernel)
set_option maxRecDepth 65536 in
theorem w_c11 : (Jvm.Cond.code ({ cls := "java/lang/StringLatin1", name := "regionMatchesCI", desc := "([BI[BII)Z" } : Jvm.MethodName) jdk_43_method_30_code (8 : Nat) (Option.some Jvm.ClassFile.FieldType.boolean)).before args0 about1 = true := code_word (m := ⟨11, 2⟩) (meth := k11m2) (c := k11c2) (by decide +kernel) rfl rfl rfl (by decide +kernel)
set_option maxRecDepth 65536 in
theorem w_c12 : (Jvm.Cond.code ({ cls := "java/lang/StringUTF16", name := "compress", desc := "([CII)[B" } : Jvm.MethodName) jdk_52_method_16_code (6 : Nat) (Option.some (Jvm.ClassFile.FieldType.array Jvm.ClassFile.FieldType.byte))).before args0 about1 = true := code_word (m := ⟨12, 2⟩) (meth := k12m2) (c := k12c2) (by decide +kernel) rfl rfl rfl (by decide +kernel)
set_option maxRecDepth 65536 in
theorem w_c13 : (Jvm.Cond.code ({ cls := "java/lang/StringUTF16", name := "compress", desc := "([CI[BII)I" } : Jvm.MethodName) jdk_52_method_21_code (7 : Nat) (Option.some Jvm.ClassFile.FieldType.int)).before args0 about1 = true := code_word (m := ⟨12, 3⟩) (meth := k12m3) (c := k12c3) (by decide +kernel) rfl rfl rfl (by decide +kernel)
set_option maxRecDepth 65536 in
theorem w_c14 : (Jvm.Cond.code ({ cls := "java/lang/StringUTF16", name := "coderFromArrayLen", desc := "([BI)B" } : Jvm.MethodName) jdk_52_method_15_code (2 : Nat) (Option.some Jvm.ClassFile.FieldType.byte)).before args0 about1 = true := code_word (m := ⟨12, 1⟩) (meth := k12m1) (c := k12c1) (by decide +kernel) rfl rfl rfl (by decide +kernel)
set_option maxRecDepth 65536 in
theorem w_c15 : (Jvm.Cond.code ({ cls := "java/lang/String", name := "equals", desc := "(Ljava/lang/Object;)Z" } : Jvm.MethodName) jdk_42_method_66_code (3 : Nat) (Option.some Jvm.ClassFile.FieldType.boolean)).before args0 about1 = true := code_word (m := ⟨9, 3⟩) (meth := k9m3) (c := k9c3) (by decide +kernel) rfl rfl rfl (by decide +kernel)
set_option maxRecDepth 65536 in
theorem w_c16 : (Jvm.Cond.code ({ cls := "java/lang/StringLatin1", name := "equals", desc := "([B[B)Z" } : Jvm.MethodName) jdk_43_method_13_code (3 : Nat) (Option.some Jvm.ClassFile.FieldType.boolean)).before args0 about1 = true := code_word (m := ⟨11, 1⟩) (meth := k11m1) (c := k11c1) (by decide +kernel) rfl rfl rfl (by decide +kernel)
set_option maxRecDepth 65536 in
theorem w_c17 : (Jvm.Cond.code ({ cls := "java/lang/CharacterDataLatin1", name := "equalsIgnoreCase", desc := "(BB)Z" } : Jvm.MethodName) jdk_116_method_22_code (3 : Nat) (Option.some Jvm.ClassFile.FieldType.boolean)).before args0 about1 = true := code_word (m := ⟨14, 0⟩) (meth := k14m0) (c := k14c0) (by decide +kernel) rfl rfl rfl (by decide +kernel)
set_option maxRecDepth 65536 in
theorem w_c18 : (Jvm.Cond.code ({ cls := "com/example/entidad/entidad/query/TokenIsPinLaw", name := "fold", desc := "(C)I" } : Jvm.MethodName) method_4_code (1 : Nat) (Option.some Jvm.ClassFile.FieldType.int)).before args0 about1 = true := code_word (m := ⟨1, 3⟩) (meth := k1m3) (c := k1c3) (by decide +kernel) rfl rfl rfl (by decide +kernel)
def codes1 : List Jvm.Cond := [Jvm.Cond.code x code maxLocals ret, Jvm.Cond.code ({ cls := "com/example/entidad/entidad/query/TokenIsPinLaw", name := "mk", desc := "(ICC)Ljava/lang/String;" } : Jvm.MethodName) method_3_code (3 : Nat) (Option.some (Jvm.ClassFile.FieldType.object "java/lang/String")), Jvm.Cond.code ({ cls := "java/lang/String", name := "<init>", desc := "([C)V" } : Jvm.MethodName) jdk_42_method_3_code (2 : Nat) (Option.none : Option Jvm.ClassFile.FieldType), Jvm.Cond.code ({ cls := "java/lang/String", name := "<init>", desc := "([CIILjava/lang/Void;)V" } : Jvm.MethodName) jdk_42_method_149_code (6 : Nat) (Option.none : Option Jvm.ClassFile.FieldType), Jvm.Cond.code ({ cls := "java/lang/Object", name := "<init>", desc := "()V" } : Jvm.MethodName) object_method_1_code (1 : Nat) (Option.none : Option Jvm.ClassFile.FieldType), Jvm.Cond.code ({ cls := "com/example/entidad/entidad/query/Token", name := "<init>", desc := "(Lcom/example/entidad/entidad/query/Token$Kind;Ljava/lang/String;Ljava/lang/Object;I)V" } : Jvm.MethodName) prog_5_method_1_code (5 : Nat) (Option.none : Option Jvm.ClassFile.FieldType), Jvm.Cond.code ({ cls := "com/example/entidad/entidad/query/Token", name := "is", desc := "(Ljava/lang/String;)Z" } : Jvm.MethodName) prog_5_method_6_code (2 : Nat) (Option.some Jvm.ClassFile.FieldType.boolean), Jvm.Cond.code ({ cls := "java/lang/String", name := "equalsIgnoreCase", desc := "(Ljava/lang/String;)Z" } : Jvm.MethodName) jdk_42_method_70_code (2 : Nat) (Option.some Jvm.ClassFile.FieldType.boolean), Jvm.Cond.code ({ cls := "java/lang/String", name := "length", desc := "()I" } : Jvm.MethodName) jdk_42_method_54_code (1 : Nat) (Option.some Jvm.ClassFile.FieldType.int), Jvm.Cond.code ({ cls := "java/lang/String", name := "coder", desc := "()B" } : Jvm.MethodName) jdk_42_method_152_code (1 : Nat) (Option.some Jvm.ClassFile.FieldType.byte), Jvm.Cond.code ({ cls := "java/lang/String", name := "regionMatches", desc := "(ZILjava/lang/String;II)Z" } : Jvm.MethodName) jdk_42_method_74_code (9 : Nat) (Option.some Jvm.ClassFile.FieldType.boolean), Jvm.Cond.code ({ cls := "java/lang/StringLatin1", name := "regionMatchesCI", desc := "([BI[BII)Z" } : Jvm.MethodName) jdk_43_method_30_code (8 : Nat) (Option.some Jvm.ClassFile.FieldType.boolean), Jvm.Cond.code ({ cls := "java/lang/StringUTF16", name := "compress", desc := "([CII)[B" } : Jvm.MethodName) jdk_52_method_16_code (6 : Nat) (Option.some (Jvm.ClassFile.FieldType.array Jvm.ClassFile.FieldType.byte)), Jvm.Cond.code ({ cls := "java/lang/StringUTF16", name := "compress", desc := "([CI[BII)I" } : Jvm.MethodName) jdk_52_method_21_code (7 : Nat) (Option.some Jvm.ClassFile.FieldType.int), Jvm.Cond.code ({ cls := "java/lang/StringUTF16", name := "coderFromArrayLen", desc := "([BI)B" } : Jvm.MethodName) jdk_52_method_15_code (2 : Nat) (Option.some Jvm.ClassFile.FieldType.byte), Jvm.Cond.code ({ cls := "java/lang/String", name := "equals", desc := "(Ljava/lang/Object;)Z" } : Jvm.MethodName) jdk_42_method_66_code (3 : Nat) (Option.some Jvm.ClassFile.FieldType.boolean), Jvm.Cond.code ({ cls := "java/lang/StringLatin1", name := "equals", desc := "([B[B)Z" } : Jvm.MethodName) jdk_43_method_13_code (3 : Nat) (Option.some Jvm.ClassFile.FieldType.boolean), Jvm.Cond.code ({ cls := "java/lang/CharacterDataLatin1", name := "equalsIgnoreCase", desc := "(BB)Z" } : Jvm.MethodName) jdk_116_method_22_code (3 : Nat) (Option.some Jvm.ClassFile.FieldType.boolean), Jvm.Cond.code ({ cls := "com/example/entidad/entidad/query/TokenIsPinLaw", name := "fold", desc := "(C)I" } : Jvm.MethodName) method_4_code (1 : Nat) (Option.some Jvm.ClassFile.FieldType.int)]
set_option maxRecDepth 65536 in
theorem codes_eq : words1.filter isCode = codes1 := rfl
theorem w_codes : ∀ c ∈ words1.filter isCode, c.before args0 about1 = true := by
  rw [codes_eq]
  intro c hc
  simp only [codes1, List.mem_cons, List.not_mem_nil, or_false] at hc
  rcases hc with rfl | rfl | rfl | rfl | rfl | rfl | rfl | rfl | rfl | rfl | rfl | rfl | rfl | rfl | rfl | rfl | rfl | rfl | rfl
  · exact w_c0
  · exact w_c1
  · exact w_c2
  · exact w_c3
  · exact w_c4
  · exact w_c5
  · exact w_c6
  · exact w_c7
  · exact w_c8
  · exact w_c9
  · exact w_c10
  · exact w_c11
  · exact w_c12
  · exact w_c13
  · exact w_c14
  · exact w_c15
  · exact w_c16
  · exact w_c17
  · exact w_c18
set_option maxRecDepth 65536 in
theorem w_t1 : (words1.take 24).all (fun c => isCode c || c.before args0 about1) = true := by decide +kernel
set_option maxRecDepth 65536 in
theorem w_t2 : ((words1.drop 24).take 24).all (fun c => isCode c || c.before args0 about1) = true := by decide +kernel
set_option maxRecDepth 65536 in
theorem w_t3 : (((words1.drop 24).drop 24).take 24).all (fun c => isCode c || c.before args0 about1) = true := by decide +kernel
set_option maxRecDepth 65536 in
theorem w_t4 : ((((words1.drop 24).drop 24).drop 24).take 24).all (fun c => isCode c || c.before args0 about1) = true := by decide +kernel
set_option maxRecDepth 65536 in
theorem w_t5 : ((((words1.drop 24).drop 24).drop 24).drop 24).all (fun c => isCode c || c.before args0 about1) = true := by decide +kernel
theorem w_tables : (allAtoms (Jvm.Cond.code x code maxLocals ret :: tables_1)).before args0 about1 = true := by
  rw [allAtoms_all]
  show words1.all (fun c => c.before args0 about1) = true
  refine all_split ?_ w_codes
  rw [← List.take_append_drop 24 words1, List.all_append, w_t1, ← List.take_append_drop 24 (words1.drop 24), List.all_append, w_t2, ← List.take_append_drop 24 ((words1.drop 24).drop 24), List.all_append, w_t3, ← List.take_append_drop 24 (((words1.drop 24).drop 24).drop 24), List.all_append, w_t4, w_t5]
  rfl
set_option maxRecDepth 65536 in
theorem w_rest : rest_1_c.before args0 about1 = true := by decide +kernel
set_option maxRecDepth 65536 in
theorem w_case : (Jvm.Cond.and given_1 narrow_1).before args0 about1 = true := by decide +kernel
set_option maxRecDepth 65536 in
theorem w_consts : constsHeld consts_1 about1 := Jvm.Lit.constsHeldB_iff.mp (by decide +kernel)
theorem w_applies : (headSpec (Jvm.Cond.code x code maxLocals ret :: tables_1) room_1).applies x e0.platform about1 = true :=
  (Spec.applies_iff w_frames).mpr ⟨w_running, w_runnable, w_alone, w_named, w_hears, w_ripe, w_room, w_tables⟩
theorem atStart : AtStart classFile x code maxLocals ret World_1 tables_1 room_1 Calls_1 rest_1 Pre_1 launch0 p0 e0 about1 theMethod args0 below0 :=
  ⟨lists_1, trivial, launch0.admits_env _ _ _, launch0.least_env, fairChoices_fair.cas, fairChoices_fair.clock, w_frames, w_args, w_heap, w_applies, ⟨w_consts, trivial⟩, w_rest, w_case⟩
end start1
theorem witness_1 : WitnessClaimed_1 := ⟨start1.p0, start1.e0, start1.about1, start1.theMethod, start1.args0, start1.below0, start1.atStart⟩
end Jvm.Pilot.@@N@@
