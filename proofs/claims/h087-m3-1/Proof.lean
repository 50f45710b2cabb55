import JvmDerived
import JvmDerived.Pilot.@@N@@Statement
import JvmDerived.Pilot.@@N@@Code
set_option linter.unusedVariables false
set_option linter.unusedSimpArgs false
namespace Jvm.Wk9
open Sem ClassFile Op Lib Jvm.Stand Jvm.Free Jvm.LawKit Jvm.RoadKit
/-- the end of a walk; narrow (nothing interned) where wd is false -/
def FinE (wd : Bool) (s : State) (o : Outcome) (t : State) (L : List Loc) (k n : Nat) : Prop :=
  (wd = false → FrameEnd s o t L k n) ∧ ReturnedEndW s o t L k n
/-- what the walk keeps of the tables at hand and of the booked literals; mine: the cells it may write -/
def Vi (wd : Bool) (Z s : State) (EL : List (String × Nat)) (m0 mine : List Addr) (locs : List Loc) (vm : Vm) (h : Heap) : Prop :=
  ((wd = false → vm = s.vm) ∧ Z.Warmed39 vm ∧ (∃ k0, s.Since vm k0 ∧ k0 ≤ h.size) ∧ CHr Z EL s.vm s.heap vm h) ∧ (∀ x ∈ mine, x < h.size ∧ Safe Z EL vm h x ∧ Z.heap.size ≤ x ∧ (x ∈ m0 ∨ s.heap.size ≤ x)) ∧ Ext Z.heap h ∧ Keep s.heap h m0 ∧ Fr Z.heap.size locs
/-- from this frame over this heap the invocation comes to an end of which Q holds -/
def Go (wd : Bool) (p : Program) (l : Launch) (e : Env) (R : Room) (s : State) (m : MethodId) (args : Array Value) (below : List Frame) (meth : Method) (c : Code) (Z : State) (EL : List (String × Nat)) (Q : Option Value → Heap → Prop) (kc ks : Nat) (m0 mine : List Addr) (h : Heap) (locs : List Loc) (cells slots : Nat) (g : JFrame) : Prop :=
  ∀ (T : State) (vm0 : Vm), Stand p l e R (s.setVm vm0) m args below meth c T locs cells slots → T.heap = h → Vi wd Z s EL m0 mine locs vm0 h →
    ∃ (s₂ : State) (o : Outcome), Steps p.tables e below (T.setTop g) s₂ ∧ s₂.status = .running ∧ Ended s₂ below o ∧ ∃ (v : Option Value) (L : List Loc), o = .returned v ∧ Q v s₂.heap ∧ CHr Z EL s.vm s.heap s₂.vm s₂.heap ∧ FinE wd s o s₂ L kc ks ∧ Ext Z.heap s₂.heap ∧ Keep s.heap s₂.heap m0 ∧ Fr Z.heap.size L
/-- what is known of the method that is walked -/
def Cx (wd : Bool) (p : Program) (s : State) (m : MethodId) (meth : Method) (c : Code) (Z : State) (a0 : Array Value) (EL : List (String × Nat)) (own : String) (bytes : ByteArray) (ml : Nat) (ret : Option FieldType) (nm : String) : Prop :=
  p.tables.exec = Jvm.exec ∧ s.vm.findClass own = some m.cls ∧ c.code = bytes ∧ c.maxLocals = ml ∧ meth.sig.returnType = ret ∧ meth.locks = false ∧ EW Z a0 EL ∧ (wd = false → EL = []) ∧ meth.name = nm
/-- a contract: of the method y at these arguments, over the heap h -/
def MetW (wd : Bool) (l : Launch) (Z : State) (EL : List (String × Nat)) (y : MethodName) (bytes : ByteArray) (ml : Nat) (ret : Option FieldType) (ws : List Cond) (rm : Room) (as' : Array Value) (m0 : List Addr) (h : Heap) (Q : Option Value → Heap → Prop) : Prop :=
  MetFree l y (head1 (Cond.code y bytes ml ret :: ws) rm) (fun a U => a = as' ∧ Z.Warmed39 U.vm ∧ U.heap = h ∧ CHv Z EL U.vm h ∧ (∀ x ∈ m0, x < h.size ∧ Safe Z EL U.vm h x ∧ Z.heap.size ≤ x) ∧ Ext Z.heap h) (fun _ _ _ _ _ => True)
    (fun _ U o U' => ∃ v L, o = .returned v ∧ Q v U'.heap ∧ CHr Z EL U.vm U.heap U'.vm U'.heap ∧ FinE wd U o U' L rm.cells rm.slots ∧ Ext Z.heap U'.heap ∧ Keep U.heap U'.heap m0 ∧ Fr Z.heap.size L)
/-- an array whose places hold just vs -/
def Av (Z : State) (h : Heap) (a : Addr) (ty : FieldType) (vs : List Value) : Prop :=
  ∃ c : Cell, Arr Z h a c ty ∧ c.slots.toList = vs ∧ vs.length < 2147483648 ∧ ∀ v ∈ vs, fits ty v = true
section K
variable {wd : Bool} {p : Program} {l : Launch} {e : Env} {R : Room} {s : State} {m : MethodId} {args : Array Value} {below : List Frame} {meth : Method} {c : Code} {Z : State} {a0 : Array Value} {EL : List (String × Nat)} {Q : Option Value → Heap → Prop} {kc ks : Nat} {m0 mine : List Addr} {h h' : Heap} {locs : List Loc} {cells slots : Nat} {own nm : String} {bytes : ByteArray} {ml : Nat} {ret : Option FieldType} {pc : Nat} {Ls : Array Slot} {st : List Value} {a b : Addr} {ty : FieldType} {vs : List Value} {vm : Vm} {ws : List Addr} {v : Value} {sl : Nat}
theorem Cx.hx (C : Cx wd p s m meth c Z a0 EL own bytes ml ret nm) : p.tables.exec = Jvm.exec := C.1
theorem Cx.hown (C : Cx wd p s m meth c Z a0 EL own bytes ml ret nm) : s.vm.findClass own = some m.cls := C.2.1
theorem Cx.hby (C : Cx wd p s m meth c Z a0 EL own bytes ml ret nm) : c.code = bytes := C.2.2.1
theorem Cx.hml (C : Cx wd p s m meth c Z a0 EL own bytes ml ret nm) : c.maxLocals = ml := C.2.2.2.1
theorem Cx.hret (C : Cx wd p s m meth c Z a0 EL own bytes ml ret nm) : meth.sig.returnType = ret := C.2.2.2.2.1
theorem Cx.hlk (C : Cx wd p s m meth c Z a0 EL own bytes ml ret nm) : meth.locks = false := C.2.2.2.2.2.1
theorem Cx.hEW (C : Cx wd p s m meth c Z a0 EL own bytes ml ret nm) : EW Z a0 EL := C.2.2.2.2.2.2.1
theorem Cx.hwd (C : Cx wd p s m meth c Z a0 EL own bytes ml ret nm) : wd = false → EL = [] := C.2.2.2.2.2.2.2.1
theorem Cx.hnm (C : Cx wd p s m meth c Z a0 EL own bytes ml ret nm) : meth.name = nm := C.2.2.2.2.2.2.2.2
theorem Vi.hZ (V : Vi wd Z s EL m0 mine locs vm h) : Z.Warmed39 vm := V.1.2.1
theorem Vi.hZ' (V : Vi wd Z s EL m0 mine locs vm h) : Z.Warmed39 (s.setVm vm).vm := V.1.2.1
theorem Vi.held (V : Vi wd Z s EL m0 mine locs vm h) : CHv Z EL vm h := V.1.2.2.2.1
theorem Vi.fr (V : Vi wd Z s EL m0 mine locs vm h) : Fr Z.heap.size locs := V.2.2.2.2
theorem Vi.old (V : Vi wd Z s EL m0 mine locs vm h) : Ext Z.heap h := V.2.2.1
theorem Vi.hown (C : Cx wd p s m meth c Z a0 EL own bytes ml ret nm) (V : Vi wd Z s EL m0 mine locs vm h) : (s.setVm vm).vm.findClass own = some m.cls := by
  obtain ⟨⟨-, -, ⟨k0, hS, -⟩, -⟩, -⟩ := V
  show vm.findClass own = some m.cls
  rw [hS.1.alike.findClass]; exact C.hown
theorem Vi.hown' (C : Cx wd p s m meth c Z a0 EL own bytes ml ret nm) (V : Vi wd Z s EL m0 mine locs vm h) : vm.findClass own = some m.cls := V.hown C
theorem Vi.keep {locs' : List Loc} (K : Keep h h' ws) (hw : ∀ x ∈ ws, x ∈ mine) (hF : Fr Z.heap.size locs') (V : Vi wd Z s EL m0 mine locs vm h) : Vi wd Z s EL m0 mine locs' vm h' := by
  obtain ⟨⟨v1, v2, ⟨k0, v3, v4⟩, v5⟩, v6, v7, v8, v9⟩ := V
  have sf : ∀ x ∈ ws, Safe Z EL vm h x := fun x hx => (v6 x (hw x hx)).2.1
  have R2 : CHr Z EL vm h vm h' := CHr.keep K sf v5.1
  exact ⟨⟨v1, v2, ⟨k0, v3, Nat.le_trans v4 K.1⟩, v5.trans R2⟩, fun x hx => ⟨Nat.lt_of_lt_of_le (v6 x hx).1 K.1, R2.safe (v6 x hx).1 (v6 x hx).2.1, (v6 x hx).2.2⟩,
    (Old.keep (n0 := Z.heap.size) ⟨rfl, v7⟩ K (fun x hx => (v6 x (hw x hx)).2.2.1)).2, v8.trans K (fun x hx => (v6 x (hw x hx)).2.2.2), hF⟩
theorem keep_ext (E : Ext h h') : Keep h h' [] := (Keep.refl h []).ext E
theorem Vi.ext (E : Ext h h') (V : Vi wd Z s EL m0 mine locs vm h) : Vi wd Z s EL m0 mine locs vm h' := V.keep (keep_ext E) (fun _ q => nomatch q) V.fr
theorem Vi.new (E : Ext h h') (hlt : h.size < h'.size) (V : Vi wd Z s EL m0 mine locs vm h) : Vi wd Z s EL m0 (h.size :: mine) locs vm h' := by
  have V' := V.ext E
  refine ⟨V'.1, fun x hx => ?_, V'.2.2⟩
  rcases List.mem_cons.mp hx with rfl | hx
  · exact ⟨hlt, Safe.ext E V.held (Safe.new (Nat.le_refl _)), V.2.2.1.1, Or.inr V.2.2.2.1.1⟩
  · exact V'.2.1 x hx
theorem Vi.less {mine' : List Addr} (hm : ∀ x ∈ mine', x ∈ mine) (V : Vi wd Z s EL m0 mine locs vm h) : Vi wd Z s EL m0 mine' locs vm h :=
  ⟨V.1, fun x hx => V.2.1 x (hm x hx), V.2.2⟩
theorem Vi.wr1 (V : Vi wd Z s EL m0 mine locs vm h) (hm : a ∈ mine) : Fr Z.heap.size (locs ++ [⟨a, sl⟩]) := fun y hy => by
  rcases List.mem_append.mp hy with q | q
  · exact V.fr y q
  · rw [List.mem_singleton.mp q]; exact (V.2.1 a hm).2.2.1
theorem Go.less {mine' : List Addr} {g : JFrame} (hm : ∀ x ∈ mine', x ∈ mine) (nx : Go wd p l e R s m args below meth c Z EL Q kc ks m0 mine' h locs cells slots g) : Go wd p l e R s m args below meth c Z EL Q kc ks m0 mine h locs cells slots g :=
  fun T vm0 X eT V => nx T vm0 X eT (V.less hm)
theorem Go.join {α : Sort _} {P : α → JFrame} {g : JFrame} (k : ∀ x, Go wd p l e R s m args below meth c Z EL Q kc ks m0 mine h locs cells slots (P x)) (u : (∀ x, Go wd p l e R s m args below meth c Z EL Q kc ks m0 mine h locs cells slots (P x)) → Go wd p l e R s m args below meth c Z EL Q kc ks m0 mine h locs cells slots g) : Go wd p l e R s m args below meth c Z EL Q kc ks m0 mine h locs cells slots g := u k
/-- what the walk knows besides, brought to light -/
theorem Go.know {g : JFrame} (nx : Ext Z.heap h → Keep s.heap h m0 → (∀ x ∈ mine, x < h.size ∧ Z.heap.size ≤ x) → Go wd p l e R s m args below meth c Z EL Q kc ks m0 mine h locs cells slots g) : Go wd p l e R s m args below meth c Z EL Q kc ks m0 mine h locs cells slots g :=
  fun T vm0 X eT V => nx V.2.2.1 V.2.2.2.1 (fun x hx => ⟨(V.2.1 x hx).1, (V.2.1 x hx).2.2.1⟩) T vm0 X eT V
theorem FinE.mono {o : Outcome} {t : State} {L : List Loc} {k n k' n' : Nat} (F : FinE wd s o t L k n) (h1 : k ≤ k') (h2 : n ≤ n') : FinE wd s o t L k' n' :=
  ⟨fun q => ⟨(F.1 q).1, (F.1 q).2.1, (F.1 q).2.2.mono h1 h2⟩, F.2.1, F.2.2.1, F.2.2.2.1, F.2.2.2.2.mono h1 h2⟩
theorem MetW.post {y : MethodName} {wsc : List Cond} {rm : Room} {as' : Array Value} {Q' : Option Value → Heap → Prop} (M : MetW wd l Z EL y bytes ml ret wsc rm as' m0 h Q) (hq : ∀ v h', Q v h' → Keep h h' m0 → Q' v h') : MetW wd l Z EL y bytes ml ret wsc rm as' m0 h Q' :=
  MetFree.mono M (fun _ _ q => q) (fun _ _ _ _ _ q => q) (fun _ _ _ _ hP ⟨v, L, q1, q2, q3, q4, q5, q6, q7⟩ => ⟨v, L, q1, hq _ _ q2 (by rw [← hP.2.2.1]; exact q6), q3, q4, q5, q6, q7⟩)
/-- the entry of a method -/
theorem MetW.of {y : MethodName} {wsc : List Cond} {rm : Room} {as' : Array Value} (hpn : plainName y.cls = true) (hef : ∀ m : MethodId, entryFrame m as' ml = mkF m 0 Ls []) (hEW : EW Z a0 EL) (hwd : wd = false → EL = [])
    (body : ∀ (p : Program) (e : Env) (s : State) (m : MethodId) (below : List Frame) (meth : Method) (c : Code), s.heap = h → Cx wd p s m meth c Z a0 EL y.cls bytes ml ret y.name → Go wd p l e rm s m as' below meth c Z EL Q rm.cells rm.slots m0 m0 h [] 0 0 (mkF m 0 Ls [])) :
    MetW wd l Z EL y bytes ml ret wsc rm as' m0 h Q := by
  refine MetFree.of_bodySF (plainFor_of_name hpn) hisR ?_
  intro p e s m args below meth c s₁ Bd hml0 hP hK
  obtain ⟨rfl, hZ, hh, H, hm, hold⟩ := hP
  have X0 : Stand p l e rm s m args below meth c s₁ [] 0 0 := Stand.of_body Bd
  have e0 : s₁.heap = h := by rw [← hh, Bd.state]; rfl
  have hlk : meth.locks = false := by first | exact BodyLoose.notSynchronized Bd | exact Body.notSynchronized Bd
  have C : Cx wd p s m meth c Z a0 EL y.cls bytes ml ret y.name := ⟨Bd.exec, findClass_of_methodNamed Bd.named, Bd.bytes, hml0, Bd.returns, hlk, hEW, hwd, (name_of_methodNamed Bd.named Bd.method).1⟩
  have V : Vi wd Z s EL m0 m0 [] s.vm h := ⟨⟨fun _ => rfl, hZ, ⟨h.size, ⟨State.Warmed39.refl s, fun j q hj hq => absurd (Array.getElem?_eq_some_iff.mp hq).1 (Nat.not_lt.mpr hj)⟩, Nat.le_refl _⟩, by rw [hh]; exact CHr.refl H⟩, fun x hx => ⟨(hm x hx).1, (hm x hx).2.1, (hm x hx).2.2, Or.inl hx⟩, hold, by rw [hh]; exact Keep.refl _ _, Fr.nil _⟩
  obtain ⟨s₂, o, k, r1, r2, v, L, r3, r4, r5, r6⟩ := body p e s m below meth c hh C s₁ s.vm X0 e0 V
  exact ⟨s₂, o, castTop (hef m) k, r1, r2, v, L, r3, r4, r5, r6⟩
theorem Go.pure {g g' : JFrame} (nx : Go wd p l e R s m args below meth c Z EL Q kc ks m0 mine h locs cells slots g') (stp : ∀ (T target : State), At T m c below → Steps p.tables e below (T.setTop g') target → Steps p.tables e below (T.setTop g) target) : Go wd p l e R s m args below meth c Z EL Q kc ks m0 mine h locs cells slots g :=
  fun T vm0 X eT V => by
    obtain ⟨s₂, o, k, r⟩ := nx T vm0 X eT V
    exact ⟨s₂, o, stp T s₂ X.here k, r⟩
def hC (cd : ClassFile.Cond) (x y : Int32) : Prop := match cd with | .eq => x = y | .ne => ¬ x = y | .lt => x < y | .ge => ¬ x < y | .gt => y < x | .le => ¬ y < x
def nC (cd : ClassFile.Cond) (x y : Int32) : Prop := match cd with | .eq => ¬ x = y | .ne => x = y | .lt => ¬ x < y | .ge => x < y | .gt => ¬ y < x | .le => y < x
theorem hC_t {cd : ClassFile.Cond} {x y : Int32} (q : hC cd x y) : if_icmp.holds cd x y = true := by
  cases cd
  · exact (teq q).1
  · exact (feq q).2
  · exact (tlt q).1
  · exact (flt q).2.1
  · exact (tlt q).2.2.1
  · exact (flt q).2.2.2
theorem nC_f {cd : ClassFile.Cond} {x y : Int32} (q : nC cd x y) : if_icmp.holds cd x y = false := by
  cases cd
  · exact (feq q).1
  · exact (teq q).2
  · exact (flt q).1
  · exact (tlt q).2.1
  · exact (flt q).2.2.1
  · exact (tlt q).2.2.2
def aC (cd : ClassFile.ACond) (x y : Value) : Prop := match cd with | .eq => x = y | .ne => ¬ x = y
def aN (cd : ClassFile.ACond) (x y : Value) : Prop := match cd with | .eq => ¬ x = y | .ne => x = y
theorem aC_t {cd : ClassFile.ACond} {x y : Value} (q : aC cd x y) : XT.acmp cd x y = true := by
  cases cd
  · exact XT.aa_eq_t q
  · exact XT.aa_ne_t q
theorem aN_f {cd : ClassFile.ACond} {x y : Value} (q : aN cd x y) : XT.acmp cd x y = false := by
  cases cd
  · exact XT.aa_eq_f q
  · exact XT.aa_ne_f q
theorem g_aloadN {k : Fin 4} {v : Value} (C : Cx wd p s m meth c Z a0 EL own bytes ml ret nm) (hd : decode bytes pc = .ok (.aload_n k, 1)) (hl : Ls[k.val]? = some (.val v)) (hv : v.isRef = true) (nx : Go wd p l e R s m args below meth c Z EL Q kc ks m0 mine h locs cells slots (mkF m (pc + 1) Ls (v :: st))) : Go wd p l e R s m args below meth c Z EL Q kc ks m0 mine h locs cells slots (mkF m pc Ls (st)) := nx.pure fun T t H hr => XS.aloadN H C.hx rfl (hb C.hby hd) hl hv hr
theorem g_aload {k : Nat} {v : Value} (C : Cx wd p s m meth c Z a0 EL own bytes ml ret nm) (hd : decode bytes pc = .ok (.aload k, 2)) (hl : Ls[k]? = some (.val v)) (hv : v.isRef = true) (nx : Go wd p l e R s m args below meth c Z EL Q kc ks m0 mine h locs cells slots (mkF m (pc + 2) Ls (v :: st))) : Go wd p l e R s m args below meth c Z EL Q kc ks m0 mine h locs cells slots (mkF m pc Ls (st)) := nx.pure fun T t H hr => XS.aload H C.hx rfl (hb C.hby hd) hl hv hr
theorem g_iloadN {k : Fin 4} {x : Int32} (C : Cx wd p s m meth c Z a0 EL own bytes ml ret nm) (hd : decode bytes pc = .ok (.iload_n k, 1)) (hl : Ls[k.val]? = some (.val (.int x))) (nx : Go wd p l e R s m args below meth c Z EL Q kc ks m0 mine h locs cells slots (mkF m (pc + 1) Ls (.int x :: st))) : Go wd p l e R s m args below meth c Z EL Q kc ks m0 mine h locs cells slots (mkF m pc Ls (st)) := nx.pure fun T t H hr => XS.iloadN H C.hx rfl (hb C.hby hd) hl hr
theorem g_iload {k : Nat} {x : Int32} (C : Cx wd p s m meth c Z a0 EL own bytes ml ret nm) (hd : decode bytes pc = .ok (.iload k, 2)) (hl : Ls[k]? = some (.val (.int x))) (nx : Go wd p l e R s m args below meth c Z EL Q kc ks m0 mine h locs cells slots (mkF m (pc + 2) Ls (.int x :: st))) : Go wd p l e R s m args below meth c Z EL Q kc ks m0 mine h locs cells slots (mkF m pc Ls (st)) := nx.pure fun T t H hr => XS.iload H C.hx rfl (hb C.hby hd) hl hr
theorem g_lloadN {k : Fin 4} {x : Int64} (C : Cx wd p s m meth c Z a0 EL own bytes ml ret nm) (hd : decode bytes pc = .ok (.lload_n k, 1)) (hl : Ls[k.val]? = some (.val (.long x))) (nx : Go wd p l e R s m args below meth c Z EL Q kc ks m0 mine h locs cells slots (mkF m (pc + 1) Ls (.long x :: st))) : Go wd p l e R s m args below meth c Z EL Q kc ks m0 mine h locs cells slots (mkF m pc Ls (st)) := nx.pure fun T t H hr => XT.lloadN H C.hx rfl (hb C.hby hd) hl hr
theorem g_lload {k : Nat} {x : Int64} (C : Cx wd p s m meth c Z a0 EL own bytes ml ret nm) (hd : decode bytes pc = .ok (.lload k, 2)) (hl : Ls[k]? = some (.val (.long x))) (nx : Go wd p l e R s m args below meth c Z EL Q kc ks m0 mine h locs cells slots (mkF m (pc + 2) Ls (.long x :: st))) : Go wd p l e R s m args below meth c Z EL Q kc ks m0 mine h locs cells slots (mkF m pc Ls (st)) := nx.pure fun T t H hr => XT.lload H C.hx rfl (hb C.hby hd) hl hr
theorem g_istoreN {k : Fin 4} {x : Int32} (l' : Array Slot) (C : Cx wd p s m meth c Z a0 EL own bytes ml ret nm) (hd : decode bytes pc = .ok (.istore_n k, 1)) (hl : storeLocals Ls k.val (.int x) = some l') (nx : Go wd p l e R s m args below meth c Z EL Q kc ks m0 mine h locs cells slots (mkF m (pc + 1) l' (st))) : Go wd p l e R s m args below meth c Z EL Q kc ks m0 mine h locs cells slots (mkF m pc Ls (.int x :: st)) := nx.pure fun T t H hr => XS.istoreN H C.hx rfl (hb C.hby hd) rfl hl hr
theorem g_istore {k : Nat} {x : Int32} (l' : Array Slot) (C : Cx wd p s m meth c Z a0 EL own bytes ml ret nm) (hd : decode bytes pc = .ok (.istore k, 2)) (hl : storeLocals Ls k (.int x) = some l') (nx : Go wd p l e R s m args below meth c Z EL Q kc ks m0 mine h locs cells slots (mkF m (pc + 2) l' (st))) : Go wd p l e R s m args below meth c Z EL Q kc ks m0 mine h locs cells slots (mkF m pc Ls (.int x :: st)) := nx.pure fun T t H hr => XS.istore H C.hx rfl (hb C.hby hd) rfl hl hr
theorem g_lstoreN {k : Fin 4} {x : Int64} (l' : Array Slot) (C : Cx wd p s m meth c Z a0 EL own bytes ml ret nm) (hd : decode bytes pc = .ok (.lstore_n k, 1)) (hl : storeLocals Ls k.val (.long x) = some l') (nx : Go wd p l e R s m args below meth c Z EL Q kc ks m0 mine h locs cells slots (mkF m (pc + 1) l' (st))) : Go wd p l e R s m args below meth c Z EL Q kc ks m0 mine h locs cells slots (mkF m pc Ls (.long x :: st)) := nx.pure fun T t H hr => XT.lstoreN H C.hx rfl (hb C.hby hd) rfl hl hr
theorem g_lstore {k : Nat} {x : Int64} (l' : Array Slot) (C : Cx wd p s m meth c Z a0 EL own bytes ml ret nm) (hd : decode bytes pc = .ok (.lstore k, 2)) (hl : storeLocals Ls k (.long x) = some l') (nx : Go wd p l e R s m args below meth c Z EL Q kc ks m0 mine h locs cells slots (mkF m (pc + 2) l' (st))) : Go wd p l e R s m args below meth c Z EL Q kc ks m0 mine h locs cells slots (mkF m pc Ls (.long x :: st)) := nx.pure fun T t H hr => XT.lstore H C.hx rfl (hb C.hby hd) rfl hl hr
theorem g_astoreN {k : Fin 4} {x : Value} (l' : Array Slot) (C : Cx wd p s m meth c Z a0 EL own bytes ml ret nm) (hd : decode bytes pc = .ok (.astore_n k, 1)) (hv : x.isRef = true) (hl : storeLocals Ls k.val x = some l') (nx : Go wd p l e R s m args below meth c Z EL Q kc ks m0 mine h locs cells slots (mkF m (pc + 1) l' (st))) : Go wd p l e R s m args below meth c Z EL Q kc ks m0 mine h locs cells slots (mkF m pc Ls (x :: st)) := nx.pure fun T t H hr => XS.astoreN H C.hx rfl (hb C.hby hd) rfl hv hl hr
theorem g_astore {k : Nat} {x : Value} (l' : Array Slot) (C : Cx wd p s m meth c Z a0 EL own bytes ml ret nm) (hd : decode bytes pc = .ok (.astore k, 2)) (hv : x.isRef = true) (hl : storeLocals Ls k x = some l') (nx : Go wd p l e R s m args below meth c Z EL Q kc ks m0 mine h locs cells slots (mkF m (pc + 2) l' (st))) : Go wd p l e R s m args below meth c Z EL Q kc ks m0 mine h locs cells slots (mkF m pc Ls (x :: st)) := nx.pure fun T t H hr => XS.astore H C.hx rfl (hb C.hby hd) rfl hv hl hr
theorem g_iconst {i : Int} (z : Int32) (C : Cx wd p s m meth c Z a0 EL own bytes ml ret nm) (hd : decode bytes pc = .ok (.iconst i, 1)) (hz : Int32.ofInt i = z) (nx : Go wd p l e R s m args below meth c Z EL Q kc ks m0 mine h locs cells slots (mkF m (pc + 1) Ls (.int z :: st))) : Go wd p l e R s m args below meth c Z EL Q kc ks m0 mine h locs cells slots (mkF m pc Ls (st)) := nx.pure fun T t H hr => XT.iconstV H C.hx rfl z (hb C.hby hd) hz hr
theorem g_bipush {i : Int} (z : Int32) (C : Cx wd p s m meth c Z a0 EL own bytes ml ret nm) (hd : decode bytes pc = .ok (.bipush i, 2)) (hz : (Int8.ofInt i).toInt32 = z) (nx : Go wd p l e R s m args below meth c Z EL Q kc ks m0 mine h locs cells slots (mkF m (pc + 2) Ls (.int z :: st))) : Go wd p l e R s m args below meth c Z EL Q kc ks m0 mine h locs cells slots (mkF m pc Ls (st)) := nx.pure fun T t H hr => XT.bipushV H C.hx rfl z (hb C.hby hd) hz hr
theorem g_sipush {i : Int} (z : Int32) (C : Cx wd p s m meth c Z a0 EL own bytes ml ret nm) (hd : decode bytes pc = .ok (.sipush i, 3)) (hz : (Int16.ofInt i).toInt32 = z) (nx : Go wd p l e R s m args below meth c Z EL Q kc ks m0 mine h locs cells slots (mkF m (pc + 3) Ls (.int z :: st))) : Go wd p l e R s m args below meth c Z EL Q kc ks m0 mine h locs cells slots (mkF m pc Ls (st)) := nx.pure fun T t H hr => XT.sipushV H C.hx rfl z (hb C.hby hd) hz hr
theorem g_lconst {k : Fin 2} (z : Int64) (C : Cx wd p s m meth c Z a0 EL own bytes ml ret nm) (hd : decode bytes pc = .ok (.lconst k, 1)) (hz : Int64.ofNat k = z) (nx : Go wd p l e R s m args below meth c Z EL Q kc ks m0 mine h locs cells slots (mkF m (pc + 1) Ls (.long z :: st))) : Go wd p l e R s m args below meth c Z EL Q kc ks m0 mine h locs cells slots (mkF m pc Ls (st)) := nx.pure fun T t H hr => XT.lconstV H C.hx rfl z (hb C.hby hd) hz hr
theorem g_aconstNull  (C : Cx wd p s m meth c Z a0 EL own bytes ml ret nm) (hd : decode bytes pc = .ok (.aconst_null, 1))  (nx : Go wd p l e R s m args below meth c Z EL Q kc ks m0 mine h locs cells slots (mkF m (pc + 1) Ls (.null :: st))) : Go wd p l e R s m args below meth c Z EL Q kc ks m0 mine h locs cells slots (mkF m pc Ls (st)) := nx.pure fun T t H hr => XS.aconstNull H C.hx rfl (hb C.hby hd) hr
theorem g_iadd {x y : Int32} (z : Int32) (C : Cx wd p s m meth c Z a0 EL own bytes ml ret nm) (hd : decode bytes pc = .ok (.iadd, 1)) (hz : x + y = z) (nx : Go wd p l e R s m args below meth c Z EL Q kc ks m0 mine h locs cells slots (mkF m (pc + 1) Ls (.int z :: st))) : Go wd p l e R s m args below meth c Z EL Q kc ks m0 mine h locs cells slots (mkF m pc Ls (.int y :: .int x :: st)) := by subst hz; exact nx.pure fun T t H hr => XS.iadd H C.hx rfl (hb C.hby hd) rfl hr
theorem g_isub {x y : Int32} (z : Int32) (C : Cx wd p s m meth c Z a0 EL own bytes ml ret nm) (hd : decode bytes pc = .ok (.isub, 1)) (hz : x - y = z) (nx : Go wd p l e R s m args below meth c Z EL Q kc ks m0 mine h locs cells slots (mkF m (pc + 1) Ls (.int z :: st))) : Go wd p l e R s m args below meth c Z EL Q kc ks m0 mine h locs cells slots (mkF m pc Ls (.int y :: .int x :: st)) := by subst hz; exact nx.pure fun T t H hr => XS.isub H C.hx rfl (hb C.hby hd) rfl hr
theorem g_iand {x y : Int32} (z : Int32) (C : Cx wd p s m meth c Z a0 EL own bytes ml ret nm) (hd : decode bytes pc = .ok (.iand, 1)) (hz : x &&& y = z) (nx : Go wd p l e R s m args below meth c Z EL Q kc ks m0 mine h locs cells slots (mkF m (pc + 1) Ls (.int z :: st))) : Go wd p l e R s m args below meth c Z EL Q kc ks m0 mine h locs cells slots (mkF m pc Ls (.int y :: .int x :: st)) := by subst hz; exact nx.pure fun T t H hr => XS.iand H C.hx rfl (hb C.hby hd) rfl hr
theorem g_imul {x y : Int32} (z : Int32) (C : Cx wd p s m meth c Z a0 EL own bytes ml ret nm) (hd : decode bytes pc = .ok (.imul, 1)) (hz : x * y = z) (nx : Go wd p l e R s m args below meth c Z EL Q kc ks m0 mine h locs cells slots (mkF m (pc + 1) Ls (.int z :: st))) : Go wd p l e R s m args below meth c Z EL Q kc ks m0 mine h locs cells slots (mkF m pc Ls (.int y :: .int x :: st)) := by subst hz; exact nx.pure fun T t H hr => XS.imul H C.hx rfl (hb C.hby hd) rfl hr
theorem g_ixor {x y : Int32} (z : Int32) (C : Cx wd p s m meth c Z a0 EL own bytes ml ret nm) (hd : decode bytes pc = .ok (.ixor, 1)) (hz : x ^^^ y = z) (nx : Go wd p l e R s m args below meth c Z EL Q kc ks m0 mine h locs cells slots (mkF m (pc + 1) Ls (.int z :: st))) : Go wd p l e R s m args below meth c Z EL Q kc ks m0 mine h locs cells slots (mkF m pc Ls (.int y :: .int x :: st)) := by subst hz; exact nx.pure fun T t H hr => XT.ixor H C.hx rfl (hb C.hby hd) rfl hr
theorem g_ior {x y : Int32} (z : Int32) (C : Cx wd p s m meth c Z a0 EL own bytes ml ret nm) (hd : decode bytes pc = .ok (.ior, 1)) (hz : x ||| y = z) (nx : Go wd p l e R s m args below meth c Z EL Q kc ks m0 mine h locs cells slots (mkF m (pc + 1) Ls (.int z :: st))) : Go wd p l e R s m args below meth c Z EL Q kc ks m0 mine h locs cells slots (mkF m pc Ls (.int y :: .int x :: st)) := by subst hz; exact nx.pure fun T t H hr => XT.ior H C.hx rfl (hb C.hby hd) rfl hr
theorem g_ishl {x y : Int32} (z : Int32) (C : Cx wd p s m meth c Z a0 EL own bytes ml ret nm) (hd : decode bytes pc = .ok (.ishl, 1)) (hz : x <<< (y &&& 31) = z) (nx : Go wd p l e R s m args below meth c Z EL Q kc ks m0 mine h locs cells slots (mkF m (pc + 1) Ls (.int z :: st))) : Go wd p l e R s m args below meth c Z EL Q kc ks m0 mine h locs cells slots (mkF m pc Ls (.int y :: .int x :: st)) := by subst hz; exact nx.pure fun T t H hr => XT.ishl H C.hx rfl (hb C.hby hd) rfl hr
theorem g_ishr {x y : Int32} (z : Int32) (C : Cx wd p s m meth c Z a0 EL own bytes ml ret nm) (hd : decode bytes pc = .ok (.ishr, 1)) (hz : x >>> (y &&& 31) = z) (nx : Go wd p l e R s m args below meth c Z EL Q kc ks m0 mine h locs cells slots (mkF m (pc + 1) Ls (.int z :: st))) : Go wd p l e R s m args below meth c Z EL Q kc ks m0 mine h locs cells slots (mkF m pc Ls (.int y :: .int x :: st)) := by subst hz; exact nx.pure fun T t H hr => XT.ishr H C.hx rfl (hb C.hby hd) rfl hr
theorem g_iushr {x y : Int32} (z : Int32) (C : Cx wd p s m meth c Z a0 EL own bytes ml ret nm) (hd : decode bytes pc = .ok (.iushr, 1)) (hz : XT.ushr x y = z) (nx : Go wd p l e R s m args below meth c Z EL Q kc ks m0 mine h locs cells slots (mkF m (pc + 1) Ls (.int z :: st))) : Go wd p l e R s m args below meth c Z EL Q kc ks m0 mine h locs cells slots (mkF m pc Ls (.int y :: .int x :: st)) := by subst hz; exact nx.pure fun T t H hr => XT.iushr H C.hx rfl (hb C.hby hd) rfl hr
theorem g_idiv {x y : Int32} (z : Int32) (C : Cx wd p s m meth c Z a0 EL own bytes ml ret nm) (hd : decode bytes pc = .ok (.idiv, 1)) (hy : y ≠ 0) (hz : x / y = z) (nx : Go wd p l e R s m args below meth c Z EL Q kc ks m0 mine h locs cells slots (mkF m (pc + 1) Ls (.int z :: st))) : Go wd p l e R s m args below meth c Z EL Q kc ks m0 mine h locs cells slots (mkF m pc Ls (.int y :: .int x :: st)) := by subst hz; exact nx.pure fun T t H hr => XS.idiv H C.hx rfl (hb C.hby hd) rfl hy hr
theorem g_irem {x y : Int32} (z : Int32) (C : Cx wd p s m meth c Z a0 EL own bytes ml ret nm) (hd : decode bytes pc = .ok (.irem, 1)) (hy : y ≠ 0) (hz : x - (x / y) * y = z) (nx : Go wd p l e R s m args below meth c Z EL Q kc ks m0 mine h locs cells slots (mkF m (pc + 1) Ls (.int z :: st))) : Go wd p l e R s m args below meth c Z EL Q kc ks m0 mine h locs cells slots (mkF m pc Ls (.int y :: .int x :: st)) := by subst hz; exact nx.pure fun T t H hr => XS.irem H C.hx rfl (hb C.hby hd) rfl hy hr
theorem g_ineg {x : Int32} (z : Int32) (C : Cx wd p s m meth c Z a0 EL own bytes ml ret nm) (hd : decode bytes pc = .ok (.ineg, 1)) (hz : -x = z) (nx : Go wd p l e R s m args below meth c Z EL Q kc ks m0 mine h locs cells slots (mkF m (pc + 1) Ls (.int z :: st))) : Go wd p l e R s m args below meth c Z EL Q kc ks m0 mine h locs cells slots (mkF m pc Ls (.int x :: st)) := by subst hz; exact nx.pure fun T t H hr => XS.ineg H C.hx rfl (hb C.hby hd) rfl hr
theorem g_i2b {x : Int32} (z : Int32) (C : Cx wd p s m meth c Z a0 EL own bytes ml ret nm) (hd : decode bytes pc = .ok (.i2b, 1)) (hz : x.toInt8.toInt32 = z) (nx : Go wd p l e R s m args below meth c Z EL Q kc ks m0 mine h locs cells slots (mkF m (pc + 1) Ls (.int z :: st))) : Go wd p l e R s m args below meth c Z EL Q kc ks m0 mine h locs cells slots (mkF m pc Ls (.int x :: st)) := by subst hz; exact nx.pure fun T t H hr => XT.i2b H C.hx rfl (hb C.hby hd) rfl hr
theorem g_i2c {x : Int32} (z : Int32) (C : Cx wd p s m meth c Z a0 EL own bytes ml ret nm) (hd : decode bytes pc = .ok (.i2c, 1)) (hz : x.toUInt32.toUInt16.toUInt32.toInt32 = z) (nx : Go wd p l e R s m args below meth c Z EL Q kc ks m0 mine h locs cells slots (mkF m (pc + 1) Ls (.int z :: st))) : Go wd p l e R s m args below meth c Z EL Q kc ks m0 mine h locs cells slots (mkF m pc Ls (.int x :: st)) := by subst hz; exact nx.pure fun T t H hr => XT.i2c H C.hx rfl (hb C.hby hd) rfl hr
theorem g_i2s {x : Int32} (z : Int32) (C : Cx wd p s m meth c Z a0 EL own bytes ml ret nm) (hd : decode bytes pc = .ok (.i2s, 1)) (hz : x.toInt16.toInt32 = z) (nx : Go wd p l e R s m args below meth c Z EL Q kc ks m0 mine h locs cells slots (mkF m (pc + 1) Ls (.int z :: st))) : Go wd p l e R s m args below meth c Z EL Q kc ks m0 mine h locs cells slots (mkF m pc Ls (.int x :: st)) := by subst hz; exact nx.pure fun T t H hr => XT.i2s H C.hx rfl (hb C.hby hd) rfl hr
theorem g_i2l {x : Int32} (z : Int64) (C : Cx wd p s m meth c Z a0 EL own bytes ml ret nm) (hd : decode bytes pc = .ok (.i2l, 1)) (hz : x.toInt64 = z) (nx : Go wd p l e R s m args below meth c Z EL Q kc ks m0 mine h locs cells slots (mkF m (pc + 1) Ls (.long z :: st))) : Go wd p l e R s m args below meth c Z EL Q kc ks m0 mine h locs cells slots (mkF m pc Ls (.int x :: st)) := by subst hz; exact nx.pure fun T t H hr => XT.i2l H C.hx rfl (hb C.hby hd) rfl hr
theorem g_l2i {x : Int64} (z : Int32) (C : Cx wd p s m meth c Z a0 EL own bytes ml ret nm) (hd : decode bytes pc = .ok (.l2i, 1)) (hz : x.toInt32 = z) (nx : Go wd p l e R s m args below meth c Z EL Q kc ks m0 mine h locs cells slots (mkF m (pc + 1) Ls (.int z :: st))) : Go wd p l e R s m args below meth c Z EL Q kc ks m0 mine h locs cells slots (mkF m pc Ls (.long x :: st)) := by subst hz; exact nx.pure fun T t H hr => XT.l2i H C.hx rfl (hb C.hby hd) rfl hr
theorem g_ladd {x y : Int64} (z : Int64) (C : Cx wd p s m meth c Z a0 EL own bytes ml ret nm) (hd : decode bytes pc = .ok (.ladd, 1)) (hz : x + y = z) (nx : Go wd p l e R s m args below meth c Z EL Q kc ks m0 mine h locs cells slots (mkF m (pc + 1) Ls (.long z :: st))) : Go wd p l e R s m args below meth c Z EL Q kc ks m0 mine h locs cells slots (mkF m pc Ls (.long y :: .long x :: st)) := by subst hz; exact nx.pure fun T t H hr => XT.ladd H C.hx rfl (hb C.hby hd) rfl hr
theorem g_lsub {x y : Int64} (z : Int64) (C : Cx wd p s m meth c Z a0 EL own bytes ml ret nm) (hd : decode bytes pc = .ok (.lsub, 1)) (hz : x - y = z) (nx : Go wd p l e R s m args below meth c Z EL Q kc ks m0 mine h locs cells slots (mkF m (pc + 1) Ls (.long z :: st))) : Go wd p l e R s m args below meth c Z EL Q kc ks m0 mine h locs cells slots (mkF m pc Ls (.long y :: .long x :: st)) := by subst hz; exact nx.pure fun T t H hr => XT.lsub H C.hx rfl (hb C.hby hd) rfl hr
theorem g_lmul {x y : Int64} (z : Int64) (C : Cx wd p s m meth c Z a0 EL own bytes ml ret nm) (hd : decode bytes pc = .ok (.lmul, 1)) (hz : x * y = z) (nx : Go wd p l e R s m args below meth c Z EL Q kc ks m0 mine h locs cells slots (mkF m (pc + 1) Ls (.long z :: st))) : Go wd p l e R s m args below meth c Z EL Q kc ks m0 mine h locs cells slots (mkF m pc Ls (.long y :: .long x :: st)) := by subst hz; exact nx.pure fun T t H hr => XT.lmul H C.hx rfl (hb C.hby hd) rfl hr
theorem g_land {x y : Int64} (z : Int64) (C : Cx wd p s m meth c Z a0 EL own bytes ml ret nm) (hd : decode bytes pc = .ok (.land, 1)) (hz : x &&& y = z) (nx : Go wd p l e R s m args below meth c Z EL Q kc ks m0 mine h locs cells slots (mkF m (pc + 1) Ls (.long z :: st))) : Go wd p l e R s m args below meth c Z EL Q kc ks m0 mine h locs cells slots (mkF m pc Ls (.long y :: .long x :: st)) := by subst hz; exact nx.pure fun T t H hr => XT.land H C.hx rfl (hb C.hby hd) rfl hr
theorem g_lor {x y : Int64} (z : Int64) (C : Cx wd p s m meth c Z a0 EL own bytes ml ret nm) (hd : decode bytes pc = .ok (.lor, 1)) (hz : x ||| y = z) (nx : Go wd p l e R s m args below meth c Z EL Q kc ks m0 mine h locs cells slots (mkF m (pc + 1) Ls (.long z :: st))) : Go wd p l e R s m args below meth c Z EL Q kc ks m0 mine h locs cells slots (mkF m pc Ls (.long y :: .long x :: st)) := by subst hz; exact nx.pure fun T t H hr => XT.lor H C.hx rfl (hb C.hby hd) rfl hr
theorem g_lxor {x y : Int64} (z : Int64) (C : Cx wd p s m meth c Z a0 EL own bytes ml ret nm) (hd : decode bytes pc = .ok (.lxor, 1)) (hz : x ^^^ y = z) (nx : Go wd p l e R s m args below meth c Z EL Q kc ks m0 mine h locs cells slots (mkF m (pc + 1) Ls (.long z :: st))) : Go wd p l e R s m args below meth c Z EL Q kc ks m0 mine h locs cells slots (mkF m pc Ls (.long y :: .long x :: st)) := by subst hz; exact nx.pure fun T t H hr => XT.lxor H C.hx rfl (hb C.hby hd) rfl hr
theorem g_ldiv {x y : Int64} (z : Int64) (C : Cx wd p s m meth c Z a0 EL own bytes ml ret nm) (hd : decode bytes pc = .ok (.ldiv, 1)) (hy : y ≠ 0) (hz : x / y = z) (nx : Go wd p l e R s m args below meth c Z EL Q kc ks m0 mine h locs cells slots (mkF m (pc + 1) Ls (.long z :: st))) : Go wd p l e R s m args below meth c Z EL Q kc ks m0 mine h locs cells slots (mkF m pc Ls (.long y :: .long x :: st)) := by subst hz; exact nx.pure fun T t H hr => XT.ldiv H C.hx rfl (hb C.hby hd) rfl hy hr
theorem g_lrem {x y : Int64} (z : Int64) (C : Cx wd p s m meth c Z a0 EL own bytes ml ret nm) (hd : decode bytes pc = .ok (.lrem, 1)) (hy : y ≠ 0) (hz : x - (x / y) * y = z) (nx : Go wd p l e R s m args below meth c Z EL Q kc ks m0 mine h locs cells slots (mkF m (pc + 1) Ls (.long z :: st))) : Go wd p l e R s m args below meth c Z EL Q kc ks m0 mine h locs cells slots (mkF m pc Ls (.long y :: .long x :: st)) := by subst hz; exact nx.pure fun T t H hr => XT.lrem H C.hx rfl (hb C.hby hd) rfl hy hr
theorem g_lshl {x : Int64} {y : Int32} (z : Int64) (C : Cx wd p s m meth c Z a0 EL own bytes ml ret nm) (hd : decode bytes pc = .ok (.lshl, 1)) (hz : x <<< (y.toInt64 &&& 63) = z) (nx : Go wd p l e R s m args below meth c Z EL Q kc ks m0 mine h locs cells slots (mkF m (pc + 1) Ls (.long z :: st))) : Go wd p l e R s m args below meth c Z EL Q kc ks m0 mine h locs cells slots (mkF m pc Ls (.int y :: .long x :: st)) := by subst hz; exact nx.pure fun T t H hr => XT.lshl H C.hx rfl (hb C.hby hd) rfl hr
theorem g_lshr {x : Int64} {y : Int32} (z : Int64) (C : Cx wd p s m meth c Z a0 EL own bytes ml ret nm) (hd : decode bytes pc = .ok (.lshr, 1)) (hz : x >>> (y.toInt64 &&& 63) = z) (nx : Go wd p l e R s m args below meth c Z EL Q kc ks m0 mine h locs cells slots (mkF m (pc + 1) Ls (.long z :: st))) : Go wd p l e R s m args below meth c Z EL Q kc ks m0 mine h locs cells slots (mkF m pc Ls (.int y :: .long x :: st)) := by subst hz; exact nx.pure fun T t H hr => XT.lshr H C.hx rfl (hb C.hby hd) rfl hr
theorem g_lushr {x : Int64} {y : Int32} (z : Int64) (C : Cx wd p s m meth c Z a0 EL own bytes ml ret nm) (hd : decode bytes pc = .ok (.lushr, 1)) (hz : XT.ushrL x y = z) (nx : Go wd p l e R s m args below meth c Z EL Q kc ks m0 mine h locs cells slots (mkF m (pc + 1) Ls (.long z :: st))) : Go wd p l e R s m args below meth c Z EL Q kc ks m0 mine h locs cells slots (mkF m pc Ls (.int y :: .long x :: st)) := by subst hz; exact nx.pure fun T t H hr => XT.lushr H C.hx rfl (hb C.hby hd) rfl hr
theorem g_lneg {x : Int64} (z : Int64) (C : Cx wd p s m meth c Z a0 EL own bytes ml ret nm) (hd : decode bytes pc = .ok (.lneg, 1)) (hz : -x = z) (nx : Go wd p l e R s m args below meth c Z EL Q kc ks m0 mine h locs cells slots (mkF m (pc + 1) Ls (.long z :: st))) : Go wd p l e R s m args below meth c Z EL Q kc ks m0 mine h locs cells slots (mkF m pc Ls (.long x :: st)) := by subst hz; exact nx.pure fun T t H hr => XT.lneg H C.hx rfl (hb C.hby hd) rfl hr
theorem g_lcmp {x y : Int64} (C : Cx wd p s m meth c Z a0 EL own bytes ml ret nm) (hd : decode bytes pc = .ok (.lcmp, 1))  (nx : Go wd p l e R s m args below meth c Z EL Q kc ks m0 mine h locs cells slots (mkF m (pc + 1) Ls (.int (XT.cmpL x y) :: st))) : Go wd p l e R s m args below meth c Z EL Q kc ks m0 mine h locs cells slots (mkF m pc Ls (.long y :: .long x :: st)) := nx.pure fun T t H hr => XT.lcmp H C.hx rfl (hb C.hby hd) rfl hr
theorem g_iinc {k : Nat} {cst : Int} {x : Int32} (z : Int32) (l' : Array Slot) (C : Cx wd p s m meth c Z a0 EL own bytes ml ret nm) (hd : decode bytes pc = .ok (.iinc k cst, 3)) (hl : Ls[k]? = some (.val (.int x))) (hz : x + Int32.ofInt cst = z) (hl' : storeLocals Ls k (.int z) = some l') (nx : Go wd p l e R s m args below meth c Z EL Q kc ks m0 mine h locs cells slots (mkF m (pc + 3) l' (st))) : Go wd p l e R s m args below meth c Z EL Q kc ks m0 mine h locs cells slots (mkF m pc Ls (st)) := by subst hz; exact nx.pure fun T t H hr => XS.iinc H C.hx rfl (hb C.hby hd) hl hl' hr
theorem g_dup {x : Value} (C : Cx wd p s m meth c Z a0 EL own bytes ml ret nm) (hd : decode bytes pc = .ok (.dup, 1)) (hc : x.category = 1) (nx : Go wd p l e R s m args below meth c Z EL Q kc ks m0 mine h locs cells slots (mkF m (pc + 1) Ls (x :: x :: st))) : Go wd p l e R s m args below meth c Z EL Q kc ks m0 mine h locs cells slots (mkF m pc Ls (x :: st)) := nx.pure fun T t H hr => XS.dup H C.hx rfl (hb C.hby hd) rfl hc hr
theorem g_pop {x : Value} (C : Cx wd p s m meth c Z a0 EL own bytes ml ret nm) (hd : decode bytes pc = .ok (.pop, 1)) (hc : x.category = 1) (nx : Go wd p l e R s m args below meth c Z EL Q kc ks m0 mine h locs cells slots (mkF m (pc + 1) Ls (st))) : Go wd p l e R s m args below meth c Z EL Q kc ks m0 mine h locs cells slots (mkF m pc Ls (x :: st)) := nx.pure fun T t H hr => XT.pop H C.hx rfl (hb C.hby hd) rfl hc hr
theorem g_dupX1 {x y : Value} (C : Cx wd p s m meth c Z a0 EL own bytes ml ret nm) (hd : decode bytes pc = .ok (.dup_x1, 1)) (hc : x.category = 1) (hc' : y.category = 1) (nx : Go wd p l e R s m args below meth c Z EL Q kc ks m0 mine h locs cells slots (mkF m (pc + 1) Ls (x :: y :: x :: st))) : Go wd p l e R s m args below meth c Z EL Q kc ks m0 mine h locs cells slots (mkF m pc Ls (x :: y :: st)) := nx.pure fun T t H hr => XT.dupX1 H C.hx rfl (hb C.hby hd) rfl hc hc' hr
theorem g_dup2 {x y : Value} (C : Cx wd p s m meth c Z a0 EL own bytes ml ret nm) (hd : decode bytes pc = .ok (.dup2, 1)) (hc : x.category = 1) (hc' : y.category = 1) (nx : Go wd p l e R s m args below meth c Z EL Q kc ks m0 mine h locs cells slots (mkF m (pc + 1) Ls (x :: y :: x :: y :: st))) : Go wd p l e R s m args below meth c Z EL Q kc ks m0 mine h locs cells slots (mkF m pc Ls (x :: y :: st)) := nx.pure fun T t H hr => XT.dup2 H C.hx rfl (hb C.hby hd) rfl hc hc' hr
theorem g_dup2L {x : Int64} (C : Cx wd p s m meth c Z a0 EL own bytes ml ret nm) (hd : decode bytes pc = .ok (.dup2, 1))  (nx : Go wd p l e R s m args below meth c Z EL Q kc ks m0 mine h locs cells slots (mkF m (pc + 1) Ls (.long x :: .long x :: st))) : Go wd p l e R s m args below meth c Z EL Q kc ks m0 mine h locs cells slots (mkF m pc Ls (.long x :: st)) := nx.pure fun T t H hr => XT.dup2L H C.hx rfl (hb C.hby hd) rfl hr
theorem g_goto {o : Int} (pc' : Nat) (C : Cx wd p s m meth c Z a0 EL own bytes ml ret nm) (hd : decode bytes pc = .ok (.goto o, 3)) (ho : 0 ≤ (pc : Int) + o) (hp : ((pc : Int) + o).toNat = pc') (nx : Go wd p l e R s m args below meth c Z EL Q kc ks m0 mine h locs cells slots (mkF m pc' Ls (st))) : Go wd p l e R s m args below meth c Z EL Q kc ks m0 mine h locs cells slots (mkF m pc Ls (st)) := nx.pure fun T t H hr => XS.goto H C.hx rfl rfl (hb C.hby hd) ho hp hr
theorem g_ifT {cd : ClassFile.Cond} {x : Int32} {o : Int} (pc' : Nat) (C : Cx wd p s m meth c Z a0 EL own bytes ml ret nm) (hd : decode bytes pc = .ok (.ifCond cd o, 3)) (hc : hC cd x 0) (ho : 0 ≤ (pc : Int) + o) (hp : ((pc : Int) + o).toNat = pc') (nx : Go wd p l e R s m args below meth c Z EL Q kc ks m0 mine h locs cells slots (mkF m pc' Ls (st))) : Go wd p l e R s m args below meth c Z EL Q kc ks m0 mine h locs cells slots (mkF m pc Ls (.int x :: st)) := nx.pure fun T t H hr => XS.ifYes H C.hx rfl rfl (hb C.hby hd) rfl (by rw [if0]; exact hC_t hc) ho hp hr
theorem g_ifF {cd : ClassFile.Cond} {x : Int32} {o : Int} (C : Cx wd p s m meth c Z a0 EL own bytes ml ret nm) (hd : decode bytes pc = .ok (.ifCond cd o, 3)) (hc : nC cd x 0) (nx : Go wd p l e R s m args below meth c Z EL Q kc ks m0 mine h locs cells slots (mkF m (pc + 3) Ls (st))) : Go wd p l e R s m args below meth c Z EL Q kc ks m0 mine h locs cells slots (mkF m pc Ls (.int x :: st)) := nx.pure fun T t H hr => XS.ifNo H C.hx rfl (hb C.hby hd) rfl (by rw [if0]; exact nC_f hc) hr
theorem g_icmpT {cd : ClassFile.Cond} {x y : Int32} {o : Int} (pc' : Nat) (C : Cx wd p s m meth c Z a0 EL own bytes ml ret nm) (hd : decode bytes pc = .ok (.if_icmp cd o, 3)) (hc : hC cd x y) (ho : 0 ≤ (pc : Int) + o) (hp : ((pc : Int) + o).toNat = pc') (nx : Go wd p l e R s m args below meth c Z EL Q kc ks m0 mine h locs cells slots (mkF m pc' Ls (st))) : Go wd p l e R s m args below meth c Z EL Q kc ks m0 mine h locs cells slots (mkF m pc Ls (.int y :: .int x :: st)) := nx.pure fun T t H hr => XS.icmpYes H C.hx rfl rfl (hb C.hby hd) rfl (hC_t hc) ho hp hr
theorem g_icmpF {cd : ClassFile.Cond} {x y : Int32} {o : Int} (C : Cx wd p s m meth c Z a0 EL own bytes ml ret nm) (hd : decode bytes pc = .ok (.if_icmp cd o, 3)) (hc : nC cd x y) (nx : Go wd p l e R s m args below meth c Z EL Q kc ks m0 mine h locs cells slots (mkF m (pc + 3) Ls (st))) : Go wd p l e R s m args below meth c Z EL Q kc ks m0 mine h locs cells slots (mkF m pc Ls (.int y :: .int x :: st)) := nx.pure fun T t H hr => XS.icmpNo H C.hx rfl (hb C.hby hd) rfl (nC_f hc) hr
theorem g_acmpT {cd : ClassFile.ACond} {x y : Value} {o : Int} (pc' : Nat) (C : Cx wd p s m meth c Z a0 EL own bytes ml ret nm) (hd : decode bytes pc = .ok (.if_acmp cd o, 3)) (hx : x.isRef = true) (hy : y.isRef = true) (hc : aC cd x y) (ho : 0 ≤ (pc : Int) + o) (hp : ((pc : Int) + o).toNat = pc') (nx : Go wd p l e R s m args below meth c Z EL Q kc ks m0 mine h locs cells slots (mkF m pc' Ls (st))) : Go wd p l e R s m args below meth c Z EL Q kc ks m0 mine h locs cells slots (mkF m pc Ls (y :: x :: st)) := nx.pure fun T t H hr => XT.acmpYes H C.hx rfl rfl (hb C.hby hd) rfl hx hy (aC_t hc) ho hp hr
theorem g_acmpF {cd : ClassFile.ACond} {x y : Value} {o : Int} (C : Cx wd p s m meth c Z a0 EL own bytes ml ret nm) (hd : decode bytes pc = .ok (.if_acmp cd o, 3)) (hx : x.isRef = true) (hy : y.isRef = true) (hc : aN cd x y) (nx : Go wd p l e R s m args below meth c Z EL Q kc ks m0 mine h locs cells slots (mkF m (pc + 3) Ls (st))) : Go wd p l e R s m args below meth c Z EL Q kc ks m0 mine h locs cells slots (mkF m pc Ls (y :: x :: st)) := nx.pure fun T t H hr => XT.acmpNo H C.hx rfl (hb C.hby hd) rfl hx hy (aN_f hc) hr
theorem g_ifnullT {o : Int} (pc' : Nat) (C : Cx wd p s m meth c Z a0 EL own bytes ml ret nm) (hd : decode bytes pc = .ok (.ifnull o, 3)) (ho : 0 ≤ (pc : Int) + o) (hp : ((pc : Int) + o).toNat = pc') (nx : Go wd p l e R s m args below meth c Z EL Q kc ks m0 mine h locs cells slots (mkF m pc' Ls (st))) : Go wd p l e R s m args below meth c Z EL Q kc ks m0 mine h locs cells slots (mkF m pc Ls (.null :: st)) := nx.pure fun T t H hr => XS.ifnullYes H C.hx rfl rfl (hb C.hby hd) rfl ho hp hr
theorem g_ifnullF {o : Int} {b : Addr} (C : Cx wd p s m meth c Z a0 EL own bytes ml ret nm) (hd : decode bytes pc = .ok (.ifnull o, 3))  (nx : Go wd p l e R s m args below meth c Z EL Q kc ks m0 mine h locs cells slots (mkF m (pc + 3) Ls (st))) : Go wd p l e R s m args below meth c Z EL Q kc ks m0 mine h locs cells slots (mkF m pc Ls (.ref b :: st)) := nx.pure fun T t H hr => XS.ifnullNo H C.hx rfl (hb C.hby hd) rfl hr
theorem g_ifnonnullT {o : Int} {b : Addr} (pc' : Nat) (C : Cx wd p s m meth c Z a0 EL own bytes ml ret nm) (hd : decode bytes pc = .ok (.ifnonnull o, 3)) (ho : 0 ≤ (pc : Int) + o) (hp : ((pc : Int) + o).toNat = pc') (nx : Go wd p l e R s m args below meth c Z EL Q kc ks m0 mine h locs cells slots (mkF m pc' Ls (st))) : Go wd p l e R s m args below meth c Z EL Q kc ks m0 mine h locs cells slots (mkF m pc Ls (.ref b :: st)) := nx.pure fun T t H hr => XT.ifnonnullYes H C.hx rfl rfl (hb C.hby hd) rfl ho hp hr
theorem g_ifnonnullF {o : Int} (C : Cx wd p s m meth c Z a0 EL own bytes ml ret nm) (hd : decode bytes pc = .ok (.ifnonnull o, 3))  (nx : Go wd p l e R s m args below meth c Z EL Q kc ks m0 mine h locs cells slots (mkF m (pc + 3) Ls (st))) : Go wd p l e R s m args below meth c Z EL Q kc ks m0 mine h locs cells slots (mkF m pc Ls (.null :: st)) := nx.pure fun T t H hr => XT.ifnonnullNo H C.hx rfl (hb C.hby hd) rfl hr
theorem g_leave_ {v : Option Value} {g : JFrame} (C : Cx wd p s m meth c Z a0 EL own bytes ml ret nm) (hv : meth.sig.returnType = none → v = none) (hq : Q v h) (hc : cells ≤ kc) (hs : slots ≤ ks)
    (stp : ∀ (T : State) (vm0 : Vm) (fs : List Frame), Stand p l e R (s.setVm vm0) m args below meth c T locs cells slots → (∀ (f : JFrame) (acts : List Action), f.method = m → f.locked = none → f.entered = [] → (doReturn e (T.setTop f) acts v).1 = T.setFrames fs) → Steps p.tables e below (T.setTop g) (T.setFrames fs)) :
    Go wd p l e R s m args below meth c Z EL Q kc ks m0 mine h locs cells slots g := fun T vm0 X eT V => by
  obtain ⟨⟨v1, v2, ⟨k0, v3, v4⟩, v5⟩, v6, v7, v8, v9⟩ := V
  have hlk := C.hlk
  obtain ⟨fs, hr, hrun, hended, hW, hsame⟩ := X.leave hv hlk
  obtain ⟨u1, u2, u3⟩ := v3.ended (U := T.setFrames fs) hW (by show k0 ≤ T.heap.size; rw [eT]; exact v4) hsame
  have hC : CHr Z EL vm0 h T.vm h := CHv.at X v2 C.hEW v5.1
  refine ⟨_, _, stp T vm0 fs X hr, hrun, hended, v, locs, rfl, ?_, ?_, FinE.mono ⟨fun q => ?_, ⟨v, rfl⟩, u1, u2, u3⟩ hc hs, ?_, ?_, v9⟩
  · show Q v T.heap
    rw [eT]; exact hq
  · show CHr Z EL s.vm s.heap T.vm T.heap
    rw [eT]; exact v5.trans hC
  · have e1 : vm0 = s.vm := v1 q
    subst e1
    exact ⟨⟨v, rfl⟩, hW, hsame⟩
  · show Ext Z.heap T.heap
    rw [eT]; exact v7
  · show Keep s.heap T.heap m0
    rw [eT]; exact v8
theorem g_retV {i : Instr} {t : FieldType} {w : Value} (C : Cx wd p s m meth c Z a0 EL own bytes ml (some t) nm) (hd : decode bytes pc = .ok (i, 1)) (hn : narrow t w = w)
    (hi : (i = .ireturn ∧ (t = .int ∨ t = .boolean ∨ t = .byte ∨ t = .char ∨ t = .short) ∧ ∃ z, w = .int z) ∨ (i = .lreturn ∧ t = .long ∧ ∃ z, w = .long z) ∨ (i = .dreturn ∧ t = .double ∧ ∃ z, w = .double z) ∨ (i = .freturn ∧ t = .float ∧ ∃ z, w = .float z) ∨ (i = .areturn ∧ t.isReference = true ∧ w.isRef = true))
    (hq : Q (some w) h) (hc : cells ≤ kc) (hs : slots ≤ ks) : Go wd p l e R s m args below meth c Z EL Q kc ks m0 mine h locs cells slots (mkF m pc Ls (w :: st)) :=
  g_leave_ C (fun q => by rw [C.hret] at q; cases q) hq hc hs fun T vm0 fs X hr => retOut X C.hx C.hret hn hi (hb C.hby hd) hr
theorem g_retI {z : Int32} (C : Cx wd p s m meth c Z a0 EL own bytes ml (some .int) nm) (hd : decode bytes pc = .ok (.ireturn, 1)) (hq : Q (some (.int z)) h) (hc : cells ≤ kc) (hs : slots ≤ ks) : Go wd p l e R s m args below meth c Z EL Q kc ks m0 mine h locs cells slots (mkF m pc Ls (.int z :: st)) :=
  g_retV C hd rfl (Or.inl ⟨rfl, Or.inl rfl, z, rfl⟩) hq hc hs
theorem g_retJ {z : Int64} (C : Cx wd p s m meth c Z a0 EL own bytes ml (some .long) nm) (hd : decode bytes pc = .ok (.lreturn, 1)) (hq : Q (some (.long z)) h) (hc : cells ≤ kc) (hs : slots ≤ ks) : Go wd p l e R s m args below meth c Z EL Q kc ks m0 mine h locs cells slots (mkF m pc Ls (.long z :: st)) :=
  g_retV C hd rfl (Or.inr (Or.inl ⟨rfl, rfl, z, rfl⟩)) hq hc hs
theorem g_retA {t : FieldType} {w : Value} (C : Cx wd p s m meth c Z a0 EL own bytes ml (some t) nm) (hd : decode bytes pc = .ok (.areturn, 1)) (ht : t.isReference = true) (hw : w.isRef = true) (hq : Q (some w) h) (hc : cells ≤ kc) (hs : slots ≤ ks) : Go wd p l e R s m args below meth c Z EL Q kc ks m0 mine h locs cells slots (mkF m pc Ls (w :: st)) :=
  g_retV C hd (by cases t <;> first | (simp [FieldType.isReference] at ht; done) | rfl) (Or.inr (Or.inr (Or.inr (Or.inr ⟨rfl, ht, hw⟩)))) hq hc hs
/-- boolean, byte, char, short: what is left of z -/
theorem g_retN {z : Int32} {t : FieldType} (C : Cx wd p s m meth c Z a0 EL own bytes ml (some t) nm) (hd : decode bytes pc = .ok (.ireturn, 1)) (ht : t = .boolean ∨ t = .byte ∨ t = .char ∨ t = .short) (hq : Q (some (.int (nar t z))) h) (hc : cells ≤ kc) (hs : slots ≤ ks) : Go wd p l e R s m args below meth c Z EL Q kc ks m0 mine h locs cells slots (mkF m pc Ls (.int z :: st)) :=
  g_leave_ C (fun q => by rw [C.hret] at q; cases q) hq hc hs fun T vm0 fs X hr => RoadKit.retN X C.hx C.hret ht (hb C.hby hd) hr
theorem g_retU (C : Cx wd p s m meth c Z a0 EL own bytes ml none nm) (hd : decode bytes pc = .ok (.return_, 1)) (hq : Q none h) (hc : cells ≤ kc) (hs : slots ≤ ks) : Go wd p l e R s m args below meth c Z EL Q kc ks m0 mine h locs cells slots (mkF m pc Ls []) :=
  g_leave_ C (fun _ => rfl) hq hc hs fun T vm0 fs X hr => X.returnOut C.hx C.hret (hb C.hby hd) hr
theorem g_getfield {idx : Nat} {R0 O n d host : String} {v : Value} (C : Cx wd p s m meth c Z a0 EL own bytes ml ret nm) (hd : decode bytes pc = .ok (.getfield idx, 3)) (w : (Cond.fieldLink own idx R0 n d).before a0 Z = true ∨ (Cond.fieldLinkNest own idx R0 n d host).before a0 Z = true) (via : Via Z R0 O n d) (F : Fld Z h a O n d v)
    (nx : Go wd p l e R s m args below meth c Z EL Q kc ks m0 mine h locs cells slots (mkF m (pc + 3) Ls (v :: st))) : Go wd p l e R s m args below meth c Z EL Q kc ks m0 mine h locs cells slots (mkF m pc Ls (.ref a :: st)) := fun T vm0 X eT V => by
  obtain ⟨T', X', e', k1⟩ := RoadKit.getF X C.hx V.hZ' (V.hown C) w via eT F (g := mkF m pc Ls (.ref a :: st)) rfl rfl (hb C.hby hd)
  obtain ⟨s₂, o, k, r⟩ := nx T' vm0 X' e' V
  exact ⟨s₂, o, k1 _ k, r⟩
theorem g_getstatic {idx : Nat} {R0 O n d host : String} {v : Value} (C : Cx wd p s m meth c Z a0 EL own bytes ml ret nm) (hd : decode bytes pc = .ok (.getstatic idx, 3)) (w : (Cond.fieldLink own idx R0 n d).before a0 Z = true ∨ (Cond.fieldLinkNest own idx R0 n d host).before a0 Z = true) (via : Via Z R0 O n d) (F : Sta Z Z.heap O n d v)
    (nx : Go wd p l e R s m args below meth c Z EL Q kc ks m0 mine h locs cells slots (mkF m (pc + 3) Ls (v :: st))) : Go wd p l e R s m args below meth c Z EL Q kc ks m0 mine h locs cells slots (mkF m pc Ls st) := fun T vm0 X eT V => by
  obtain ⟨T', X', e', k1⟩ := getS2 X C.hx V.hZ' (V.hown C) w via eT (Sta.ext V.old F) (g := mkF m pc Ls st) rfl (hb C.hby hd)
  obtain ⟨s₂, o, k, r⟩ := nx T' vm0 X' e' V
  exact ⟨s₂, o, k1 _ k, r⟩
theorem g_putfield {idx kk : Nat} {R0 O n d host Cn : String} {v old : Value} {ty : FieldType} (C : Cx wd p s m meth c Z a0 EL own bytes ml ret nm) (hd : decode bytes pc = .ok (.putfield idx, 3)) (w : (Cond.fieldLink own idx R0 n d).before a0 Z = true ∨ (Cond.fieldLinkNest own idx R0 n d host).before a0 Z = true) (via : Via Z R0 O n d) (F : Fld Z h a O n d old) (E : Exa Z h a Cn)
    (L : (Cond.lays Cn O n d).before a0 Z = true ∨ ((Cond.laysFinal Cn O n d).before a0 Z = true ∧ own = O ∧ nm = "<init>")) (wi : (Cond.instantiable Cn kk).before a0 Z = true) (hty : parseFieldDescriptor d = some ty) (hn : narrow ty v = v) (hf : fits ty v = true) (hm : a ∈ mine)
    (nx : ∀ h', Wr h h' a (RoadKit.slotOf Z O n d) v → Keep h h' [a] → Go wd p l e R s m args below meth c Z EL Q kc ks m0 mine h' (locs ++ [⟨a, RoadKit.slotOf Z O n d⟩]) cells slots (mkF m (pc + 3) Ls st)) : Go wd p l e R s m args below meth c Z EL Q kc ks m0 mine h locs cells slots (mkF m pc Ls (v :: .ref a :: st)) := fun T vm0 X eT V => by
  have L' : (Cond.lays Cn O n d).before a0 Z = true ∨ ((Cond.laysFinal Cn O n d).before a0 Z = true ∧ own = O ∧ meth.name = "<init>") := L.imp id fun q => ⟨q.1, q.2.1, by rw [C.hnm]; exact q.2.2⟩
  obtain ⟨T', h', X', e', W, k1⟩ := putF X C.hx V.hZ' (V.hown C) w via eT F E L' wi hty hn hf (g := mkF m pc Ls (v :: .ref a :: st)) rfl rfl (hb C.hby hd)
  obtain ⟨s₂, o, k, r⟩ := nx h' W (Keep.of_wr W) T' vm0 X' e' (V.keep (Keep.of_wr W) (fun x hx => by rw [List.mem_singleton.mp hx]; exact hm) (V.wr1 hm))
  exact ⟨s₂, o, k1 _ k, r⟩
theorem g_new_ {idx kk : Nat} {Cn : String} (C : Cx wd p s m meth c Z a0 EL own bytes ml ret nm) (hd : decode bytes pc = .ok (.new idx, 3)) (w : (Cond.classLink own idx Cn).before a0 Z = true) (wi : (Cond.instantiable Cn kk).before a0 Z = true) (wz : (Cond.initialized Cn).before a0 Z = true) (hc : cells + 1 ≤ R.cells) (hs : slots + kk ≤ R.slots)
    (nx : ∀ (a : Addr) (h' : Heap), a = h.size → Ext h h' → a < h'.size → Exa Z h' a Cn → (∀ {O n d : String} {ty : FieldType}, Laid Z a0 Cn O n d → parseFieldDescriptor d = some ty → Fld Z h' a O n d (defaultValue ty)) → Go wd p l e R s m args below meth c Z EL Q kc ks m0 (a :: mine) h' locs (cells + 1) (slots + kk) (mkF m (pc + 3) Ls (.ref a :: st))) : Go wd p l e R s m args below meth c Z EL Q kc ks m0 mine h locs cells slots (mkF m pc Ls st) := fun T vm0 X eT V => by
  obtain ⟨T', h', X', e', E, A, D, -, k1⟩ := newO X C.hx V.hZ' (V.hown C) w wi wz eT (g := mkF m pc Ls st) rfl (hb C.hby hd) hc hs
  obtain ⟨s₂, o, k, r⟩ := nx h.size h' rfl E A.lt A D T' vm0 X' e' (V.new E A.lt)
  exact ⟨s₂, o, k1 _ k, r⟩
theorem g_objInit {idx : Nat} (C : Cx wd p s m meth c Z a0 EL own bytes ml ret nm) (hd : decode bytes pc = .ok (.invokespecial idx, 3)) (w1 : (Cond.methodLink own idx Lib.objectInit).before a0 Z = true) (w2 : (Cond.instanceMethod Lib.objectInit).before a0 Z = true) (w3 : (Cond.code Lib.objectInit ⟨#[0xb1]⟩ 1 none).before a0 Z = true)
    (hsz : Ls.size = ml) (hf : 1 ≤ R.frames) (hl : (st.map fun v => v.category).sum + 12 ≤ R.locals) (nx : Go wd p l e R s m args below meth c Z EL Q kc ks m0 mine h locs cells slots (mkF m (pc + 3) Ls st)) : Go wd p l e R s m args below meth c Z EL Q kc ks m0 mine h locs cells slots (mkF m pc Ls (.ref a :: st)) := fun T vm0 X eT V => by
  obtain ⟨T', X', e', k1⟩ := initO X C.hx V.hZ' (V.hown C) w1 w2 w3 eT (g := mkF m pc Ls (.ref a :: st)) rfl (by rw [C.hml]; exact hsz) rfl (hb C.hby hd) hf (W := (st.map fun v => v.category).sum) (by show 2 * 0 + _ ≤ _; omega) hl
  obtain ⟨s₂, o, k, r⟩ := nx T' vm0 X' e' V
  exact ⟨s₂, o, k1 _ k, r⟩
theorem g_castY {idx : Nat} {K : String} (C : Cx wd p s m meth c Z a0 EL own bytes ml ret nm) (hd : decode bytes pc = .ok (.checkcast idx, 3)) (w : (Cond.classLink own idx K).before a0 Z = true) (I : Ins Z h a K true) (nx : Go wd p l e R s m args below meth c Z EL Q kc ks m0 mine h locs cells slots (mkF m (pc + 3) Ls (.ref a :: st))) : Go wd p l e R s m args below meth c Z EL Q kc ks m0 mine h locs cells slots (mkF m pc Ls (.ref a :: st)) := fun T vm0 X eT V => by
  obtain ⟨T', X', e', k1⟩ := RoadKit.castY X C.hx V.hZ' (V.hown C) w eT I (g := mkF m pc Ls (.ref a :: st)) rfl rfl (hb C.hby hd)
  obtain ⟨s₂, o, k, r⟩ := nx T' vm0 X' e' V
  exact ⟨s₂, o, k1 _ k, r⟩
theorem g_instY {idx : Nat} {K : String} (C : Cx wd p s m meth c Z a0 EL own bytes ml ret nm) (hd : decode bytes pc = .ok (.instanceof idx, 3)) (w : (Cond.classLink own idx K).before a0 Z = true) (I : Ins Z h a K true) (nx : Go wd p l e R s m args below meth c Z EL Q kc ks m0 mine h locs cells slots (mkF m (pc + 3) Ls (.int 1 :: st))) : Go wd p l e R s m args below meth c Z EL Q kc ks m0 mine h locs cells slots (mkF m pc Ls (.ref a :: st)) := fun T vm0 X eT V => by
  obtain ⟨T', X', e', k1⟩ := RoadKit.instY X C.hx V.hZ' (V.hown C) w eT I (g := mkF m pc Ls (.ref a :: st)) rfl rfl (hb C.hby hd)
  obtain ⟨s₂, o, k, r⟩ := nx T' vm0 X' e' V
  exact ⟨s₂, o, k1 _ k, r⟩
/-- not an instance: the object is exactly of a class Cn that isn't assignable to K -/
theorem g_instNo {idx : Nat} {K Cn : String} (C : Cx wd p s m meth c Z a0 EL own bytes ml ret nm) (hd : decode bytes pc = .ok (.instanceof idx, 3)) (w : (Cond.classLink own idx K).before a0 Z = true) (I : Ins Z h a K false) (E : Exa Z h a Cn) (nx : Go wd p l e R s m args below meth c Z EL Q kc ks m0 mine h locs cells slots (mkF m (pc + 3) Ls (.int 0 :: st))) : Go wd p l e R s m args below meth c Z EL Q kc ks m0 mine h locs cells slots (mkF m pc Ls (.ref a :: st)) := fun T vm0 X eT V => by
  obtain ⟨cell, cT, h1, h2, h3⟩ := I
  obtain ⟨cell', k, e1, -, e3, e4, -⟩ := E
  cases h1.symm.trans e1
  obtain ⟨k', q, -⟩ := V.hZ'.alike.2.2 _ _ e3
  obtain ⟨vm', X', k1⟩ := Sym.instanceofNoAt X C.hx (V.hown C) (mv V.hZ' w) (by rw [eT]; exact h1) e4 q (by rw [V.hZ'.alike.findClass]; exact h2) (by rw [V.hZ'.alike.assignable]; simpa [e4] using h3) (g := mkF m pc Ls (.ref a :: st)) rfl rfl (hb C.hby hd)
  obtain ⟨s₂, o, k, r⟩ := nx _ vm0 X' eT V
  exact ⟨s₂, o, k1 _ k, r⟩
theorem g_instNull {idx : Nat} (C : Cx wd p s m meth c Z a0 EL own bytes ml ret nm) (hd : decode bytes pc = .ok (.instanceof idx, 3)) (nx : Go wd p l e R s m args below meth c Z EL Q kc ks m0 mine h locs cells slots (mkF m (pc + 3) Ls (.int 0 :: st))) : Go wd p l e R s m args below meth c Z EL Q kc ks m0 mine h locs cells slots (mkF m pc Ls (.null :: st)) := fun T vm0 X eT V => by
  obtain ⟨s₂, o, k, r⟩ := nx T vm0 X eT V
  exact ⟨s₂, o, X.instanceofNull C.hx (g := mkF m pc Ls (.null :: st)) rfl rfl (hb C.hby hd) _ k, r⟩
theorem g_castNull {idx : Nat} (C : Cx wd p s m meth c Z a0 EL own bytes ml ret nm) (hd : decode bytes pc = .ok (.checkcast idx, 3)) (nx : Go wd p l e R s m args below meth c Z EL Q kc ks m0 mine h locs cells slots (mkF m (pc + 3) Ls (.null :: st))) : Go wd p l e R s m args below meth c Z EL Q kc ks m0 mine h locs cells slots (mkF m pc Ls (.null :: st)) := fun T vm0 X eT V => by
  obtain ⟨s₂, o, k, r⟩ := nx T vm0 X eT V
  exact ⟨s₂, o, X.checkcastNull C.hx (g := mkF m pc Ls (.null :: st)) rfl rfl (hb C.hby hd) _ k, r⟩
theorem Av.lt (A : Av Z h a ty vs) : a < h.size := by obtain ⟨c, A, -⟩ := A; exact A.lt
theorem Av.keep (A : Av Z h a ty vs) (K : Keep h h' ws) (q : a ∉ ws) : Av Z h' a ty vs := by
  obtain ⟨c, A, r⟩ := A
  exact ⟨c, ⟨K.2.1 _ _ A.1 q, A.2⟩, r⟩
theorem Av.ext (A : Av Z h a ty vs) (E : Ext h h') : Av Z h' a ty vs := A.keep (keep_ext E) (fun q => nomatch q)
theorem Av.set {i : Nat} (A : Av Z h a ty vs) (W : Wr h h' a i v) (hf : fits ty v = true) : Av Z h' a ty (vs.set i v) := by
  obtain ⟨c, A, rfl, h2, h3⟩ := A
  refine ⟨c.setSlot i v, A.same W, by simp [Cell.setSlot], by simpa using h2, fun w hw => ?_⟩
  rcases List.mem_or_eq_of_mem_set hw with q | rfl
  · exact h3 w q
  · exact hf
theorem Av.of_arv {k : ClassId} {z : Int32} {d : Value} (A : Arv Z h a k ty z vs d) (hl : z.toNatClampNeg = vs.length) : Av Z h a ty vs := by
  obtain ⟨c, A, -, hs, hz, H, G⟩ := A
  have e1 : c.slots.toList = vs := by
    apply List.ext_getElem?
    intro i
    rw [Array.getElem?_toList]
    by_cases q : i < c.slots.size
    · rw [H i q, List.getD_eq_getElem?_getD, List.getElem?_eq_getElem (by omega)]; rfl
    · rw [Array.getElem?_eq_none (by omega), List.getElem?_eq_none (by omega)]
  refine ⟨c, A, e1, ?_, fun w hw => ?_⟩
  · have := (back32 hz).2; omega
  · obtain ⟨i, hi, rfl⟩ := List.mem_iff_getElem.mp hw
    have := G i (by omega)
    rwa [List.getD_eq_getElem?_getD, List.getElem?_eq_getElem hi] at this
theorem toNat_ofNat {n : Nat} (hn : n < 2147483648) : (Int32.ofNat n).toNatClampNeg = n ∧ ¬ Int32.ofNat n < 0 := by
  have e := Int32.toInt_ofNat_small (n := n) hn
  refine ⟨by simp only [Int32.toNatClampNeg, e]; omega, fun q => ?_⟩
  have := Int32.lt_iff_toInt_lt.mp q
  rw [e] at this
  simp at this
  omega
theorem Arv.of_av {d : Value} (A : Av Z h a ty vs) : ∃ k, Arv Z h a k ty (Int32.ofNat vs.length) vs d := by
  obtain ⟨c, A, rfl, h2, h3⟩ := A
  obtain ⟨q1, q2⟩ := toNat_ofNat h2
  refine ⟨c.cls, c, A, rfl, by rw [q1]; simp, q2, fun i hi => ?_, fun i hi => ?_⟩
  · rw [List.getD_eq_getElem?_getD, Array.getElem?_toList, Array.getElem?_eq_getElem hi]; rfl
  · rw [List.getD_eq_getElem?_getD, Array.getElem?_toList, Array.getElem?_eq_getElem hi]
    exact h3 _ (Array.mem_toList_iff.mpr (Array.getElem_mem hi))
theorem g_alen {z : Int32} (C : Cx wd p s m meth c Z a0 EL own bytes ml ret nm) (hd : decode bytes pc = .ok (.arraylength, 1)) (A : Av Z h a ty vs) (hz : Int32.ofNat vs.length = z) (nx : Go wd p l e R s m args below meth c Z EL Q kc ks m0 mine h locs cells slots (mkF m (pc + 1) Ls (.int z :: st))) : Go wd p l e R s m args below meth c Z EL Q kc ks m0 mine h locs cells slots (mkF m pc Ls (.ref a :: st)) := fun T vm0 X eT V => by
  obtain ⟨cl, Ar, rfl, -, -⟩ := A
  obtain ⟨s₂, o, k, r⟩ := nx T vm0 X eT V
  refine ⟨s₂, o, X.arraylength C.hx (by rw [eT]; exact Ar.1) (State.isArrayOf_alike V.hZ'.alike Ar.2.1) (g := mkF m pc Ls (.ref a :: st)) rfl rfl (hb C.hby hd) _ ?_, r⟩
  have e1 : cl.slots.size.toInt32 = z := by rw [← hz, Array.length_toList]
  rw [e1]; exact k
theorem g_iaload {j : Int32} {v : Value} (i : Nat) (C : Cx wd p s m meth c Z a0 EL own bytes ml ret nm) (hd : decode bytes pc = .ok (.iaload, 1)) (A : Av Z h a .int vs) (hj : ¬ j < 0) (hi : j.toNatClampNeg = i) (hv : vs[i]? = some v) (nx : Go wd p l e R s m args below meth c Z EL Q kc ks m0 mine h locs cells slots (mkF m (pc + 1) Ls (v :: st))) : Go wd p l e R s m args below meth c Z EL Q kc ks m0 mine h locs cells slots (mkF m pc Ls (.int j :: .ref a :: st)) := fun T vm0 X eT V => by
  obtain ⟨cl, Ar, rfl, -, -⟩ := A
  obtain ⟨s₂, o, k, r⟩ := nx T vm0 X eT V
  rw [Array.getElem?_toList] at hv
  have hlt := (Array.getElem?_eq_some_iff.mp hv).1
  exact ⟨s₂, o, X.iaload C.hx (by rw [eT]; exact Ar.1) (State.isArrayOf_alike V.hZ'.alike Ar.2.1) Ar.2.2 (fun q => q.elim hj (by omega)) (by rw [hi]; exact hv) (g := mkF m pc Ls (.int j :: .ref a :: st)) rfl rfl (hb C.hby hd) _ k, r⟩
theorem g_laload {j : Int32} {v : Value} (i : Nat) (C : Cx wd p s m meth c Z a0 EL own bytes ml ret nm) (hd : decode bytes pc = .ok (.laload, 1)) (A : Av Z h a .long vs) (hj : ¬ j < 0) (hi : j.toNatClampNeg = i) (hv : vs[i]? = some v) (nx : Go wd p l e R s m args below meth c Z EL Q kc ks m0 mine h locs cells slots (mkF m (pc + 1) Ls (v :: st))) : Go wd p l e R s m args below meth c Z EL Q kc ks m0 mine h locs cells slots (mkF m pc Ls (.int j :: .ref a :: st)) := fun T vm0 X eT V => by
  obtain ⟨cl, Ar, rfl, -, -⟩ := A
  obtain ⟨s₂, o, k, r⟩ := nx T vm0 X eT V
  rw [Array.getElem?_toList] at hv
  have hlt := (Array.getElem?_eq_some_iff.mp hv).1
  exact ⟨s₂, o, X.laload C.hx (by rw [eT]; exact Ar.1) (State.isArrayOf_alike V.hZ'.alike Ar.2.1) Ar.2.2 (fun q => q.elim hj (by omega)) (by rw [hi]; exact hv) (g := mkF m pc Ls (.int j :: .ref a :: st)) rfl rfl (hb C.hby hd) _ k, r⟩
theorem g_caload {j : Int32} {v : Value} (i : Nat) (C : Cx wd p s m meth c Z a0 EL own bytes ml ret nm) (hd : decode bytes pc = .ok (.caload, 1)) (A : Av Z h a .char vs) (hj : ¬ j < 0) (hi : j.toNatClampNeg = i) (hv : vs[i]? = some v) (nx : Go wd p l e R s m args below meth c Z EL Q kc ks m0 mine h locs cells slots (mkF m (pc + 1) Ls (v :: st))) : Go wd p l e R s m args below meth c Z EL Q kc ks m0 mine h locs cells slots (mkF m pc Ls (.int j :: .ref a :: st)) := fun T vm0 X eT V => by
  obtain ⟨cl, Ar, rfl, -, -⟩ := A
  obtain ⟨s₂, o, k, r⟩ := nx T vm0 X eT V
  rw [Array.getElem?_toList] at hv
  have hlt := (Array.getElem?_eq_some_iff.mp hv).1
  exact ⟨s₂, o, X.caload C.hx (by rw [eT]; exact Ar.1) (State.isArrayOf_alike V.hZ'.alike Ar.2.1) Ar.2.2 (fun q => q.elim hj (by omega)) (by rw [hi]; exact hv) (g := mkF m pc Ls (.int j :: .ref a :: st)) rfl rfl (hb C.hby hd) _ k, r⟩
theorem g_baload {j : Int32} {v : Value} (i : Nat) (C : Cx wd p s m meth c Z a0 EL own bytes ml ret nm) (hd : decode bytes pc = .ok (.baload, 1)) (A : Av Z h a .byte vs) (hj : ¬ j < 0) (hi : j.toNatClampNeg = i) (hv : vs[i]? = some v) (nx : Go wd p l e R s m args below meth c Z EL Q kc ks m0 mine h locs cells slots (mkF m (pc + 1) Ls (v :: st))) : Go wd p l e R s m args below meth c Z EL Q kc ks m0 mine h locs cells slots (mkF m pc Ls (.int j :: .ref a :: st)) := fun T vm0 X eT V => by
  obtain ⟨cl, Ar, rfl, -, -⟩ := A
  obtain ⟨s₂, o, k, r⟩ := nx T vm0 X eT V
  rw [Array.getElem?_toList] at hv
  have hlt := (Array.getElem?_eq_some_iff.mp hv).1
  exact ⟨s₂, o, X.baloadBytes C.hx (by rw [eT]; exact Ar.1) (State.isArrayOf_alike V.hZ'.alike Ar.2.1) Ar.2.2 (fun q => q.elim hj (by omega)) (by rw [hi]; exact hv) (g := mkF m pc Ls (.int j :: .ref a :: st)) rfl rfl (hb C.hby hd) _ k, r⟩
theorem g_aaload {j : Int32} {v : Value} (i : Nat) (C : Cx wd p s m meth c Z a0 EL own bytes ml ret nm) (hd : decode bytes pc = .ok (.aaload, 1)) (A : Av Z h a ty vs) (hty : ty.isReference = true) (hj : ¬ j < 0) (hi : j.toNatClampNeg = i) (hv : vs[i]? = some v) (nx : Go wd p l e R s m args below meth c Z EL Q kc ks m0 mine h locs cells slots (mkF m (pc + 1) Ls (v :: st))) : Go wd p l e R s m args below meth c Z EL Q kc ks m0 mine h locs cells slots (mkF m pc Ls (.int j :: .ref a :: st)) := fun T vm0 X eT V => by
  obtain ⟨cl, Ar, rfl, -, -⟩ := A
  obtain ⟨s₂, o, k, r⟩ := nx T vm0 X eT V
  rw [Array.getElem?_toList] at hv
  have hlt := (Array.getElem?_eq_some_iff.mp hv).1
  exact ⟨s₂, o, X.aaload C.hx (by rw [eT]; exact Ar.1) (State.isArrayOf_alike V.hZ'.alike Ar.2.1) hty Ar.2.2 (fun q => q.elim hj (by omega)) (by rw [hi]; exact hv) (g := mkF m pc Ls (.int j :: .ref a :: st)) rfl rfl (hb C.hby hd) _ k, r⟩
theorem g_castore {j : Int32} {x : Int32} (i : Nat) (C : Cx wd p s m meth c Z a0 EL own bytes ml ret nm) (hd : decode bytes pc = .ok (.castore, 1)) (A : Av Z h a .char vs) (hj : ¬ j < 0) (hi : j.toNatClampNeg = i) (hlt : i < vs.length) (hm : a ∈ mine) (nx : ∀ h', Keep h h' [a] → h'.size = h.size → Av Z h' a .char (vs.set i (.int (nar .char x))) → Go wd p l e R s m args below meth c Z EL Q kc ks m0 mine h' (locs ++ [⟨a, i⟩]) cells slots (mkF m (pc + 1) Ls st)) : Go wd p l e R s m args below meth c Z EL Q kc ks m0 mine h locs cells slots (mkF m pc Ls (.int x :: .int j :: .ref a :: st)) := fun T vm0 X eT V => by
  have A' := A
  obtain ⟨cl, Ar, e1, -, -⟩ := A
  subst hi
  obtain ⟨T', h', X', e', W, k1⟩ := stC X C.hx V.hZ' eT Ar (j := j) (x := x) (fun q => q.elim hj (by rw [← Array.length_toList, e1]; omega)) (g := mkF m pc Ls (.int x :: .int j :: .ref a :: st)) rfl rfl (hb C.hby hd)
  obtain ⟨s₂, o, k, r⟩ := nx h' (Keep.of_wr W) W.size (A'.set W (fits_nar_char x)) T' vm0 X' e' (V.keep (Keep.of_wr W) (fun x hx => by rw [List.mem_singleton.mp hx]; exact hm) (V.wr1 hm))
  exact ⟨s₂, o, k1 _ k, r⟩
theorem g_bastore {j : Int32} {x : Int32} (i : Nat) (C : Cx wd p s m meth c Z a0 EL own bytes ml ret nm) (hd : decode bytes pc = .ok (.bastore, 1)) (A : Av Z h a .byte vs) (hj : ¬ j < 0) (hi : j.toNatClampNeg = i) (hlt : i < vs.length) (hm : a ∈ mine) (nx : ∀ h', Keep h h' [a] → h'.size = h.size → Av Z h' a .byte (vs.set i (.int (nar .byte x))) → Go wd p l e R s m args below meth c Z EL Q kc ks m0 mine h' (locs ++ [⟨a, i⟩]) cells slots (mkF m (pc + 1) Ls st)) : Go wd p l e R s m args below meth c Z EL Q kc ks m0 mine h locs cells slots (mkF m pc Ls (.int x :: .int j :: .ref a :: st)) := fun T vm0 X eT V => by
  have A' := A
  obtain ⟨cl, Ar, e1, -, -⟩ := A
  subst hi
  obtain ⟨T', h', X', e', W, k1⟩ := stB X C.hx V.hZ' eT Ar (j := j) (x := x) (fun q => q.elim hj (by rw [← Array.length_toList, e1]; omega)) (g := mkF m pc Ls (.int x :: .int j :: .ref a :: st)) rfl rfl (hb C.hby hd)
  obtain ⟨s₂, o, k, r⟩ := nx h' (Keep.of_wr W) W.size (A'.set W (fits_nar_byte x)) T' vm0 X' e' (V.keep (Keep.of_wr W) (fun x hx => by rw [List.mem_singleton.mp hx]; exact hm) (V.wr1 hm))
  exact ⟨s₂, o, k1 _ k, r⟩
theorem g_iastore {j : Int32} {x : Int32} (i : Nat) (C : Cx wd p s m meth c Z a0 EL own bytes ml ret nm) (hd : decode bytes pc = .ok (.iastore, 1)) (A : Av Z h a .int vs) (hj : ¬ j < 0) (hi : j.toNatClampNeg = i) (hlt : i < vs.length) (hm : a ∈ mine) (nx : ∀ h', Keep h h' [a] → h'.size = h.size → Av Z h' a .int (vs.set i (.int x)) → Go wd p l e R s m args below meth c Z EL Q kc ks m0 mine h' (locs ++ [⟨a, i⟩]) cells slots (mkF m (pc + 1) Ls st)) : Go wd p l e R s m args below meth c Z EL Q kc ks m0 mine h locs cells slots (mkF m pc Ls (.int x :: .int j :: .ref a :: st)) := fun T vm0 X eT V => by
  have A' := A
  obtain ⟨cl, Ar, e1, -, -⟩ := A
  subst hi
  obtain ⟨T', h', X', e', W, k1⟩ := stI X C.hx V.hZ' eT Ar (j := j) (x := x) (fun q => q.elim hj (by rw [← Array.length_toList, e1]; omega)) (g := mkF m pc Ls (.int x :: .int j :: .ref a :: st)) rfl rfl (hb C.hby hd)
  obtain ⟨s₂, o, k, r⟩ := nx h' (Keep.of_wr W) W.size (A'.set W rfl) T' vm0 X' e' (V.keep (Keep.of_wr W) (fun x hx => by rw [List.mem_singleton.mp hx]; exact hm) (V.wr1 hm))
  exact ⟨s₂, o, k1 _ k, r⟩
theorem g_lastore {j : Int32} {x : Int64} (i : Nat) (C : Cx wd p s m meth c Z a0 EL own bytes ml ret nm) (hd : decode bytes pc = .ok (.lastore, 1)) (A : Av Z h a .long vs) (hj : ¬ j < 0) (hi : j.toNatClampNeg = i) (hlt : i < vs.length) (hm : a ∈ mine) (nx : ∀ h', Keep h h' [a] → h'.size = h.size → Av Z h' a .long (vs.set i (.long x)) → Go wd p l e R s m args below meth c Z EL Q kc ks m0 mine h' (locs ++ [⟨a, i⟩]) cells slots (mkF m (pc + 1) Ls st)) : Go wd p l e R s m args below meth c Z EL Q kc ks m0 mine h locs cells slots (mkF m pc Ls (.long x :: .int j :: .ref a :: st)) := fun T vm0 X eT V => by
  have A' := A
  obtain ⟨cl, Ar, e1, -, -⟩ := A
  subst hi
  obtain ⟨T', h', X', e', W, k1⟩ := stJ X C.hx V.hZ' eT Ar (j := j) (x := x) (fun q => q.elim hj (by rw [← Array.length_toList, e1]; omega)) (g := mkF m pc Ls (.long x :: .int j :: .ref a :: st)) rfl rfl (hb C.hby hd)
  obtain ⟨s₂, o, k, r⟩ := nx h' (Keep.of_wr W) W.size (A'.set W rfl) T' vm0 X' e' (V.keep (Keep.of_wr W) (fun x hx => by rw [List.mem_singleton.mp hx]; exact hm) (V.wr1 hm))
  exact ⟨s₂, o, k1 _ k, r⟩
theorem g_aastore {j : Int32} {x : Value} (i : Nat) (C : Cx wd p s m meth c Z a0 EL own bytes ml ret nm) (hd : decode bytes pc = .ok (.aastore, 1)) (A : Av Z h a ty vs) (hty : ty.isReference = true) (hx : x.isRef = true) (S : Sto Z h a x) (hj : ¬ j < 0) (hi : j.toNatClampNeg = i) (hlt : i < vs.length) (hm : a ∈ mine) (nx : ∀ h', Keep h h' [a] → h'.size = h.size → Av Z h' a ty (vs.set i x) → Go wd p l e R s m args below meth c Z EL Q kc ks m0 mine h' (locs ++ [⟨a, i⟩]) cells slots (mkF m (pc + 1) Ls st)) : Go wd p l e R s m args below meth c Z EL Q kc ks m0 mine h locs cells slots (mkF m pc Ls (x :: .int j :: .ref a :: st)) := fun T vm0 X eT V => by
  have A' := A
  obtain ⟨cl, Ar, e1, -, -⟩ := A
  subst hi
  obtain ⟨T', h', X', e', W, k1⟩ := stR X C.hx V.hZ' eT Ar (j := j) (v := x) (fun q => q.elim hj (by rw [← Array.length_toList, e1]; omega)) hty S (g := mkF m pc Ls (x :: .int j :: .ref a :: st)) rfl rfl (hb C.hby hd)
  have hf : fits ty x = true := by rcases ref_cases hx with rfl | ⟨q, rfl⟩ <;> cases ty <;> first | rfl | (simp [FieldType.isReference] at hty; done)
  obtain ⟨s₂, o, k, r⟩ := nx h' (Keep.of_wr W) W.size (A'.set W hf) T' vm0 X' e' (V.keep (Keep.of_wr W) (fun x hx => by rw [List.mem_singleton.mp hx]; exact hm) (V.wr1 hm))
  exact ⟨s₂, o, k1 _ k, r⟩
theorem g_newarray_ {aty : ArrayType} {n : Int32} {ad : String} (cap : Nat) (vs : List Value) (C : Cx wd p s m meth c Z a0 EL own bytes ml ret nm) (hd : decode bytes pc = .ok (.newarray aty, 2)) (w : (Cond.arrayClass (newarray.typeOf aty)).before a0 Z = true) (hn : ¬ n < 0) (hcap : n.toNatClampNeg ≤ cap) (hbig : cap * 8 ≤ 536870912) (had : "[" ++ (newarray.typeOf aty).toString = ad) (hvs : List.replicate n.toNatClampNeg (defaultValue (newarray.typeOf aty)) = vs) (hc : cells + 1 ≤ R.cells) (hs : slots + cap ≤ R.slots)
    (nx : ∀ (a : Addr) (h' : Heap), a = h.size → Ext h h' → a < h'.size → Exa Z h' a ad → Av Z h' a (newarray.typeOf aty) vs → Go wd p l e R s m args below meth c Z EL Q kc ks m0 (a :: mine) h' locs (cells + 1) (slots + cap) (mkF m (pc + 2) Ls (.ref a :: st))) : Go wd p l e R s m args below meth c Z EL Q kc ks m0 mine h locs cells slots (mkF m pc Ls (.int n :: st)) := fun T vm0 X eT V => by
  obtain ⟨T', h', cA, X', e', E, A, A2, k1⟩ := newPE X C.hx V.hZ' w eT (g := mkF m pc Ls (.int n :: st)) rfl (hb C.hby hd) rfl hn hcap hbig hc hs had
  have hav : Av Z h' h.size (newarray.typeOf aty) vs := by
    refine ⟨_, A, by rw [← hvs]; simp [newA], ?_, fun w hw => ?_⟩
    · rw [← hvs]; simp; have := (back32 hn).2; omega
    · rw [← hvs] at hw
      rw [(List.mem_replicate.mp hw).2]; cases aty <;> rfl
  obtain ⟨s₂, o, k, r⟩ := nx h.size h' rfl E A.lt A2 hav T' vm0 X' e' (V.new E A.lt)
  exact ⟨s₂, o, k1 _ k, r⟩
theorem g_anewarray_ {idx : Nat} {n : Int32} {ad Cn : String} (cap : Nat) (vs : List Value) (C : Cx wd p s m meth c Z a0 EL own bytes ml ret nm) (hd : decode bytes pc = .ok (.anewarray idx, 3)) (w1 : (Cond.classLink own idx Cn).before a0 Z = true) (w2 : (Cond.arrayOver (.object Cn)).before a0 Z = true) (hn : ¬ n < 0) (hcap : n.toNatClampNeg ≤ cap) (hbig : cap * 8 ≤ 536870912) (had : "[" ++ (FieldType.object Cn).toString = ad) (hvs : List.replicate n.toNatClampNeg Value.null = vs) (hc : cells + 1 ≤ R.cells) (hs : slots + cap ≤ R.slots)
    (nx : ∀ (a : Addr) (h' : Heap), a = h.size → Ext h h' → a < h'.size → Exa Z h' a ad → Av Z h' a (.object Cn) vs → (∃ cA cl, h'[a]? = some cl ∧ cl.cls = cA ∧ Ovr Z cA Cn) → Go wd p l e R s m args below meth c Z EL Q kc ks m0 (a :: mine) h' locs (cells + 1) (slots + cap) (mkF m (pc + 3) Ls (.ref a :: st))) : Go wd p l e R s m args below meth c Z EL Q kc ks m0 mine h locs cells slots (mkF m pc Ls (.int n :: st)) := fun T vm0 X eT V => by
  obtain ⟨T', h', cA, X', e', E, A, A2, O, k1⟩ := newRE X C.hx V.hZ' (V.hown C) w1 w2 eT (g := mkF m pc Ls (.int n :: st)) rfl (hb C.hby hd) rfl hn hcap hbig hc hs had
  have hav : Av Z h' h.size (.object Cn) vs := by
    refine ⟨_, A, by rw [← hvs]; simp [newA, defaultValue], ?_, fun w hw => ?_⟩
    · rw [← hvs]; simp; have := (back32 hn).2; omega
    · rw [← hvs] at hw
      rw [(List.mem_replicate.mp hw).2]; rfl
  obtain ⟨s₂, o, k, r⟩ := nx h.size h' rfl E A.lt A2 hav ⟨cA, _, A.1, rfl, O⟩ T' vm0 X' e' (V.new E A.lt)
  exact ⟨s₂, o, k1 _ k, r⟩
theorem Sto.ofAv {y : Addr} {Cn : String} (A : Av Z h a ty vs) (O : ∃ cA cl, h[a]? = some cl ∧ cl.cls = cA ∧ Ovr Z cA Cn) (I : Ins Z h y Cn true) : Sto Z h a (.ref y) := by
  obtain ⟨c, A, -⟩ := A
  obtain ⟨cA, cl, q1, q2, O⟩ := O
  cases A.1.symm.trans q1
  exact Sto.ofV A q2 O I
theorem g_clone_ {idx : Nat} {ad : String} (cap : Nat) (C : Cx wd p s m meth c Z a0 EL own bytes ml ret nm) (hd : decode bytes pc = .ok (.invokevirtual idx, 3)) (w1 : (Cond.methodLink own idx ⟨ad, "clone", "()Ljava/lang/Object;"⟩).before a0 Z = true) (w2 : (Cond.sameMethod ad "java/lang/Object" "clone" "()Ljava/lang/Object;").before a0 Z = true) (w3 : (Cond.native ⟨"java/lang/Object", "clone", "()Ljava/lang/Object;"⟩).before a0 Z = true)
    (w4 : (Cond.instanceMethod ⟨"java/lang/Object", "clone", "()Ljava/lang/Object;"⟩).before a0 Z = true) (w5 : (Cond.selects ad ⟨ad, "clone", "()Ljava/lang/Object;"⟩ ⟨"java/lang/Object", "clone", "()Ljava/lang/Object;"⟩).before a0 Z = true) (w6 : (Cond.castable ad "java/lang/Cloneable").before a0 Z = true)
    (A : Av Z h a ty vs) (E : Exa Z h a ad) (hcap : vs.length ≤ cap) (hsz : Ls.size = ml) (hf : 1 ≤ R.frames) (hl : (st.map fun v => v.category).sum + 14 ≤ R.locals) (hc : cells + 1 ≤ R.cells) (hs : slots + cap ≤ R.slots)
    (nx : ∀ (b : Addr) (h' : Heap), b = h.size → Ext h h' → b < h'.size → Exa Z h' b ad → Av Z h' b ty vs → Go wd p l e R s m args below meth c Z EL Q kc ks m0 (b :: mine) h' locs (cells + 1) (slots + cap) (mkF m (pc + 3) Ls (.ref b :: st))) : Go wd p l e R s m args below meth c Z EL Q kc ks m0 mine h locs cells slots (mkF m pc Ls (.ref a :: st)) := fun T vm0 X eT V => by
  obtain ⟨cl, Ar, rfl, h2, h3⟩ := A
  have FC : FitC Z cl := fitC_of Ar fun i hi v hv => h3 v (by rw [Array.getElem?_eq_getElem hi] at hv; cases hv; exact Array.mem_toList_iff.mpr (Array.getElem_mem hi))
  obtain ⟨T', h', X', e', E', A', A2, k1⟩ := cloneA X C.hx V.hZ' (V.hown C) w1 w2 w3 w4 w5 w6 eT Ar E FC (g := mkF m pc Ls (.ref a :: st)) rfl (by rw [C.hml]; exact hsz) rfl (hb C.hby hd) hf (W := (st.map fun v => v.category).sum) (by show 2 * 0 + _ ≤ _; omega) hl (by rw [← Array.length_toList]; exact hcap) hc hs
  obtain ⟨s₂, o, k, r⟩ := nx h.size h' rfl E' A'.lt A2 ⟨_, A', rfl, h2, h3⟩ T' vm0 X' e' (V.new E' A'.lt)
  exact ⟨s₂, o, k1 _ k, r⟩
/-! calls -/
theorem safe0 {x : Addr} : Safe Z [] vm h x := fun ⟨_, q, _⟩ => nomatch q
theorem chv0 : CHv Z [] vm h := fun _ q => nomatch q
variable {y z : MethodName} {bytes' : ByteArray} {ml' : Nat} {ret' : Option FieldType} {rm : Room} {Q' : Option Value → Heap → Prop} {mine' : List Addr} {as' : Array Value} {len W : Nat}
theorem backN (M : MetW false l Z [] y bytes' ml' ret' [] rm as' mine' h Q') (hZ : Z.Warmed39 s.vm) (wc : (Cond.code y bytes' ml' ret').before a0 Z = true) (wz : (Cond.initialized y.cls).before a0 Z = true) (hf : rm.frames + 1 ≤ R.frames) (hl : W + (ml' + 11) + rm.locals ≤ R.locals) (hm : ∀ x ∈ mine', x < h.size ∧ Z.heap.size ≤ x) (hold : Ext Z.heap h) :
    Back l R p e below s args y len W (fun A a => a = as' ∧ A.U.heap = h ∧ A.cells + rm.cells ≤ R.cells ∧ A.slots + rm.slots ≤ R.slots)
      (fun A _ v B => ∃ L, Q' v B.U.heap ∧ B.locs = A.locs ++ L ∧ B.cells = A.cells + rm.cells ∧ B.slots = A.slots + rm.slots ∧ Keep h B.U.heap mine' ∧ Fr Z.heap.size L) :=
  Back.of_free (bytes := bytes') (maxL := ml') (ret := ret') (E := fun _ first o t L k n => k = rm.cells ∧ n = rm.slots ∧ (∃ v, o = .returned v ∧ Q' v t.heap) ∧ Keep first.heap t.heap mine' ∧ Fr Z.heap.size L) M hf hl
    (fun m meth c A a Y hp => have hU : Z.Warmed39 A.U.vm := wtrans hZ Y.warmed
      ⟨by show (Cond.and _ .tt).before a A.U = true; rw [Cond.before_and, mv hU wc]; rfl, mv hU wc, mv hU wz, hp.2.2.1, hp.2.2.2⟩)
    (fun m meth c A a g mk Y hp => ⟨hp.1, wtrans hZ Y.warmed, hp.2.1, chv0, fun x hx => ⟨(hm x hx).1, safe0, (hm x hx).2⟩, hold⟩) (fun _ _ _ _ _ _ _ _ _ => trivial)
    (fun _ _ _ _ ⟨v, L, h1, h2, h3, h4, h5, h6, h7⟩ => ⟨L, _, _, h4.1 rfl, rfl, rfl, ⟨v, h1, h2⟩, h6, h7⟩)
    (fun m meth c A a g mk v t L k n Y hp _ _ ⟨e1, e2, ⟨v', e3, e4⟩, e5, e6⟩ => by
      cases e3; subst e1 e2
      refine ⟨L, e4, rfl, rfl, rfl, ?_, e6⟩
      rw [← hp.2.1]; exact e5)
theorem backW {vm0 : Vm} (M : MetW true l Z EL y bytes' ml' ret' [] rm as' mine' h Q') (hZ : Z.Warmed39 vm0) (wc : (Cond.code y bytes' ml' ret').before a0 Z = true) (wz : (Cond.initialized y.cls).before a0 Z = true) (hf : rm.frames + 1 ≤ R.frames) (hl : W + (ml' + 11) + rm.locals ≤ R.locals) (hEL : EW Z a0 EL) (H : CHv Z EL vm0 h) (hm : ∀ x ∈ mine', x < h.size ∧ Safe Z EL vm0 h x ∧ Z.heap.size ≤ x) (hold : Ext Z.heap h) :
    BackS l R p e below (s.setVm vm0) args y len W (fun A a => a = as' ∧ A.U.heap = h ∧ A.cells + rm.cells ≤ R.cells ∧ A.slots + rm.slots ≤ R.slots)
      (fun A _ v B => ∃ L, Q' v B.U.heap ∧ B.locs = A.locs ++ L ∧ B.cells = A.cells + rm.cells ∧ B.slots = A.slots + rm.slots ∧ CHr Z EL vm0 h B.U.vm B.U.heap ∧ Keep h B.U.heap mine' ∧ Fr Z.heap.size L) :=
  BackS.of_freeW (bytes := bytes') (maxL := ml') (ret := ret') (E := fun _ first o t L k n => k = rm.cells ∧ n = rm.slots ∧ (∃ v, o = .returned v ∧ Q' v t.heap) ∧ CHr Z EL first.vm first.heap t.vm t.heap ∧ Keep first.heap t.heap mine' ∧ Fr Z.heap.size L) M hf hl
    (fun m meth c A a Y hp => have hU : Z.Warmed39 A.U.vm := wtrans (s := s.setVm vm0) hZ Y.warmed
      ⟨by show (Cond.and _ .tt).before a A.U = true; rw [Cond.before_and, mv hU wc]; rfl, mv hU wc, mv hU wz, hp.2.2.1, hp.2.2.2⟩)
    (fun m meth c A a g mk Y hp => ⟨hp.1, wtrans (s := s.setVm vm0) hZ Y.warmed, hp.2.1, (CHv.at Y hZ hEL H).1, fun x hx => ⟨(hm x hx).1, (CHv.at Y hZ hEL H).safe (hm x hx).1 (hm x hx).2.1, (hm x hx).2.2⟩, hold⟩) (fun _ _ _ _ _ _ _ _ _ => trivial)
    (fun _ _ _ _ ⟨v, L, h1, h2, h3, h4, h5, h6, h7⟩ => ⟨L, _, _, h4.2, rfl, rfl, ⟨v, h1, h2⟩, h3, h6, h7⟩)
    (fun m meth c A a g mk v t L k n Y hp _ _ ⟨e1, e2, ⟨v', e3, e4⟩, e5, e6, e7⟩ => by
      cases e3; subst e1 e2
      refine ⟨L, e4, rfl, rfl, rfl, (CHv.at Y hZ hEL H).trans ?_, ?_, e7⟩
      · rw [← hp.2.1]; exact e5
      · rw [← hp.2.1]; exact e6)
theorem Vi.call {vm0 vm1 : Vm} {n : Nat} {locs' : List Loc} (V : Vi true Z s EL m0 mine locs vm0 h) (hS : (s.setVm vm0).Since vm1 n) (hn : n ≤ h'.size) (hg : h.size ≤ n) (R2 : CHr Z EL vm0 h vm1 h') (K : Keep h h' ws) (hw : ∀ x ∈ ws, x ∈ mine) (hF : Fr Z.heap.size locs') : Vi true Z s EL m0 mine locs' vm1 h' := by
  have V' := V.keep K hw hF
  obtain ⟨⟨v1, v2, ⟨k0, v3, v4⟩, v5⟩, v6, v7, v8, v9⟩ := V
  exact ⟨⟨fun q => (nomatch q), State.Warmed39.trans (t := s.setVm vm0) v2 hS.1, ⟨n, v3.trans hS (Nat.le_trans v4 hg), hn⟩, v5.trans R2⟩, fun x hx => ⟨(V'.2.1 x hx).1, R2.safe (v6 x hx).1 (v6 x hx).2.1, (V'.2.1 x hx).2.2⟩, V'.2.2⟩
theorem Fr.both {L L' : List Loc} {n : Nat} (A : Fr n L) (B : Fr n L') : Fr n (L ++ L') := Fr.app A B
theorem g_invokestatic {idx : Nat} {st0 : List Value} (argsL rest : List Value) (W : Nat) (C : Cx wd p s m meth c Z a0 EL own bytes ml ret nm) (hd : decode bytes pc = .ok (.invokestatic idx, 3)) (w1 : (Cond.methodLink own idx y).before a0 Z = true) (w2 : (Cond.static y).before a0 Z = true) (w3 : (Cond.initialized y.cls).before a0 Z = true) (w4 : (Cond.code y bytes' ml' ret').before a0 Z = true) (hy : y.cls ≠ "java/lang/invoke/MethodHandle" ∧ y.cls ≠ "java/lang/invoke/VarHandle") (M : MetW wd l Z EL y bytes' ml' ret' [] rm argsL.toArray mine' h Q') (hlen : ∀ sig, parseMethodDescriptor y.desc = some sig → argsL.length = sig.parameters.length) (hst : st0 = argsL.reverse ++ rest) (hsz : Ls.size = ml) (hW : (rest.map fun v => v.category).sum ≤ W) (hf : rm.frames + 1 ≤ R.frames) (hl : W + (ml' + 11) + rm.locals ≤ R.locals) (hc : cells + rm.cells ≤ R.cells) (hs : slots + rm.slots ≤ R.slots) (hm : ∀ x ∈ mine', x ∈ mine) (nx : ∀ (v : Option Value) (h' : Heap) (L : List Loc), Q' v h' → Keep h h' mine' → Go wd p l e R s m args below meth c Z EL Q kc ks m0 mine h' (locs ++ L) (cells + rm.cells) (slots + rm.slots) (mkF m (pc + 3) Ls (v.toList ++ rest))) : Go wd p l e R s m args below meth c Z EL Q kc ks m0 mine h locs cells slots (mkF m pc Ls st0) := fun T vm0 X eT V => by
  subst hst
  have h2W : 2 * 0 + (rest.map fun v => v.category).sum ≤ W := by omega
  cases wd with
  | false =>
    have hE := C.hwd rfl
    subst hE
    have e1 : vm0 = s.vm := V.1.1 rfl
    subst e1
    obtain ⟨v, vm₁, ⟨T', L', k', n'⟩, -, X', ⟨L, hq, l1, l2, l3, hK, hF⟩, k1⟩ := Jvm.LawKit.callS X C.hx (V.hown C) (mvT V.hZ' w1) (mvT V.hZ' w2) (mvT V.hZ' w3) (mvT V.hZ' w4) hy (backN (len := 3) (W := W) M V.hZ' w4 w3 hf hl (fun x hx => ⟨(V.2.1 x (hm x hx)).1, (V.2.1 x (hm x hx)).2.2.1⟩) V.old) (g := mkF m pc Ls _) rfl (by rw [C.hml]; exact hsz) hlen rfl h2W (hb C.hby hd) (fun _ _ => ⟨rfl, eT, hc, hs⟩)
    dsimp only [Pt.U, Pt.locs, Pt.cells, Pt.slots] at X' l1 l2 l3 k1 hq hK
    subst l1 l2 l3
    obtain ⟨s₂, o, k, r⟩ := nx v _ L hq hK T' s.vm X' rfl (V.keep hK hm (Fr.app V.fr hF))
    exact ⟨s₂, o, k1 _ k, r⟩
  | true =>
    obtain ⟨v, vm₁, ⟨T', L', k', n'⟩, -, X', hS, hg, ⟨L, hq, l1, l2, l3, hR, hK, hF⟩, k1⟩ := callSS X C.hx (V.hown C) (mvT V.hZ' w1) (mvT V.hZ' w2) (mvT V.hZ' w3) (mvT V.hZ' w4) hy (backW (len := 3) (W := W) M V.hZ w4 w3 hf hl C.hEW V.held (fun x hx => ⟨(V.2.1 x (hm x hx)).1, (V.2.1 x (hm x hx)).2.1, (V.2.1 x (hm x hx)).2.2.1⟩) V.old) (g := mkF m pc Ls _) rfl (by rw [C.hml]; exact hsz) hlen rfl h2W (hb C.hby hd) (fun _ _ => ⟨rfl, eT, hc, hs⟩)
    dsimp only [Pt.U, Pt.locs, Pt.cells, Pt.slots] at X' l1 l2 l3 k1 hq hg hS hR hK
    subst l1 l2 l3
    rw [eT] at hg
    obtain ⟨s₂, o, k, r⟩ := nx v _ L hq hK T' T'.vm X' rfl (V.call hS (Nat.le_refl _) hg hR hK hm (Fr.app V.fr hF))
    exact ⟨s₂, o, k1.trans k, r⟩
theorem g_invokespecial {idx : Nat} {st0 : List Value} (argsL rest : List Value) (W : Nat) (C : Cx wd p s m meth c Z a0 EL own bytes ml ret nm) (hd : decode bytes pc = .ok (.invokespecial idx, 3)) (hyi : y.name = "<init>") (w1 : (Cond.methodLink own idx y).before a0 Z = true) (w2 : (Cond.instanceMethod y).before a0 Z = true) (w3 : (Cond.initialized y.cls).before a0 Z = true) (w4 : (Cond.code y bytes' ml' none).before a0 Z = true) (hy : y.cls ≠ "java/lang/invoke/MethodHandle" ∧ y.cls ≠ "java/lang/invoke/VarHandle") (M : MetW wd l Z EL y bytes' ml' none [] rm (.ref a :: argsL).toArray mine' h Q') (hlen : ∀ sig, parseMethodDescriptor y.desc = some sig → argsL.length = sig.parameters.length) (hst : st0 = argsL.reverse ++ .ref a :: rest) (hsz : Ls.size = ml) (hW : (rest.map fun v => v.category).sum ≤ W) (hf : rm.frames + 1 ≤ R.frames) (hl : W + (ml' + 11) + rm.locals ≤ R.locals) (hc : cells + rm.cells ≤ R.cells) (hs : slots + rm.slots ≤ R.slots) (hm : ∀ x ∈ mine', x ∈ mine) (nx : ∀ (v : Option Value) (h' : Heap) (L : List Loc), Q' v h' → Keep h h' mine' → Go wd p l e R s m args below meth c Z EL Q kc ks m0 mine h' (locs ++ L) (cells + rm.cells) (slots + rm.slots) (mkF m (pc + 3) Ls (v.toList ++ rest))) : Go wd p l e R s m args below meth c Z EL Q kc ks m0 mine h locs cells slots (mkF m pc Ls st0) := fun T vm0 X eT V => by
  subst hst
  have h2W : 2 * 0 + (rest.map fun v => v.category).sum ≤ W := by omega
  cases wd with
  | false =>
    have hE := C.hwd rfl
    subst hE
    have e1 : vm0 = s.vm := V.1.1 rfl
    subst e1
    obtain ⟨v, vm₁, ⟨T', L', k', n'⟩, -, X', ⟨L, hq, l1, l2, l3, hK, hF⟩, k1⟩ := X.specialBack C.hx hyi (V.hown C) (mvT V.hZ' w1) (mvT V.hZ' w2) (mvT V.hZ' w4) hy (backN (len := 3) (W := W) M V.hZ' w4 w3 hf hl (fun x hx => ⟨(V.2.1 x (hm x hx)).1, (V.2.1 x (hm x hx)).2.2.1⟩) V.old) (g := mkF m pc Ls _) rfl (by rw [C.hml]; exact hsz) (Steps.refl _) hlen rfl h2W (hb C.hby hd) (fun _ _ => ⟨rfl, eT, hc, hs⟩)
    dsimp only [Pt.U, Pt.locs, Pt.cells, Pt.slots] at X' l1 l2 l3 k1 hq hK
    subst l1 l2 l3
    obtain ⟨s₂, o, k, r⟩ := nx v _ L hq hK T' s.vm X' rfl (V.keep hK hm (Fr.app V.fr hF))
    exact ⟨s₂, o, k1.trans k, r⟩
  | true =>
    obtain ⟨v, vm₁, ⟨T', L', k', n'⟩, -, X', hS, hg, ⟨L, hq, l1, l2, l3, hR, hK, hF⟩, k1⟩ := X.specialBackS C.hx hyi (V.hown C) (mvT V.hZ' w1) (mvT V.hZ' w2) (mvT V.hZ' w4) hy (backW (len := 3) (W := W) M V.hZ w4 w3 hf hl C.hEW V.held (fun x hx => ⟨(V.2.1 x (hm x hx)).1, (V.2.1 x (hm x hx)).2.1, (V.2.1 x (hm x hx)).2.2.1⟩) V.old) (g := mkF m pc Ls _) rfl (by rw [C.hml]; exact hsz) (Steps.refl _) hlen rfl h2W (hb C.hby hd) (fun _ _ => ⟨rfl, eT, hc, hs⟩)
    dsimp only [Pt.U, Pt.locs, Pt.cells, Pt.slots] at X' l1 l2 l3 k1 hq hg hS hR hK
    subst l1 l2 l3
    rw [eT] at hg
    obtain ⟨s₂, o, k, r⟩ := nx v _ L hq hK T' T'.vm X' rfl (V.call hS (Nat.le_refl _) hg hR hK hm (Fr.app V.fr hF))
    exact ⟨s₂, o, k1.trans k, r⟩
theorem g_invokevirtual {idx : Nat} {st0 : List Value} {Cn : String} (argsL rest : List Value) (W : Nat) (C : Cx wd p s m meth c Z a0 EL own bytes ml ret nm) (hd : decode bytes pc = .ok (.invokevirtual idx, 3)) (w1 : (Cond.methodLink own idx y).before a0 Z = true) (w5 : (Cond.declares y).before a0 Z = true) (w6 : (Cond.selects Cn y z).before a0 Z = true) (w2 : (Cond.instanceMethod z).before a0 Z = true) (w3 : (Cond.initialized z.cls).before a0 Z = true) (w4 : (Cond.code z bytes' ml' ret').before a0 Z = true) (hnf : ∀ U : State, Z.Warmed39 U.vm → NotFace U y) (hy : y.cls ≠ "java/lang/invoke/MethodHandle" ∧ y.cls ≠ "java/lang/invoke/VarHandle") (E : Exa Z h a Cn) (M : MetW wd l Z EL z bytes' ml' ret' [] rm (.ref a :: argsL).toArray mine' h Q') (hlen : ∀ sig, parseMethodDescriptor y.desc = some sig → argsL.length = sig.parameters.length) (hst : st0 = argsL.reverse ++ .ref a :: rest) (hsz : Ls.size = ml) (hW : (rest.map fun v => v.category).sum ≤ W) (hf : rm.frames + 1 ≤ R.frames) (hl : W + (ml' + 11) + rm.locals ≤ R.locals) (hc : cells + rm.cells ≤ R.cells) (hs : slots + rm.slots ≤ R.slots) (hm : ∀ x ∈ mine', x ∈ mine) (nx : ∀ (v : Option Value) (h' : Heap) (L : List Loc), Q' v h' → Keep h h' mine' → Go wd p l e R s m args below meth c Z EL Q kc ks m0 mine h' (locs ++ L) (cells + rm.cells) (slots + rm.slots) (mkF m (pc + 3) Ls (v.toList ++ rest))) : Go wd p l e R s m args below meth c Z EL Q kc ks m0 mine h locs cells slots (mkF m pc Ls st0) := fun T vm0 X eT V => by
  subst hst
  have h2W : 2 * 0 + (rest.map fun v => v.category).sum ≤ W := by omega
  obtain ⟨cB, kB, qa, qb, qc⟩ := isOf V.hZ' eT E
  cases wd with
  | false =>
    have hE := C.hwd rfl
    subst hE
    have e1 : vm0 = s.vm := V.1.1 rfl
    subst e1
    obtain ⟨v, vm₁, ⟨T', L', k', n'⟩, -, X', ⟨L, hq, l1, l2, l3, hK, hF⟩, k1⟩ := X.virtualBack C.hx (V.hown C) (mvT V.hZ' w1) (mvT V.hZ' w5) (hnf _ V.hZ') (mvT V.hZ' w6) (mvT V.hZ' w2) hy (backN (len := 3) (W := W) M V.hZ' w4 w3 hf hl (fun x hx => ⟨(V.2.1 x (hm x hx)).1, (V.2.1 x (hm x hx)).2.2.1⟩) V.old) qa qc (g := mkF m pc Ls _) rfl (by rw [C.hml]; exact hsz) (Steps.refl _) hlen rfl h2W (hb C.hby hd) (fun _ _ => ⟨rfl, eT, hc, hs⟩)
    dsimp only [Pt.U, Pt.locs, Pt.cells, Pt.slots] at X' l1 l2 l3 k1 hq hK
    subst l1 l2 l3
    obtain ⟨s₂, o, k, r⟩ := nx v _ L hq hK T' s.vm X' rfl (V.keep hK hm (Fr.app V.fr hF))
    exact ⟨s₂, o, k1.trans k, r⟩
  | true =>
    obtain ⟨v, vm₁, ⟨T', L', k', n'⟩, -, X', hS, hg, ⟨L, hq, l1, l2, l3, hR, hK, hF⟩, k1⟩ := X.virtualBackS C.hx (V.hown C) (mvT V.hZ' w1) (mvT V.hZ' w5) (hnf _ V.hZ') (mvT V.hZ' w6) (mvT V.hZ' w2) hy (backW (len := 3) (W := W) M V.hZ w4 w3 hf hl C.hEW V.held (fun x hx => ⟨(V.2.1 x (hm x hx)).1, (V.2.1 x (hm x hx)).2.1, (V.2.1 x (hm x hx)).2.2.1⟩) V.old) qa qc (g := mkF m pc Ls _) rfl (by rw [C.hml]; exact hsz) (Steps.refl _) hlen rfl h2W (hb C.hby hd) (fun _ _ => ⟨rfl, eT, hc, hs⟩)
    dsimp only [Pt.U, Pt.locs, Pt.cells, Pt.slots] at X' l1 l2 l3 k1 hq hg hS hR hK
    subst l1 l2 l3
    rw [eT] at hg
    obtain ⟨s₂, o, k, r⟩ := nx v _ L hq hK T' T'.vm X' rfl (V.call hS (Nat.le_refl _) hg hR hK hm (Fr.app V.fr hF))
    exact ⟨s₂, o, k1.trans k, r⟩
theorem g_specialB {idx : Nat} {rc rs : Nat} {QB : Option Value → Heap → List Loc → Prop} {st0 : List Value} (argsL rest : List Value) (W : Nat) (C : Cx wd p s m meth c Z a0 EL own bytes ml ret nm) (hd : decode bytes pc = .ok (.invokespecial idx, 3)) (hyi : y.name = "<init>") (w1 : (Cond.methodLink own idx y).before a0 Z = true) (w2 : (Cond.instanceMethod y).before a0 Z = true) (w4 : (Cond.code y bytes' ml' none).before a0 Z = true) (hy : y.cls ≠ "java/lang/invoke/MethodHandle" ∧ y.cls ≠ "java/lang/invoke/VarHandle") (hB : ∀ vm0 : Vm, Z.Warmed39 vm0 → Ext Z.heap h → Back l R p e below (s.setVm vm0) args y 3 W (fun A a => a = as' ∧ A.U.heap = h ∧ A.cells + rc ≤ R.cells ∧ A.slots + rs ≤ R.slots) (fun A _ v B => ∃ L, QB v B.U.heap L ∧ B.locs = A.locs ++ L ∧ B.cells = A.cells + rc ∧ B.slots = A.slots + rs)) (has : as' = (.ref a :: argsL).toArray) (hlen : ∀ sig, parseMethodDescriptor y.desc = some sig → argsL.length = sig.parameters.length) (hst : st0 = argsL.reverse ++ .ref a :: rest) (hsz : Ls.size = ml) (hW : (rest.map fun v => v.category).sum ≤ W) (hc : cells + rc ≤ R.cells) (hs : slots + rs ≤ R.slots) (hk : ∀ (v : Option Value) (h' : Heap) (L : List Loc), QB v h' L → Keep h h' mine' ∧ Fr Z.heap.size L) (hm : ∀ x ∈ mine', x ∈ mine) (nx : ∀ (v : Option Value) (h' : Heap) (L : List Loc), QB v h' L → Keep h h' mine' → Go wd p l e R s m args below meth c Z EL Q kc ks m0 mine h' (locs ++ L) (cells + rc) (slots + rs) (mkF m (pc + 3) Ls (v.toList ++ rest))) : Go wd p l e R s m args below meth c Z EL Q kc ks m0 mine h locs cells slots (mkF m pc Ls st0) := fun T vm0 X eT V => by
  subst hst
  have h2W : 2 * 0 + (rest.map fun v => v.category).sum ≤ W := by omega
  obtain ⟨v, vm₁, ⟨T', L', k', n'⟩, -, X', ⟨L, hq, l1, l2, l3⟩, k1⟩ := X.specialBack C.hx hyi (V.hown C) (mvT V.hZ' w1) (mvT V.hZ' w2) (mvT V.hZ' w4) hy (hB vm0 V.hZ V.old) (g := mkF m pc Ls _) rfl (by rw [C.hml]; exact hsz) (Steps.refl _) hlen rfl h2W (hb C.hby hd) (fun _ _ => ⟨has.symm, eT, hc, hs⟩)
  dsimp only [Pt.U, Pt.locs, Pt.cells, Pt.slots] at X' l1 l2 l3 k1 hq
  subst l1 l2 l3
  obtain ⟨K, hF⟩ := hk _ _ _ hq
  obtain ⟨s₂, o, k, r⟩ := nx v _ L hq K T' vm0 X' rfl (V.keep K hm (Fr.app V.fr hF))
  exact ⟨s₂, o, k1.trans k, r⟩
theorem g_virtualB {idx : Nat} {rc rs : Nat} {QB : Option Value → Heap → List Loc → Prop} {st0 : List Value} {Cn : String} (argsL rest : List Value) (W : Nat) (C : Cx wd p s m meth c Z a0 EL own bytes ml ret nm) (hd : decode bytes pc = .ok (.invokevirtual idx, 3)) (w1 : (Cond.methodLink own idx y).before a0 Z = true) (w5 : (Cond.declares y).before a0 Z = true) (w6 : (Cond.selects Cn y z).before a0 Z = true) (w2 : (Cond.instanceMethod z).before a0 Z = true) (hnf : ∀ U : State, Z.Warmed39 U.vm → NotFace U y) (hy : y.cls ≠ "java/lang/invoke/MethodHandle" ∧ y.cls ≠ "java/lang/invoke/VarHandle") (E : Exa Z h a Cn) (hB : ∀ vm0 : Vm, Z.Warmed39 vm0 → Ext Z.heap h → Back l R p e below (s.setVm vm0) args z 3 W (fun A a => a = as' ∧ A.U.heap = h ∧ A.cells + rc ≤ R.cells ∧ A.slots + rs ≤ R.slots) (fun A _ v B => ∃ L, QB v B.U.heap L ∧ B.locs = A.locs ++ L ∧ B.cells = A.cells + rc ∧ B.slots = A.slots + rs)) (has : as' = (.ref a :: argsL).toArray) (hlen : ∀ sig, parseMethodDescriptor y.desc = some sig → argsL.length = sig.parameters.length) (hst : st0 = argsL.reverse ++ .ref a :: rest) (hsz : Ls.size = ml) (hW : (rest.map fun v => v.category).sum ≤ W) (hc : cells + rc ≤ R.cells) (hs : slots + rs ≤ R.slots) (hk : ∀ (v : Option Value) (h' : Heap) (L : List Loc), QB v h' L → Keep h h' mine' ∧ Fr Z.heap.size L) (hm : ∀ x ∈ mine', x ∈ mine) (nx : ∀ (v : Option Value) (h' : Heap) (L : List Loc), QB v h' L → Keep h h' mine' → Go wd p l e R s m args below meth c Z EL Q kc ks m0 mine h' (locs ++ L) (cells + rc) (slots + rs) (mkF m (pc + 3) Ls (v.toList ++ rest))) : Go wd p l e R s m args below meth c Z EL Q kc ks m0 mine h locs cells slots (mkF m pc Ls st0) := fun T vm0 X eT V => by
  subst hst
  have h2W : 2 * 0 + (rest.map fun v => v.category).sum ≤ W := by omega
  obtain ⟨cB, kB, qa, qb, qc⟩ := isOf V.hZ' eT E
  obtain ⟨v, vm₁, ⟨T', L', k', n'⟩, -, X', ⟨L, hq, l1, l2, l3⟩, k1⟩ := X.virtualBack C.hx (V.hown C) (mvT V.hZ' w1) (mvT V.hZ' w5) (hnf _ V.hZ') (mvT V.hZ' w6) (mvT V.hZ' w2) hy (hB vm0 V.hZ V.old) qa qc (g := mkF m pc Ls _) rfl (by rw [C.hml]; exact hsz) (Steps.refl _) hlen rfl h2W (hb C.hby hd) (fun _ _ => ⟨has.symm, eT, hc, hs⟩)
  dsimp only [Pt.U, Pt.locs, Pt.cells, Pt.slots] at X' l1 l2 l3 k1 hq
  subst l1 l2 l3
  obtain ⟨K, hF⟩ := hk _ _ _ hq
  obtain ⟨s₂, o, k, r⟩ := nx v _ L hq K T' vm0 X' rfl (V.keep K hm (Fr.app V.fr hF))
  exact ⟨s₂, o, k1.trans k, r⟩
theorem g_ldcStr {idx : Nat} {text : String} {zl : Int32} (n : Nat) (C : Cx true p s m meth c Z a0 EL own bytes ml ret nm) (hd : decode bytes pc = .ok (.ldc idx, 2)) (w : (Cond.stringLink own idx text).before a0 Z = true) (wS : ∀ a ∈ Bundle.stringAtoms, a.before a0 Z = true) (hmem : (own, idx) ∈ EL)
    (ht : (∀ c ∈ text.toList, c.toNat < 256) ∧ text.toList.map (fun c => Value.int (Jvm.Lit.byteI c.toNat.toUInt16)) = vs) (hz : ¬ zl < 0) (hzl : zl.toNatClampNeg = vs.length) (hn : 4 * text.toList.length ≤ n) (hbig : n ≤ 536870912) (hc : cells + 2 ≤ R.cells) (hs : slots + (n + 4) ≤ R.slots)
    (nx : ∀ (a b : Addr) (h' : Heap), Ext h h' → Exa Z h' a "java/lang/String" → Fld Z h' a "java/lang/String" "coder" "B" (.int 0) → Fld Z h' a "java/lang/String" "value" "[B" (.ref b) → Av Z h' b .byte vs → (∀ x ∈ mine, x ≠ a ∧ x ≠ b) → Go true p l e R s m args below meth c Z EL Q kc ks m0 mine h' locs (cells + 2) (slots + (n + 4)) (mkF m (pc + 2) Ls (.ref a :: st))) : Go true p l e R s m args below meth c Z EL Q kc ks m0 mine h locs cells slots (mkF m pc Ls st) := fun T vm0 X eT V => by
  have V' := V
  obtain ⟨⟨v1, v2, ⟨k0, v3, v4⟩, v5⟩, v6, -⟩ := V'

  obtain ⟨a, T', h', k1, b, kb, X', e', E, hS, hk, hW, hf, F1, F2, F3, F4, l1, l2, hR, hL, hne, kk⟩ := ldcCH X C.hx V.hZ (V.hown' C) w wS eT v3 v4 C.hEW hmem v5.1 ht hz hzl (g := mkF m pc Ls st) rfl (hb C.hby hd) hn hbig hc hs
  have V2 := V.ext E
  have v6' : ∀ x ∈ mine, x < h'.size ∧ Safe Z EL T'.vm h' x ∧ Z.heap.size ≤ x ∧ (x ∈ m0 ∨ s.heap.size ≤ x) := fun x hx => ⟨Nat.lt_of_lt_of_le (v6 x hx).1 E.1, hR.safe (v6 x hx).1 (v6 x hx).2.1, (v6 x hx).2.2⟩
  obtain ⟨s₂, o, k, r⟩ := nx a b h' E F1 F2 F3 (Av.of_arv F4 hzl) (fun x hx => hne x (v6' x hx).2.1) T' T'.vm X' e' ⟨⟨fun q => (nomatch q), hW, ⟨k1, hS, hk⟩, v5.trans hR⟩, v6', V2.2.2⟩
  exact ⟨s₂, o, kk _ k, r⟩
/-- a String constant that isn't read -/
theorem g_ldcOpq {idx : Nat} {text : String} (n : Nat) (C : Cx true p s m meth c Z a0 EL own bytes ml ret nm) (hd : decode bytes pc = .ok (.ldc idx, 2)) (w : (Cond.stringLink own idx text).before a0 Z = true) (wS : ∀ a ∈ Bundle.stringAtoms, a.before a0 Z = true)
    (hn : 4 * text.toList.length ≤ n) (hbig : n ≤ 536870912) (hc : cells + 2 ≤ R.cells) (hs : slots + (n + 4) ≤ R.slots)
    (nx : ∀ (a : Addr) (h' : Heap), Ext h h' → Go true p l e R s m args below meth c Z EL Q kc ks m0 mine h' locs (cells + 2) (slots + (n + 4)) (mkF m (pc + 2) Ls (.ref a :: st))) : Go true p l e R s m args below meth c Z EL Q kc ks m0 mine h locs cells slots (mkF m pc Ls st) := fun T vm0 X eT V => by
  have V' := V
  obtain ⟨⟨v1, v2, ⟨k0, v3, v4⟩, v5⟩, v6, -⟩ := V'

  obtain ⟨a, T', h', k1, X', e', E, hS, hk, hW, hf, hR, hL, kk⟩ := ldcOH X C.hx V.hZ (V.hown' C) w wS eT v3 v4 C.hEW v5.1 (g := mkF m pc Ls st) rfl (hb C.hby hd) hn hbig hc hs
  obtain ⟨s₂, o, k, r⟩ := nx a h' E T' T'.vm X' e' ⟨⟨fun q => (nomatch q), hW, ⟨k1, hS, hk⟩, v5.trans hR⟩, fun x hx => ⟨Nat.lt_of_lt_of_le (v6 x hx).1 E.1, hR.safe (v6 x hx).1 (v6 x hx).2.1, (v6 x hx).2.2⟩, (V.ext E).2.2⟩
  exact ⟨s₂, o, kk _ k, r⟩
/-- the array at a holds objects of Cn -/
def OvA (Z : State) (h : Heap) (a : Addr) (Cn : String) : Prop := ∃ cA cl, h[a]? = some cl ∧ cl.cls = cA ∧ Ovr Z cA Cn
theorem OvA.keep {Cn : String} (F : OvA Z h a Cn) (K : Keep h h' ws) : OvA Z h' a Cn := by
  obtain ⟨cA, cl, q1, q2, O⟩ := F
  obtain ⟨cl', r1, r2, -⟩ := K.2.2 _ _ q1
  exact ⟨cA, cl', r1, r2.trans q2, O⟩
/-- an object of C isn't one of the ordinary class K that C's chain of superclasses doesn't meet -/
theorem ins_no {C K : String} {t : List String} {n : Nat} (E : Exa Z h a C) (hw : ∀ w ∈ Cond.chainWords (C :: t), w.before a0 Z = true) (wi : (Cond.instantiable K n).before a0 Z = true) (hn : K ∉ C :: t) : Ins Z h a K false := by
  obtain ⟨cell, k, e1, e2, e3, e4, -⟩ := E
  obtain ⟨cK, kK, i1, i2, i3, i4, -⟩ := Cond.instantiable_spec wi
  obtain ⟨c', k', c1, c2, c3, c4⟩ := Cond.chain_head hw
  cases e2.symm.trans c1
  cases e3.symm.trans c2
  have ne : cell.cls ≠ cK := Vm.findClass_ne e2 i1 (fun e => hn (by simp [e]))
  have ns := Cond.chain_notSub i1 t C _ e2 hw hn (Z.vm.classes.size + 1)
  have i5 : kK.isInterface = false := by
    cases q : kK.isInterface
    · rfl
    · rw [q] at i4; cases i4
  refine ⟨cell, cK, e1, i1, ?_⟩
  simp [e4, Vm.assignable, Vm.assignableAux, ne, e3, i2, c3, i3, i5, Vm.isSubclass, ns]
/-- a String of Latin-1 chars cs, its bytes at t -/
def Str (Z : State) (h : Heap) (x t : Addr) (cs : List Int32) : Prop :=
  Exa Z h x "java/lang/String" ∧ Fld Z h x "java/lang/String" "coder" "B" (.int 0) ∧ Fld Z h x "java/lang/String" "value" "[B" (.ref t) ∧ Av Z h t .byte (cs.map fun c => Value.int c.toInt8.toInt32)
theorem Str.keep {x t : Addr} {cs : List Int32} (F : Str Z h x t cs) (K : Keep h h' ws) (q1 : x ∉ ws) (q2 : t ∉ ws) : Str Z h' x t cs := ⟨F.1.keep K, F.2.1.keep K q1, F.2.2.1.keep K q1, F.2.2.2.keep K q2⟩
theorem Str.ext {x t : Addr} {cs : List Int32} (F : Str Z h x t cs) (E : Ext h h') : Str Z h' x t cs := F.keep (keep_ext E) (fun q => nomatch q) (fun q => nomatch q)
theorem g_ldc2w {idx : Nat} (z : Int64) (C : Cx wd p s m meth c Z a0 EL own bytes ml ret nm) (hd : decode bytes pc = .ok (.ldc2_w idx, 3)) (w : (Cond.constantLong own idx z).before a0 Z = true) (nx : Go wd p l e R s m args below meth c Z EL Q kc ks m0 mine h locs cells slots (mkF m (pc + 3) Ls (.long z :: st))) : Go wd p l e R s m args below meth c Z EL Q kc ks m0 mine h locs cells slots (mkF m pc Ls st) := fun T vm0 X eT V => by
  obtain ⟨s₂, o, k, r⟩ := nx T vm0 X eT V
  exact ⟨s₂, o, X.ldc2J C.hx (V.hown C) (mvT V.hZ' w) (g := mkF m pc Ls st) rfl (hb C.hby hd) k, r⟩
theorem g_ldcInt {idx : Nat} (z : Int32) (C : Cx wd p s m meth c Z a0 EL own bytes ml ret nm) (hd : decode bytes pc = .ok (.ldc idx, 2)) (w : (Cond.constant own idx z).before a0 Z = true) (nx : Go wd p l e R s m args below meth c Z EL Q kc ks m0 mine h locs cells slots (mkF m (pc + 2) Ls (.int z :: st))) : Go wd p l e R s m args below meth c Z EL Q kc ks m0 mine h locs cells slots (mkF m pc Ls st) := fun T vm0 X eT V => by
  obtain ⟨s₂, o, k, r⟩ := nx T vm0 X eT V
  exact ⟨s₂, o, X.ldcI C.hx (V.hown C) (mvT V.hZ' w) (g := mkF m pc Ls st) rfl (hb C.hby hd) k, r⟩
theorem cl_lt {x y : Int64} : XT.cmpL x y < 0 ↔ x < y := by rw [← lw_lt]; rfl
theorem cl_gt {x y : Int64} : 0 < XT.cmpL x y ↔ y < x := by rw [← lw_gt]; rfl
theorem cl_eq {x y : Int64} : XT.cmpL x y = 0 ↔ x = y := by rw [← lw_eq]; rfl
theorem cl_eq_t {x y : Int64} (q : x = y) : hC .eq (XT.cmpL x y) 0 := cl_eq.mpr q
theorem cl_eq_f {x y : Int64} (q : ¬ x = y) : nC .eq (XT.cmpL x y) 0 := fun z => q (cl_eq.mp z)
theorem cl_ne_t {x y : Int64} (q : ¬ x = y) : hC .ne (XT.cmpL x y) 0 := fun z => q (cl_eq.mp z)
theorem cl_ne_f {x y : Int64} (q : x = y) : nC .ne (XT.cmpL x y) 0 := cl_eq.mpr q
theorem cl_lt_t {x y : Int64} (q : x < y) : hC .lt (XT.cmpL x y) 0 := cl_lt.mpr q
theorem cl_lt_f {x y : Int64} (q : ¬ x < y) : nC .lt (XT.cmpL x y) 0 := fun z => q (cl_lt.mp z)
theorem cl_ge_t {x y : Int64} (q : ¬ x < y) : hC .ge (XT.cmpL x y) 0 := fun z => q (cl_lt.mp z)
theorem cl_ge_f {x y : Int64} (q : x < y) : nC .ge (XT.cmpL x y) 0 := cl_lt.mpr q
theorem cl_gt_t {x y : Int64} (q : y < x) : hC .gt (XT.cmpL x y) 0 := cl_gt.mpr q
theorem cl_gt_f {x y : Int64} (q : ¬ y < x) : nC .gt (XT.cmpL x y) 0 := fun z => q (cl_gt.mp z)
theorem cl_le_t {x y : Int64} (q : ¬ y < x) : hC .le (XT.cmpL x y) 0 := fun z => q (cl_gt.mp z)
theorem cl_le_f {x y : Int64} (q : y < x) : nC .le (XT.cmpL x y) 0 := cl_gt.mpr q
end K
end Jvm.Wk9
/- laws to paste: Road.backV (cut by pick.py; bodies as the Statement names them) -/
namespace Jvm.Pilot.@@N@@
namespace StrChars
open Jvm Sem ClassFile Op Lib Jvm.Stand Jvm.Free.XT Jvm.Free.ALB Jvm.Free.JM Jvm.Free
open Jvm.Lib.Cold (StaticIs)
/-- a char array whose places are chars -/
def Ch (a : Addr) (A : Cell) (U : State) : Prop := Arr .char a A U ∧ Typed .char A
theorem Ch.mv {a : Addr} {A : Cell} {U U' : State} (h : Ch a A U) (hal : U.vm.Alike U'.vm) (hh : U'.heap = U.heap) : Ch a A U' := ⟨h.1.mv hal hh, h.2⟩
theorem Ch.keep {a : Addr} {A : Cell} {U U' : State} (h : Ch a A U) (hal : U.vm.Alike U'.vm) (hk : U'.heap[a]? = some A) : Ch a A U' := ⟨h.1.keep hal hk, h.2⟩
/-- what place i of a char[]'s cell holds -/
def cv (A : Cell) (i : Nat) : Int32 := match A.slots[i]? with | some (.int x) => x | _ => 0
theorem Ch.get {a : Addr} {A : Cell} {U : State} (h : Ch a A U) {i : Nat} (hi : i < A.slots.size) : A.slots[i]? = some (.int (cv A i)) := by
  have e := Array.getElem?_eq_getElem hi
  have f := h.2 i _ e
  unfold cv; rw [e]
  generalize A.slots[i] = v at f
  cases v <;> simp [fits] at f ⊢
/-- the byte that i2b leaves of a char -/
def lo8 (x : Int32) : Int32 := x.toInt8.toInt32
theorem fits_lo8 (y : Int32) : fits .byte (.int (lo8 y)) = true := by
  have h1 := y.toInt8.le_toInt
  have h2 := y.toInt8.toInt_lt
  simp only [lo8, fits, Bool.and_eq_true, decide_eq_true_eq, Int32.le_iff_toInt_le, Int8.toInt_toInt32, show (-128 : Int32).toInt = -128 from by decide, show (127 : Int32).toInt = 127 from by decide]
  omega
/-- A' is A but that each place j of lo .. hi - 1 holds f j -/
def Laid (A A' : Cell) (lo hi : Nat) (f : Nat → Value) : Prop := A'.cls = A.cls ∧ A'.vm = A.vm ∧ A'.slots.size = A.slots.size ∧ ∀ i, A'.slots[i]? = if lo ≤ i ∧ i < hi then some (f i) else A.slots[i]?
theorem Laid.zero (A : Cell) (lo : Nat) (f : Nat → Value) : Laid A A lo (lo + 0) f := ⟨rfl, rfl, rfl, fun i => by rw [if_neg (by omega)]⟩
theorem Laid.step {A Ak : Cell} {lo k : Nat} {f : Nat → Value} {v : Value} (h : Laid A Ak lo k f) (hlo : lo ≤ k) (hk : k < Ak.slots.size) (hv : v = f k) : Laid A (Ak.setSlot k v) lo (k + 1) f := by
  refine ⟨h.1, h.2.1, by simpa [Cell.setSlot] using h.2.2.1, fun i => ?_⟩
  by_cases e : k = i
  · subst e; rw [Cell.slots_setSlot_self v hk, if_pos (by omega), hv]
  · rw [Cell.slots_setSlot_ne v e, h.2.2.2 i]
    by_cases q : lo ≤ i ∧ i < k
    · rw [if_pos q, if_pos (by omega)]
    · rw [if_neg q, if_neg (by omega)]
def U16 : String := "java/lang/StringUTF16"
namespace Cmp5
def yN : MethodName := ⟨"java/lang/StringUTF16", "compress", "([CI[BII)I"⟩
abbrev yB : ByteArray := jdk_52_method_21_code
theorem d0 : decode yB 0 = .ok (.iconst 0, 1) := by decide +kernel
theorem d1 : decode yB 1 = .ok (.istore 5, 2) := by decide +kernel
theorem d3 : decode yB 3 = .ok (.iload 5, 2) := by decide +kernel
theorem d5 : decode yB 5 = .ok (.iload 4, 2) := by decide +kernel
theorem d7 : decode yB 7 = .ok (.if_icmp (.ge) 37, 3) := by decide +kernel
theorem d10 : decode yB 10 = .ok (.aload_n 0, 1) := by decide +kernel
theorem d11 : decode yB 11 = .ok (.iload_n 1, 1) := by decide +kernel
theorem d12 : decode yB 12 = .ok (.caload, 1) := by decide +kernel
theorem d13 : decode yB 13 = .ok (.istore 6, 2) := by decide +kernel
theorem d15 : decode yB 15 = .ok (.iload 6, 2) := by decide +kernel
theorem d17 : decode yB 17 = .ok (.sipush 255, 3) := by decide +kernel
theorem d20 : decode yB 20 = .ok (.if_icmp (.le) 6, 3) := by decide +kernel
theorem d26 : decode yB 26 = .ok (.aload_n 2, 1) := by decide +kernel
theorem d27 : decode yB 27 = .ok (.iload_n 3, 1) := by decide +kernel
theorem d28 : decode yB 28 = .ok (.iload 6, 2) := by decide +kernel
theorem d30 : decode yB 30 = .ok (.i2b, 1) := by decide +kernel
theorem d31 : decode yB 31 = .ok (.bastore, 1) := by decide +kernel
theorem d32 : decode yB 32 = .ok (.iinc 1 1, 3) := by decide +kernel
theorem d35 : decode yB 35 = .ok (.iinc 3 1, 3) := by decide +kernel
theorem d38 : decode yB 38 = .ok (.iinc 5 1, 3) := by decide +kernel
theorem d41 : decode yB 41 = .ok (.goto (-38), 3) := by decide +kernel
theorem d44 : decode yB 44 = .ok (.iload 4, 2) := by decide +kernel
theorem d46 : decode yB 46 = .ok (.ireturn, 1) := by decide +kernel
def site : List Cond := []
def tab : Cond := tabOf yN yB 7 (some .int) site
def P (b : Addr) (A : Cell) (d : Addr) (B : Cell) (o q len : Nat) (args : Array Value) (s : State) : Prop := args = #[.ref b, .int (Int32.ofNat o), .ref d, .int (Int32.ofNat q), .int (Int32.ofNat len)] ∧ Ch b A s ∧ Arr .byte d B s ∧ b ≠ d ∧ o + len ≤ A.slots.size ∧ q + len ≤ B.slots.size ∧ ∀ i, i < len → ¬ 255 < cv A (o + i)
def E (b : Addr) (A : Cell) (d : Addr) (B : Cell) (o q len : Nat) (r : Option Value) (s u : State) : Prop := r = some (.int (Int32.ofNat len)) ∧ ∃ B', Put d B' s u ∧ Laid B B' q (q + len) (fun j => Value.int (lo8 (cv A (o + (j - q)))))
/-- no char of the range above 255: len; the places written hold each char's low byte -/
theorem law (l : Launch) (b : Addr) (A : Cell) (d : Addr) (B : Cell) (o q len : Nat) : Law l yN 5 5 0 0 yB 7 (some .int) site (P b A d B o q len) (E b A d B o q len) (copyLocs d q len) 0 0 := by
  refine Law.of_walk (plainFor_of_name (by decide +kernel)) (by decide +kernel) (by decide +kernel) (by decide) (fun _ _ h => by rw [h.1]; rfl) (fun _ U U' hal hh h => ⟨h.1, h.2.1.mv hal hh, h.2.2.1.mv hal hh, h.2.2.2⟩) (fun r U U' V V' h1 hal h2 h => ⟨h.1, h.2.elim fun B' q => ⟨B', q.1.mv h1 h2, q.2⟩⟩) ?_
  intro p e s m args below meth c s₁ X0 hexec hbytes hml hret hlk hnm hown hh0 W hP
  obtain ⟨rfl, hA, hB, hne, l1, l2, hp⟩ := hP
  have c1 : Steps p.tables e below (s₁.setTop (entryFrame m #[.ref b, .int (Int32.ofNat o), .ref d, .int (Int32.ofNat q), .int (Int32.ofNat len)] 7)) (s₁.setTop (mkF m 0 #[.val (.ref b), .val (.int (Int32.ofNat o)), .val (.ref d), .val (.int (Int32.ofNat q)), .val (.int (Int32.ofNat len)), .unset, .unset] [])) := entry rfl
  have hA0 := hA.1.mv X0.warmed.alike hh0
  have hB0 := hB.mv X0.warmed.alike hh0
  have a31 := hA.1.2.2.2
  have c2 : Steps p.tables e below (s₁.setTop (entryFrame m #[.ref b, .int (Int32.ofNat o), .ref d, .int (Int32.ofNat q), .int (Int32.ofNat len)] 7)) (s₁.setTop (mkF m 3 #[.val (.ref b), .val (.int (Int32.ofNat o)), .val (.ref d), .val (.int (Int32.ofNat q)), .val (.int (Int32.ofNat len)), .val (.int 0), .unset] [])) := c1.trans (by
    refine iconstV X0.here hexec rfl 0 (hb hbytes d0) (by decide) ?_
    refine XS.istore X0.here hexec rfl (hb hbytes d1) rfl rfl ?_
    exact Steps.refl _)
  have loop : ∀ (r i : Nat), i + r = len → ∀ (z : Slot), (z = .unset ∨ ∃ w, z = .val w ∧ w.category = 1) → ∀ (Tl : State) (Bk : Cell), Stand p l e { frames := 0, locals := 0, cells := 0, slots := 0 } s m #[.ref b, .int (Int32.ofNat o), .ref d, .int (Int32.ofNat q), .int (Int32.ofNat len)] below meth c Tl ([] ++ copyLocs d q i) 0 0 → Put d Bk s₁ Tl → Laid B Bk q (q + i) (fun j => Value.int (lo8 (cv A (o + (j - q))))) →
      Steps p.tables e below (s₁.setTop (entryFrame m #[.ref b, .int (Int32.ofNat o), .ref d, .int (Int32.ofNat q), .int (Int32.ofNat len)] 7)) (Tl.setTop (mkF m 3 #[.val (.ref b), .val (.int (Int32.ofNat (o + i))), .val (.ref d), .val (.int (Int32.ofNat (q + i))), .val (.int (Int32.ofNat len)), .val (.int (Int32.ofNat i)), z] [])) → ∃ (T' : State) (B' : Cell) (z' : Slot), Stand p l e { frames := 0, locals := 0, cells := 0, slots := 0 } s m #[.ref b, .int (Int32.ofNat o), .ref d, .int (Int32.ofNat q), .int (Int32.ofNat len)] below meth c T' ([] ++ copyLocs d q len) 0 0 ∧ Put d B' s₁ T' ∧ Laid B B' q (q + len) (fun j => Value.int (lo8 (cv A (o + (j - q))))) ∧
      Steps p.tables e below (s₁.setTop (entryFrame m #[.ref b, .int (Int32.ofNat o), .ref d, .int (Int32.ofNat q), .int (Int32.ofNat len)] 7)) (T'.setTop (mkF m 3 #[.val (.ref b), .val (.int (Int32.ofNat (o + len))), .val (.ref d), .val (.int (Int32.ofNat (q + len))), .val (.int (Int32.ofNat len)), .val (.int (Int32.ofNat len)), z'] [])) := by
    intro r
    induction r with
    | zero =>
      intro i hi z hz Tl Bk Xl pl fl cl
      have hil : i = len := by omega
      rw [hil] at Xl fl cl
      exact ⟨Tl, Bk, z, Xl, pl, fl, cl⟩
    | succ r ih =>
      intro i hi z hz Tl Bk Xl pl fl cl
      have all := X0.warmed.alike.symm.trans Xl.warmed.alike
      have hAl := hA0.keep all (pl.other hne hA0.1)
      have hBk := hB0.like all pl.1 fl.1 fl.2.1 fl.2.2.1
      have hlt : q + i < Bk.slots.size := by rw [fl.2.2.1]; omega
      have c3 : Steps p.tables e below (s₁.setTop (entryFrame m #[.ref b, .int (Int32.ofNat o), .ref d, .int (Int32.ofNat q), .int (Int32.ofNat len)] 7)) (Tl.setTop (mkF m 12 #[.val (.ref b), .val (.int (Int32.ofNat (o + i))), .val (.ref d), .val (.int (Int32.ofNat (q + i))), .val (.int (Int32.ofNat len)), .val (.int (Int32.ofNat i)), z] [.int (Int32.ofNat (o + i)), .ref b])) := cl.trans (by
        refine XS.iload Xl.here hexec rfl (hb hbytes d3) rfl ?_
        refine XS.iload Xl.here hexec rfl (hb hbytes d5) rfl ?_
        refine XS.icmpNo Xl.here hexec rfl (hb hbytes d7) rfl (ii_ge_f (lt32 (by omega) (by omega))) ?_
        refine XS.aloadN Xl.here hexec rfl (hb hbytes d10) rfl rfl ?_
        refine XS.iloadN Xl.here hexec rfl (hb hbytes d11) rfl ?_
        exact Steps.refl _)
      have c4 : Steps p.tables e below (s₁.setTop (entryFrame m #[.ref b, .int (Int32.ofNat o), .ref d, .int (Int32.ofNat q), .int (Int32.ofNat len)] 7)) (Tl.setTop (mkF m 13 #[.val (.ref b), .val (.int (Int32.ofNat (o + i))), .val (.ref d), .val (.int (Int32.ofNat (q + i))), .val (.int (Int32.ofNat len)), .val (.int (Int32.ofNat i)), z] [.int (cv A (o + i))])) := c3.trans (by
        refine Xl.aget hexec hAl rfl (hA.get (i := o + i) (by omega)) rfl rfl (hb hbytes d12) ?_
        exact Steps.refl _)
      have c5 : Steps p.tables e below (s₁.setTop (entryFrame m #[.ref b, .int (Int32.ofNat o), .ref d, .int (Int32.ofNat q), .int (Int32.ofNat len)] 7)) (Tl.setTop (mkF m 15 #[.val (.ref b), .val (.int (Int32.ofNat (o + i))), .val (.ref d), .val (.int (Int32.ofNat (q + i))), .val (.int (Int32.ofNat len)), .val (.int (Int32.ofNat i)), .val (.int (cv A (o + i)))] [])) := c4.trans (by
        refine XS.istoreS Xl.here hexec rfl (hb hbytes d13) rfl rfl hz ?_
        exact Steps.refl _)
      have c6 : Steps p.tables e below (s₁.setTop (entryFrame m #[.ref b, .int (Int32.ofNat o), .ref d, .int (Int32.ofNat q), .int (Int32.ofNat len)] 7)) (Tl.setTop (mkF m 31 #[.val (.ref b), .val (.int (Int32.ofNat (o + i))), .val (.ref d), .val (.int (Int32.ofNat (q + i))), .val (.int (Int32.ofNat len)), .val (.int (Int32.ofNat i)), .val (.int (cv A (o + i)))] [.int (lo8 (cv A (o + i))), .int (Int32.ofNat (q + i)), .ref d])) := c5.trans (by
        refine XS.iload Xl.here hexec rfl (hb hbytes d15) rfl ?_
        refine sipushV Xl.here hexec rfl 255 (hb hbytes d17) (by decide) ?_
        refine XS.icmpYes Xl.here hexec rfl (pc0 := 20) rfl (hb hbytes d20) rfl (ii_le_t (hp i (by omega))) (by decide) rfl ?_
        refine XS.aloadN Xl.here hexec rfl (hb hbytes d26) rfl rfl ?_
        refine XS.iloadN Xl.here hexec rfl (hb hbytes d27) rfl ?_
        refine XS.iload Xl.here hexec rfl (hb hbytes d28) rfl ?_
        refine i2b Xl.here hexec rfl (hb hbytes d30) rfl ?_
        exact Steps.refl _)
      obtain ⟨T7, X7, p7, st7⟩ := Xl.aput hexec hBk rfl hlt rfl (fits_lo8 (cv A (o + i))) (g := (mkF m 31 #[.val (.ref b), .val (.int (Int32.ofNat (o + i))), .val (.ref d), .val (.int (Int32.ofNat (q + i))), .val (.int (Int32.ofNat len)), .val (.int (Int32.ofNat i)), .val (.int (cv A (o + i)))] [.int (lo8 (cv A (o + i))), .int (Int32.ofNat (q + i)), .ref d])) rfl (rest := []) rfl (hb hbytes d31)
      have c8 : Steps p.tables e below (s₁.setTop (entryFrame m #[.ref b, .int (Int32.ofNat o), .ref d, .int (Int32.ofNat q), .int (Int32.ofNat len)] 7)) (T7.setTop (mkF m 32 #[.val (.ref b), .val (.int (Int32.ofNat (o + i))), .val (.ref d), .val (.int (Int32.ofNat (q + i))), .val (.int (Int32.ofNat len)), .val (.int (Int32.ofNat i)), .val (.int (cv A (o + i)))] [])) := c6.trans (st7 _ (Steps.refl _))
      have c9 : Steps p.tables e below (s₁.setTop (entryFrame m #[.ref b, .int (Int32.ofNat o), .ref d, .int (Int32.ofNat q), .int (Int32.ofNat len)] 7)) (T7.setTop (mkF m 3 #[.val (.ref b), .val (.int (Int32.ofNat (o + i) + 1)), .val (.ref d), .val (.int (Int32.ofNat (q + i) + 1)), .val (.int (Int32.ofNat len)), .val (.int (Int32.ofNat i + 1)), .val (.int (cv A (o + i)))] [])) := c8.trans (by
        refine iincV X7.here hexec rfl 1 (hb hbytes d32) (by decide) rfl rfl ?_
        refine iincV X7.here hexec rfl 1 (hb hbytes d35) (by decide) rfl rfl ?_
        refine iincV X7.here hexec rfl 1 (hb hbytes d38) (by decide) rfl rfl ?_
        refine XS.goto X7.here hexec rfl (pc0 := 41) rfl (hb hbytes d41) (by decide) rfl ?_
        exact Steps.refl _)
      have c10 : Steps p.tables e below (s₁.setTop (entryFrame m #[.ref b, .int (Int32.ofNat o), .ref d, .int (Int32.ofNat q), .int (Int32.ofNat len)] 7)) (T7.setTop (mkF m 3 #[.val (.ref b), .val (.int (Int32.ofNat (o + (i + 1)))), .val (.ref d), .val (.int (Int32.ofNat (q + (i + 1)))), .val (.int (Int32.ofNat len)), .val (.int (Int32.ofNat (i + 1))), .val (.int (cv A (o + i)))] [])) := by
        have := c9
        rw [succ32, succ32, succ32] at this
        exact this
      exact ih (i + 1) (by omega) _ (Or.inr ⟨_, rfl, rfl⟩) T7 _ (by rw [copyLocs_step, ← List.append_assoc]; exact X7) (pl.trans p7) (fl.step (by omega) hlt (by simp)) c10
  obtain ⟨T9, B9, z9, X9, p9, f9, g9⟩ := loop len 0 (by omega) .unset (Or.inl rfl) s₁ B (by simpa [copyLocs] using X0) ⟨hB0.1, fun _ _ => rfl, rfl⟩ (Laid.zero _ _ _) c2
  have c11 : Steps p.tables e below (s₁.setTop (entryFrame m #[.ref b, .int (Int32.ofNat o), .ref d, .int (Int32.ofNat q), .int (Int32.ofNat len)] 7)) (T9.setTop (mkF m 46 #[.val (.ref b), .val (.int (Int32.ofNat (o + len))), .val (.ref d), .val (.int (Int32.ofNat (q + len))), .val (.int (Int32.ofNat len)), .val (.int (Int32.ofNat len)), z9] [.int (Int32.ofNat len)])) := g9.trans (by
    refine XS.iload X9.here hexec rfl (hb hbytes d3) rfl ?_
    refine XS.iload X9.here hexec rfl (hb hbytes d5) rfl ?_
    refine XS.icmpYes X9.here hexec rfl (pc0 := 7) rfl (hb hbytes d7) rfl (ii_ge_t (nlt32 (by omega) (Nat.le_refl _))) (by decide) rfl ?_
    refine XS.iload X9.here hexec rfl (hb hbytes d44) rfl ?_
    exact Steps.refl _)
  exact ⟨T9, some (.int (Int32.ofNat len)), _, _, _, X9, by simp, rfl, rfl, (fun h => by cases h), ⟨rfl, B9, p9.from hh0, f9⟩, fun fs hl => c11.trans (X9.ireturnOut hexec hret rfl (Or.inl rfl) (hb hbytes d46) hl)⟩
end Cmp5
namespace Cmp3
def yN : MethodName := ⟨"java/lang/StringUTF16", "compress", "([CII)[B"⟩
abbrev yB : ByteArray := jdk_52_method_16_code
theorem d0 : decode yB 0 = .ok (.iload_n 2, 1) := by decide +kernel
theorem d1 : decode yB 1 = .ok (.newarray .byte, 2) := by decide +kernel
theorem d3 : decode yB 3 = .ok (.astore_n 3, 1) := by decide +kernel
theorem d4 : decode yB 4 = .ok (.aload_n 0, 1) := by decide +kernel
theorem d5 : decode yB 5 = .ok (.iload_n 1, 1) := by decide +kernel
theorem d6 : decode yB 6 = .ok (.aload_n 3, 1) := by decide +kernel
theorem d7 : decode yB 7 = .ok (.iconst 0, 1) := by decide +kernel
theorem d8 : decode yB 8 = .ok (.iload_n 2, 1) := by decide +kernel
theorem d9 : decode yB 9 = .ok (.invokestatic 115, 3) := by decide +kernel
theorem d12 : decode yB 12 = .ok (.istore 4, 2) := by decide +kernel
theorem d14 : decode yB 14 = .ok (.iload 4, 2) := by decide +kernel
theorem d16 : decode yB 16 = .ok (.iload_n 2, 1) := by decide +kernel
theorem d17 : decode yB 17 = .ok (.if_icmp (.eq) 40, 3) := by decide +kernel
theorem d57 : decode yB 57 = .ok (.aload_n 3, 1) := by decide +kernel
theorem d58 : decode yB 58 = .ok (.areturn, 1) := by decide +kernel
def site : List Cond := [.arrayClass .byte, Cmp5.tab] ++ staticW U16 115 Cmp5.yN
def tab : Cond := tabOf yN yB 6 (some (.array .byte)) site
def P (b : Addr) (A : Cell) (o len : Nat) (args : Array Value) (s : State) : Prop := args = #[.ref b, .int (Int32.ofNat o), .int (Int32.ofNat len)] ∧ Ch b A s ∧ o + len ≤ A.slots.size ∧ len ≤ 536870912 ∧ ∀ i, i < len → ¬ 255 < cv A (o + i)
def E (b : Addr) (A : Cell) (o len : Nat) (r : Option Value) (s u : State) : Prop := NewArr .byte "[B" len (fun j => .int (lo8 (cv A (o + j)))) r s u ∧ u.heap.size = s.heap.size + 1
/-- no char of the range above 255: a new byte[] of their low bytes -/
theorem law (l : Launch) (b : Addr) (A : Cell) (o len : Nat) : Law l yN 3 3 1 18 yB 6 (some (.array .byte)) site (P b A o len) (E b A o len) [] 1 len := by
  refine Law.of_walk (plainFor_of_name (by decide +kernel)) (by decide +kernel) (by decide +kernel) (by decide) (fun _ _ h => by rw [h.1]; rfl) (fun _ U U' hal hh h => ⟨h.1, h.2.1.mv hal hh, h.2.2⟩) (fun r U U' V V' h1 hal h2 h => ⟨NewArr.mv r U U' V V' h1 hal h2 h.1, by rw [h1, h2]; exact h.2⟩) ?_
  intro p e s m args below meth c s₁ X0 hexec hbytes hml hret hlk hnm hown hh0 W hP
  obtain ⟨rfl, hA, l1, l2, hp⟩ := hP
  have a31 := hA.1.2.2.2
  have c1 : Steps p.tables e below (s₁.setTop (entryFrame m #[.ref b, .int (Int32.ofNat o), .int (Int32.ofNat len)] 6)) (s₁.setTop (mkF m 0 #[.val (.ref b), .val (.int (Int32.ofNat o)), .val (.int (Int32.ofNat len)), .unset, .unset, .unset] [])) := entry rfl
  have c2 : Steps p.tables e below (s₁.setTop (entryFrame m #[.ref b, .int (Int32.ofNat o), .int (Int32.ofNat len)] 6)) (s₁.setTop (mkF m 1 #[.val (.ref b), .val (.int (Int32.ofNat o)), .val (.int (Int32.ofNat len)), .unset, .unset, .unset] [.int (Int32.ofNat len)])) := c1.trans (by
    refine XS.iloadN X0.here hexec rfl (hb hbytes d0) rfl ?_
    exact Steps.refl _)
  obtain ⟨T3, B3, X3, ba3, bs3, bv3, bh3, bf3, st3⟩ := X0.anew hexec (atype := .byte) (wk W (.arrayClass .byte)) rfl (by show len * 1 ≤ _; omega) (by omega) (g := (mkF m 1 #[.val (.ref b), .val (.int (Int32.ofNat o)), .val (.int (Int32.ofNat len)), .unset, .unset, .unset] [.int (Int32.ofNat len)])) rfl (hb hbytes d1) (rest := []) rfl (Nat.le_refl _) (by show 0 + len ≤ len; omega)
  rw [hh0] at ba3 st3
  have kp3 : XT.Kept s T3 := (XT.Kept.of_eq hh0).push bh3
  have hA3 := hA.keep X3.warmed.alike (kp3 _ _ hA.1.1)
  have hne : b ≠ s.heap.size := hA.1.ne
  have c4 : Steps p.tables e below (s₁.setTop (entryFrame m #[.ref b, .int (Int32.ofNat o), .int (Int32.ofNat len)] 6)) (T3.setTop (mkF m 3 #[.val (.ref b), .val (.int (Int32.ofNat o)), .val (.int (Int32.ofNat len)), .unset, .unset, .unset] [.ref s.heap.size])) := c2.trans (st3 _ (Steps.refl _))
  have c5 : Steps p.tables e below (s₁.setTop (entryFrame m #[.ref b, .int (Int32.ofNat o), .int (Int32.ofNat len)] 6)) (T3.setTop (mkF m 9 #[.val (.ref b), .val (.int (Int32.ofNat o)), .val (.int (Int32.ofNat len)), .val (.ref s.heap.size), .unset, .unset] [.int (Int32.ofNat len), .int 0, .ref s.heap.size, .int (Int32.ofNat o), .ref b])) := c4.trans (by
    refine XS.astoreN X3.here hexec rfl (hb hbytes d3) rfl rfl rfl ?_
    refine XS.aloadN X3.here hexec rfl (hb hbytes d4) rfl rfl ?_
    refine XS.iloadN X3.here hexec rfl (hb hbytes d5) rfl ?_
    refine XS.aloadN X3.here hexec rfl (hb hbytes d6) rfl rfl ?_
    refine iconstV X3.here hexec rfl 0 (hb hbytes d7) (by decide) ?_
    refine XS.iloadN X3.here hexec rfl (hb hbytes d8) rfl ?_
    exact Steps.refl _)
  obtain ⟨v6, T6, X6, E6, g6⟩ := X3.callS hexec (Cmp5.law l b A s.heap.size B3 o 0 len) hown (wks W (staticW U16 115 Cmp5.yN)) (wk W Cmp5.tab) (W := 0) (Nat.le_of_ble_eq_true rfl) (Nat.le_of_ble_eq_true rfl) (Nat.le_refl _) (by show 0 + len + 0 ≤ len; omega) (g := (mkF m 9 #[.val (.ref b), .val (.int (Int32.ofNat o)), .val (.int (Int32.ofNat len)), .val (.ref s.heap.size), .unset, .unset] [.int (Int32.ofNat len), .int (Int32.ofNat 0), .ref s.heap.size, .int (Int32.ofNat o), .ref b])) rfl (by rw [hml]; rfl) c5 (argsL := [.ref b, .int (Int32.ofNat o), .ref s.heap.size, .int (Int32.ofNat 0), .int (Int32.ofNat len)]) (rest := []) rfl rfl (by show 2 * 0 + 0 ≤ _; decide) (hb hbytes d9) (⟨rfl, hA3, ba3, hne, l1, by rw [bs3]; simp, hp⟩)
  obtain ⟨rfl, B6, p6, f6⟩ := E6
  have c7 : Steps p.tables e below (s₁.setTop (entryFrame m #[.ref b, .int (Int32.ofNat o), .int (Int32.ofNat len)] 6)) (T6.setTop (mkF m 12 #[.val (.ref b), .val (.int (Int32.ofNat o)), .val (.int (Int32.ofNat len)), .val (.ref s.heap.size), .unset, .unset] [.int (Int32.ofNat len)])) := g6
  have c8 : Steps p.tables e below (s₁.setTop (entryFrame m #[.ref b, .int (Int32.ofNat o), .int (Int32.ofNat len)] 6)) (T6.setTop (mkF m 58 #[.val (.ref b), .val (.int (Int32.ofNat o)), .val (.int (Int32.ofNat len)), .val (.ref s.heap.size), .val (.int (Int32.ofNat len)), .unset] [.ref s.heap.size])) := c7.trans (by
    refine XS.istore X6.here hexec rfl (hb hbytes d12) rfl rfl ?_
    refine XS.iload X6.here hexec rfl (hb hbytes d14) rfl ?_
    refine XS.iloadN X6.here hexec rfl (hb hbytes d16) rfl ?_
    refine XS.icmpYes X6.here hexec rfl (pc0 := 17) rfl (hb hbytes d17) rfl (ii_eq_t rfl) (by decide) rfl ?_
    refine XS.aloadN X6.here hexec rfl (hb hbytes d57) rfl rfl ?_
    exact Steps.refl _)
  have X8 := X6.wide (L' := []) (cells' := 1) (slots' := len) (fun x hx hlt => by
    simp only [List.nil_append, copyLocs, List.mem_map, List.mem_range] at hx
    obtain ⟨i, -, rfl⟩ := hx
    exact absurd hlt (Nat.lt_irrefl _)) (Nat.le_refl _) (by omega)
  exact ⟨T6, some (.ref s.heap.size), _, _, _, X8, rfl, rfl, rfl, (fun h => by cases h), ⟨⟨rfl, B6, ba3.like (X3.warmed.alike.symm.trans X6.warmed.alike) p6.1 f6.1 f6.2.1 f6.2.2.1, f6.2.1.trans bv3, by rw [X6.warmed.alike.findClass, f6.1]; exact bf3, by rw [f6.2.2.1, bs3]; simp, fun j hj => by rw [f6.2.2.2 j, if_pos (by omega)]; rfl, kp3.put p6 (Nat.le_refl _)⟩, by rw [p6.2.2, bh3, hh0]; simp⟩, fun fs hl => c8.trans (X8.areturnOut hexec rfl hret rfl (hb hbytes d58) hl)⟩
end Cmp3
namespace CodL
def yN : MethodName := ⟨"java/lang/StringUTF16", "coderFromArrayLen", "([BI)B"⟩
abbrev yB : ByteArray := jdk_52_method_15_code
theorem d0 : decode yB 0 = .ok (.iload_n 1, 1) := by decide +kernel
theorem d1 : decode yB 1 = .ok (.aload_n 0, 1) := by decide +kernel
theorem d2 : decode yB 2 = .ok (.arraylength, 1) := by decide +kernel
theorem d3 : decode yB 3 = .ok (.isub, 1) := by decide +kernel
theorem d4 : decode yB 4 = .ok (.bipush 31, 2) := by decide +kernel
theorem d6 : decode yB 6 = .ok (.iushr, 1) := by decide +kernel
theorem d7 : decode yB 7 = .ok (.i2b, 1) := by decide +kernel
theorem d8 : decode yB 8 = .ok (.ireturn, 1) := by decide +kernel
def site : List Cond := []
def tab : Cond := tabOf yN yB 2 (some .byte) site
def P (d : Addr) (B : Cell) (args : Array Value) (s : State) : Prop := args = #[.ref d, .int (Int32.ofNat B.slots.size)] ∧ Arr .byte d B s
def E (r : Option Value) (s u : State) : Prop := XT.PureE (some (.int 0)) r s u
/-- an array as long as the number of chars: LATIN1 -/
theorem law (l : Launch) (d : Addr) (B : Cell) : Law l yN 2 2 0 0 yB 2 (some .byte) site (P d B) E [] 0 0 := by
  refine Law.of_walk (plainFor_of_name (by decide +kernel)) (by decide +kernel) (by decide +kernel) (by decide) (fun _ _ h => by rw [h.1]; rfl) (fun _ U U' hal hh h => ⟨h.1, h.2.mv hal hh⟩) (fun r U U' V V' h1 hal h2 h => XT.PureE.mv r U U' V V' h1 hal h2 h) ?_
  intro p e s m args below meth c s₁ X0 hexec hbytes hml hret hlk hnm hown hh0 W hP
  obtain ⟨rfl, hB⟩ := hP
  have hB0 := hB.mv X0.warmed.alike hh0
  have c1 : Steps p.tables e below (s₁.setTop (entryFrame m #[.ref d, .int (Int32.ofNat B.slots.size)] 2)) (s₁.setTop (mkF m 0 #[.val (.ref d), .val (.int (Int32.ofNat B.slots.size))] [])) := entry rfl
  have c2 : Steps p.tables e below (s₁.setTop (entryFrame m #[.ref d, .int (Int32.ofNat B.slots.size)] 2)) (s₁.setTop (mkF m 2 #[.val (.ref d), .val (.int (Int32.ofNat B.slots.size))] [.ref d, .int (Int32.ofNat B.slots.size)])) := c1.trans (by
    refine XS.iloadN X0.here hexec rfl (hb hbytes d0) rfl ?_
    refine XS.aloadN X0.here hexec rfl (hb hbytes d1) rfl rfl ?_
    exact Steps.refl _)
  have c3 : Steps p.tables e below (s₁.setTop (entryFrame m #[.ref d, .int (Int32.ofNat B.slots.size)] 2)) (s₁.setTop (mkF m 8 #[.val (.ref d), .val (.int (Int32.ofNat B.slots.size))] [.int (lo8 (ushr (Int32.ofNat B.slots.size - Int32.ofNat B.slots.size) 31))])) := c2.trans (by
    refine X0.alen hexec hB0 rfl rfl (hb hbytes d2) ?_
    refine XS.isub X0.here hexec rfl (hb hbytes d3) rfl ?_
    refine bipushV X0.here hexec rfl 31 (hb hbytes d4) (by decide) ?_
    refine iushr X0.here hexec rfl (hb hbytes d6) rfl ?_
    refine i2b X0.here hexec rfl (hb hbytes d7) rfl ?_
    exact Steps.refl _)
  have e0 : lo8 (ushr (Int32.ofNat B.slots.size - Int32.ofNat B.slots.size) 31) = 0 := by rw [Int32.sub_self]; decide
  rw [e0] at c3
  exact ⟨s₁, some (.int 0), _, _, _, X0, rfl, rfl, rfl, (fun h => by cases h), ⟨rfl, hh0⟩, fun fs hl => c3.trans (X0.ireturnOut hexec hret rfl (Or.inr (Or.inr (Or.inl rfl))) (hb hbytes d8) hl)⟩
end CodL
/-- the String at a is Latin-1 over a new byte[] (the heap's one new cell): the low bytes of the len chars of A from o on; every cell but a is kept -/
def Got (a : Addr) (D : Cell) (fV fC : Field) (A : Cell) (o len : Nat) (r : Option Value) (s u : State) : Prop := r = none ∧ ∃ D' V : Cell, Blank "java/lang/String" a D' u ∧ Same D D' [fV.slot, fC.slot] ∧ D'.slots[fV.slot]? = some (.ref s.heap.size) ∧ D'.slots[fC.slot]? = some (.int 0) ∧ Arr .byte s.heap.size V u ∧ V.vm = .none ∧ u.vm.findClass "[B" = some V.cls ∧ V.slots.size = len ∧ (∀ j, j < len → V.slots[j]? = some (.int (lo8 (cv A (o + j))))) ∧ (∀ (y : Addr) (c : Cell), y ≠ a → s.heap[y]? = some c → u.heap[y]? = some c) ∧ u.heap.size = s.heap.size + 1
theorem Got.mv {a : Addr} {D A : Cell} {fV fC : Field} {o len : Nat} : ∀ r (U U' V V' : State), U'.heap = U.heap → V.vm.Alike V'.vm → V'.heap = V.heap → Got a D fV fC A o len r U V → Got a D fV fC A o len r U' V' :=
  fun r U U' V V' h1 hal h2 ⟨e0, D', X, a1, a2, a3, a4, a5, a6, a7, a8, a9, a10, a11⟩ => ⟨e0, D', X, a1.mv hal h2, a2, by rw [h1]; exact a3, a4, by rw [h1]; exact a5.mv hal h2, a6, by rw [hal.findClass]; exact a7, a8, a9, by rw [h1, h2]; exact a10, by rw [h1, h2]; exact a11⟩
namespace New4
def yN : MethodName := ⟨"java/lang/String", "<init>", "([CIILjava/lang/Void;)V"⟩
abbrev yB : ByteArray := jdk_42_method_149_code
theorem d0 : decode yB 0 = .ok (.aload_n 0, 1) := by decide +kernel
theorem d1 : decode yB 1 = .ok (.invokespecial 1, 3) := by decide +kernel
theorem d4 : decode yB 4 = .ok (.iload_n 3, 1) := by decide +kernel
theorem d5 : decode yB 5 = .ok (.ifCond (.ne) 22, 3) := by decide +kernel
theorem d27 : decode yB 27 = .ok (.getstatic 38, 3) := by decide +kernel
theorem d30 : decode yB 30 = .ok (.ifCond (.eq) 28, 3) := by decide +kernel
theorem d33 : decode yB 33 = .ok (.aload_n 1, 1) := by decide +kernel
theorem d34 : decode yB 34 = .ok (.iload_n 2, 1) := by decide +kernel
theorem d35 : decode yB 35 = .ok (.iload_n 3, 1) := by decide +kernel
theorem d36 : decode yB 36 = .ok (.invokestatic 177, 3) := by decide +kernel
theorem d39 : decode yB 39 = .ok (.astore 5, 2) := by decide +kernel
theorem d41 : decode yB 41 = .ok (.aload_n 0, 1) := by decide +kernel
theorem d42 : decode yB 42 = .ok (.aload 5, 2) := by decide +kernel
theorem d44 : decode yB 44 = .ok (.iload_n 3, 1) := by decide +kernel
theorem d45 : decode yB 45 = .ok (.invokestatic 47, 3) := by decide +kernel
theorem d48 : decode yB 48 = .ok (.putfield 15, 3) := by decide +kernel
theorem d51 : decode yB 51 = .ok (.aload_n 0, 1) := by decide +kernel
theorem d52 : decode yB 52 = .ok (.aload 5, 2) := by decide +kernel
theorem d54 : decode yB 54 = .ok (.putfield 9, 3) := by decide +kernel
theorem d57 : decode yB 57 = .ok (.return_, 1) := by decide +kernel
def site : List Cond := [.fieldLink "java/lang/String" 38 "java/lang/String" "COMPACT_STRINGS" "Z", Cmp3.tab, CodL.tab, .laysFinal "java/lang/String" "java/lang/String" "value" "[B", .fieldLink "java/lang/String" 9 "java/lang/String" "value" "[B", .laysFinal "java/lang/String" "java/lang/String" "coder" "B", .fieldLink "java/lang/String" 15 "java/lang/String" "coder" "B"] ++ objW "java/lang/String" 1 ++ staticW "java/lang/String" 177 Cmp3.yN ++ staticW "java/lang/String" 47 CodL.yN
def tab : Cond := tabOf yN yB 6 none site
def P (a : Addr) (D : Cell) (fV fC : Field) (b : Addr) (A : Cell) (z : Int32) (o len : Nat) (args : Array Value) (s : State) : Prop := args = #[.ref a, .ref b, .int (Int32.ofNat o), .int (Int32.ofNat len), .null] ∧ Blank "java/lang/String" a D s ∧ Found "java/lang/String" "value" "[B" fV s ∧ Found "java/lang/String" "coder" "B" fC s ∧ Ch b A s ∧ StaticIs s "java/lang/String" "COMPACT_STRINGS" "Z" (.int z) ∧ ¬ z = 0 ∧ 0 < len ∧ o + len ≤ A.slots.size ∧ len ≤ 536870912 ∧ ∀ i, i < len → ¬ 255 < cv A (o + i)
def E (a : Addr) (D : Cell) (fV fC : Field) (A : Cell) (o len : Nat) (r : Option Value) (s u : State) : Prop := Got a D fV fC A o len r s u
/-- len > 0, no char of the range above 255: a Latin-1 String of their low bytes -/
theorem law (l : Launch) (a : Addr) (D : Cell) (fV fC : Field) (b : Addr) (A : Cell) (z : Int32) (o len : Nat) : Law l yN 5 4 2 35 yB 6 none site (P a D fV fC b A z o len) (E a D fV fC A o len) [⟨a, fC.slot⟩, ⟨a, fV.slot⟩] 1 len := by
  refine Law.of_walk (plainFor_of_name (by decide +kernel)) (by decide +kernel) (by decide +kernel) (by decide) (fun _ _ h => by rw [h.1]; rfl) (fun _ U U' hal hh h => ⟨h.1, h.2.1.mv hal hh, h.2.2.1.al hal, h.2.2.2.1.al hal, h.2.2.2.2.1.mv hal hh, h.2.2.2.2.2.1.there hal hh, h.2.2.2.2.2.2⟩) (fun r U U' V V' h1 hal h2 h => Got.mv r U U' V V' h1 hal h2 h) ?_
  intro p e s m args below meth c s₁ X0 hexec hbytes hml hret hlk hnm hown hh0 W hP
  obtain ⟨rfl, hB, f1, f2, hA, s1, hz, l0, l1, l2, hp⟩ := hP
  have a31 := hA.1.2.2.2
  have c1 : Steps p.tables e below (s₁.setTop (entryFrame m #[.ref a, .ref b, .int (Int32.ofNat o), .int (Int32.ofNat len), .null] 6)) (s₁.setTop (mkF m 0 #[.val (.ref a), .val (.ref b), .val (.int (Int32.ofNat o)), .val (.int (Int32.ofNat len)), .val .null, .unset] [])) := entry rfl
  have c2 : Steps p.tables e below (s₁.setTop (entryFrame m #[.ref a, .ref b, .int (Int32.ofNat o), .int (Int32.ofNat len), .null] 6)) (s₁.setTop (mkF m 1 #[.val (.ref a), .val (.ref b), .val (.int (Int32.ofNat o)), .val (.int (Int32.ofNat len)), .val .null, .unset] [.ref a])) := c1.trans (by
    refine XS.aloadN X0.here hexec rfl (hb hbytes d0) rfl rfl ?_
    exact Steps.refl _)
  obtain ⟨T3, X3, q3, st3⟩ := X0.oinit hexec hown (wks W (objW "java/lang/String" 1)) (g := (mkF m 1 #[.val (.ref a), .val (.ref b), .val (.int (Int32.ofNat o)), .val (.int (Int32.ofNat len)), .val .null, .unset] [.ref a])) rfl (by rw [hml]; rfl) (rest := []) rfl (hb hbytes d1) (W := 0) (by show 2 * 0 + 0 ≤ _; decide) (Nat.le_of_ble_eq_true rfl) (Nat.le_of_ble_eq_true rfl)
  have hh3 := q3.trans hh0
  have c4 : Steps p.tables e below (s₁.setTop (entryFrame m #[.ref a, .ref b, .int (Int32.ofNat o), .int (Int32.ofNat len), .null] 6)) (T3.setTop (mkF m 27 #[.val (.ref a), .val (.ref b), .val (.int (Int32.ofNat o)), .val (.int (Int32.ofNat len)), .val .null, .unset] [])) := (c2.trans (st3 _ (Steps.refl _))).trans (by
    refine XS.iloadN X3.here hexec rfl (hb hbytes d4) rfl ?_
    refine XS.ifYes X3.here hexec rfl (pc0 := 5) rfl (hb hbytes d5) rfl (i0_ne_t (nz32 (by omega) l0)) (by decide) rfl ?_
    exact Steps.refl _)
  obtain ⟨T5, X5, q5, st5⟩ := X3.sget hexec hown (wk W (.fieldLink "java/lang/String" 38 "java/lang/String" "COMPACT_STRINGS" "Z")) s1 (fun _ _ h => by rw [hh3]; exact h) (g := (mkF m 27 #[.val (.ref a), .val (.ref b), .val (.int (Int32.ofNat o)), .val (.int (Int32.ofNat len)), .val .null, .unset] [])) rfl (hb hbytes d27)
  have hh5 := q5.trans hh3
  have c6 : Steps p.tables e below (s₁.setTop (entryFrame m #[.ref a, .ref b, .int (Int32.ofNat o), .int (Int32.ofNat len), .null] 6)) (T5.setTop (mkF m 30 #[.val (.ref a), .val (.ref b), .val (.int (Int32.ofNat o)), .val (.int (Int32.ofNat len)), .val .null, .unset] [.int z])) := c4.trans (st5 _ (Steps.refl _))
  have c7 : Steps p.tables e below (s₁.setTop (entryFrame m #[.ref a, .ref b, .int (Int32.ofNat o), .int (Int32.ofNat len), .null] 6)) (T5.setTop (mkF m 36 #[.val (.ref a), .val (.ref b), .val (.int (Int32.ofNat o)), .val (.int (Int32.ofNat len)), .val .null, .unset] [.int (Int32.ofNat len), .int (Int32.ofNat o), .ref b])) := c6.trans (by
    refine XS.ifNo X5.here hexec rfl (hb hbytes d30) rfl (i0_eq_f hz) ?_
    refine XS.aloadN X5.here hexec rfl (hb hbytes d33) rfl rfl ?_
    refine XS.iloadN X5.here hexec rfl (hb hbytes d34) rfl ?_
    refine XS.iloadN X5.here hexec rfl (hb hbytes d35) rfl ?_
    exact Steps.refl _)
  obtain ⟨v8, T8, X8, E8, g8⟩ := X5.callS hexec (Cmp3.law l b A o len) hown (wks W (staticW "java/lang/String" 177 Cmp3.yN)) (wk W Cmp3.tab) (W := 0) (Nat.le_of_ble_eq_true rfl) (Nat.le_of_ble_eq_true rfl) (Nat.le_refl _) (by show 0 + len ≤ len; omega) (g := (mkF m 36 #[.val (.ref a), .val (.ref b), .val (.int (Int32.ofNat o)), .val (.int (Int32.ofNat len)), .val .null, .unset] [.int (Int32.ofNat len), .int (Int32.ofNat o), .ref b])) rfl (by rw [hml]; rfl) c7 (argsL := [.ref b, .int (Int32.ofNat o), .int (Int32.ofNat len)]) (rest := []) rfl rfl (by show 2 * 0 + 0 ≤ _; decide) (hb hbytes d36) (⟨rfl, hA.mv X5.warmed.alike hh5, l1, l2, hp⟩)
  obtain ⟨e8, z8⟩ := E8
  obtain ⟨rfl, N, n1, n2, n3, n4, n5, n6⟩ := NewArr.mv _ T5 s _ _ hh5.symm (Vm.Alike.refl _) rfl e8
  rw [hh5] at z8
  have hB1 := hB.keep X8.warmed.alike (n6 _ _ hB.1)
  have hne : s.heap.size ≠ a := (Nat.ne_of_lt (Array.getElem?_eq_some_iff.mp hB.1).1).symm
  have c9 : Steps p.tables e below (s₁.setTop (entryFrame m #[.ref a, .ref b, .int (Int32.ofNat o), .int (Int32.ofNat len), .null] 6)) (T8.setTop (mkF m 39 #[.val (.ref a), .val (.ref b), .val (.int (Int32.ofNat o)), .val (.int (Int32.ofNat len)), .val .null, .unset] [.ref s.heap.size])) := g8
  have c10 : Steps p.tables e below (s₁.setTop (entryFrame m #[.ref a, .ref b, .int (Int32.ofNat o), .int (Int32.ofNat len), .null] 6)) (T8.setTop (mkF m 45 #[.val (.ref a), .val (.ref b), .val (.int (Int32.ofNat o)), .val (.int (Int32.ofNat len)), .val .null, .val (.ref s.heap.size)] [.int (Int32.ofNat N.slots.size), .ref s.heap.size, .ref a])) := by
    have hc : Steps p.tables e below (s₁.setTop (entryFrame m #[.ref a, .ref b, .int (Int32.ofNat o), .int (Int32.ofNat len), .null] 6)) (T8.setTop (mkF m 45 #[.val (.ref a), .val (.ref b), .val (.int (Int32.ofNat o)), .val (.int (Int32.ofNat len)), .val .null, .val (.ref s.heap.size)] [.int (Int32.ofNat len), .ref s.heap.size, .ref a])) := c9.trans (by
      refine XS.astore X8.here hexec rfl (hb hbytes d39) rfl rfl rfl ?_
      refine XS.aloadN X8.here hexec rfl (hb hbytes d41) rfl rfl ?_
      refine XS.aload X8.here hexec rfl (hb hbytes d42) rfl rfl ?_
      refine XS.iloadN X8.here hexec rfl (hb hbytes d44) rfl ?_
      exact Steps.refl _)
    rw [n4]; exact hc
  obtain ⟨v11, T11, X11, E11, g11⟩ := X8.callS hexec (CodL.law l s.heap.size N) hown (wks W (staticW "java/lang/String" 47 CodL.yN)) (wk W CodL.tab) (W := 1) (Nat.le_of_ble_eq_true rfl) (Nat.le_of_ble_eq_true rfl) (Nat.le_refl _) (by show 0 + len + 0 ≤ len; omega) (g := (mkF m 45 #[.val (.ref a), .val (.ref b), .val (.int (Int32.ofNat o)), .val (.int (Int32.ofNat len)), .val .null, .val (.ref s.heap.size)] [.int (Int32.ofNat N.slots.size), .ref s.heap.size, .ref a])) rfl (by rw [hml]; rfl) c10 (argsL := [.ref s.heap.size, .int (Int32.ofNat N.slots.size)]) (rest := [.ref a]) rfl rfl (by show 2 * 0 + (1 + 0) ≤ _; decide) (hb hbytes d45) (⟨rfl, n1⟩)
  obtain ⟨rfl, q11⟩ := E11
  have hB11 := hB1.mv (X8.warmed.alike.symm.trans X11.warmed.alike) q11
  have c12 : Steps p.tables e below (s₁.setTop (entryFrame m #[.ref a, .ref b, .int (Int32.ofNat o), .int (Int32.ofNat len), .null] 6)) (T11.setTop (mkF m 48 #[.val (.ref a), .val (.ref b), .val (.int (Int32.ofNat o)), .val (.int (Int32.ofNat len)), .val .null, .val (.ref s.heap.size)] [.int 0, .ref a])) := g11
  obtain ⟨T13, X13, p13, bl13, sl13, st13⟩ := X11.finit hexec hown (wk W (.fieldLink "java/lang/String" 15 "java/lang/String" "coder" "B")) (Or.inr ⟨_, (wk W (.laysFinal "java/lang/String" "java/lang/String" "coder" "B"))⟩) (Or.inl ⟨rfl, hnm⟩) f2 (Or.inl rfl) hB11 (t := .byte) (by decide +kernel) rfl (g := (mkF m 48 #[.val (.ref a), .val (.ref b), .val (.int (Int32.ofNat o)), .val (.int (Int32.ofNat len)), .val .null, .val (.ref s.heap.size)] [.int 0, .ref a])) rfl (rest := []) rfl (hb hbytes d48)
  have c14 : Steps p.tables e below (s₁.setTop (entryFrame m #[.ref a, .ref b, .int (Int32.ofNat o), .int (Int32.ofNat len), .null] 6)) (T13.setTop (mkF m 54 #[.val (.ref a), .val (.ref b), .val (.int (Int32.ofNat o)), .val (.int (Int32.ofNat len)), .val .null, .val (.ref s.heap.size)] [.ref s.heap.size, .ref a])) := (c12.trans (st13 _ (Steps.refl _))).trans (by
    refine XS.aloadN X13.here hexec rfl (hb hbytes d51) rfl rfl ?_
    refine XS.aload X13.here hexec rfl (hb hbytes d52) rfl rfl ?_
    exact Steps.refl _)
  obtain ⟨T15, X15, p15, bl15, sl15, st15⟩ := X13.finit hexec hown (wk W (.fieldLink "java/lang/String" 9 "java/lang/String" "value" "[B")) (Or.inr ⟨_, (wk W (.laysFinal "java/lang/String" "java/lang/String" "value" "[B"))⟩) (Or.inl ⟨rfl, hnm⟩) f1 (Or.inl rfl) bl13 (t := (.array .byte)) (by decide +kernel) rfl (g := (mkF m 54 #[.val (.ref a), .val (.ref b), .val (.int (Int32.ofNat o)), .val (.int (Int32.ofNat len)), .val .null, .val (.ref s.heap.size)] [.ref s.heap.size, .ref a])) rfl (rest := []) rfl (hb hbytes d54)
  have c16 : Steps p.tables e below (s₁.setTop (entryFrame m #[.ref a, .ref b, .int (Int32.ofNat o), .int (Int32.ofNat len), .null] 6)) (T15.setTop (mkF m 57 #[.val (.ref a), .val (.ref b), .val (.int (Int32.ofNat o)), .val (.int (Int32.ofNat len)), .val .null, .val (.ref s.heap.size)] [])) := c14.trans (st15 _ (Steps.refl _))
  have ap := apart (Or.inr ⟨_, (wk W (.laysFinal "java/lang/String" "java/lang/String" "value" "[B"))⟩) (Or.inr ⟨_, (wk W (.laysFinal "java/lang/String" "java/lang/String" "coder" "B"))⟩) f1 f2 (t₁ := .array .byte) (t₂ := .byte) (by decide +kernel) (by decide +kernel) (by decide)
  have al := X8.warmed.alike.symm.trans X15.warmed.alike
  have n7 : T11.heap[s.heap.size]? = some N := by rw [q11]; exact n1.1
  exact ⟨T15, none, _, _, _, X15, by simp, rfl, by omega, (fun _ => rfl), ⟨rfl, _, N, bl15, ((Same.refl D _).set _ (by simp)).set _ (by simp), sl15, (Cell.slots_setSlot_ne _ ap).trans sl13, n1.keep al (p15.other hne (p13.other hne n7)), n2, by rw [al.findClass]; exact n3, n4, n5, fun y c h1 h2 => p15.other h1 (p13.other h1 (by rw [q11]; exact n6 y c h2)), by rw [p15.2.2, p13.2.2, q11]; exact z8⟩, fun fs hl => c16.trans (X15.returnOut hexec hret (hb hbytes d57) hl)⟩
end New4
namespace New1
def yN : MethodName := ⟨"java/lang/String", "<init>", "([C)V"⟩
abbrev yB : ByteArray := jdk_42_method_3_code
theorem d0 : decode yB 0 = .ok (.aload_n 0, 1) := by decide +kernel
theorem d1 : decode yB 1 = .ok (.aload_n 1, 1) := by decide +kernel
theorem d2 : decode yB 2 = .ok (.iconst 0, 1) := by decide +kernel
theorem d3 : decode yB 3 = .ok (.aload_n 1, 1) := by decide +kernel
theorem d4 : decode yB 4 = .ok (.arraylength, 1) := by decide +kernel
theorem d5 : decode yB 5 = .ok (.aconst_null, 1) := by decide +kernel
theorem d6 : decode yB 6 = .ok (.invokespecial 27, 3) := by decide +kernel
theorem d9 : decode yB 9 = .ok (.return_, 1) := by decide +kernel
def site : List Cond := [New4.tab] ++ initW "java/lang/String" 27 New4.yN
def tab : Cond := tabOf yN yB 2 none site
def P (a : Addr) (D : Cell) (fV fC : Field) (b : Addr) (A : Cell) (z : Int32) (args : Array Value) (s : State) : Prop := args = #[.ref a, .ref b] ∧ Blank "java/lang/String" a D s ∧ Found "java/lang/String" "value" "[B" fV s ∧ Found "java/lang/String" "coder" "B" fC s ∧ Ch b A s ∧ StaticIs s "java/lang/String" "COMPACT_STRINGS" "Z" (.int z) ∧ ¬ z = 0 ∧ 0 < A.slots.size ∧ A.slots.size ≤ 536870912 ∧ ∀ i, i < A.slots.size → ¬ 255 < cv A i
def E (a : Addr) (D : Cell) (fV fC : Field) (A : Cell) (r : Option Value) (s u : State) : Prop := Got a D fV fC A 0 A.slots.size r s u
/-- new String(chars), not empty, no char above 255: a Latin-1 String of their low bytes -/
theorem law (l : Launch) (a : Addr) (D : Cell) (fV fC : Field) (b : Addr) (A : Cell) (z : Int32) : Law l yN 2 1 3 52 yB 2 none site (P a D fV fC b A z) (E a D fV fC A) [⟨a, fC.slot⟩, ⟨a, fV.slot⟩] 1 A.slots.size := by
  refine Law.of_walk (plainFor_of_name (by decide +kernel)) (by decide +kernel) (by decide +kernel) (by decide) (fun _ _ h => by rw [h.1]; rfl) (fun _ U U' hal hh h => ⟨h.1, h.2.1.mv hal hh, h.2.2.1.al hal, h.2.2.2.1.al hal, h.2.2.2.2.1.mv hal hh, h.2.2.2.2.2.1.there hal hh, h.2.2.2.2.2.2⟩) (fun r U U' V V' h1 hal h2 h => Got.mv r U U' V V' h1 hal h2 h) ?_
  intro p e s m args below meth c s₁ X0 hexec hbytes hml hret hlk hnm hown hh0 W hP
  obtain ⟨rfl, hB, f1, f2, hA, s1, hz, l0, l2, hp⟩ := hP
  have c1 : Steps p.tables e below (s₁.setTop (entryFrame m #[.ref a, .ref b] 2)) (s₁.setTop (mkF m 0 #[.val (.ref a), .val (.ref b)] [])) := entry rfl
  have c2 : Steps p.tables e below (s₁.setTop (entryFrame m #[.ref a, .ref b] 2)) (s₁.setTop (mkF m 6 #[.val (.ref a), .val (.ref b)] [.null, .int (Int32.ofNat A.slots.size), .int 0, .ref b, .ref a])) := c1.trans (by
    refine XS.aloadN X0.here hexec rfl (hb hbytes d0) rfl rfl ?_
    refine XS.aloadN X0.here hexec rfl (hb hbytes d1) rfl rfl ?_
    refine iconstV X0.here hexec rfl 0 (hb hbytes d2) (by decide) ?_
    refine XS.aloadN X0.here hexec rfl (hb hbytes d3) rfl rfl ?_
    refine X0.alen hexec (hA.1.mv X0.warmed.alike hh0) rfl rfl (hb hbytes d4) ?_
    refine XS.aconstNull X0.here hexec rfl (hb hbytes d5) ?_
    exact Steps.refl _)
  obtain ⟨v3, T3, X3, E3, g3⟩ := X0.callN hexec (New4.law l a D fV fC b A z 0 A.slots.size) rfl hown (wks W (initW "java/lang/String" 27 New4.yN)) (W New4.tab (by simp only [site, List.mem_cons, List.mem_append, true_or, or_true])) (W := 0) (Nat.le_of_ble_eq_true rfl) (Nat.le_of_ble_eq_true rfl) (Nat.le_refl _) (by show 0 + A.slots.size ≤ A.slots.size; omega) (g := (mkF m 6 #[.val (.ref a), .val (.ref b)] [.null, .int (Int32.ofNat A.slots.size), .int (Int32.ofNat 0), .ref b, .ref a])) rfl (by rw [hml]; rfl) c2 (argsL := [.ref b, .int (Int32.ofNat 0), .int (Int32.ofNat A.slots.size), .null]) (rest := []) rfl rfl (by show 2 * 0 + 0 ≤ _; decide) (hb hbytes d6) (⟨rfl, hB.mv X0.warmed.alike hh0, f1.al X0.warmed.alike, f2.al X0.warmed.alike, hA.mv X0.warmed.alike hh0, s1.there X0.warmed.alike hh0, hz, l0, by omega, l2, fun i hi => by rw [Nat.zero_add]; exact hp i hi⟩)
  have e0 := Got.mv _ s₁ s _ _ hh0.symm (Vm.Alike.refl _) rfl E3
  obtain rfl := e0.1
  have c4 : Steps p.tables e below (s₁.setTop (entryFrame m #[.ref a, .ref b] 2)) (T3.setTop (mkF m 9 #[.val (.ref a), .val (.ref b)] [])) := g3
  exact ⟨T3, none, _, _, _, X3, by simp, rfl, by omega, (fun _ => rfl), e0, fun fs hl => c4.trans (X3.returnOut hexec hret (hb hbytes d9) hl)⟩
theorem pays {l : Launch} {R : Room} {p : Program} {e : Env} {below : List Frame} {s : State} {sargs : Array Value} {len W : Nat} (a : Addr) (D : Cell) (fV fC : Field) (b : Addr) (A : Cell) (z : Int32) (htab : tab.before sargs s = true) (hfr : 4 ≤ R.frames) (hlo : W + 65 ≤ R.locals) :
    Back l R p e below s sargs yN len W (fun A₁ a₁ => A₁.cells + 1 ≤ R.cells ∧ A₁.slots + A.slots.size ≤ R.slots ∧ P a D fV fC b A z a₁ A₁.U) (fun A₁ _ v₁ B₁ => E a D fV fC A v₁ A₁.U B₁.U ∧ B₁.locs = A₁.locs ++ [⟨a, fC.slot⟩, ⟨a, fV.slot⟩] ∧ B₁.cells = A₁.cells + 1 ∧ B₁.slots = A₁.slots + A.slots.size) :=
  (law l a D fV fC b A z).pays htab hfr (by omega)
end New1
end StrChars
namespace StrChars.Road
open Jvm Sem ClassFile Op Lib Jvm.Stand Jvm.Free Jvm.Free.XT
open Jvm.Lib.Cold (StaticIs)
abbrev ST : String := "java/lang/String"
/-- every table word that New1's law asks, flat -/
abbrev words : List Jvm.Cond := [.code New1.yN New1.yB 2 none, .initialized ST, .methodLink ST 27 New4.yN, .instanceMethod New4.yN,
  .code New4.yN New4.yB 6 none, .fieldLink ST 38 ST "COMPACT_STRINGS" "Z", .laysFinal ST ST "value" "[B", .fieldLink ST 9 ST "value" "[B", .laysFinal ST ST "coder" "B", .fieldLink ST 15 ST "coder" "B",
  .methodLink ST 1 Lib.objectInit, .instanceMethod Lib.objectInit, .code Lib.objectInit ⟨#[0xb1]⟩ 1 none, .methodLink ST 177 Cmp3.yN, .static Cmp3.yN, .methodLink ST 47 CodL.yN, .static CodL.yN,
  .code Cmp3.yN Cmp3.yB 6 (some (.array .byte)), .initialized U16, .arrayClass .byte, .methodLink U16 115 Cmp5.yN, .static Cmp5.yN, .code Cmp5.yN Cmp5.yB 7 (some .int), .code CodL.yN CodL.yB 2 (some .byte)]
theorem tab_of {a : Array Value} {s : State} (h : ∀ w ∈ words, w.before a s = true) : New1.tab.before a s = true := by
  have h5 : Cmp5.tab.before a s = true := unparts (wk h (.code Cmp5.yN Cmp5.yB 7 (some .int))) (wks h (.initialized Cmp5.yN.cls :: Cmp5.site))
  have hc : CodL.tab.before a s = true := unparts (wk h (.code CodL.yN CodL.yB 2 (some .byte))) (wks h (.initialized CodL.yN.cls :: CodL.site))
  have q5 : ∀ w ∈ Cmp5.tab :: words, w.before a s = true := fun w hw => (List.mem_cons.mp hw).elim (fun e => e ▸ h5) (h w)
  have h3 : Cmp3.tab.before a s = true := unparts (wk q5 (.code Cmp3.yN Cmp3.yB 6 (some (.array .byte)))) (wks q5 (.initialized Cmp3.yN.cls :: Cmp3.site))
  have q3 : ∀ w ∈ Cmp3.tab :: CodL.tab :: words, w.before a s = true := fun w hw => (List.mem_cons.mp hw).elim (fun e => e ▸ h3) fun hw => (List.mem_cons.mp hw).elim (fun e => e ▸ hc) (h w)
  have h4 : New4.tab.before a s = true := unparts (wk q3 (.code New4.yN New4.yB 6 none)) (wks q3 (.initialized New4.yN.cls :: New4.site))
  have q4 : ∀ w ∈ New4.tab :: words, w.before a s = true := fun w hw => (List.mem_cons.mp hw).elim (fun e => e ▸ h4) (h w)
  exact unparts (wk q4 (.code New1.yN New1.yB 2 none)) (wks q4 (.initialized New1.yN.cls :: New1.site))
/-- the words ride from the start Z to the walk's own state -/
theorem moved {Z s : State} {a0 args : Array Value} (hZ : Z.Warmed39 s.vm) (hw : ∀ d ∈ words, d.before a0 Z = true) : ∀ d ∈ words, d.before args s = true := fun d hd => by
  have q := hw d hd
  have t : ∀ d ∈ words, d = .arrayClass .byte ∨ (d.onTables && d.keepsFace) = true := by decide +kernel
  rcases t d hd with rfl | t
  · exact RoadKit.mvA hZ q
  · exact RoadKit.mv hZ q t
/-- WHAT COMES BACK, over the tables of the start Z: h the heap at the call, h' behind it -/
def Q (Z : State) (x : Addr) (A : Cell) (h : Heap) (v : Option Value) (h' : Heap) (L : List Loc) : Prop := v = none ∧ (∀ y ∈ L, y.base = x) ∧ RoadKit.Keep h h' [x] ∧ h'.size = h.size + 1 ∧ RoadKit.Exa Z h' x ST ∧ RoadKit.Fld Z h' x ST "value" "[B" (.ref h.size) ∧ RoadKit.Fld Z h' x ST "coder" "B" (.int 0) ∧
  (∃ V : Cell, RoadKit.Arr Z h' h.size V .byte ∧ V.vm = .none ∧ Z.vm.findClass "[B" = some V.cls ∧ V.slots.size = A.slots.size ∧ ∀ j, j < A.slots.size → V.slots[j]? = some (.int (lo8 (cv A j)))) ∧
  ∀ (O n d : String) (w : Value), RoadKit.Fld Z h x O n d w → RoadKit.slotOf Z O n d ≠ RoadKit.slotOf Z ST "value" "[B" → RoadKit.slotOf Z O n d ≠ RoadKit.slotOf Z ST "coder" "B" → RoadKit.Fld Z h' x O n d w
/-- **new String(chars) AT A CALL, IN THE ROAD'S FORM**: for specialBack behind newO: x the fresh String, b the char[] with the cell A -/
theorem back {p : Program} {l : Launch} {e : Env} {R : Room} {s : State} {args : Array Value} {below : List Frame} {len W : Nat} {Z : State} {a0 : Array Value} {h : Heap} (hZ : Z.Warmed39 s.vm) (hw : ∀ d ∈ words, d.before a0 Z = true) {kI : Nat} (wi : (Jvm.Cond.instantiable ST kI).before a0 Z = true)
    {x b : Addr} {A : Cell} {z : Int32} {v0 c0 : Value} (E : RoadKit.Exa Z h x ST) (V : RoadKit.Fld Z h x ST "value" "[B" v0) (C : RoadKit.Fld Z h x ST "coder" "B" c0) (K : RoadKit.Arr Z h b A .char) (hty : Typed .char A) (S : RoadKit.Sta Z h ST "COMPACT_STRINGS" "Z" (.int z)) (hz : ¬ z = 0)
    (l0 : 0 < A.slots.size) (l2 : A.slots.size ≤ 536870912) (hp : ∀ i, i < A.slots.size → ¬ 255 < cv A i) (hfr : 4 ≤ R.frames) (hlo : W + 65 ≤ R.locals) :
    Back l R p e below s args New1.yN len W (fun P a => a = #[.ref x, .ref b] ∧ P.U.heap = h ∧ P.cells + 1 ≤ R.cells ∧ P.slots + A.slots.size ≤ R.slots)
      (fun P _ v B => ∃ L, Q Z x A h v B.U.heap L ∧ B.locs = P.locs ++ L ∧ B.cells = P.cells + 1 ∧ B.slots = P.slots + A.slots.size) := by
  intro m meth c P g ig mk a X hg hsize hdg hW hn hp'
  obtain ⟨rfl, rfl, r1, r2⟩ := hp'
  have al : Z.vm.Alike P.U.vm := hZ.alike.trans X.warmed.alike
  obtain ⟨D, cfV, kV, iV, fV, hD, gV, stV, knV, obV, asV, slV⟩ := id V
  obtain ⟨D', cfC, kC, iC, fC, hD', gC, stC, -, -, asC, slC⟩ := id C
  cases hD.symm.trans hD'
  obtain ⟨D2, kD, e1, e2, e3, e4, e5⟩ := id E
  cases hD.symm.trans e1
  obtain ⟨c2, k2, i1, i2, i3, -⟩ := Cond.instantiable_spec wi
  cases e2.symm.trans i1
  cases e3.symm.trans i2
  obtain ⟨kU, u1, u2⟩ := al.2.2 _ _ e3
  have hB : Blank ST x D P.U := ⟨hD, ⟨knV, fun q hq => by rw [hq] at obV; cases obV⟩, by rw [al.findClass]; exact e2, kU, u1, by rw [u2]; exact i3, by rw [u2]; exact e5 i3⟩
  have F1 : Found ST "value" "[B" fV P.U := ⟨SBG.found_only al ⟨cfV, kV, iV, gV⟩, stV⟩
  have F2 : Found ST "coder" "B" fC P.U := ⟨SBG.found_only al ⟨cfC, kC, iC, gC⟩, stC⟩
  have hA : Ch b A P.U := ⟨⟨K.1, State.isArrayOf_alike al K.2.1, K.2.2, by omega⟩, hty⟩
  have hS : StaticIs P.U ST "COMPACT_STRINGS" "Z" (.int z) := by
    obtain ⟨cfS, iS, kS, fS, st, cS, t1, t2, t3, t4, t5, t6, t7⟩ := S
    exact StaticIs.there (s := { Z with heap := P.U.heap }) ⟨cfS, iS, kS, fS, st, cS, t1, t2, t3, t4, t5, (fun q => by rw [q] at t6; cases t6), t7⟩ al rfl
  obtain ⟨v, B, X', ⟨⟨hv, E', V', q1, q2, q3, q4, q5, q6, q7, q8, q9, q10, q11⟩, hl, hc, hs⟩, st⟩ := New1.pays x D fV fC b A z (tab_of (moved hZ hw)) hfr hlo m meth c P g ig mk _ X hg hsize hdg hW hn ⟨r1, r2, rfl, hB, F1, F2, hA, hS, hz, l0, l2, hp⟩
  have al' : Z.vm.Alike B.U.vm := hZ.alike.trans X'.warmed.alike
  have hsz : E'.slots.size = D.slots.size := by
    obtain ⟨-, -, -, kB, w1, w2, w3⟩ := q1
    obtain ⟨kB', y1, y2⟩ := al'.2.2 _ _ e3
    rw [q2.2.1] at w1
    cases w1.symm.trans y1
    rw [w3, e5 i3, y2]
  refine ⟨v, B, X', ⟨_, ⟨hv, ?_, ⟨by omega, fun y cy hy hn' => q10 y cy (by simpa using hn') hy, fun y cy hy => ?_⟩, q11, ⟨E', _, q1.1, by rw [q2.2.1]; exact e2, by rw [q2.2.1]; exact e3, by rw [q2.1]; exact obV, fun _ => by rw [hsz]; exact e5 i3⟩,
    ⟨E', cfV, kV, iV, fV, q1.1, gV, stV, by rw [q2.1]; exact knV, by rw [q2.1]; exact obV, by rw [q2.2.1]; exact asV, q3⟩, ⟨E', cfC, kC, iC, fC, q1.1, gC, stC, by rw [q2.1]; exact knV, by rw [q2.1]; exact obV, by rw [q2.2.1]; exact asC, q4⟩,
    ⟨V', ⟨q5.1, State.isArrayOf_alike al'.symm q5.2.1, q5.2.2.1⟩, q6, by rw [← al'.findClass]; exact q7, q8, fun j hj => by have := q9 j hj; rwa [Nat.zero_add] at this⟩, fun O n d w F n1 n2 => ?_⟩, hl, hc, hs⟩, st⟩
  · intro y hy
    simp only [List.mem_cons, List.not_mem_nil, or_false] at hy
    rcases hy with rfl | rfl <;> rfl
  · by_cases q : y = x
    · subst q
      cases hD.symm.trans hy
      exact ⟨E', q1.1, q2.2.1, q2.1, hsz⟩
    · exact ⟨cy, q10 y cy q hy, rfl, rfl, rfl⟩
  · obtain ⟨D3, cf, k, i, f, g1, g2, g3, g4, g5, g6, g7⟩ := F
    cases hD.symm.trans g1
    simp only [RoadKit.slotOf, g2, gV, gC, Option.map_some, Option.getD_some] at n1 n2
    exact ⟨E', cf, k, i, f, q1.1, g2, g3, by rw [q2.1]; exact g4, by rw [q2.1]; exact g5, by rw [q2.2.1]; exact g6, by rw [q2.2.2 f.slot (by simp [n1, n2])]; exact g7⟩
end StrChars.Road
namespace StrChars.Road
open Jvm Sem ClassFile Op Lib Jvm.Stand Jvm.Free Jvm.Free.XT
/-- WHAT COMES BACK, the byte[] as a list of values -/
def QA (Z : State) (x : Addr) (zn : Int32) (cs : List Int32) (h : Heap) (v : Option Value) (h' : Heap) (L : List Loc) : Prop := v = none ∧ (∀ y ∈ L, y.base = x) ∧ RoadKit.Keep h h' [x] ∧ h'.size = h.size + 1 ∧ RoadKit.Exa Z h' x ST ∧ RoadKit.Fld Z h' x ST "value" "[B" (.ref h.size) ∧ RoadKit.Fld Z h' x ST "coder" "B" (.int 0) ∧
  (∃ kb, Z.vm.findClass "[B" = some kb ∧ RoadKit.Arv Z h' h.size kb .byte zn (cs.map fun c => .int (lo8 c)) (.int 0)) ∧
  ∀ (O n d : String) (w : Value), RoadKit.Fld Z h x O n d w → RoadKit.slotOf Z O n d ≠ RoadKit.slotOf Z ST "value" "[B" → RoadKit.slotOf Z O n d ≠ RoadKit.slotOf Z ST "coder" "B" → RoadKit.Fld Z h' x O n d w
/-- **new String(chars) AT A CALL, THE ARRAYS AS LISTS**: the char[] at b holds cs, not empty, no char above 255 -/
theorem backArv {p : Program} {l : Launch} {e : Env} {R : Room} {s : State} {args : Array Value} {below : List Frame} {len W : Nat} {Z : State} {a0 : Array Value} {h : Heap} (hZ : Z.Warmed39 s.vm) (hw : ∀ d ∈ words, d.before a0 Z = true) {kI : Nat} (wi : (Jvm.Cond.instantiable ST kI).before a0 Z = true)
    {x b : Addr} {k : ClassId} {zn z : Int32} {cs : List Int32} {dv v0 c0 : Value} (E : RoadKit.Exa Z h x ST) (V : RoadKit.Fld Z h x ST "value" "[B" v0) (C : RoadKit.Fld Z h x ST "coder" "B" c0) (K : RoadKit.Arv Z h b k .char zn (cs.map Value.int) dv) (S : RoadKit.Sta Z h ST "COMPACT_STRINGS" "Z" (.int z)) (hz : ¬ z = 0)
    (hlen : zn.toNatClampNeg = cs.length) (h0 : 0 < cs.length) (hbig : cs.length ≤ 536870912) (hall : ∀ c ∈ cs, ¬ 255 < c) (hfr : 4 ≤ R.frames) (hlo : W + 65 ≤ R.locals) :
    Back l R p e below s args New1.yN len W (fun P a => a = #[.ref x, .ref b] ∧ P.U.heap = h ∧ P.cells + 1 ≤ R.cells ∧ P.slots + cs.length ≤ R.slots)
      (fun P _ v B => ∃ L, QA Z x zn cs h v B.U.heap L ∧ B.locs = P.locs ++ L ∧ B.cells = P.cells + 1 ∧ B.slots = P.slots + cs.length) := by
  obtain ⟨A, K1, K2, K3, K4, K5, K6⟩ := K
  have e : A.slots.size = cs.length := K3.trans hlen
  have hat : ∀ (i : Nat) (hi : i < cs.length), A.slots[i]? = some (.int cs[i]) := fun i hi => by rw [K5 i (by omega)]; simp [List.getD_eq_getElem?_getD, hi]
  have hcv : ∀ (i : Nat) (hi : i < cs.length), cv A i = cs[i] := fun i hi => by unfold cv; rw [hat i hi]
  have hty : Typed .char A := fun i v hv => by
    have hi : i < A.slots.size := (Array.getElem?_eq_some_iff.mp hv).1
    have q := K5 i hi
    rw [hv] at q
    rw [Option.some.inj q]
    exact K6 i hi
  refine Back.mono (back hZ hw wi E V C K1 hty S hz (by omega) (by omega) (fun i hi => by rw [hcv i (by omega)]; exact hall _ (List.getElem_mem _)) hfr hlo) (fun P a hp => ⟨hp.1, hp.2.1, hp.2.2.1, by rw [e]; exact hp.2.2.2⟩) (fun P a v B hp hq => ?_)
  obtain ⟨L, ⟨q1, q2, q3, q4, q5, q6, q7, ⟨V', v1, v2, v3, v4, v5⟩, q9⟩, hl, hc, hs⟩ := hq
  refine ⟨L, ⟨q1, q2, q3, q4, q5, q6, q7, ⟨V'.cls, v3, V', v1, rfl, by rw [v4, e, hlen], K4, fun i hi => ?_, fun i hi => ?_⟩, q9⟩, hl, hc, by rw [hs, e]⟩
  · have hi' : i < cs.length := by omega
    rw [v5 i (by omega), hcv i hi']; simp [List.getD_eq_getElem?_getD, hi']
  · have hi' : i < cs.length := by omega
    simp only [List.getD_eq_getElem?_getD, List.getElem?_map, List.getElem?_eq_getElem hi', Option.map_some, Option.getD_some]
    exact fits_lo8 _
end StrChars.Road
namespace StrChars.Road
open Jvm Sem ClassFile Op Lib Jvm.Stand Jvm.Free Jvm.Free.XT
/-- WHAT COMES BACK, in the writer's own shape -/
def QV (Z : State) (x : Addr) (N : Int32) (bs : List Int32) (h : Heap) (n0 : Nat) (v : Option Value) (h' : Heap) (L : List Loc) : Prop := v = none ∧ RoadKit.Fr n0 L ∧ RoadKit.Keep h h' [x] ∧ RoadKit.Exa Z h' x ST ∧ RoadKit.Fld Z h' x ST "coder" "B" (.int 0) ∧
  ∃ (t : Addr) (kb : ClassId), n0 ≤ t ∧ h.size ≤ t ∧ ¬ t = x ∧ RoadKit.Fld Z h' x ST "value" "[B" (.ref t) ∧ RoadKit.Arv Z h' t kb .byte N (bs.map Value.int) (.int 0)
/-- **new String(chars) AT A CALL, FOR THE WRITER**: a char[] of n known ints, each 0 to 255 -/
theorem backV {p : Program} {l : Launch} {e : Env} {R : Room} {s : State} {args : Array Value} {below : List Frame} {len W : Nat} {Z : State} {a0 : Array Value} {h : Heap} (hZ : Z.Warmed39 s.vm) (hw : ∀ d ∈ words, d.before a0 Z = true) {kI : Nat} (wi : (Jvm.Cond.instantiable ST kI).before a0 Z = true)
    {x b : Addr} {kC : ClassId} {cs bs : List Int32} {d v0 c0 : Value} {z N : Int32} {n n0 : Nat} (hx0 : n0 ≤ x) (hh0 : n0 ≤ h.size) (E : RoadKit.Exa Z h x ST) (V : RoadKit.Fld Z h x ST "value" "[B" v0) (C : RoadKit.Fld Z h x ST "coder" "B" c0) (K : RoadKit.Arv Z h b kC .char N (cs.map Value.int) d) (S : RoadKit.Sta Z h ST "COMPACT_STRINGS" "Z" (.int z)) (hz : ¬ z = 0)
    (hn : cs.length = n) (hN : N = Int32.ofNat n) (l0 : 0 < n) (l2 : n ≤ 4000) (hp : ∀ c ∈ cs, ¬ c < 0 ∧ ¬ (255 : Int32) < c) (hb : bs = cs.map (fun c => c.toInt8.toInt32)) (hfr : 4 ≤ R.frames) (hlo : W + 65 ≤ R.locals) :
    Back l R p e below s args (⟨"java/lang/String", "<init>", "([C)V"⟩ : MethodName) len W (fun P a => a = #[.ref x, .ref b] ∧ P.U.heap = h ∧ P.cells + 1 ≤ R.cells ∧ P.slots + n ≤ R.slots)
      (fun P _ v B => ∃ L, QV Z x N bs h n0 v B.U.heap L ∧ B.locs = P.locs ++ L ∧ B.cells = P.cells + 1 ∧ B.slots = P.slots + n) := by
  subst hn hN hb
  refine Back.mono (backArv hZ hw wi E V C K S hz (n32 (by omega)) l0 (by omega) (fun c hc => (hp c hc).2) hfr hlo) (fun P a hp => hp) (fun P a v B hp hq => ?_)
  obtain ⟨L, ⟨q1, q2, q3, q4, q5, q6, q7, ⟨kb, v1, v2⟩, q9⟩, hl, hc, hs⟩ := hq
  exact ⟨L, ⟨q1, fun y hy => by rw [q2 y hy]; exact hx0, q3, q5, q7, h.size, kb, hh0, Nat.le_refl _, Nat.ne_of_gt E.lt, q6, by rw [List.map_map]; exact v2⟩, hl, hc, hs⟩
end StrChars.Road
end Jvm.Pilot.@@N@@

namespace Jvm.Pilot.@@N@@
open Jvm Jvm.ClassFile Sem Op Lib Jvm.Free Jvm.Stand Jvm.LawKit Jvm.RoadKit Bundle Jvm.Pilot.@@N@@.Jvm.D Jvm.Wk9
theorem own_mask255 (x : Int32) : ¬ (x &&& 255) < 0 ∧ ¬ (255 : Int32) < (x &&& 255) := by
  have h := c_and x 255 (by decide)
  have e : (255 : Int32).toInt = 255 := by decide
  rw [e] at h
  refine ⟨fun q => ?_, fun q => ?_⟩
  · have := Int32.lt_iff_toInt_lt.mp q
    have e0 : (0 : Int32).toInt = 0 := by decide
    omega
  · have := Int32.lt_iff_toInt_lt.mp q
    omega
theorem own_narc {x : Int32} (h : ¬ x < 0 ∧ ¬ (255 : Int32) < x) : nar .char x = x := by
  have h1 := h.1
  have h2 := h.2
  rw [Int32.lt_iff_toInt_lt] at h1 h2
  have e0 : (0 : Int32).toInt = 0 := by decide
  have e1 : (255 : Int32).toInt = 255 := by decide
  have k := c_i2c x
  apply Int32.toInt_inj.mp
  show (x.toUInt32.toUInt16.toUInt32.toInt32).toInt = x.toInt
  omega
theorem own_all0 {P : Int32 → Prop} : ∀ c ∈ ([] : List Int32), P c := fun _ h => nomatch h
theorem own_allS {P : Int32 → Prop} {y : Int32} {L : List Int32} (q : P y) (r : ∀ c ∈ L, P c) : ∀ c ∈ y :: L, P c := fun c h => by
  rcases List.mem_cons.mp h with rfl | h
  · exact q
  · exact r c h
theorem own_narb (x : Int32) : nar .byte x.toInt8.toInt32 = x.toInt8.toInt32 := by
  show x.toInt8.toInt32.toInt8.toInt32 = x.toInt8.toInt32
  simp
/-- new String(char[]) of chars 0 to 255, at least one -/
theorem g_newStr {wd : Bool} {p : Program} {l : Launch} {e : Env} {R : Room} {s : State} {m : MethodId} {args : Array Value} {below : List Frame} {meth : Method} {c : Code} {Z : State} {a0 : Array Value} {EL : List (String × Nat)} {Q : Option Value → Heap → Prop} {kc ks : Nat} {m0 mine : List Addr} {h : Heap} {locs : List Loc} {cells slots : Nat} {own nm : String} {bytes : ByteArray} {ml : Nat} {ret : Option FieldType} {pc : Nat} {Ls : Array Slot} {idx kI : Nat} {x b : Addr} {cs : List Int32} {v0 c0 : Value} {z : Int32} (n : Nat) (rest : List Value) (W : Nat) (C : Cx wd p s m meth c Z a0 EL own bytes ml ret nm) (hd : decode bytes pc = .ok (.invokespecial idx, 3)) (hws : ∀ d ∈ StrChars.Road.words, d.before a0 Z = true) (wi : (Jvm.Cond.instantiable "java/lang/String" kI).before a0 Z = true)
    (w1 : (Jvm.Cond.methodLink own idx ⟨"java/lang/String", "<init>", "([C)V"⟩).before a0 Z = true) (w2 : (Jvm.Cond.instanceMethod ⟨"java/lang/String", "<init>", "([C)V"⟩).before a0 Z = true) (w4 : (Jvm.Cond.code ⟨"java/lang/String", "<init>", "([C)V"⟩ StrChars.New1.yB 2 none).before a0 Z = true)
    (E : Exa Z h x "java/lang/String") (F1 : Fld Z h x "java/lang/String" "value" "[B" v0) (F2 : Fld Z h x "java/lang/String" "coder" "B" c0) (A : Av Z h b .char (cs.map Value.int)) (S : Sta Z Z.heap "java/lang/String" "COMPACT_STRINGS" "Z" (.int z)) (hz : ¬ z = 0)
    (hn : cs.length = n) (l0 : 0 < n) (l2 : n ≤ 4000) (hp : ∀ c ∈ cs, ¬ c < 0 ∧ ¬ (255 : Int32) < c) (hsz : Ls.size = ml) (hW : (rest.map fun v => v.category).sum ≤ W) (hf : 4 ≤ R.frames) (hl : W + 65 ≤ R.locals) (hc : cells + 1 ≤ R.cells) (hs : slots + n ≤ R.slots) (hm : x ∈ mine)
    (nx : ∀ (t : Addr) (h' : Heap) (L : List Loc), h.size ≤ t → t < h'.size → Str Z h' x t cs → Keep h h' [x] → Go wd p l e R s m args below meth c Z EL Q kc ks m0 mine h' (locs ++ L) (cells + 1) (slots + n) (mkF m (pc + 3) Ls rest)) :
    Go wd p l e R s m args below meth c Z EL Q kc ks m0 mine h locs cells slots (mkF m pc Ls (.ref b :: .ref x :: rest)) := by
  refine Go.know fun ho _ hmm => ?_
  obtain ⟨kC, A'⟩ := Arv.of_av (d := .int 0) A
  have hl1 : (cs.map Value.int).length = n := by simp [hn]
  rw [hl1] at A'
  refine g_specialB (mine' := [x]) (as' := #[.ref x, .ref b]) [.ref b] rest W C hd rfl w1 w2 w4 (by decide) (fun vm0 hZ hold => StrChars.Road.backV (s := s.setVm vm0) (W := W) (n0 := Z.heap.size) hZ hws wi (hmm x hm).2 hold.1 E F1 F2 A' (S.ext hold) hz hn rfl l0 l2 hp rfl hf hl) rfl (lenOf (ps := [.array .char]) (r := none) (by decide +kernel) rfl) rfl hsz hW hc hs (fun v h' L q => ⟨q.2.2.1, q.2.1⟩) (fun y hy => by rw [List.mem_singleton.mp hy]; exact hm) (fun v h' L q K => ?_)
  obtain ⟨rfl, -, -, q1, q2, t, kb, -, q3, q4, q5, q6⟩ := q
  have hav : Av Z h' t .byte ((cs.map fun c => c.toInt8.toInt32).map Value.int) := Av.of_arv q6 (by rw [(toNat_ofNat (n := n) (by omega)).1]; simp [hn])
  refine nx t h' L q3 hav.lt ⟨q1, q2, q5, ?_⟩ K
  rw [List.map_map] at hav
  exact hav
theorem own_hws {Z : State} {a0 : Array Value} (hw : ∀ d ∈ tables_1, d.before a0 Z = true) : ∀ d ∈ StrChars.Road.words, d.before a0 Z = true := fun d hd => hw d ((by decide +kernel : ∀ d ∈ StrChars.Road.words, d ∈ tables_1) d hd)
theorem pd0 : parseMethodDescriptor "(C)Z" = some ⟨[.char], some .boolean⟩ := by decide +kernel
theorem pd1 : parseMethodDescriptor "(C)[B" = some ⟨[.char], some (.array .byte)⟩ := by decide +kernel
theorem pd2 : parseMethodDescriptor "([BB)V" = some ⟨[(.array .byte), .byte], none⟩ := by decide +kernel
theorem pd3 : parseMethodDescriptor "(ZZZLjava/math/BigInteger;Ljava/math/BigInteger;Z)V" = some ⟨[.boolean, .boolean, .boolean, (.object "java/math/BigInteger"), (.object "java/math/BigInteger"), .boolean], none⟩ := by decide +kernel
theorem pd4 : parseMethodDescriptor "(Ljava/lang/String;Ljava/lang/String;Ljava/math/BigInteger;)V" = some ⟨[(.object "java/lang/String"), (.object "java/lang/String"), (.object "java/math/BigInteger")], none⟩ := by decide +kernel
theorem pd5 : parseMethodDescriptor "()Z" = some ⟨[], some .boolean⟩ := by decide +kernel
theorem pd6 : parseMethodDescriptor "(C)Ljava/lang/String;" = some ⟨[.char], some (.object "java/lang/String")⟩ := by decide +kernel
theorem pd7 : parseMethodDescriptor "(Z)Lcom/example/entail/entail/model/DataRange;" = some ⟨[.boolean], some (.object "com/example/entail/entail/model/DataRange")⟩ := by decide +kernel
theorem pd8 : parseMethodDescriptor "(Ljava/lang/String;Ljava/lang/String;)Lcom/example/entail/entail/model/DataValue;" = some ⟨[(.object "java/lang/String"), (.object "java/lang/String")], some (.object "com/example/entail/entail/model/DataValue")⟩ := by decide +kernel
theorem pd9 : parseMethodDescriptor "(Lcom/example/entail/entail/model/DataValue;)Z" = some ⟨[(.object "com/example/entail/entail/model/DataValue")], some .boolean⟩ := by decide +kernel
theorem pd10 : parseMethodDescriptor "(Ljava/math/BigInteger;Ljava/math/BigInteger;)Lcom/example/entail/entail/model/DataRange;" = some ⟨[(.object "java/math/BigInteger"), (.object "java/math/BigInteger")], some (.object "com/example/entail/entail/model/DataRange")⟩ := by decide +kernel
theorem pd11 : parseMethodDescriptor "(Lcom/example/entail/entail/model/DataRange;)Z" = some ⟨[(.object "com/example/entail/entail/model/DataRange")], some .boolean⟩ := by decide +kernel
theorem own_EW {Z : State} {a0 : Array Value} (hw : ∀ d ∈ tables_1, d.before a0 Z = true) : EW Z a0 [("com/example/entail/entail/model/DataRangeStringsPinLaw", 22)] := EW.cons (hw _ (List.mem_of_getElem? (i := 66) rfl)) (by decide) (EW.nil)
theorem own_wS {Z : State} {a0 : Array Value} (hw : ∀ d ∈ tables_1, d.before a0 Z = true) : ∀ d ∈ Bundle.stringAtoms, d.before a0 Z = true := fun d hd => hw d ((by decide +kernel : ∀ d ∈ Bundle.stringAtoms, d ∈ tables_1) d hd)
theorem dV1_0 : decode jdk_43_method_3_code 0 = .ok (.iload_n 0, 1) := by decide +kernel
theorem dV1_1 : decode jdk_43_method_3_code 1 = .ok (.sipush 255, 3) := by decide +kernel
theorem dV1_4 : decode jdk_43_method_3_code 4 = .ok (.if_icmp .gt 7, 3) := by decide +kernel
theorem dV1_7 : decode jdk_43_method_3_code 7 = .ok (.iconst 1, 1) := by decide +kernel
theorem dV1_8 : decode jdk_43_method_3_code 8 = .ok (.goto 4, 3) := by decide +kernel
theorem dV1_12 : decode jdk_43_method_3_code 12 = .ok (.ireturn, 1) := by decide +kernel
set_option maxRecDepth 65536 in
set_option maxHeartbeats 80000000 in
theorem m_canEncode (l : Launch) (Z : State) (a0 : Array Value) {z0 : Int32} (hw : ∀ d ∈ tables_1, d.before a0 Z = true) (S0 : Sta Z Z.heap "java/lang/String" "COMPACT_STRINGS" "Z" (.int z0)) (hz0 : ¬ z0 = 0) (x : Int32) (hx : ¬ x < 0 ∧ ¬ (255 : Int32) < x) (h : Heap) :
    MetW true l Z [("com/example/entail/entail/model/DataRangeStringsPinLaw", 22)] (⟨"java/lang/StringLatin1", "canEncode", "(C)Z"⟩ : MethodName) jdk_43_method_3_code 1 (Option.some Jvm.ClassFile.FieldType.boolean) [] ({ frames := 0, cells := 0, slots := 0, locals := 0 } : Room) #[(.int x)] [] h (fun v h' => v = some (.int (1 : Int32))) := by
  refine MetW.of (Ls := #[.val (.int x)]) (a0 := a0) (by first | (simp [plainName, overriddenIn]; done) | decide +kernel) (fun m => by first | (simp [entryFrame, mkF, argsToLocals, Value.category]; done) | rfl) (own_EW hw) (fun q => nomatch q) (fun p_ e_ s_ m_ below_ meth_ c_ hs0 C => ?_)
  refine g_iloadN C dV1_0 rfl ?_
  refine g_sipush (255 : Int32) C dV1_1 (by decide) ?_
  refine g_icmpF C dV1_4 (show ¬ (255 : Int32) < x from hx.2) ?_
  refine g_iconst (1 : Int32) C dV1_7 (by decide) ?_
  refine g_goto 12 C dV1_8 (by decide) (by decide) ?_
  exact g_retN C dV1_12 (by simp) rfl (by decide) (by decide)
theorem dV2_0 : decode jdk_43_method_46_code 0 = .ok (.iconst 1, 1) := by decide +kernel
theorem dV2_1 : decode jdk_43_method_46_code 1 = .ok (.newarray .byte, 2) := by decide +kernel
theorem dV2_3 : decode jdk_43_method_46_code 3 = .ok (.dup, 1) := by decide +kernel
theorem dV2_4 : decode jdk_43_method_46_code 4 = .ok (.iconst 0, 1) := by decide +kernel
theorem dV2_5 : decode jdk_43_method_46_code 5 = .ok (.iload_n 0, 1) := by decide +kernel
theorem dV2_6 : decode jdk_43_method_46_code 6 = .ok (.i2b, 1) := by decide +kernel
theorem dV2_7 : decode jdk_43_method_46_code 7 = .ok (.bastore, 1) := by decide +kernel
theorem dV2_8 : decode jdk_43_method_46_code 8 = .ok (.areturn, 1) := by decide +kernel
set_option maxRecDepth 65536 in
set_option maxHeartbeats 80000000 in
theorem m_toBytes (l : Launch) (Z : State) (a0 : Array Value) {z0 : Int32} (hw : ∀ d ∈ tables_1, d.before a0 Z = true) (S0 : Sta Z Z.heap "java/lang/String" "COMPACT_STRINGS" "Z" (.int z0)) (hz0 : ¬ z0 = 0) (x : Int32) (h : Heap) :
    MetW true l Z [("com/example/entail/entail/model/DataRangeStringsPinLaw", 22)] (⟨"java/lang/StringLatin1", "toBytes", "(C)[B"⟩ : MethodName) jdk_43_method_46_code 1 (Option.some (Jvm.ClassFile.FieldType.array Jvm.ClassFile.FieldType.byte)) [] ({ frames := 0, cells := 1, slots := 1, locals := 0 } : Room) #[(.int x)] [] h (fun v h' => ∃ a : Addr, v = some (.ref a) ∧ h.size ≤ a ∧ Exa Z h' a "[B" ∧ Av Z h' a .byte [.int x.toInt8.toInt32]) := by
  refine MetW.of (Ls := #[.val (.int x)]) (a0 := a0) (by first | (simp [plainName, overriddenIn]; done) | decide +kernel) (fun m => by first | (simp [entryFrame, mkF, argsToLocals, Value.category]; done) | rfl) (own_EW hw) (fun q => nomatch q) (fun p_ e_ s_ m_ below_ meth_ c_ hs0 C => ?_)
  refine g_iconst (1 : Int32) C dV2_0 (by decide) ?_
  refine g_newarray_ (ad := "[B") 1 [(.int (0 : Int32))] C dV2_1 (hw _ (List.mem_of_getElem? (i := 19) rfl)) (by decide) (by decide) (by decide) (by decide) (by decide) (by decide) (by decide) (fun a1 h2 e3 E4 l5 f6 f7 => ?_)
  have K8 := keep_ext E4
  refine g_dup C dV2_3 rfl ?_
  refine g_iconst (0 : Int32) C dV2_4 (by decide) ?_
  refine g_iloadN C dV2_5 rfl ?_
  refine g_i2b _ C dV2_6 rfl ?_
  refine g_bastore 0 C dV2_7 f7 (by decide) (by decide) (Nat.le_of_ble_eq_true rfl) (List.mem_of_getElem? (i := 0) rfl) (fun h9 K10 z11 f12 => ?_)
  have f13 : Av Z h9 a1 .byte [(.int (x.toInt8.toInt32))] := (show nar .byte (x.toInt8.toInt32) = (x.toInt8.toInt32) from own_narb _) ▸ f12
  have f14 := (f6.keep K10)
  exact g_retA C dV2_8 rfl rfl ⟨a1, rfl, (Nat.le_of_eq e3.symm), f14, f13⟩ (by decide) (by decide)
theorem dV3_0 : decode jdk_42_method_151_code 0 = .ok (.aload_n 0, 1) := by decide +kernel
theorem dV3_1 : decode jdk_42_method_151_code 1 = .ok (.invokespecial 1, 3) := by decide +kernel
theorem dV3_4 : decode jdk_42_method_151_code 4 = .ok (.aload_n 0, 1) := by decide +kernel
theorem dV3_5 : decode jdk_42_method_151_code 5 = .ok (.aload_n 1, 1) := by decide +kernel
theorem dV3_6 : decode jdk_42_method_151_code 6 = .ok (.putfield 9, 3) := by decide +kernel
theorem dV3_9 : decode jdk_42_method_151_code 9 = .ok (.aload_n 0, 1) := by decide +kernel
theorem dV3_10 : decode jdk_42_method_151_code 10 = .ok (.iload_n 2, 1) := by decide +kernel
theorem dV3_11 : decode jdk_42_method_151_code 11 = .ok (.putfield 15, 3) := by decide +kernel
theorem dV3_14 : decode jdk_42_method_151_code 14 = .ok (.return_, 1) := by decide +kernel
set_option maxRecDepth 65536 in
set_option maxHeartbeats 80000000 in
theorem m_strBB (l : Launch) (Z : State) (a0 : Array Value) {z0 : Int32} (hw : ∀ d ∈ tables_1, d.before a0 Z = true) (S0 : Sta Z Z.heap "java/lang/String" "COMPACT_STRINGS" "Z" (.int z0)) (hz0 : ¬ z0 = 0) (a b : Addr) (h : Heap) (E : Exa Z h a "java/lang/String") (F1 : Fld Z h a "java/lang/String" "value" "[B" .null) (F2 : Fld Z h a "java/lang/String" "coder" "B" (.int (0 : Int32))) :
    MetW true l Z [("com/example/entail/entail/model/DataRangeStringsPinLaw", 22)] (⟨"java/lang/String", "<init>", "([BB)V"⟩ : MethodName) jdk_42_method_151_code 3 none [] ({ frames := 1, cells := 0, slots := 0, locals := 12 } : Room) #[(.ref a), (.ref b), (.int (0 : Int32))] [a] h (fun v h' => v = none ∧ Exa Z h' a "java/lang/String" ∧ Fld Z h' a "java/lang/String" "coder" "B" (.int (0 : Int32)) ∧ Fld Z h' a "java/lang/String" "value" "[B" (.ref b)) := by
  refine MetW.of (Ls := #[.val (.ref a), .val (.ref b), .val (.int (0 : Int32))]) (a0 := a0) (by first | (simp [plainName, overriddenIn]; done) | decide +kernel) (fun m => by first | (simp [entryFrame, mkF, argsToLocals, Value.category]; done) | rfl) (own_EW hw) (fun q => nomatch q) (fun p_ e_ s_ m_ below_ meth_ c_ hs0 C => ?_)
  refine g_aloadN C dV3_0 rfl rfl ?_
  refine g_objInit C dV3_1 (hw _ (List.mem_of_getElem? (i := 11) rfl)) (hw _ (List.mem_of_getElem? (i := 12) rfl)) (hw _ (List.mem_of_getElem? (i := 13) rfl)) rfl (by decide) (Nat.le_of_ble_eq_true rfl) ?_
  refine g_aloadN C dV3_4 rfl rfl ?_
  refine g_aloadN C dV3_5 rfl rfl ?_
  refine g_putfield (host := "") C dV3_6 (Or.inl (hw _ (List.mem_of_getElem? (i := 28) rfl))) Via.refl F1 E (Or.inr ⟨(hw _ (List.mem_of_getElem? (i := 29) rfl)), rfl, rfl⟩) (hw _ (List.mem_of_getElem? (i := 2) rfl)) (ty := (.array .byte)) (by decide) rfl rfl (List.mem_of_getElem? (i := 0) rfl) (fun h1 W2 K3 => ?_)
  have f4 := Fld.same W2 F1
  have f5 := Fld.other W2 F2 (Or.inr (slot_ne (Or.inr (hw _ (List.mem_of_getElem? (i := 27) rfl))) (Or.inr (hw _ (List.mem_of_getElem? (i := 29) rfl))) (by decide) (t := .byte) (t' := (.array .byte)) (by decide) (by decide)))
  refine g_aloadN C dV3_9 rfl rfl ?_
  refine g_iloadN C dV3_10 rfl ?_
  have f6 := (E.keep K3)
  refine g_putfield (host := "") C dV3_11 (Or.inl (hw _ (List.mem_of_getElem? (i := 26) rfl))) Via.refl f5 f6 (Or.inr ⟨(hw _ (List.mem_of_getElem? (i := 27) rfl)), rfl, rfl⟩) (hw _ (List.mem_of_getElem? (i := 2) rfl)) (ty := .byte) (by decide) rfl rfl (List.mem_of_getElem? (i := 0) rfl) (fun h7 W8 K9 => ?_)
  have f10 := Fld.same W8 f5
  have f11 := Fld.other W8 f4 (Or.inr (slot_ne (Or.inr (hw _ (List.mem_of_getElem? (i := 29) rfl))) (Or.inr (hw _ (List.mem_of_getElem? (i := 27) rfl))) (by decide) (t := (.array .byte)) (t' := .byte) (by decide) (by decide)))
  have f12 := (f6.keep K9)
  exact g_retU C dV3_14 ⟨rfl, f12, f10, f11⟩ (by decide) (by decide)
theorem dV4_0 : decode jdk_42_method_139_code 0 = .ok (.getstatic 38, 3) := by decide +kernel
theorem dV4_3 : decode jdk_42_method_139_code 3 = .ok (.ifCond .eq 23, 3) := by decide +kernel
theorem dV4_6 : decode jdk_42_method_139_code 6 = .ok (.iload_n 0, 1) := by decide +kernel
theorem dV4_7 : decode jdk_42_method_139_code 7 = .ok (.invokestatic 1015, 3) := by decide +kernel
theorem dV4_10 : decode jdk_42_method_139_code 10 = .ok (.ifCond .eq 16, 3) := by decide +kernel
theorem dV4_13 : decode jdk_42_method_139_code 13 = .ok (.new 10, 3) := by decide +kernel
theorem dV4_16 : decode jdk_42_method_139_code 16 = .ok (.dup, 1) := by decide +kernel
theorem dV4_17 : decode jdk_42_method_139_code 17 = .ok (.iload_n 0, 1) := by decide +kernel
theorem dV4_18 : decode jdk_42_method_139_code 18 = .ok (.invokestatic 1018, 3) := by decide +kernel
theorem dV4_21 : decode jdk_42_method_139_code 21 = .ok (.iconst 0, 1) := by decide +kernel
theorem dV4_22 : decode jdk_42_method_139_code 22 = .ok (.invokespecial 209, 3) := by decide +kernel
theorem dV4_25 : decode jdk_42_method_139_code 25 = .ok (.areturn, 1) := by decide +kernel
set_option maxRecDepth 65536 in
set_option maxHeartbeats 80000000 in
theorem m_valueOf (l : Launch) (Z : State) (a0 : Array Value) {z0 : Int32} (hw : ∀ d ∈ tables_1, d.before a0 Z = true) (S0 : Sta Z Z.heap "java/lang/String" "COMPACT_STRINGS" "Z" (.int z0)) (hz0 : ¬ z0 = 0) (x : Int32) (hx : ¬ x < 0 ∧ ¬ (255 : Int32) < x) (h : Heap) :
    MetW true l Z [("com/example/entail/entail/model/DataRangeStringsPinLaw", 22)] (⟨"java/lang/String", "valueOf", "(C)Ljava/lang/String;"⟩ : MethodName) jdk_42_method_139_code 1 (Option.some (Jvm.ClassFile.FieldType.object "java/lang/String")) [] ({ frames := 2, cells := 2, slots := 5, locals := 27 } : Room) #[(.int x)] [] h (fun v h' => ∃ a t : Addr, v = some (.ref a) ∧ h.size ≤ a ∧ t < h'.size ∧ Str Z h' a t [x]) := by
  refine MetW.of (Ls := #[.val (.int x)]) (a0 := a0) (by first | (simp [plainName, overriddenIn]; done) | decide +kernel) (fun m => by first | (simp [entryFrame, mkF, argsToLocals, Value.category]; done) | rfl) (own_EW hw) (fun q => nomatch q) (fun p_ e_ s_ m_ below_ meth_ c_ hs0 C => ?_)
  refine g_getstatic (host := "") C dV4_0 (Or.inl (hw _ (List.mem_of_getElem? (i := 14) rfl))) Via.refl S0 ?_
  refine g_ifF C dV4_3 (show ¬ z0 = (0 : Int32) from hz0) ?_
  refine g_iloadN C dV4_6 rfl ?_
  refine g_invokestatic [(.int x)] [] 0 C dV4_7 (hw _ (List.mem_of_getElem? (i := 33) rfl)) (hw _ (List.mem_of_getElem? (i := 34) rfl)) (hw _ (List.mem_of_getElem? (i := 35) rfl)) (hw _ (List.mem_of_getElem? (i := 36) rfl)) (by decide) (m_canEncode l Z a0 hw S0 hz0 x hx _) (lenOf pd0 rfl) rfl rfl (Nat.le_of_ble_eq_true rfl) (by decide) (by decide) (by decide) (by decide) all0 (fun v1 h2 L3 q4 K5 => ?_)
  obtain rfl := q4
  show Go _ _ _ _ _ _ _ _ _ _ _ _ _ _ _ _ _ _ _ _ _ _ (mkF _ 10 #[.val (.int x)] [(.int (1 : Int32))])
  refine g_ifF C dV4_10 (show ¬ (1 : Int32) = (0 : Int32) by decide) ?_
  refine g_new_ C dV4_13 (hw _ (List.mem_of_getElem? (i := 37) rfl)) (hw _ (List.mem_of_getElem? (i := 2) rfl)) (hw _ (List.mem_of_getElem? (i := 3) rfl)) (by decide) (by decide) (fun a6 h7 e8 E9 l10 f11 D12 => ?_)
  have K13 := keep_ext E9
  have f14 : Fld Z h7 a6 "java/lang/String" "coder" "B" (.int (0 : Int32)) := D12 (Or.inr (hw _ (List.mem_of_getElem? (i := 27) rfl))) (ty := .byte) (by decide)
  have f15 : Fld Z h7 a6 "java/lang/String" "value" "[B" .null := D12 (Or.inr (hw _ (List.mem_of_getElem? (i := 29) rfl))) (ty := (.array .byte)) (by decide)
  refine g_dup C dV4_16 rfl ?_
  refine g_iloadN C dV4_17 rfl ?_
  refine g_invokestatic [(.int x)] [(.ref a6), (.ref a6)] 2 C dV4_18 (hw _ (List.mem_of_getElem? (i := 38) rfl)) (hw _ (List.mem_of_getElem? (i := 39) rfl)) (hw _ (List.mem_of_getElem? (i := 35) rfl)) (hw _ (List.mem_of_getElem? (i := 40) rfl)) (by decide) (m_toBytes l Z a0 hw S0 hz0 x _) (lenOf pd1 rfl) rfl rfl (Nat.le_of_ble_eq_true rfl) (by decide) (by decide) (by decide) (by decide) all0 (fun v20 h21 L22 q23 K24 => ?_)
  obtain ⟨a16, rfl, g17, f18, f19⟩ := q23
  show Go _ _ _ _ _ _ _ _ _ _ _ _ _ _ _ _ _ _ _ _ _ _ (mkF _ 21 #[.val (.int x)] [(.ref a16), (.ref a6), (.ref a6)])
  refine g_iconst (0 : Int32) C dV4_21 (by decide) ?_
  have f28 := (f11.keep K24)
  have f29 := (f15.keep K24 nin0)
  have f30 := (f14.keep K24 nin0)
  refine g_invokespecial [(.ref a16), (.int (0 : Int32))] [(.ref a6)] 1 C dV4_22 rfl (hw _ (List.mem_of_getElem? (i := 41) rfl)) (hw _ (List.mem_of_getElem? (i := 42) rfl)) (hw _ (List.mem_of_getElem? (i := 3) rfl)) (hw _ (List.mem_of_getElem? (i := 43) rfl)) (by decide) (m_strBB l Z a0 hw S0 hz0 a6 a16 _ f28 f29 f30) (lenOf pd2 rfl) rfl rfl (Nat.le_of_ble_eq_true rfl) (by decide) (by decide) (by decide) (by decide) (allS (List.mem_of_getElem? (i := 0) rfl) all0) (fun v31 h32 L33 q34 K35 => ?_)
  obtain ⟨rfl, f25, f26, f27⟩ := q34
  show Go _ _ _ _ _ _ _ _ _ _ _ _ _ _ _ _ _ _ _ _ _ _ (mkF _ 25 #[.val (.int x)] [(.ref a6)])
  have f36 := (f19.keep K35 (ninS (Nat.ne_of_gt (Nat.lt_of_lt_of_le l10 g17)) nin0))
  exact g_retA C dV4_25 rfl rfl ⟨a6, a16, rfl, Nat.le_trans K5.1 (Nat.le_of_eq e8.symm), (Nat.lt_of_lt_of_le f19.lt K35.1), f25, f26, f27, f36⟩ (by decide) (by decide)
theorem dA_0 : decode prog_103_method_1_code 0 = .ok (.aload_n 0, 1) := by decide +kernel
theorem dA_1 : decode prog_103_method_1_code 1 = .ok (.invokespecial 1, 3) := by decide +kernel
theorem dA_4 : decode prog_103_method_1_code 4 = .ok (.aload_n 0, 1) := by decide +kernel
theorem dA_5 : decode prog_103_method_1_code 5 = .ok (.iload_n 1, 1) := by decide +kernel
theorem dA_6 : decode prog_103_method_1_code 6 = .ok (.putfield 7, 3) := by decide +kernel
theorem dA_9 : decode prog_103_method_1_code 9 = .ok (.aload_n 0, 1) := by decide +kernel
theorem dA_10 : decode prog_103_method_1_code 10 = .ok (.iload_n 2, 1) := by decide +kernel
theorem dA_11 : decode prog_103_method_1_code 11 = .ok (.putfield 13, 3) := by decide +kernel
theorem dA_14 : decode prog_103_method_1_code 14 = .ok (.aload_n 0, 1) := by decide +kernel
theorem dA_15 : decode prog_103_method_1_code 15 = .ok (.iload_n 3, 1) := by decide +kernel
theorem dA_16 : decode prog_103_method_1_code 16 = .ok (.putfield 16, 3) := by decide +kernel
theorem dA_19 : decode prog_103_method_1_code 19 = .ok (.aload_n 0, 1) := by decide +kernel
theorem dA_20 : decode prog_103_method_1_code 20 = .ok (.aload 4, 2) := by decide +kernel
theorem dA_22 : decode prog_103_method_1_code 22 = .ok (.putfield 19, 3) := by decide +kernel
theorem dA_25 : decode prog_103_method_1_code 25 = .ok (.aload_n 0, 1) := by decide +kernel
theorem dA_26 : decode prog_103_method_1_code 26 = .ok (.aload 5, 2) := by decide +kernel
theorem dA_28 : decode prog_103_method_1_code 28 = .ok (.putfield 23, 3) := by decide +kernel
theorem dA_31 : decode prog_103_method_1_code 31 = .ok (.aload_n 0, 1) := by decide +kernel
theorem dA_32 : decode prog_103_method_1_code 32 = .ok (.iload 6, 2) := by decide +kernel
theorem dA_34 : decode prog_103_method_1_code 34 = .ok (.putfield 26, 3) := by decide +kernel
theorem dA_37 : decode prog_103_method_1_code 37 = .ok (.return_, 1) := by decide +kernel
set_option maxRecDepth 65536 in
set_option maxHeartbeats 80000000 in
theorem m_rng100 (l : Launch) (Z : State) (a0 : Array Value) {z0 : Int32} (hw : ∀ d ∈ tables_1, d.before a0 Z = true) (S0 : Sta Z Z.heap "java/lang/String" "COMPACT_STRINGS" "Z" (.int z0)) (hz0 : ¬ z0 = 0) (a : Addr) (h : Heap) (E : Exa Z h a "com/example/entail/entail/model/DataRange") (F0 : Fld Z h a "com/example/entail/entail/model/DataRange" "untagged" "Z" (.int (0 : Int32))) (F1 : Fld Z h a "com/example/entail/entail/model/DataRange" "tagged" "Z" (.int (0 : Int32))) (F2 : Fld Z h a "com/example/entail/entail/model/DataRange" "integers" "Z" (.int (0 : Int32))) (F3 : Fld Z h a "com/example/entail/entail/model/DataRange" "min" "Ljava/math/BigInteger;" .null) (F4 : Fld Z h a "com/example/entail/entail/model/DataRange" "max" "Ljava/math/BigInteger;" .null) (F5 : Fld Z h a "com/example/entail/entail/model/DataRange" "otherValues" "Z" (.int (0 : Int32))) :
    MetW true l Z [("com/example/entail/entail/model/DataRangeStringsPinLaw", 22)] (⟨"com/example/entail/entail/model/DataRange", "<init>", "(ZZZLjava/math/BigInteger;Ljava/math/BigInteger;Z)V"⟩ : MethodName) prog_103_method_1_code 7 none [] ({ frames := 1, cells := 0, slots := 0, locals := 12 } : Room) #[(.ref a), (.int (1 : Int32)), (.int (0 : Int32)), (.int (0 : Int32)), .null, .null, (.int (0 : Int32))] [a] h (fun v h' => v = none ∧ Exa Z h' a "com/example/entail/entail/model/DataRange" ∧ Fld Z h' a "com/example/entail/entail/model/DataRange" "untagged" "Z" (.int (1 : Int32)) ∧ Fld Z h' a "com/example/entail/entail/model/DataRange" "tagged" "Z" (.int (0 : Int32)) ∧ Fld Z h' a "com/example/entail/entail/model/DataRange" "integers" "Z" (.int (0 : Int32)) ∧ Fld Z h' a "com/example/entail/entail/model/DataRange" "min" "Ljava/math/BigInteger;" .null ∧ Fld Z h' a "com/example/entail/entail/model/DataRange" "max" "Ljava/math/BigInteger;" .null ∧ Fld Z h' a "com/example/entail/entail/model/DataRange" "otherValues" "Z" (.int (0 : Int32))) := by
  refine MetW.of (Ls := #[.val (.ref a), .val (.int (1 : Int32)), .val (.int (0 : Int32)), .val (.int (0 : Int32)), .val .null, .val .null, .val (.int (0 : Int32))]) (a0 := a0) (by first | (simp [plainName, overriddenIn]; done) | decide +kernel) (fun m => by first | (simp [entryFrame, mkF, argsToLocals, Value.category]; done) | rfl) (own_EW hw) (fun q => nomatch q) (fun p_ e_ s_ m_ below_ meth_ c_ hs0 C => ?_)
  refine g_aloadN C dA_0 rfl rfl ?_
  refine g_objInit C dA_1 (hw _ (List.mem_of_getElem? (i := 53) rfl)) (hw _ (List.mem_of_getElem? (i := 12) rfl)) (hw _ (List.mem_of_getElem? (i := 13) rfl)) rfl (by decide) (Nat.le_of_ble_eq_true rfl) ?_
  refine g_aloadN C dA_4 rfl rfl ?_
  refine g_iloadN C dA_5 rfl ?_
  refine g_putfield (host := "") C dA_6 (Or.inl (hw _ (List.mem_of_getElem? (i := 54) rfl))) Via.refl F0 E (Or.inr ⟨(hw _ (List.mem_of_getElem? (i := 55) rfl)), rfl, rfl⟩) (hw _ (List.mem_of_getElem? (i := 49) rfl)) (ty := .boolean) (by decide) rfl rfl (List.mem_of_getElem? (i := 0) rfl) (fun h1 W2 K3 => ?_)
  have f4 := Fld.same W2 F0
  have f5 := Fld.other W2 F1 (Or.inr (slot_ne (Or.inr (hw _ (List.mem_of_getElem? (i := 57) rfl))) (Or.inr (hw _ (List.mem_of_getElem? (i := 55) rfl))) (by decide) (t := .boolean) (t' := .boolean) (by decide) (by decide)))
  have f6 := Fld.other W2 F2 (Or.inr (slot_ne (Or.inr (hw _ (List.mem_of_getElem? (i := 59) rfl))) (Or.inr (hw _ (List.mem_of_getElem? (i := 55) rfl))) (by decide) (t := .boolean) (t' := .boolean) (by decide) (by decide)))
  have f7 := Fld.other W2 F3 (Or.inr (slot_ne (Or.inr (hw _ (List.mem_of_getElem? (i := 61) rfl))) (Or.inr (hw _ (List.mem_of_getElem? (i := 55) rfl))) (by decide) (t := (.object "java/math/BigInteger")) (t' := .boolean) (by decide) (by decide)))
  have f8 := Fld.other W2 F4 (Or.inr (slot_ne (Or.inr (hw _ (List.mem_of_getElem? (i := 63) rfl))) (Or.inr (hw _ (List.mem_of_getElem? (i := 55) rfl))) (by decide) (t := (.object "java/math/BigInteger")) (t' := .boolean) (by decide) (by decide)))
  have f9 := Fld.other W2 F5 (Or.inr (slot_ne (Or.inr (hw _ (List.mem_of_getElem? (i := 65) rfl))) (Or.inr (hw _ (List.mem_of_getElem? (i := 55) rfl))) (by decide) (t := .boolean) (t' := .boolean) (by decide) (by decide)))
  refine g_aloadN C dA_9 rfl rfl ?_
  refine g_iloadN C dA_10 rfl ?_
  have f10 := (E.keep K3)
  refine g_putfield (host := "") C dA_11 (Or.inl (hw _ (List.mem_of_getElem? (i := 56) rfl))) Via.refl f5 f10 (Or.inr ⟨(hw _ (List.mem_of_getElem? (i := 57) rfl)), rfl, rfl⟩) (hw _ (List.mem_of_getElem? (i := 49) rfl)) (ty := .boolean) (by decide) rfl rfl (List.mem_of_getElem? (i := 0) rfl) (fun h11 W12 K13 => ?_)
  have f14 := Fld.same W12 f5
  have f15 := Fld.other W12 f4 (Or.inr (slot_ne (Or.inr (hw _ (List.mem_of_getElem? (i := 55) rfl))) (Or.inr (hw _ (List.mem_of_getElem? (i := 57) rfl))) (by decide) (t := .boolean) (t' := .boolean) (by decide) (by decide)))
  have f16 := Fld.other W12 f6 (Or.inr (slot_ne (Or.inr (hw _ (List.mem_of_getElem? (i := 59) rfl))) (Or.inr (hw _ (List.mem_of_getElem? (i := 57) rfl))) (by decide) (t := .boolean) (t' := .boolean) (by decide) (by decide)))
  have f17 := Fld.other W12 f7 (Or.inr (slot_ne (Or.inr (hw _ (List.mem_of_getElem? (i := 61) rfl))) (Or.inr (hw _ (List.mem_of_getElem? (i := 57) rfl))) (by decide) (t := (.object "java/math/BigInteger")) (t' := .boolean) (by decide) (by decide)))
  have f18 := Fld.other W12 f8 (Or.inr (slot_ne (Or.inr (hw _ (List.mem_of_getElem? (i := 63) rfl))) (Or.inr (hw _ (List.mem_of_getElem? (i := 57) rfl))) (by decide) (t := (.object "java/math/BigInteger")) (t' := .boolean) (by decide) (by decide)))
  have f19 := Fld.other W12 f9 (Or.inr (slot_ne (Or.inr (hw _ (List.mem_of_getElem? (i := 65) rfl))) (Or.inr (hw _ (List.mem_of_getElem? (i := 57) rfl))) (by decide) (t := .boolean) (t' := .boolean) (by decide) (by decide)))
  refine g_aloadN C dA_14 rfl rfl ?_
  refine g_iloadN C dA_15 rfl ?_
  have f20 := (f10.keep K13)
  refine g_putfield (host := "") C dA_16 (Or.inl (hw _ (List.mem_of_getElem? (i := 58) rfl))) Via.refl f16 f20 (Or.inr ⟨(hw _ (List.mem_of_getElem? (i := 59) rfl)), rfl, rfl⟩) (hw _ (List.mem_of_getElem? (i := 49) rfl)) (ty := .boolean) (by decide) rfl rfl (List.mem_of_getElem? (i := 0) rfl) (fun h21 W22 K23 => ?_)
  have f24 := Fld.same W22 f16
  have f25 := Fld.other W22 f15 (Or.inr (slot_ne (Or.inr (hw _ (List.mem_of_getElem? (i := 55) rfl))) (Or.inr (hw _ (List.mem_of_getElem? (i := 59) rfl))) (by decide) (t := .boolean) (t' := .boolean) (by decide) (by decide)))
  have f26 := Fld.other W22 f14 (Or.inr (slot_ne (Or.inr (hw _ (List.mem_of_getElem? (i := 57) rfl))) (Or.inr (hw _ (List.mem_of_getElem? (i := 59) rfl))) (by decide) (t := .boolean) (t' := .boolean) (by decide) (by decide)))
  have f27 := Fld.other W22 f17 (Or.inr (slot_ne (Or.inr (hw _ (List.mem_of_getElem? (i := 61) rfl))) (Or.inr (hw _ (List.mem_of_getElem? (i := 59) rfl))) (by decide) (t := (.object "java/math/BigInteger")) (t' := .boolean) (by decide) (by decide)))
  have f28 := Fld.other W22 f18 (Or.inr (slot_ne (Or.inr (hw _ (List.mem_of_getElem? (i := 63) rfl))) (Or.inr (hw _ (List.mem_of_getElem? (i := 59) rfl))) (by decide) (t := (.object "java/math/BigInteger")) (t' := .boolean) (by decide) (by decide)))
  have f29 := Fld.other W22 f19 (Or.inr (slot_ne (Or.inr (hw _ (List.mem_of_getElem? (i := 65) rfl))) (Or.inr (hw _ (List.mem_of_getElem? (i := 59) rfl))) (by decide) (t := .boolean) (t' := .boolean) (by decide) (by decide)))
  refine g_aloadN C dA_19 rfl rfl ?_
  refine g_aload C dA_20 rfl rfl ?_
  have f30 := (f20.keep K23)
  refine g_putfield (host := "") C dA_22 (Or.inl (hw _ (List.mem_of_getElem? (i := 60) rfl))) Via.refl f27 f30 (Or.inr ⟨(hw _ (List.mem_of_getElem? (i := 61) rfl)), rfl, rfl⟩) (hw _ (List.mem_of_getElem? (i := 49) rfl)) (ty := (.object "java/math/BigInteger")) (by decide) rfl rfl (List.mem_of_getElem? (i := 0) rfl) (fun h31 W32 K33 => ?_)
  have f34 := Fld.same W32 f27
  have f35 := Fld.other W32 f25 (Or.inr (slot_ne (Or.inr (hw _ (List.mem_of_getElem? (i := 55) rfl))) (Or.inr (hw _ (List.mem_of_getElem? (i := 61) rfl))) (by decide) (t := .boolean) (t' := (.object "java/math/BigInteger")) (by decide) (by decide)))
  have f36 := Fld.other W32 f26 (Or.inr (slot_ne (Or.inr (hw _ (List.mem_of_getElem? (i := 57) rfl))) (Or.inr (hw _ (List.mem_of_getElem? (i := 61) rfl))) (by decide) (t := .boolean) (t' := (.object "java/math/BigInteger")) (by decide) (by decide)))
  have f37 := Fld.other W32 f24 (Or.inr (slot_ne (Or.inr (hw _ (List.mem_of_getElem? (i := 59) rfl))) (Or.inr (hw _ (List.mem_of_getElem? (i := 61) rfl))) (by decide) (t := .boolean) (t' := (.object "java/math/BigInteger")) (by decide) (by decide)))
  have f38 := Fld.other W32 f28 (Or.inr (slot_ne (Or.inr (hw _ (List.mem_of_getElem? (i := 63) rfl))) (Or.inr (hw _ (List.mem_of_getElem? (i := 61) rfl))) (by decide) (t := (.object "java/math/BigInteger")) (t' := (.object "java/math/BigInteger")) (by decide) (by decide)))
  have f39 := Fld.other W32 f29 (Or.inr (slot_ne (Or.inr (hw _ (List.mem_of_getElem? (i := 65) rfl))) (Or.inr (hw _ (List.mem_of_getElem? (i := 61) rfl))) (by decide) (t := .boolean) (t' := (.object "java/math/BigInteger")) (by decide) (by decide)))
  refine g_aloadN C dA_25 rfl rfl ?_
  refine g_aload C dA_26 rfl rfl ?_
  have f40 := (f30.keep K33)
  refine g_putfield (host := "") C dA_28 (Or.inl (hw _ (List.mem_of_getElem? (i := 62) rfl))) Via.refl f38 f40 (Or.inr ⟨(hw _ (List.mem_of_getElem? (i := 63) rfl)), rfl, rfl⟩) (hw _ (List.mem_of_getElem? (i := 49) rfl)) (ty := (.object "java/math/BigInteger")) (by decide) rfl rfl (List.mem_of_getElem? (i := 0) rfl) (fun h41 W42 K43 => ?_)
  have f44 := Fld.same W42 f38
  have f45 := Fld.other W42 f35 (Or.inr (slot_ne (Or.inr (hw _ (List.mem_of_getElem? (i := 55) rfl))) (Or.inr (hw _ (List.mem_of_getElem? (i := 63) rfl))) (by decide) (t := .boolean) (t' := (.object "java/math/BigInteger")) (by decide) (by decide)))
  have f46 := Fld.other W42 f36 (Or.inr (slot_ne (Or.inr (hw _ (List.mem_of_getElem? (i := 57) rfl))) (Or.inr (hw _ (List.mem_of_getElem? (i := 63) rfl))) (by decide) (t := .boolean) (t' := (.object "java/math/BigInteger")) (by decide) (by decide)))
  have f47 := Fld.other W42 f37 (Or.inr (slot_ne (Or.inr (hw _ (List.mem_of_getElem? (i := 59) rfl))) (Or.inr (hw _ (List.mem_of_getElem? (i := 63) rfl))) (by decide) (t := .boolean) (t' := (.object "java/math/BigInteger")) (by decide) (by decide)))
  have f48 := Fld.other W42 f34 (Or.inr (slot_ne (Or.inr (hw _ (List.mem_of_getElem? (i := 61) rfl))) (Or.inr (hw _ (List.mem_of_getElem? (i := 63) rfl))) (by decide) (t := (.object "java/math/BigInteger")) (t' := (.object "java/math/BigInteger")) (by decide) (by decide)))
  have f49 := Fld.other W42 f39 (Or.inr (slot_ne (Or.inr (hw _ (List.mem_of_getElem? (i := 65) rfl))) (Or.inr (hw _ (List.mem_of_getElem? (i := 63) rfl))) (by decide) (t := .boolean) (t' := (.object "java/math/BigInteger")) (by decide) (by decide)))
  refine g_aloadN C dA_31 rfl rfl ?_
  refine g_iload C dA_32 rfl ?_
  have f50 := (f40.keep K43)
  refine g_putfield (host := "") C dA_34 (Or.inl (hw _ (List.mem_of_getElem? (i := 64) rfl))) Via.refl f49 f50 (Or.inr ⟨(hw _ (List.mem_of_getElem? (i := 65) rfl)), rfl, rfl⟩) (hw _ (List.mem_of_getElem? (i := 49) rfl)) (ty := .boolean) (by decide) rfl rfl (List.mem_of_getElem? (i := 0) rfl) (fun h51 W52 K53 => ?_)
  have f54 := Fld.same W52 f49
  have f55 := Fld.other W52 f45 (Or.inr (slot_ne (Or.inr (hw _ (List.mem_of_getElem? (i := 55) rfl))) (Or.inr (hw _ (List.mem_of_getElem? (i := 65) rfl))) (by decide) (t := .boolean) (t' := .boolean) (by decide) (by decide)))
  have f56 := Fld.other W52 f46 (Or.inr (slot_ne (Or.inr (hw _ (List.mem_of_getElem? (i := 57) rfl))) (Or.inr (hw _ (List.mem_of_getElem? (i := 65) rfl))) (by decide) (t := .boolean) (t' := .boolean) (by decide) (by decide)))
  have f57 := Fld.other W52 f47 (Or.inr (slot_ne (Or.inr (hw _ (List.mem_of_getElem? (i := 59) rfl))) (Or.inr (hw _ (List.mem_of_getElem? (i := 65) rfl))) (by decide) (t := .boolean) (t' := .boolean) (by decide) (by decide)))
  have f58 := Fld.other W52 f48 (Or.inr (slot_ne (Or.inr (hw _ (List.mem_of_getElem? (i := 61) rfl))) (Or.inr (hw _ (List.mem_of_getElem? (i := 65) rfl))) (by decide) (t := (.object "java/math/BigInteger")) (t' := .boolean) (by decide) (by decide)))
  have f59 := Fld.other W52 f44 (Or.inr (slot_ne (Or.inr (hw _ (List.mem_of_getElem? (i := 63) rfl))) (Or.inr (hw _ (List.mem_of_getElem? (i := 65) rfl))) (by decide) (t := (.object "java/math/BigInteger")) (t' := .boolean) (by decide) (by decide)))
  have f60 := (f50.keep K53)
  exact g_retU C dA_37 ⟨rfl, f60, f55, f56, f57, f58, f59, f54⟩ (by decide) (by decide)
set_option maxRecDepth 65536 in
set_option maxHeartbeats 80000000 in
theorem m_rng110 (l : Launch) (Z : State) (a0 : Array Value) {z0 : Int32} (hw : ∀ d ∈ tables_1, d.before a0 Z = true) (S0 : Sta Z Z.heap "java/lang/String" "COMPACT_STRINGS" "Z" (.int z0)) (hz0 : ¬ z0 = 0) (a : Addr) (h : Heap) (E : Exa Z h a "com/example/entail/entail/model/DataRange") (F0 : Fld Z h a "com/example/entail/entail/model/DataRange" "untagged" "Z" (.int (0 : Int32))) (F1 : Fld Z h a "com/example/entail/entail/model/DataRange" "tagged" "Z" (.int (0 : Int32))) (F2 : Fld Z h a "com/example/entail/entail/model/DataRange" "integers" "Z" (.int (0 : Int32))) (F3 : Fld Z h a "com/example/entail/entail/model/DataRange" "min" "Ljava/math/BigInteger;" .null) (F4 : Fld Z h a "com/example/entail/entail/model/DataRange" "max" "Ljava/math/BigInteger;" .null) (F5 : Fld Z h a "com/example/entail/entail/model/DataRange" "otherValues" "Z" (.int (0 : Int32))) :
    MetW true l Z [("com/example/entail/entail/model/DataRangeStringsPinLaw", 22)] (⟨"com/example/entail/entail/model/DataRange", "<init>", "(ZZZLjava/math/BigInteger;Ljava/math/BigInteger;Z)V"⟩ : MethodName) prog_103_method_1_code 7 none [] ({ frames := 1, cells := 0, slots := 0, locals := 12 } : Room) #[(.ref a), (.int (1 : Int32)), (.int (1 : Int32)), (.int (0 : Int32)), .null, .null, (.int (0 : Int32))] [a] h (fun v h' => v = none ∧ Exa Z h' a "com/example/entail/entail/model/DataRange" ∧ Fld Z h' a "com/example/entail/entail/model/DataRange" "untagged" "Z" (.int (1 : Int32)) ∧ Fld Z h' a "com/example/entail/entail/model/DataRange" "tagged" "Z" (.int (1 : Int32)) ∧ Fld Z h' a "com/example/entail/entail/model/DataRange" "integers" "Z" (.int (0 : Int32)) ∧ Fld Z h' a "com/example/entail/entail/model/DataRange" "min" "Ljava/math/BigInteger;" .null ∧ Fld Z h' a "com/example/entail/entail/model/DataRange" "max" "Ljava/math/BigInteger;" .null ∧ Fld Z h' a "com/example/entail/entail/model/DataRange" "otherValues" "Z" (.int (0 : Int32))) := by
  refine MetW.of (Ls := #[.val (.ref a), .val (.int (1 : Int32)), .val (.int (1 : Int32)), .val (.int (0 : Int32)), .val .null, .val .null, .val (.int (0 : Int32))]) (a0 := a0) (by first | (simp [plainName, overriddenIn]; done) | decide +kernel) (fun m => by first | (simp [entryFrame, mkF, argsToLocals, Value.category]; done) | rfl) (own_EW hw) (fun q => nomatch q) (fun p_ e_ s_ m_ below_ meth_ c_ hs0 C => ?_)
  refine g_aloadN C dA_0 rfl rfl ?_
  refine g_objInit C dA_1 (hw _ (List.mem_of_getElem? (i := 53) rfl)) (hw _ (List.mem_of_getElem? (i := 12) rfl)) (hw _ (List.mem_of_getElem? (i := 13) rfl)) rfl (by decide) (Nat.le_of_ble_eq_true rfl) ?_
  refine g_aloadN C dA_4 rfl rfl ?_
  refine g_iloadN C dA_5 rfl ?_
  refine g_putfield (host := "") C dA_6 (Or.inl (hw _ (List.mem_of_getElem? (i := 54) rfl))) Via.refl F0 E (Or.inr ⟨(hw _ (List.mem_of_getElem? (i := 55) rfl)), rfl, rfl⟩) (hw _ (List.mem_of_getElem? (i := 49) rfl)) (ty := .boolean) (by decide) rfl rfl (List.mem_of_getElem? (i := 0) rfl) (fun h1 W2 K3 => ?_)
  have f4 := Fld.same W2 F0
  have f5 := Fld.other W2 F1 (Or.inr (slot_ne (Or.inr (hw _ (List.mem_of_getElem? (i := 57) rfl))) (Or.inr (hw _ (List.mem_of_getElem? (i := 55) rfl))) (by decide) (t := .boolean) (t' := .boolean) (by decide) (by decide)))
  have f6 := Fld.other W2 F2 (Or.inr (slot_ne (Or.inr (hw _ (List.mem_of_getElem? (i := 59) rfl))) (Or.inr (hw _ (List.mem_of_getElem? (i := 55) rfl))) (by decide) (t := .boolean) (t' := .boolean) (by decide) (by decide)))
  have f7 := Fld.other W2 F3 (Or.inr (slot_ne (Or.inr (hw _ (List.mem_of_getElem? (i := 61) rfl))) (Or.inr (hw _ (List.mem_of_getElem? (i := 55) rfl))) (by decide) (t := (.object "java/math/BigInteger")) (t' := .boolean) (by decide) (by decide)))
  have f8 := Fld.other W2 F4 (Or.inr (slot_ne (Or.inr (hw _ (List.mem_of_getElem? (i := 63) rfl))) (Or.inr (hw _ (List.mem_of_getElem? (i := 55) rfl))) (by decide) (t := (.object "java/math/BigInteger")) (t' := .boolean) (by decide) (by decide)))
  have f9 := Fld.other W2 F5 (Or.inr (slot_ne (Or.inr (hw _ (List.mem_of_getElem? (i := 65) rfl))) (Or.inr (hw _ (List.mem_of_getElem? (i := 55) rfl))) (by decide) (t := .boolean) (t' := .boolean) (by decide) (by decide)))
  refine g_aloadN C dA_9 rfl rfl ?_
  refine g_iloadN C dA_10 rfl ?_
  have f10 := (E.keep K3)
  refine g_putfield (host := "") C dA_11 (Or.inl (hw _ (List.mem_of_getElem? (i := 56) rfl))) Via.refl f5 f10 (Or.inr ⟨(hw _ (List.mem_of_getElem? (i := 57) rfl)), rfl, rfl⟩) (hw _ (List.mem_of_getElem? (i := 49) rfl)) (ty := .boolean) (by decide) rfl rfl (List.mem_of_getElem? (i := 0) rfl) (fun h11 W12 K13 => ?_)
  have f14 := Fld.same W12 f5
  have f15 := Fld.other W12 f4 (Or.inr (slot_ne (Or.inr (hw _ (List.mem_of_getElem? (i := 55) rfl))) (Or.inr (hw _ (List.mem_of_getElem? (i := 57) rfl))) (by decide) (t := .boolean) (t' := .boolean) (by decide) (by decide)))
  have f16 := Fld.other W12 f6 (Or.inr (slot_ne (Or.inr (hw _ (List.mem_of_getElem? (i := 59) rfl))) (Or.inr (hw _ (List.mem_of_getElem? (i := 57) rfl))) (by decide) (t := .boolean) (t' := .boolean) (by decide) (by decide)))
  have f17 := Fld.other W12 f7 (Or.inr (slot_ne (Or.inr (hw _ (List.mem_of_getElem? (i := 61) rfl))) (Or.inr (hw _ (List.mem_of_getElem? (i := 57) rfl))) (by decide) (t := (.object "java/math/BigInteger")) (t' := .boolean) (by decide) (by decide)))
  have f18 := Fld.other W12 f8 (Or.inr (slot_ne (Or.inr (hw _ (List.mem_of_getElem? (i := 63) rfl))) (Or.inr (hw _ (List.mem_of_getElem? (i := 57) rfl))) (by decide) (t := (.object "java/math/BigInteger")) (t' := .boolean) (by decide) (by decide)))
  have f19 := Fld.other W12 f9 (Or.inr (slot_ne (Or.inr (hw _ (List.mem_of_getElem? (i := 65) rfl))) (Or.inr (hw _ (List.mem_of_getElem? (i := 57) rfl))) (by decide) (t := .boolean) (t' := .boolean) (by decide) (by decide)))
  refine g_aloadN C dA_14 rfl rfl ?_
  refine g_iloadN C dA_15 rfl ?_
  have f20 := (f10.keep K13)
  refine g_putfield (host := "") C dA_16 (Or.inl (hw _ (List.mem_of_getElem? (i := 58) rfl))) Via.refl f16 f20 (Or.inr ⟨(hw _ (List.mem_of_getElem? (i := 59) rfl)), rfl, rfl⟩) (hw _ (List.mem_of_getElem? (i := 49) rfl)) (ty := .boolean) (by decide) rfl rfl (List.mem_of_getElem? (i := 0) rfl) (fun h21 W22 K23 => ?_)
  have f24 := Fld.same W22 f16
  have f25 := Fld.other W22 f15 (Or.inr (slot_ne (Or.inr (hw _ (List.mem_of_getElem? (i := 55) rfl))) (Or.inr (hw _ (List.mem_of_getElem? (i := 59) rfl))) (by decide) (t := .boolean) (t' := .boolean) (by decide) (by decide)))
  have f26 := Fld.other W22 f14 (Or.inr (slot_ne (Or.inr (hw _ (List.mem_of_getElem? (i := 57) rfl))) (Or.inr (hw _ (List.mem_of_getElem? (i := 59) rfl))) (by decide) (t := .boolean) (t' := .boolean) (by decide) (by decide)))
  have f27 := Fld.other W22 f17 (Or.inr (slot_ne (Or.inr (hw _ (List.mem_of_getElem? (i := 61) rfl))) (Or.inr (hw _ (List.mem_of_getElem? (i := 59) rfl))) (by decide) (t := (.object "java/math/BigInteger")) (t' := .boolean) (by decide) (by decide)))
  have f28 := Fld.other W22 f18 (Or.inr (slot_ne (Or.inr (hw _ (List.mem_of_getElem? (i := 63) rfl))) (Or.inr (hw _ (List.mem_of_getElem? (i := 59) rfl))) (by decide) (t := (.object "java/math/BigInteger")) (t' := .boolean) (by decide) (by decide)))
  have f29 := Fld.other W22 f19 (Or.inr (slot_ne (Or.inr (hw _ (List.mem_of_getElem? (i := 65) rfl))) (Or.inr (hw _ (List.mem_of_getElem? (i := 59) rfl))) (by decide) (t := .boolean) (t' := .boolean) (by decide) (by decide)))
  refine g_aloadN C dA_19 rfl rfl ?_
  refine g_aload C dA_20 rfl rfl ?_
  have f30 := (f20.keep K23)
  refine g_putfield (host := "") C dA_22 (Or.inl (hw _ (List.mem_of_getElem? (i := 60) rfl))) Via.refl f27 f30 (Or.inr ⟨(hw _ (List.mem_of_getElem? (i := 61) rfl)), rfl, rfl⟩) (hw _ (List.mem_of_getElem? (i := 49) rfl)) (ty := (.object "java/math/BigInteger")) (by decide) rfl rfl (List.mem_of_getElem? (i := 0) rfl) (fun h31 W32 K33 => ?_)
  have f34 := Fld.same W32 f27
  have f35 := Fld.other W32 f25 (Or.inr (slot_ne (Or.inr (hw _ (List.mem_of_getElem? (i := 55) rfl))) (Or.inr (hw _ (List.mem_of_getElem? (i := 61) rfl))) (by decide) (t := .boolean) (t' := (.object "java/math/BigInteger")) (by decide) (by decide)))
  have f36 := Fld.other W32 f26 (Or.inr (slot_ne (Or.inr (hw _ (List.mem_of_getElem? (i := 57) rfl))) (Or.inr (hw _ (List.mem_of_getElem? (i := 61) rfl))) (by decide) (t := .boolean) (t' := (.object "java/math/BigInteger")) (by decide) (by decide)))
  have f37 := Fld.other W32 f24 (Or.inr (slot_ne (Or.inr (hw _ (List.mem_of_getElem? (i := 59) rfl))) (Or.inr (hw _ (List.mem_of_getElem? (i := 61) rfl))) (by decide) (t := .boolean) (t' := (.object "java/math/BigInteger")) (by decide) (by decide)))
  have f38 := Fld.other W32 f28 (Or.inr (slot_ne (Or.inr (hw _ (List.mem_of_getElem? (i := 63) rfl))) (Or.inr (hw _ (List.mem_of_getElem? (i := 61) rfl))) (by decide) (t := (.object "java/math/BigInteger")) (t' := (.object "java/math/BigInteger")) (by decide) (by decide)))
  have f39 := Fld.other W32 f29 (Or.inr (slot_ne (Or.inr (hw _ (List.mem_of_getElem? (i := 65) rfl))) (Or.inr (hw _ (List.mem_of_getElem? (i := 61) rfl))) (by decide) (t := .boolean) (t' := (.object "java/math/BigInteger")) (by decide) (by decide)))
  refine g_aloadN C dA_25 rfl rfl ?_
  refine g_aload C dA_26 rfl rfl ?_
  have f40 := (f30.keep K33)
  refine g_putfield (host := "") C dA_28 (Or.inl (hw _ (List.mem_of_getElem? (i := 62) rfl))) Via.refl f38 f40 (Or.inr ⟨(hw _ (List.mem_of_getElem? (i := 63) rfl)), rfl, rfl⟩) (hw _ (List.mem_of_getElem? (i := 49) rfl)) (ty := (.object "java/math/BigInteger")) (by decide) rfl rfl (List.mem_of_getElem? (i := 0) rfl) (fun h41 W42 K43 => ?_)
  have f44 := Fld.same W42 f38
  have f45 := Fld.other W42 f35 (Or.inr (slot_ne (Or.inr (hw _ (List.mem_of_getElem? (i := 55) rfl))) (Or.inr (hw _ (List.mem_of_getElem? (i := 63) rfl))) (by decide) (t := .boolean) (t' := (.object "java/math/BigInteger")) (by decide) (by decide)))
  have f46 := Fld.other W42 f36 (Or.inr (slot_ne (Or.inr (hw _ (List.mem_of_getElem? (i := 57) rfl))) (Or.inr (hw _ (List.mem_of_getElem? (i := 63) rfl))) (by decide) (t := .boolean) (t' := (.object "java/math/BigInteger")) (by decide) (by decide)))
  have f47 := Fld.other W42 f37 (Or.inr (slot_ne (Or.inr (hw _ (List.mem_of_getElem? (i := 59) rfl))) (Or.inr (hw _ (List.mem_of_getElem? (i := 63) rfl))) (by decide) (t := .boolean) (t' := (.object "java/math/BigInteger")) (by decide) (by decide)))
  have f48 := Fld.other W42 f34 (Or.inr (slot_ne (Or.inr (hw _ (List.mem_of_getElem? (i := 61) rfl))) (Or.inr (hw _ (List.mem_of_getElem? (i := 63) rfl))) (by decide) (t := (.object "java/math/BigInteger")) (t' := (.object "java/math/BigInteger")) (by decide) (by decide)))
  have f49 := Fld.other W42 f39 (Or.inr (slot_ne (Or.inr (hw _ (List.mem_of_getElem? (i := 65) rfl))) (Or.inr (hw _ (List.mem_of_getElem? (i := 63) rfl))) (by decide) (t := .boolean) (t' := (.object "java/math/BigInteger")) (by decide) (by decide)))
  refine g_aloadN C dA_31 rfl rfl ?_
  refine g_iload C dA_32 rfl ?_
  have f50 := (f40.keep K43)
  refine g_putfield (host := "") C dA_34 (Or.inl (hw _ (List.mem_of_getElem? (i := 64) rfl))) Via.refl f49 f50 (Or.inr ⟨(hw _ (List.mem_of_getElem? (i := 65) rfl)), rfl, rfl⟩) (hw _ (List.mem_of_getElem? (i := 49) rfl)) (ty := .boolean) (by decide) rfl rfl (List.mem_of_getElem? (i := 0) rfl) (fun h51 W52 K53 => ?_)
  have f54 := Fld.same W52 f49
  have f55 := Fld.other W52 f45 (Or.inr (slot_ne (Or.inr (hw _ (List.mem_of_getElem? (i := 55) rfl))) (Or.inr (hw _ (List.mem_of_getElem? (i := 65) rfl))) (by decide) (t := .boolean) (t' := .boolean) (by decide) (by decide)))
  have f56 := Fld.other W52 f46 (Or.inr (slot_ne (Or.inr (hw _ (List.mem_of_getElem? (i := 57) rfl))) (Or.inr (hw _ (List.mem_of_getElem? (i := 65) rfl))) (by decide) (t := .boolean) (t' := .boolean) (by decide) (by decide)))
  have f57 := Fld.other W52 f47 (Or.inr (slot_ne (Or.inr (hw _ (List.mem_of_getElem? (i := 59) rfl))) (Or.inr (hw _ (List.mem_of_getElem? (i := 65) rfl))) (by decide) (t := .boolean) (t' := .boolean) (by decide) (by decide)))
  have f58 := Fld.other W52 f48 (Or.inr (slot_ne (Or.inr (hw _ (List.mem_of_getElem? (i := 61) rfl))) (Or.inr (hw _ (List.mem_of_getElem? (i := 65) rfl))) (by decide) (t := (.object "java/math/BigInteger")) (t' := .boolean) (by decide) (by decide)))
  have f59 := Fld.other W52 f44 (Or.inr (slot_ne (Or.inr (hw _ (List.mem_of_getElem? (i := 63) rfl))) (Or.inr (hw _ (List.mem_of_getElem? (i := 65) rfl))) (by decide) (t := (.object "java/math/BigInteger")) (t' := .boolean) (by decide) (by decide)))
  have f60 := (f50.keep K53)
  exact g_retU C dA_37 ⟨rfl, f60, f55, f56, f57, f58, f59, f54⟩ (by decide) (by decide)
set_option maxRecDepth 65536 in
set_option maxHeartbeats 80000000 in
theorem m_rng001 (l : Launch) (Z : State) (a0 : Array Value) {z0 : Int32} (hw : ∀ d ∈ tables_1, d.before a0 Z = true) (S0 : Sta Z Z.heap "java/lang/String" "COMPACT_STRINGS" "Z" (.int z0)) (hz0 : ¬ z0 = 0) (a : Addr) (h : Heap) (E : Exa Z h a "com/example/entail/entail/model/DataRange") (F0 : Fld Z h a "com/example/entail/entail/model/DataRange" "untagged" "Z" (.int (0 : Int32))) (F1 : Fld Z h a "com/example/entail/entail/model/DataRange" "tagged" "Z" (.int (0 : Int32))) (F2 : Fld Z h a "com/example/entail/entail/model/DataRange" "integers" "Z" (.int (0 : Int32))) (F3 : Fld Z h a "com/example/entail/entail/model/DataRange" "min" "Ljava/math/BigInteger;" .null) (F4 : Fld Z h a "com/example/entail/entail/model/DataRange" "max" "Ljava/math/BigInteger;" .null) (F5 : Fld Z h a "com/example/entail/entail/model/DataRange" "otherValues" "Z" (.int (0 : Int32))) :
    MetW true l Z [("com/example/entail/entail/model/DataRangeStringsPinLaw", 22)] (⟨"com/example/entail/entail/model/DataRange", "<init>", "(ZZZLjava/math/BigInteger;Ljava/math/BigInteger;Z)V"⟩ : MethodName) prog_103_method_1_code 7 none [] ({ frames := 1, cells := 0, slots := 0, locals := 12 } : Room) #[(.ref a), (.int (0 : Int32)), (.int (0 : Int32)), (.int (1 : Int32)), .null, .null, (.int (0 : Int32))] [a] h (fun v h' => v = none ∧ Exa Z h' a "com/example/entail/entail/model/DataRange" ∧ Fld Z h' a "com/example/entail/entail/model/DataRange" "untagged" "Z" (.int (0 : Int32)) ∧ Fld Z h' a "com/example/entail/entail/model/DataRange" "tagged" "Z" (.int (0 : Int32)) ∧ Fld Z h' a "com/example/entail/entail/model/DataRange" "integers" "Z" (.int (1 : Int32)) ∧ Fld Z h' a "com/example/entail/entail/model/DataRange" "min" "Ljava/math/BigInteger;" .null ∧ Fld Z h' a "com/example/entail/entail/model/DataRange" "max" "Ljava/math/BigInteger;" .null ∧ Fld Z h' a "com/example/entail/entail/model/DataRange" "otherValues" "Z" (.int (0 : Int32))) := by
  refine MetW.of (Ls := #[.val (.ref a), .val (.int (0 : Int32)), .val (.int (0 : Int32)), .val (.int (1 : Int32)), .val .null, .val .null, .val (.int (0 : Int32))]) (a0 := a0) (by first | (simp [plainName, overriddenIn]; done) | decide +kernel) (fun m => by first | (simp [entryFrame, mkF, argsToLocals, Value.category]; done) | rfl) (own_EW hw) (fun q => nomatch q) (fun p_ e_ s_ m_ below_ meth_ c_ hs0 C => ?_)
  refine g_aloadN C dA_0 rfl rfl ?_
  refine g_objInit C dA_1 (hw _ (List.mem_of_getElem? (i := 53) rfl)) (hw _ (List.mem_of_getElem? (i := 12) rfl)) (hw _ (List.mem_of_getElem? (i := 13) rfl)) rfl (by decide) (Nat.le_of_ble_eq_true rfl) ?_
  refine g_aloadN C dA_4 rfl rfl ?_
  refine g_iloadN C dA_5 rfl ?_
  refine g_putfield (host := "") C dA_6 (Or.inl (hw _ (List.mem_of_getElem? (i := 54) rfl))) Via.refl F0 E (Or.inr ⟨(hw _ (List.mem_of_getElem? (i := 55) rfl)), rfl, rfl⟩) (hw _ (List.mem_of_getElem? (i := 49) rfl)) (ty := .boolean) (by decide) rfl rfl (List.mem_of_getElem? (i := 0) rfl) (fun h1 W2 K3 => ?_)
  have f4 := Fld.same W2 F0
  have f5 := Fld.other W2 F1 (Or.inr (slot_ne (Or.inr (hw _ (List.mem_of_getElem? (i := 57) rfl))) (Or.inr (hw _ (List.mem_of_getElem? (i := 55) rfl))) (by decide) (t := .boolean) (t' := .boolean) (by decide) (by decide)))
  have f6 := Fld.other W2 F2 (Or.inr (slot_ne (Or.inr (hw _ (List.mem_of_getElem? (i := 59) rfl))) (Or.inr (hw _ (List.mem_of_getElem? (i := 55) rfl))) (by decide) (t := .boolean) (t' := .boolean) (by decide) (by decide)))
  have f7 := Fld.other W2 F3 (Or.inr (slot_ne (Or.inr (hw _ (List.mem_of_getElem? (i := 61) rfl))) (Or.inr (hw _ (List.mem_of_getElem? (i := 55) rfl))) (by decide) (t := (.object "java/math/BigInteger")) (t' := .boolean) (by decide) (by decide)))
  have f8 := Fld.other W2 F4 (Or.inr (slot_ne (Or.inr (hw _ (List.mem_of_getElem? (i := 63) rfl))) (Or.inr (hw _ (List.mem_of_getElem? (i := 55) rfl))) (by decide) (t := (.object "java/math/BigInteger")) (t' := .boolean) (by decide) (by decide)))
  have f9 := Fld.other W2 F5 (Or.inr (slot_ne (Or.inr (hw _ (List.mem_of_getElem? (i := 65) rfl))) (Or.inr (hw _ (List.mem_of_getElem? (i := 55) rfl))) (by decide) (t := .boolean) (t' := .boolean) (by decide) (by decide)))
  refine g_aloadN C dA_9 rfl rfl ?_
  refine g_iloadN C dA_10 rfl ?_
  have f10 := (E.keep K3)
  refine g_putfield (host := "") C dA_11 (Or.inl (hw _ (List.mem_of_getElem? (i := 56) rfl))) Via.refl f5 f10 (Or.inr ⟨(hw _ (List.mem_of_getElem? (i := 57) rfl)), rfl, rfl⟩) (hw _ (List.mem_of_getElem? (i := 49) rfl)) (ty := .boolean) (by decide) rfl rfl (List.mem_of_getElem? (i := 0) rfl) (fun h11 W12 K13 => ?_)
  have f14 := Fld.same W12 f5
  have f15 := Fld.other W12 f4 (Or.inr (slot_ne (Or.inr (hw _ (List.mem_of_getElem? (i := 55) rfl))) (Or.inr (hw _ (List.mem_of_getElem? (i := 57) rfl))) (by decide) (t := .boolean) (t' := .boolean) (by decide) (by decide)))
  have f16 := Fld.other W12 f6 (Or.inr (slot_ne (Or.inr (hw _ (List.mem_of_getElem? (i := 59) rfl))) (Or.inr (hw _ (List.mem_of_getElem? (i := 57) rfl))) (by decide) (t := .boolean) (t' := .boolean) (by decide) (by decide)))
  have f17 := Fld.other W12 f7 (Or.inr (slot_ne (Or.inr (hw _ (List.mem_of_getElem? (i := 61) rfl))) (Or.inr (hw _ (List.mem_of_getElem? (i := 57) rfl))) (by decide) (t := (.object "java/math/BigInteger")) (t' := .boolean) (by decide) (by decide)))
  have f18 := Fld.other W12 f8 (Or.inr (slot_ne (Or.inr (hw _ (List.mem_of_getElem? (i := 63) rfl))) (Or.inr (hw _ (List.mem_of_getElem? (i := 57) rfl))) (by decide) (t := (.object "java/math/BigInteger")) (t' := .boolean) (by decide) (by decide)))
  have f19 := Fld.other W12 f9 (Or.inr (slot_ne (Or.inr (hw _ (List.mem_of_getElem? (i := 65) rfl))) (Or.inr (hw _ (List.mem_of_getElem? (i := 57) rfl))) (by decide) (t := .boolean) (t' := .boolean) (by decide) (by decide)))
  refine g_aloadN C dA_14 rfl rfl ?_
  refine g_iloadN C dA_15 rfl ?_
  have f20 := (f10.keep K13)
  refine g_putfield (host := "") C dA_16 (Or.inl (hw _ (List.mem_of_getElem? (i := 58) rfl))) Via.refl f16 f20 (Or.inr ⟨(hw _ (List.mem_of_getElem? (i := 59) rfl)), rfl, rfl⟩) (hw _ (List.mem_of_getElem? (i := 49) rfl)) (ty := .boolean) (by decide) rfl rfl (List.mem_of_getElem? (i := 0) rfl) (fun h21 W22 K23 => ?_)
  have f24 := Fld.same W22 f16
  have f25 := Fld.other W22 f15 (Or.inr (slot_ne (Or.inr (hw _ (List.mem_of_getElem? (i := 55) rfl))) (Or.inr (hw _ (List.mem_of_getElem? (i := 59) rfl))) (by decide) (t := .boolean) (t' := .boolean) (by decide) (by decide)))
  have f26 := Fld.other W22 f14 (Or.inr (slot_ne (Or.inr (hw _ (List.mem_of_getElem? (i := 57) rfl))) (Or.inr (hw _ (List.mem_of_getElem? (i := 59) rfl))) (by decide) (t := .boolean) (t' := .boolean) (by decide) (by decide)))
  have f27 := Fld.other W22 f17 (Or.inr (slot_ne (Or.inr (hw _ (List.mem_of_getElem? (i := 61) rfl))) (Or.inr (hw _ (List.mem_of_getElem? (i := 59) rfl))) (by decide) (t := (.object "java/math/BigInteger")) (t' := .boolean) (by decide) (by decide)))
  have f28 := Fld.other W22 f18 (Or.inr (slot_ne (Or.inr (hw _ (List.mem_of_getElem? (i := 63) rfl))) (Or.inr (hw _ (List.mem_of_getElem? (i := 59) rfl))) (by decide) (t := (.object "java/math/BigInteger")) (t' := .boolean) (by decide) (by decide)))
  have f29 := Fld.other W22 f19 (Or.inr (slot_ne (Or.inr (hw _ (List.mem_of_getElem? (i := 65) rfl))) (Or.inr (hw _ (List.mem_of_getElem? (i := 59) rfl))) (by decide) (t := .boolean) (t' := .boolean) (by decide) (by decide)))
  refine g_aloadN C dA_19 rfl rfl ?_
  refine g_aload C dA_20 rfl rfl ?_
  have f30 := (f20.keep K23)
  refine g_putfield (host := "") C dA_22 (Or.inl (hw _ (List.mem_of_getElem? (i := 60) rfl))) Via.refl f27 f30 (Or.inr ⟨(hw _ (List.mem_of_getElem? (i := 61) rfl)), rfl, rfl⟩) (hw _ (List.mem_of_getElem? (i := 49) rfl)) (ty := (.object "java/math/BigInteger")) (by decide) rfl rfl (List.mem_of_getElem? (i := 0) rfl) (fun h31 W32 K33 => ?_)
  have f34 := Fld.same W32 f27
  have f35 := Fld.other W32 f25 (Or.inr (slot_ne (Or.inr (hw _ (List.mem_of_getElem? (i := 55) rfl))) (Or.inr (hw _ (List.mem_of_getElem? (i := 61) rfl))) (by decide) (t := .boolean) (t' := (.object "java/math/BigInteger")) (by decide) (by decide)))
  have f36 := Fld.other W32 f26 (Or.inr (slot_ne (Or.inr (hw _ (List.mem_of_getElem? (i := 57) rfl))) (Or.inr (hw _ (List.mem_of_getElem? (i := 61) rfl))) (by decide) (t := .boolean) (t' := (.object "java/math/BigInteger")) (by decide) (by decide)))
  have f37 := Fld.other W32 f24 (Or.inr (slot_ne (Or.inr (hw _ (List.mem_of_getElem? (i := 59) rfl))) (Or.inr (hw _ (List.mem_of_getElem? (i := 61) rfl))) (by decide) (t := .boolean) (t' := (.object "java/math/BigInteger")) (by decide) (by decide)))
  have f38 := Fld.other W32 f28 (Or.inr (slot_ne (Or.inr (hw _ (List.mem_of_getElem? (i := 63) rfl))) (Or.inr (hw _ (List.mem_of_getElem? (i := 61) rfl))) (by decide) (t := (.object "java/math/BigInteger")) (t' := (.object "java/math/BigInteger")) (by decide) (by decide)))
  have f39 := Fld.other W32 f29 (Or.inr (slot_ne (Or.inr (hw _ (List.mem_of_getElem? (i := 65) rfl))) (Or.inr (hw _ (List.mem_of_getElem? (i := 61) rfl))) (by decide) (t := .boolean) (t' := (.object "java/math/BigInteger")) (by decide) (by decide)))
  refine g_aloadN C dA_25 rfl rfl ?_
  refine g_aload C dA_26 rfl rfl ?_
  have f40 := (f30.keep K33)
  refine g_putfield (host := "") C dA_28 (Or.inl (hw _ (List.mem_of_getElem? (i := 62) rfl))) Via.refl f38 f40 (Or.inr ⟨(hw _ (List.mem_of_getElem? (i := 63) rfl)), rfl, rfl⟩) (hw _ (List.mem_of_getElem? (i := 49) rfl)) (ty := (.object "java/math/BigInteger")) (by decide) rfl rfl (List.mem_of_getElem? (i := 0) rfl) (fun h41 W42 K43 => ?_)
  have f44 := Fld.same W42 f38
  have f45 := Fld.other W42 f35 (Or.inr (slot_ne (Or.inr (hw _ (List.mem_of_getElem? (i := 55) rfl))) (Or.inr (hw _ (List.mem_of_getElem? (i := 63) rfl))) (by decide) (t := .boolean) (t' := (.object "java/math/BigInteger")) (by decide) (by decide)))
  have f46 := Fld.other W42 f36 (Or.inr (slot_ne (Or.inr (hw _ (List.mem_of_getElem? (i := 57) rfl))) (Or.inr (hw _ (List.mem_of_getElem? (i := 63) rfl))) (by decide) (t := .boolean) (t' := (.object "java/math/BigInteger")) (by decide) (by decide)))
  have f47 := Fld.other W42 f37 (Or.inr (slot_ne (Or.inr (hw _ (List.mem_of_getElem? (i := 59) rfl))) (Or.inr (hw _ (List.mem_of_getElem? (i := 63) rfl))) (by decide) (t := .boolean) (t' := (.object "java/math/BigInteger")) (by decide) (by decide)))
  have f48 := Fld.other W42 f34 (Or.inr (slot_ne (Or.inr (hw _ (List.mem_of_getElem? (i := 61) rfl))) (Or.inr (hw _ (List.mem_of_getElem? (i := 63) rfl))) (by decide) (t := (.object "java/math/BigInteger")) (t' := (.object "java/math/BigInteger")) (by decide) (by decide)))
  have f49 := Fld.other W42 f39 (Or.inr (slot_ne (Or.inr (hw _ (List.mem_of_getElem? (i := 65) rfl))) (Or.inr (hw _ (List.mem_of_getElem? (i := 63) rfl))) (by decide) (t := .boolean) (t' := (.object "java/math/BigInteger")) (by decide) (by decide)))
  refine g_aloadN C dA_31 rfl rfl ?_
  refine g_iload C dA_32 rfl ?_
  have f50 := (f40.keep K43)
  refine g_putfield (host := "") C dA_34 (Or.inl (hw _ (List.mem_of_getElem? (i := 64) rfl))) Via.refl f49 f50 (Or.inr ⟨(hw _ (List.mem_of_getElem? (i := 65) rfl)), rfl, rfl⟩) (hw _ (List.mem_of_getElem? (i := 49) rfl)) (ty := .boolean) (by decide) rfl rfl (List.mem_of_getElem? (i := 0) rfl) (fun h51 W52 K53 => ?_)
  have f54 := Fld.same W52 f49
  have f55 := Fld.other W52 f45 (Or.inr (slot_ne (Or.inr (hw _ (List.mem_of_getElem? (i := 55) rfl))) (Or.inr (hw _ (List.mem_of_getElem? (i := 65) rfl))) (by decide) (t := .boolean) (t' := .boolean) (by decide) (by decide)))
  have f56 := Fld.other W52 f46 (Or.inr (slot_ne (Or.inr (hw _ (List.mem_of_getElem? (i := 57) rfl))) (Or.inr (hw _ (List.mem_of_getElem? (i := 65) rfl))) (by decide) (t := .boolean) (t' := .boolean) (by decide) (by decide)))
  have f57 := Fld.other W52 f47 (Or.inr (slot_ne (Or.inr (hw _ (List.mem_of_getElem? (i := 59) rfl))) (Or.inr (hw _ (List.mem_of_getElem? (i := 65) rfl))) (by decide) (t := .boolean) (t' := .boolean) (by decide) (by decide)))
  have f58 := Fld.other W52 f48 (Or.inr (slot_ne (Or.inr (hw _ (List.mem_of_getElem? (i := 61) rfl))) (Or.inr (hw _ (List.mem_of_getElem? (i := 65) rfl))) (by decide) (t := (.object "java/math/BigInteger")) (t' := .boolean) (by decide) (by decide)))
  have f59 := Fld.other W52 f44 (Or.inr (slot_ne (Or.inr (hw _ (List.mem_of_getElem? (i := 63) rfl))) (Or.inr (hw _ (List.mem_of_getElem? (i := 65) rfl))) (by decide) (t := (.object "java/math/BigInteger")) (t' := .boolean) (by decide) (by decide)))
  have f60 := (f50.keep K53)
  exact g_retU C dA_37 ⟨rfl, f60, f55, f56, f57, f58, f59, f54⟩ (by decide) (by decide)
theorem dB_0 : decode prog_103_method_3_code 0 = .ok (.new 8, 3) := by decide +kernel
theorem dB_3 : decode prog_103_method_3_code 3 = .ok (.dup, 1) := by decide +kernel
theorem dB_4 : decode prog_103_method_3_code 4 = .ok (.iconst 1, 1) := by decide +kernel
theorem dB_5 : decode prog_103_method_3_code 5 = .ok (.iload_n 0, 1) := by decide +kernel
theorem dB_6 : decode prog_103_method_3_code 6 = .ok (.iconst 0, 1) := by decide +kernel
theorem dB_7 : decode prog_103_method_3_code 7 = .ok (.aconst_null, 1) := by decide +kernel
theorem dB_8 : decode prog_103_method_3_code 8 = .ok (.aconst_null, 1) := by decide +kernel
theorem dB_9 : decode prog_103_method_3_code 9 = .ok (.iconst 0, 1) := by decide +kernel
theorem dB_10 : decode prog_103_method_3_code 10 = .ok (.invokespecial 33, 3) := by decide +kernel
theorem dB_13 : decode prog_103_method_3_code 13 = .ok (.areturn, 1) := by decide +kernel
set_option maxRecDepth 65536 in
set_option maxHeartbeats 80000000 in
theorem m_strings0 (l : Launch) (Z : State) (a0 : Array Value) {z0 : Int32} (hw : ∀ d ∈ tables_1, d.before a0 Z = true) (S0 : Sta Z Z.heap "java/lang/String" "COMPACT_STRINGS" "Z" (.int z0)) (hz0 : ¬ z0 = 0) (h : Heap) :
    MetW true l Z [("com/example/entail/entail/model/DataRangeStringsPinLaw", 22)] (⟨"com/example/entail/entail/model/DataRange", "strings", "(Z)Lcom/example/entail/entail/model/DataRange;"⟩ : MethodName) prog_103_method_3_code 1 (Option.some (Jvm.ClassFile.FieldType.object "com/example/entail/entail/model/DataRange")) [] ({ frames := 2, cells := 1, slots := 6, locals := 31 } : Room) #[(.int (0 : Int32))] [] h (fun v h' => ∃ a : Addr, v = some (.ref a) ∧ h.size ≤ a ∧ Exa Z h' a "com/example/entail/entail/model/DataRange" ∧ Fld Z h' a "com/example/entail/entail/model/DataRange" "untagged" "Z" (.int (1 : Int32)) ∧ Fld Z h' a "com/example/entail/entail/model/DataRange" "tagged" "Z" (.int (0 : Int32)) ∧ Fld Z h' a "com/example/entail/entail/model/DataRange" "integers" "Z" (.int (0 : Int32)) ∧ Fld Z h' a "com/example/entail/entail/model/DataRange" "min" "Ljava/math/BigInteger;" .null ∧ Fld Z h' a "com/example/entail/entail/model/DataRange" "max" "Ljava/math/BigInteger;" .null ∧ Fld Z h' a "com/example/entail/entail/model/DataRange" "otherValues" "Z" (.int (0 : Int32))) := by
  refine MetW.of (Ls := #[.val (.int (0 : Int32))]) (a0 := a0) (by first | (simp [plainName, overriddenIn]; done) | decide +kernel) (fun m => by first | (simp [entryFrame, mkF, argsToLocals, Value.category]; done) | rfl) (own_EW hw) (fun q => nomatch q) (fun p_ e_ s_ m_ below_ meth_ c_ hs0 C => ?_)
  refine g_new_ C dB_0 (hw _ (List.mem_of_getElem? (i := 48) rfl)) (hw _ (List.mem_of_getElem? (i := 49) rfl)) (hw _ (List.mem_of_getElem? (i := 46) rfl)) (by decide) (by decide) (fun a1 h2 e3 E4 l5 f6 D7 => ?_)
  have K8 := keep_ext E4
  have f9 : Fld Z h2 a1 "com/example/entail/entail/model/DataRange" "untagged" "Z" (.int (0 : Int32)) := D7 (Or.inr (hw _ (List.mem_of_getElem? (i := 55) rfl))) (ty := .boolean) (by decide)
  have f10 : Fld Z h2 a1 "com/example/entail/entail/model/DataRange" "tagged" "Z" (.int (0 : Int32)) := D7 (Or.inr (hw _ (List.mem_of_getElem? (i := 57) rfl))) (ty := .boolean) (by decide)
  have f11 : Fld Z h2 a1 "com/example/entail/entail/model/DataRange" "integers" "Z" (.int (0 : Int32)) := D7 (Or.inr (hw _ (List.mem_of_getElem? (i := 59) rfl))) (ty := .boolean) (by decide)
  have f12 : Fld Z h2 a1 "com/example/entail/entail/model/DataRange" "min" "Ljava/math/BigInteger;" .null := D7 (Or.inr (hw _ (List.mem_of_getElem? (i := 61) rfl))) (ty := (.object "java/math/BigInteger")) (by decide)
  have f13 : Fld Z h2 a1 "com/example/entail/entail/model/DataRange" "max" "Ljava/math/BigInteger;" .null := D7 (Or.inr (hw _ (List.mem_of_getElem? (i := 63) rfl))) (ty := (.object "java/math/BigInteger")) (by decide)
  have f14 : Fld Z h2 a1 "com/example/entail/entail/model/DataRange" "otherValues" "Z" (.int (0 : Int32)) := D7 (Or.inr (hw _ (List.mem_of_getElem? (i := 65) rfl))) (ty := .boolean) (by decide)
  refine g_dup C dB_3 rfl ?_
  refine g_iconst (1 : Int32) C dB_4 (by decide) ?_
  refine g_iloadN C dB_5 rfl ?_
  refine g_iconst (0 : Int32) C dB_6 (by decide) ?_
  refine g_aconstNull C dB_7 ?_
  refine g_aconstNull C dB_8 ?_
  refine g_iconst (0 : Int32) C dB_9 (by decide) ?_
  refine g_invokespecial [(.int (1 : Int32)), (.int (0 : Int32)), (.int (0 : Int32)), .null, .null, (.int (0 : Int32))] [(.ref a1)] 1 C dB_10 rfl (hw _ (List.mem_of_getElem? (i := 50) rfl)) (hw _ (List.mem_of_getElem? (i := 51) rfl)) (hw _ (List.mem_of_getElem? (i := 46) rfl)) (hw _ (List.mem_of_getElem? (i := 52) rfl)) (by decide) (m_rng100 l Z a0 hw S0 hz0 a1 _ f6 f9 f10 f11 f12 f13 f14) (lenOf pd3 rfl) rfl rfl (Nat.le_of_ble_eq_true rfl) (by decide) (by decide) (by decide) (by decide) (allS (List.mem_of_getElem? (i := 0) rfl) all0) (fun v22 h23 L24 q25 K26 => ?_)
  obtain ⟨rfl, f15, f16, f17, f18, f19, f20, f21⟩ := q25
  show Go _ _ _ _ _ _ _ _ _ _ _ _ _ _ _ _ _ _ _ _ _ _ (mkF _ 13 #[.val (.int (0 : Int32))] [(.ref a1)])
  exact g_retA C dB_13 rfl rfl ⟨a1, rfl, Nat.le_trans (Nat.le_refl _) (Nat.le_of_eq e3.symm), f15, f16, f17, f18, f19, f20, f21⟩ (by decide) (by decide)
set_option maxRecDepth 65536 in
set_option maxHeartbeats 80000000 in
theorem m_strings1 (l : Launch) (Z : State) (a0 : Array Value) {z0 : Int32} (hw : ∀ d ∈ tables_1, d.before a0 Z = true) (S0 : Sta Z Z.heap "java/lang/String" "COMPACT_STRINGS" "Z" (.int z0)) (hz0 : ¬ z0 = 0) (h : Heap) :
    MetW true l Z [("com/example/entail/entail/model/DataRangeStringsPinLaw", 22)] (⟨"com/example/entail/entail/model/DataRange", "strings", "(Z)Lcom/example/entail/entail/model/DataRange;"⟩ : MethodName) prog_103_method_3_code 1 (Option.some (Jvm.ClassFile.FieldType.object "com/example/entail/entail/model/DataRange")) [] ({ frames := 2, cells := 1, slots := 6, locals := 31 } : Room) #[(.int (1 : Int32))] [] h (fun v h' => ∃ a : Addr, v = some (.ref a) ∧ h.size ≤ a ∧ Exa Z h' a "com/example/entail/entail/model/DataRange" ∧ Fld Z h' a "com/example/entail/entail/model/DataRange" "untagged" "Z" (.int (1 : Int32)) ∧ Fld Z h' a "com/example/entail/entail/model/DataRange" "tagged" "Z" (.int (1 : Int32)) ∧ Fld Z h' a "com/example/entail/entail/model/DataRange" "integers" "Z" (.int (0 : Int32)) ∧ Fld Z h' a "com/example/entail/entail/model/DataRange" "min" "Ljava/math/BigInteger;" .null ∧ Fld Z h' a "com/example/entail/entail/model/DataRange" "max" "Ljava/math/BigInteger;" .null ∧ Fld Z h' a "com/example/entail/entail/model/DataRange" "otherValues" "Z" (.int (0 : Int32))) := by
  refine MetW.of (Ls := #[.val (.int (1 : Int32))]) (a0 := a0) (by first | (simp [plainName, overriddenIn]; done) | decide +kernel) (fun m => by first | (simp [entryFrame, mkF, argsToLocals, Value.category]; done) | rfl) (own_EW hw) (fun q => nomatch q) (fun p_ e_ s_ m_ below_ meth_ c_ hs0 C => ?_)
  refine g_new_ C dB_0 (hw _ (List.mem_of_getElem? (i := 48) rfl)) (hw _ (List.mem_of_getElem? (i := 49) rfl)) (hw _ (List.mem_of_getElem? (i := 46) rfl)) (by decide) (by decide) (fun a1 h2 e3 E4 l5 f6 D7 => ?_)
  have K8 := keep_ext E4
  have f9 : Fld Z h2 a1 "com/example/entail/entail/model/DataRange" "untagged" "Z" (.int (0 : Int32)) := D7 (Or.inr (hw _ (List.mem_of_getElem? (i := 55) rfl))) (ty := .boolean) (by decide)
  have f10 : Fld Z h2 a1 "com/example/entail/entail/model/DataRange" "tagged" "Z" (.int (0 : Int32)) := D7 (Or.inr (hw _ (List.mem_of_getElem? (i := 57) rfl))) (ty := .boolean) (by decide)
  have f11 : Fld Z h2 a1 "com/example/entail/entail/model/DataRange" "integers" "Z" (.int (0 : Int32)) := D7 (Or.inr (hw _ (List.mem_of_getElem? (i := 59) rfl))) (ty := .boolean) (by decide)
  have f12 : Fld Z h2 a1 "com/example/entail/entail/model/DataRange" "min" "Ljava/math/BigInteger;" .null := D7 (Or.inr (hw _ (List.mem_of_getElem? (i := 61) rfl))) (ty := (.object "java/math/BigInteger")) (by decide)
  have f13 : Fld Z h2 a1 "com/example/entail/entail/model/DataRange" "max" "Ljava/math/BigInteger;" .null := D7 (Or.inr (hw _ (List.mem_of_getElem? (i := 63) rfl))) (ty := (.object "java/math/BigInteger")) (by decide)
  have f14 : Fld Z h2 a1 "com/example/entail/entail/model/DataRange" "otherValues" "Z" (.int (0 : Int32)) := D7 (Or.inr (hw _ (List.mem_of_getElem? (i := 65) rfl))) (ty := .boolean) (by decide)
  refine g_dup C dB_3 rfl ?_
  refine g_iconst (1 : Int32) C dB_4 (by decide) ?_
  refine g_iloadN C dB_5 rfl ?_
  refine g_iconst (0 : Int32) C dB_6 (by decide) ?_
  refine g_aconstNull C dB_7 ?_
  refine g_aconstNull C dB_8 ?_
  refine g_iconst (0 : Int32) C dB_9 (by decide) ?_
  refine g_invokespecial [(.int (1 : Int32)), (.int (1 : Int32)), (.int (0 : Int32)), .null, .null, (.int (0 : Int32))] [(.ref a1)] 1 C dB_10 rfl (hw _ (List.mem_of_getElem? (i := 50) rfl)) (hw _ (List.mem_of_getElem? (i := 51) rfl)) (hw _ (List.mem_of_getElem? (i := 46) rfl)) (hw _ (List.mem_of_getElem? (i := 52) rfl)) (by decide) (m_rng110 l Z a0 hw S0 hz0 a1 _ f6 f9 f10 f11 f12 f13 f14) (lenOf pd3 rfl) rfl rfl (Nat.le_of_ble_eq_true rfl) (by decide) (by decide) (by decide) (by decide) (allS (List.mem_of_getElem? (i := 0) rfl) all0) (fun v22 h23 L24 q25 K26 => ?_)
  obtain ⟨rfl, f15, f16, f17, f18, f19, f20, f21⟩ := q25
  show Go _ _ _ _ _ _ _ _ _ _ _ _ _ _ _ _ _ _ _ _ _ _ (mkF _ 13 #[.val (.int (1 : Int32))] [(.ref a1)])
  exact g_retA C dB_13 rfl rfl ⟨a1, rfl, Nat.le_trans (Nat.le_refl _) (Nat.le_of_eq e3.symm), f15, f16, f17, f18, f19, f20, f21⟩ (by decide) (by decide)
theorem dC_0 : decode prog_103_method_4_code 0 = .ok (.new 8, 3) := by decide +kernel
theorem dC_3 : decode prog_103_method_4_code 3 = .ok (.dup, 1) := by decide +kernel
theorem dC_4 : decode prog_103_method_4_code 4 = .ok (.iconst 0, 1) := by decide +kernel
theorem dC_5 : decode prog_103_method_4_code 5 = .ok (.iconst 0, 1) := by decide +kernel
theorem dC_6 : decode prog_103_method_4_code 6 = .ok (.iconst 1, 1) := by decide +kernel
theorem dC_7 : decode prog_103_method_4_code 7 = .ok (.aload_n 0, 1) := by decide +kernel
theorem dC_8 : decode prog_103_method_4_code 8 = .ok (.aload_n 1, 1) := by decide +kernel
theorem dC_9 : decode prog_103_method_4_code 9 = .ok (.iconst 0, 1) := by decide +kernel
theorem dC_10 : decode prog_103_method_4_code 10 = .ok (.invokespecial 33, 3) := by decide +kernel
theorem dC_13 : decode prog_103_method_4_code 13 = .ok (.areturn, 1) := by decide +kernel
set_option maxRecDepth 65536 in
set_option maxHeartbeats 80000000 in
theorem m_integers (l : Launch) (Z : State) (a0 : Array Value) {z0 : Int32} (hw : ∀ d ∈ tables_1, d.before a0 Z = true) (S0 : Sta Z Z.heap "java/lang/String" "COMPACT_STRINGS" "Z" (.int z0)) (hz0 : ¬ z0 = 0) (h : Heap) :
    MetW true l Z [("com/example/entail/entail/model/DataRangeStringsPinLaw", 22)] (⟨"com/example/entail/entail/model/DataRange", "integers", "(Ljava/math/BigInteger;Ljava/math/BigInteger;)Lcom/example/entail/entail/model/DataRange;"⟩ : MethodName) prog_103_method_4_code 2 (Option.some (Jvm.ClassFile.FieldType.object "com/example/entail/entail/model/DataRange")) [] ({ frames := 2, cells := 1, slots := 6, locals := 31 } : Room) #[.null, .null] [] h (fun v h' => ∃ a : Addr, v = some (.ref a) ∧ h.size ≤ a ∧ Exa Z h' a "com/example/entail/entail/model/DataRange" ∧ Fld Z h' a "com/example/entail/entail/model/DataRange" "untagged" "Z" (.int (0 : Int32)) ∧ Fld Z h' a "com/example/entail/entail/model/DataRange" "tagged" "Z" (.int (0 : Int32)) ∧ Fld Z h' a "com/example/entail/entail/model/DataRange" "integers" "Z" (.int (1 : Int32)) ∧ Fld Z h' a "com/example/entail/entail/model/DataRange" "min" "Ljava/math/BigInteger;" .null ∧ Fld Z h' a "com/example/entail/entail/model/DataRange" "max" "Ljava/math/BigInteger;" .null ∧ Fld Z h' a "com/example/entail/entail/model/DataRange" "otherValues" "Z" (.int (0 : Int32))) := by
  refine MetW.of (Ls := #[.val .null, .val .null]) (a0 := a0) (by first | (simp [plainName, overriddenIn]; done) | decide +kernel) (fun m => by first | (simp [entryFrame, mkF, argsToLocals, Value.category]; done) | rfl) (own_EW hw) (fun q => nomatch q) (fun p_ e_ s_ m_ below_ meth_ c_ hs0 C => ?_)
  refine g_new_ C dC_0 (hw _ (List.mem_of_getElem? (i := 48) rfl)) (hw _ (List.mem_of_getElem? (i := 49) rfl)) (hw _ (List.mem_of_getElem? (i := 46) rfl)) (by decide) (by decide) (fun a1 h2 e3 E4 l5 f6 D7 => ?_)
  have K8 := keep_ext E4
  have f9 : Fld Z h2 a1 "com/example/entail/entail/model/DataRange" "untagged" "Z" (.int (0 : Int32)) := D7 (Or.inr (hw _ (List.mem_of_getElem? (i := 55) rfl))) (ty := .boolean) (by decide)
  have f10 : Fld Z h2 a1 "com/example/entail/entail/model/DataRange" "tagged" "Z" (.int (0 : Int32)) := D7 (Or.inr (hw _ (List.mem_of_getElem? (i := 57) rfl))) (ty := .boolean) (by decide)
  have f11 : Fld Z h2 a1 "com/example/entail/entail/model/DataRange" "integers" "Z" (.int (0 : Int32)) := D7 (Or.inr (hw _ (List.mem_of_getElem? (i := 59) rfl))) (ty := .boolean) (by decide)
  have f12 : Fld Z h2 a1 "com/example/entail/entail/model/DataRange" "min" "Ljava/math/BigInteger;" .null := D7 (Or.inr (hw _ (List.mem_of_getElem? (i := 61) rfl))) (ty := (.object "java/math/BigInteger")) (by decide)
  have f13 : Fld Z h2 a1 "com/example/entail/entail/model/DataRange" "max" "Ljava/math/BigInteger;" .null := D7 (Or.inr (hw _ (List.mem_of_getElem? (i := 63) rfl))) (ty := (.object "java/math/BigInteger")) (by decide)
  have f14 : Fld Z h2 a1 "com/example/entail/entail/model/DataRange" "otherValues" "Z" (.int (0 : Int32)) := D7 (Or.inr (hw _ (List.mem_of_getElem? (i := 65) rfl))) (ty := .boolean) (by decide)
  refine g_dup C dC_3 rfl ?_
  refine g_iconst (0 : Int32) C dC_4 (by decide) ?_
  refine g_iconst (0 : Int32) C dC_5 (by decide) ?_
  refine g_iconst (1 : Int32) C dC_6 (by decide) ?_
  refine g_aloadN C dC_7 rfl rfl ?_
  refine g_aloadN C dC_8 rfl rfl ?_
  refine g_iconst (0 : Int32) C dC_9 (by decide) ?_
  refine g_invokespecial [(.int (0 : Int32)), (.int (0 : Int32)), (.int (1 : Int32)), .null, .null, (.int (0 : Int32))] [(.ref a1)] 1 C dC_10 rfl (hw _ (List.mem_of_getElem? (i := 50) rfl)) (hw _ (List.mem_of_getElem? (i := 51) rfl)) (hw _ (List.mem_of_getElem? (i := 46) rfl)) (hw _ (List.mem_of_getElem? (i := 52) rfl)) (by decide) (m_rng001 l Z a0 hw S0 hz0 a1 _ f6 f9 f10 f11 f12 f13 f14) (lenOf pd3 rfl) rfl rfl (Nat.le_of_ble_eq_true rfl) (by decide) (by decide) (by decide) (by decide) (allS (List.mem_of_getElem? (i := 0) rfl) all0) (fun v22 h23 L24 q25 K26 => ?_)
  obtain ⟨rfl, f15, f16, f17, f18, f19, f20, f21⟩ := q25
  show Go _ _ _ _ _ _ _ _ _ _ _ _ _ _ _ _ _ _ _ _ _ _ (mkF _ 13 #[.val .null, .val .null] [(.ref a1)])
  exact g_retA C dC_13 rfl rfl ⟨a1, rfl, Nat.le_trans (Nat.le_refl _) (Nat.le_of_eq e3.symm), f15, f16, f17, f18, f19, f20, f21⟩ (by decide) (by decide)
theorem dD_0 : decode prog_105_method_1_code 0 = .ok (.aload_n 0, 1) := by decide +kernel
theorem dD_1 : decode prog_105_method_1_code 1 = .ok (.invokespecial 1, 3) := by decide +kernel
theorem dD_4 : decode prog_105_method_1_code 4 = .ok (.aload_n 0, 1) := by decide +kernel
theorem dD_5 : decode prog_105_method_1_code 5 = .ok (.aload_n 1, 1) := by decide +kernel
theorem dD_6 : decode prog_105_method_1_code 6 = .ok (.putfield 7, 3) := by decide +kernel
theorem dD_9 : decode prog_105_method_1_code 9 = .ok (.aload_n 0, 1) := by decide +kernel
theorem dD_10 : decode prog_105_method_1_code 10 = .ok (.aload_n 2, 1) := by decide +kernel
theorem dD_11 : decode prog_105_method_1_code 11 = .ok (.putfield 13, 3) := by decide +kernel
theorem dD_14 : decode prog_105_method_1_code 14 = .ok (.aload_n 0, 1) := by decide +kernel
theorem dD_15 : decode prog_105_method_1_code 15 = .ok (.aload_n 3, 1) := by decide +kernel
theorem dD_16 : decode prog_105_method_1_code 16 = .ok (.putfield 16, 3) := by decide +kernel
theorem dD_19 : decode prog_105_method_1_code 19 = .ok (.return_, 1) := by decide +kernel
set_option maxRecDepth 65536 in
set_option maxHeartbeats 80000000 in
theorem m_dv (l : Launch) (Z : State) (a0 : Array Value) {z0 : Int32} (hw : ∀ d ∈ tables_1, d.before a0 Z = true) (S0 : Sta Z Z.heap "java/lang/String" "COMPACT_STRINGS" "Z" (.int z0)) (hz0 : ¬ z0 = 0) (a x n : Addr) (h : Heap) (E : Exa Z h a "com/example/entail/entail/model/DataValue") (F0 : Fld Z h a "com/example/entail/entail/model/DataValue" "text" "Ljava/lang/String;" .null) (F1 : Fld Z h a "com/example/entail/entail/model/DataValue" "language" "Ljava/lang/String;" .null) (F2 : Fld Z h a "com/example/entail/entail/model/DataValue" "integer" "Ljava/math/BigInteger;" .null) :
    MetW true l Z [("com/example/entail/entail/model/DataRangeStringsPinLaw", 22)] (⟨"com/example/entail/entail/model/DataValue", "<init>", "(Ljava/lang/String;Ljava/lang/String;Ljava/math/BigInteger;)V"⟩ : MethodName) prog_105_method_1_code 4 none [] ({ frames := 1, cells := 0, slots := 0, locals := 12 } : Room) #[(.ref a), (.ref x), (.ref n), .null] [a] h (fun v h' => v = none ∧ Exa Z h' a "com/example/entail/entail/model/DataValue" ∧ Fld Z h' a "com/example/entail/entail/model/DataValue" "text" "Ljava/lang/String;" (.ref x) ∧ Fld Z h' a "com/example/entail/entail/model/DataValue" "language" "Ljava/lang/String;" (.ref n) ∧ Fld Z h' a "com/example/entail/entail/model/DataValue" "integer" "Ljava/math/BigInteger;" .null) := by
  refine MetW.of (Ls := #[.val (.ref a), .val (.ref x), .val (.ref n), .val .null]) (a0 := a0) (by first | (simp [plainName, overriddenIn]; done) | decide +kernel) (fun m => by first | (simp [entryFrame, mkF, argsToLocals, Value.category]; done) | rfl) (own_EW hw) (fun q => nomatch q) (fun p_ e_ s_ m_ below_ meth_ c_ hs0 C => ?_)
  refine g_aloadN C dD_0 rfl rfl ?_
  refine g_objInit C dD_1 (hw _ (List.mem_of_getElem? (i := 78) rfl)) (hw _ (List.mem_of_getElem? (i := 12) rfl)) (hw _ (List.mem_of_getElem? (i := 13) rfl)) rfl (by decide) (Nat.le_of_ble_eq_true rfl) ?_
  refine g_aloadN C dD_4 rfl rfl ?_
  refine g_aloadN C dD_5 rfl rfl ?_
  refine g_putfield (host := "") C dD_6 (Or.inl (hw _ (List.mem_of_getElem? (i := 79) rfl))) Via.refl F0 E (Or.inr ⟨(hw _ (List.mem_of_getElem? (i := 80) rfl)), rfl, rfl⟩) (hw _ (List.mem_of_getElem? (i := 74) rfl)) (ty := (.object "java/lang/String")) (by decide) rfl rfl (List.mem_of_getElem? (i := 0) rfl) (fun h1 W2 K3 => ?_)
  have f4 := Fld.same W2 F0
  have f5 := Fld.other W2 F1 (Or.inr (slot_ne (Or.inr (hw _ (List.mem_of_getElem? (i := 82) rfl))) (Or.inr (hw _ (List.mem_of_getElem? (i := 80) rfl))) (by decide) (t := (.object "java/lang/String")) (t' := (.object "java/lang/String")) (by decide) (by decide)))
  have f6 := Fld.other W2 F2 (Or.inr (slot_ne (Or.inr (hw _ (List.mem_of_getElem? (i := 84) rfl))) (Or.inr (hw _ (List.mem_of_getElem? (i := 80) rfl))) (by decide) (t := (.object "java/math/BigInteger")) (t' := (.object "java/lang/String")) (by decide) (by decide)))
  refine g_aloadN C dD_9 rfl rfl ?_
  refine g_aloadN C dD_10 rfl rfl ?_
  have f7 := (E.keep K3)
  refine g_putfield (host := "") C dD_11 (Or.inl (hw _ (List.mem_of_getElem? (i := 81) rfl))) Via.refl f5 f7 (Or.inr ⟨(hw _ (List.mem_of_getElem? (i := 82) rfl)), rfl, rfl⟩) (hw _ (List.mem_of_getElem? (i := 74) rfl)) (ty := (.object "java/lang/String")) (by decide) rfl rfl (List.mem_of_getElem? (i := 0) rfl) (fun h8 W9 K10 => ?_)
  have f11 := Fld.same W9 f5
  have f12 := Fld.other W9 f4 (Or.inr (slot_ne (Or.inr (hw _ (List.mem_of_getElem? (i := 80) rfl))) (Or.inr (hw _ (List.mem_of_getElem? (i := 82) rfl))) (by decide) (t := (.object "java/lang/String")) (t' := (.object "java/lang/String")) (by decide) (by decide)))
  have f13 := Fld.other W9 f6 (Or.inr (slot_ne (Or.inr (hw _ (List.mem_of_getElem? (i := 84) rfl))) (Or.inr (hw _ (List.mem_of_getElem? (i := 82) rfl))) (by decide) (t := (.object "java/math/BigInteger")) (t' := (.object "java/lang/String")) (by decide) (by decide)))
  refine g_aloadN C dD_14 rfl rfl ?_
  refine g_aloadN C dD_15 rfl rfl ?_
  have f14 := (f7.keep K10)
  refine g_putfield (host := "") C dD_16 (Or.inl (hw _ (List.mem_of_getElem? (i := 83) rfl))) Via.refl f13 f14 (Or.inr ⟨(hw _ (List.mem_of_getElem? (i := 84) rfl)), rfl, rfl⟩) (hw _ (List.mem_of_getElem? (i := 74) rfl)) (ty := (.object "java/math/BigInteger")) (by decide) rfl rfl (List.mem_of_getElem? (i := 0) rfl) (fun h15 W16 K17 => ?_)
  have f18 := Fld.same W16 f13
  have f19 := Fld.other W16 f12 (Or.inr (slot_ne (Or.inr (hw _ (List.mem_of_getElem? (i := 80) rfl))) (Or.inr (hw _ (List.mem_of_getElem? (i := 84) rfl))) (by decide) (t := (.object "java/lang/String")) (t' := (.object "java/math/BigInteger")) (by decide) (by decide)))
  have f20 := Fld.other W16 f11 (Or.inr (slot_ne (Or.inr (hw _ (List.mem_of_getElem? (i := 82) rfl))) (Or.inr (hw _ (List.mem_of_getElem? (i := 84) rfl))) (by decide) (t := (.object "java/lang/String")) (t' := (.object "java/math/BigInteger")) (by decide) (by decide)))
  have f21 := (f14.keep K17)
  exact g_retU C dD_19 ⟨rfl, f21, f19, f20, f18⟩ (by decide) (by decide)
theorem dE_0 : decode prog_105_method_2_code 0 = .ok (.new 8, 3) := by decide +kernel
theorem dE_3 : decode prog_105_method_2_code 3 = .ok (.dup, 1) := by decide +kernel
theorem dE_4 : decode prog_105_method_2_code 4 = .ok (.aload_n 0, 1) := by decide +kernel
theorem dE_5 : decode prog_105_method_2_code 5 = .ok (.aload_n 1, 1) := by decide +kernel
theorem dE_6 : decode prog_105_method_2_code 6 = .ok (.aconst_null, 1) := by decide +kernel
theorem dE_7 : decode prog_105_method_2_code 7 = .ok (.invokespecial 20, 3) := by decide +kernel
theorem dE_10 : decode prog_105_method_2_code 10 = .ok (.areturn, 1) := by decide +kernel
set_option maxRecDepth 65536 in
set_option maxHeartbeats 80000000 in
theorem m_string (l : Launch) (Z : State) (a0 : Array Value) {z0 : Int32} (hw : ∀ d ∈ tables_1, d.before a0 Z = true) (S0 : Sta Z Z.heap "java/lang/String" "COMPACT_STRINGS" "Z" (.int z0)) (hz0 : ¬ z0 = 0) (x n : Addr) (h : Heap) :
    MetW true l Z [("com/example/entail/entail/model/DataRangeStringsPinLaw", 22)] (⟨"com/example/entail/entail/model/DataValue", "string", "(Ljava/lang/String;Ljava/lang/String;)Lcom/example/entail/entail/model/DataValue;"⟩ : MethodName) prog_105_method_2_code 2 (Option.some (Jvm.ClassFile.FieldType.object "com/example/entail/entail/model/DataValue")) [] ({ frames := 2, cells := 1, slots := 3, locals := 28 } : Room) #[(.ref x), (.ref n)] [] h (fun v h' => ∃ a : Addr, v = some (.ref a) ∧ h.size ≤ a ∧ Exa Z h' a "com/example/entail/entail/model/DataValue" ∧ Fld Z h' a "com/example/entail/entail/model/DataValue" "text" "Ljava/lang/String;" (.ref x) ∧ Fld Z h' a "com/example/entail/entail/model/DataValue" "language" "Ljava/lang/String;" (.ref n) ∧ Fld Z h' a "com/example/entail/entail/model/DataValue" "integer" "Ljava/math/BigInteger;" .null) := by
  refine MetW.of (Ls := #[.val (.ref x), .val (.ref n)]) (a0 := a0) (by first | (simp [plainName, overriddenIn]; done) | decide +kernel) (fun m => by first | (simp [entryFrame, mkF, argsToLocals, Value.category]; done) | rfl) (own_EW hw) (fun q => nomatch q) (fun p_ e_ s_ m_ below_ meth_ c_ hs0 C => ?_)
  refine g_new_ C dE_0 (hw _ (List.mem_of_getElem? (i := 73) rfl)) (hw _ (List.mem_of_getElem? (i := 74) rfl)) (hw _ (List.mem_of_getElem? (i := 71) rfl)) (by decide) (by decide) (fun a1 h2 e3 E4 l5 f6 D7 => ?_)
  have K8 := keep_ext E4
  have f9 : Fld Z h2 a1 "com/example/entail/entail/model/DataValue" "text" "Ljava/lang/String;" .null := D7 (Or.inr (hw _ (List.mem_of_getElem? (i := 80) rfl))) (ty := (.object "java/lang/String")) (by decide)
  have f10 : Fld Z h2 a1 "com/example/entail/entail/model/DataValue" "language" "Ljava/lang/String;" .null := D7 (Or.inr (hw _ (List.mem_of_getElem? (i := 82) rfl))) (ty := (.object "java/lang/String")) (by decide)
  have f11 : Fld Z h2 a1 "com/example/entail/entail/model/DataValue" "integer" "Ljava/math/BigInteger;" .null := D7 (Or.inr (hw _ (List.mem_of_getElem? (i := 84) rfl))) (ty := (.object "java/math/BigInteger")) (by decide)
  refine g_dup C dE_3 rfl ?_
  refine g_aloadN C dE_4 rfl rfl ?_
  refine g_aloadN C dE_5 rfl rfl ?_
  refine g_aconstNull C dE_6 ?_
  refine g_invokespecial [(.ref x), (.ref n), .null] [(.ref a1)] 1 C dE_7 rfl (hw _ (List.mem_of_getElem? (i := 75) rfl)) (hw _ (List.mem_of_getElem? (i := 76) rfl)) (hw _ (List.mem_of_getElem? (i := 71) rfl)) (hw _ (List.mem_of_getElem? (i := 77) rfl)) (by decide) (m_dv l Z a0 hw S0 hz0 a1 x n _ f6 f9 f10 f11) (lenOf pd4 rfl) rfl rfl (Nat.le_of_ble_eq_true rfl) (by decide) (by decide) (by decide) (by decide) (allS (List.mem_of_getElem? (i := 0) rfl) all0) (fun v16 h17 L18 q19 K20 => ?_)
  obtain ⟨rfl, f12, f13, f14, f15⟩ := q19
  show Go _ _ _ _ _ _ _ _ _ _ _ _ _ _ _ _ _ _ _ _ _ _ (mkF _ 10 #[.val (.ref x), .val (.ref n)] [(.ref a1)])
  exact g_retA C dE_10 rfl rfl ⟨a1, rfl, Nat.le_trans (Nat.le_refl _) (Nat.le_of_eq e3.symm), f12, f13, f14, f15⟩ (by decide) (by decide)
theorem dF_0 : decode prog_105_method_4_code 0 = .ok (.aload_n 0, 1) := by decide +kernel
theorem dF_1 : decode prog_105_method_4_code 1 = .ok (.getfield 16, 3) := by decide +kernel
theorem dF_4 : decode prog_105_method_4_code 4 = .ok (.ifnull 7, 3) := by decide +kernel
theorem dF_11 : decode prog_105_method_4_code 11 = .ok (.iconst 0, 1) := by decide +kernel
theorem dF_12 : decode prog_105_method_4_code 12 = .ok (.ireturn, 1) := by decide +kernel
set_option maxRecDepth 65536 in
set_option maxHeartbeats 80000000 in
theorem m_isInteger (l : Launch) (Z : State) (a0 : Array Value) {z0 : Int32} (hw : ∀ d ∈ tables_1, d.before a0 Z = true) (S0 : Sta Z Z.heap "java/lang/String" "COMPACT_STRINGS" "Z" (.int z0)) (hz0 : ¬ z0 = 0) (a : Addr) (h : Heap) (F : Fld Z h a "com/example/entail/entail/model/DataValue" "integer" "Ljava/math/BigInteger;" .null) :
    MetW true l Z [("com/example/entail/entail/model/DataRangeStringsPinLaw", 22)] (⟨"com/example/entail/entail/model/DataValue", "isInteger", "()Z"⟩ : MethodName) prog_105_method_4_code 1 (Option.some Jvm.ClassFile.FieldType.boolean) [] ({ frames := 0, cells := 0, slots := 0, locals := 0 } : Room) #[(.ref a)] [] h (fun v h' => v = some (.int (0 : Int32))) := by
  refine MetW.of (Ls := #[.val (.ref a)]) (a0 := a0) (by first | (simp [plainName, overriddenIn]; done) | decide +kernel) (fun m => by first | (simp [entryFrame, mkF, argsToLocals, Value.category]; done) | rfl) (own_EW hw) (fun q => nomatch q) (fun p_ e_ s_ m_ below_ meth_ c_ hs0 C => ?_)
  refine g_aloadN C dF_0 rfl rfl ?_
  refine g_getfield (host := "") C dF_1 (Or.inl (hw _ (List.mem_of_getElem? (i := 83) rfl))) Via.refl F ?_
  refine g_ifnullT 11 C dF_4 (by decide) (by decide) ?_
  refine g_iconst (0 : Int32) C dF_11 (by decide) ?_
  exact g_retN C dF_12 (by simp) rfl (by decide) (by decide)
theorem dG_0 : decode jdk_42_method_55_code 0 = .ok (.aload_n 0, 1) := by decide +kernel
theorem dG_1 : decode jdk_42_method_55_code 1 = .ok (.getfield 9, 3) := by decide +kernel
theorem dG_4 : decode jdk_42_method_55_code 4 = .ok (.arraylength, 1) := by decide +kernel
theorem dG_5 : decode jdk_42_method_55_code 5 = .ok (.ifCond .ne 7, 3) := by decide +kernel
theorem dG_8 : decode jdk_42_method_55_code 8 = .ok (.iconst 1, 1) := by decide +kernel
theorem dG_9 : decode jdk_42_method_55_code 9 = .ok (.goto 4, 3) := by decide +kernel
theorem dG_13 : decode jdk_42_method_55_code 13 = .ok (.ireturn, 1) := by decide +kernel
set_option maxRecDepth 65536 in
set_option maxHeartbeats 80000000 in
theorem m_strEmpty0 (l : Launch) (Z : State) (a0 : Array Value) {z0 : Int32} (hw : ∀ d ∈ tables_1, d.before a0 Z = true) (S0 : Sta Z Z.heap "java/lang/String" "COMPACT_STRINGS" "Z" (.int z0)) (hz0 : ¬ z0 = 0) (s t : Addr) (h : Heap) (F : Fld Z h s "java/lang/String" "value" "[B" (.ref t)) (A : Av Z h t .byte []) :
    MetW true l Z [("com/example/entail/entail/model/DataRangeStringsPinLaw", 22)] (⟨"java/lang/String", "isEmpty", "()Z"⟩ : MethodName) jdk_42_method_55_code 1 (Option.some Jvm.ClassFile.FieldType.boolean) [] ({ frames := 0, cells := 0, slots := 0, locals := 0 } : Room) #[(.ref s)] [] h (fun v h' => v = some (.int (1 : Int32))) := by
  refine MetW.of (Ls := #[.val (.ref s)]) (a0 := a0) (by first | (simp [plainName, overriddenIn]; done) | decide +kernel) (fun m => by first | (simp [entryFrame, mkF, argsToLocals, Value.category]; done) | rfl) (own_EW hw) (fun q => nomatch q) (fun p_ e_ s_ m_ below_ meth_ c_ hs0 C => ?_)
  refine g_aloadN C dG_0 rfl rfl ?_
  refine g_getfield (host := "") C dG_1 (Or.inl (hw _ (List.mem_of_getElem? (i := 28) rfl))) Via.refl F ?_
  refine g_alen C dG_4 A (z := (0 : Int32)) rfl ?_
  refine g_ifF C dG_5 (show (0 : Int32) = (0 : Int32) by decide) ?_
  refine g_iconst (1 : Int32) C dG_8 (by decide) ?_
  refine g_goto 13 C dG_9 (by decide) (by decide) ?_
  exact g_retN C dG_13 (by simp) rfl (by decide) (by decide)
theorem dG_12 : decode jdk_42_method_55_code 12 = .ok (.iconst 0, 1) := by decide +kernel
set_option maxRecDepth 65536 in
set_option maxHeartbeats 80000000 in
theorem m_strEmpty1 (l : Launch) (Z : State) (a0 : Array Value) {z0 : Int32} (hw : ∀ d ∈ tables_1, d.before a0 Z = true) (S0 : Sta Z Z.heap "java/lang/String" "COMPACT_STRINGS" "Z" (.int z0)) (hz0 : ¬ z0 = 0) (x : Int32) (s t : Addr) (h : Heap) (F : Fld Z h s "java/lang/String" "value" "[B" (.ref t)) (A : Av Z h t .byte [.int x]) :
    MetW true l Z [("com/example/entail/entail/model/DataRangeStringsPinLaw", 22)] (⟨"java/lang/String", "isEmpty", "()Z"⟩ : MethodName) jdk_42_method_55_code 1 (Option.some Jvm.ClassFile.FieldType.boolean) [] ({ frames := 0, cells := 0, slots := 0, locals := 0 } : Room) #[(.ref s)] [] h (fun v h' => v = some (.int (0 : Int32))) := by
  refine MetW.of (Ls := #[.val (.ref s)]) (a0 := a0) (by first | (simp [plainName, overriddenIn]; done) | decide +kernel) (fun m => by first | (simp [entryFrame, mkF, argsToLocals, Value.category]; done) | rfl) (own_EW hw) (fun q => nomatch q) (fun p_ e_ s_ m_ below_ meth_ c_ hs0 C => ?_)
  refine g_aloadN C dG_0 rfl rfl ?_
  refine g_getfield (host := "") C dG_1 (Or.inl (hw _ (List.mem_of_getElem? (i := 28) rfl))) Via.refl F ?_
  refine g_alen C dG_4 A (z := (1 : Int32)) rfl ?_
  refine g_ifT 12 C dG_5 (show ¬ (1 : Int32) = (0 : Int32) by decide) (by decide) (by decide) ?_
  refine g_iconst (0 : Int32) C dG_12 (by decide) ?_
  exact g_retN C dG_13 (by simp) rfl (by decide) (by decide)
theorem dH_0 : decode prog_105_method_6_code 0 = .ok (.aload_n 0, 1) := by decide +kernel
theorem dH_1 : decode prog_105_method_6_code 1 = .ok (.getfield 13, 3) := by decide +kernel
theorem dH_4 : decode prog_105_method_6_code 4 = .ok (.invokevirtual 25, 3) := by decide +kernel
theorem dH_7 : decode prog_105_method_6_code 7 = .ok (.ifCond .ne 7, 3) := by decide +kernel
theorem dH_14 : decode prog_105_method_6_code 14 = .ok (.iconst 0, 1) := by decide +kernel
theorem dH_15 : decode prog_105_method_6_code 15 = .ok (.ireturn, 1) := by decide +kernel
set_option maxRecDepth 65536 in
set_option maxHeartbeats 80000000 in
theorem m_hasLang0 (l : Launch) (Z : State) (a0 : Array Value) {z0 : Int32} (hw : ∀ d ∈ tables_1, d.before a0 Z = true) (S0 : Sta Z Z.heap "java/lang/String" "COMPACT_STRINGS" "Z" (.int z0)) (hz0 : ¬ z0 = 0) (a s t : Addr) (h : Heap) (G : Fld Z h a "com/example/entail/entail/model/DataValue" "language" "Ljava/lang/String;" (.ref s)) (E : Exa Z h s "java/lang/String") (F : Fld Z h s "java/lang/String" "value" "[B" (.ref t)) (A : Av Z h t .byte []) :
    MetW true l Z [("com/example/entail/entail/model/DataRangeStringsPinLaw", 22)] (⟨"com/example/entail/entail/model/DataValue", "hasLanguage", "()Z"⟩ : MethodName) prog_105_method_6_code 1 (Option.some Jvm.ClassFile.FieldType.boolean) [] ({ frames := 1, cells := 0, slots := 0, locals := 12 } : Room) #[(.ref a)] [] h (fun v h' => v = some (.int (0 : Int32))) := by
  refine MetW.of (Ls := #[.val (.ref a)]) (a0 := a0) (by first | (simp [plainName, overriddenIn]; done) | decide +kernel) (fun m => by first | (simp [entryFrame, mkF, argsToLocals, Value.category]; done) | rfl) (own_EW hw) (fun q => nomatch q) (fun p_ e_ s_ m_ below_ meth_ c_ hs0 C => ?_)
  refine g_aloadN C dH_0 rfl rfl ?_
  refine g_getfield (host := "") C dH_1 (Or.inl (hw _ (List.mem_of_getElem? (i := 81) rfl))) Via.refl G ?_
  refine g_invokevirtual [] [] 0 C dH_4 (hw _ (List.mem_of_getElem? (i := 100) rfl)) (hw _ (List.mem_of_getElem? (i := 101) rfl)) (hw _ (List.mem_of_getElem? (i := 103) rfl)) (hw _ (List.mem_of_getElem? (i := 102) rfl)) (hw _ (List.mem_of_getElem? (i := 3) rfl)) (hw _ (List.mem_of_getElem? (i := 104) rfl)) (fun _ hZ => notFace_of_selects (args := #[]) (mvT hZ (hw _ (List.mem_of_getElem? (i := 103) rfl)))) (by decide) E (m_strEmpty0 l Z a0 hw S0 hz0 _ _ _ F A) (lenOf pd5 rfl) rfl rfl (Nat.le_of_ble_eq_true rfl) (by decide) (by decide) (by decide) (by decide) all0 (fun v1 h2 L3 q4 K5 => ?_)
  obtain rfl := q4
  show Go _ _ _ _ _ _ _ _ _ _ _ _ _ _ _ _ _ _ _ _ _ _ (mkF _ 7 #[.val (.ref a)] [(.int (1 : Int32))])
  refine g_ifT 14 C dH_7 (show ¬ (1 : Int32) = (0 : Int32) by decide) (by decide) (by decide) ?_
  refine g_iconst (0 : Int32) C dH_14 (by decide) ?_
  exact g_retN C dH_15 (by simp) rfl (by decide) (by decide)
theorem dH_10 : decode prog_105_method_6_code 10 = .ok (.iconst 1, 1) := by decide +kernel
theorem dH_11 : decode prog_105_method_6_code 11 = .ok (.goto 4, 3) := by decide +kernel
set_option maxRecDepth 65536 in
set_option maxHeartbeats 80000000 in
theorem m_hasLang1 (l : Launch) (Z : State) (a0 : Array Value) {z0 : Int32} (hw : ∀ d ∈ tables_1, d.before a0 Z = true) (S0 : Sta Z Z.heap "java/lang/String" "COMPACT_STRINGS" "Z" (.int z0)) (hz0 : ¬ z0 = 0) (x : Int32) (a s t : Addr) (h : Heap) (G : Fld Z h a "com/example/entail/entail/model/DataValue" "language" "Ljava/lang/String;" (.ref s)) (E : Exa Z h s "java/lang/String") (F : Fld Z h s "java/lang/String" "value" "[B" (.ref t)) (A : Av Z h t .byte [.int x]) :
    MetW true l Z [("com/example/entail/entail/model/DataRangeStringsPinLaw", 22)] (⟨"com/example/entail/entail/model/DataValue", "hasLanguage", "()Z"⟩ : MethodName) prog_105_method_6_code 1 (Option.some Jvm.ClassFile.FieldType.boolean) [] ({ frames := 1, cells := 0, slots := 0, locals := 12 } : Room) #[(.ref a)] [] h (fun v h' => v = some (.int (1 : Int32))) := by
  refine MetW.of (Ls := #[.val (.ref a)]) (a0 := a0) (by first | (simp [plainName, overriddenIn]; done) | decide +kernel) (fun m => by first | (simp [entryFrame, mkF, argsToLocals, Value.category]; done) | rfl) (own_EW hw) (fun q => nomatch q) (fun p_ e_ s_ m_ below_ meth_ c_ hs0 C => ?_)
  refine g_aloadN C dH_0 rfl rfl ?_
  refine g_getfield (host := "") C dH_1 (Or.inl (hw _ (List.mem_of_getElem? (i := 81) rfl))) Via.refl G ?_
  refine g_invokevirtual [] [] 0 C dH_4 (hw _ (List.mem_of_getElem? (i := 100) rfl)) (hw _ (List.mem_of_getElem? (i := 101) rfl)) (hw _ (List.mem_of_getElem? (i := 103) rfl)) (hw _ (List.mem_of_getElem? (i := 102) rfl)) (hw _ (List.mem_of_getElem? (i := 3) rfl)) (hw _ (List.mem_of_getElem? (i := 104) rfl)) (fun _ hZ => notFace_of_selects (args := #[]) (mvT hZ (hw _ (List.mem_of_getElem? (i := 103) rfl)))) (by decide) E (m_strEmpty1 l Z a0 hw S0 hz0 _ _ _ _ F A) (lenOf pd5 rfl) rfl rfl (Nat.le_of_ble_eq_true rfl) (by decide) (by decide) (by decide) (by decide) all0 (fun v1 h2 L3 q4 K5 => ?_)
  obtain rfl := q4
  show Go _ _ _ _ _ _ _ _ _ _ _ _ _ _ _ _ _ _ _ _ _ _ (mkF _ 7 #[.val (.ref a)] [(.int (0 : Int32))])
  refine g_ifF C dH_7 (show (0 : Int32) = (0 : Int32) by decide) ?_
  refine g_iconst (1 : Int32) C dH_10 (by decide) ?_
  refine g_goto 15 C dH_11 (by decide) (by decide) ?_
  exact g_retN C dH_15 (by simp) rfl (by decide) (by decide)
theorem dI_0 : decode prog_103_method_6_code 0 = .ok (.aload_n 1, 1) := by decide +kernel
theorem dI_1 : decode prog_103_method_6_code 1 = .ok (.invokevirtual 62, 3) := by decide +kernel
theorem dI_4 : decode prog_103_method_6_code 4 = .ok (.ifCond .eq 47, 3) := by decide +kernel
theorem dI_51 : decode prog_103_method_6_code 51 = .ok (.aload_n 1, 1) := by decide +kernel
theorem dI_52 : decode prog_103_method_6_code 52 = .ok (.invokevirtual 78, 3) := by decide +kernel
theorem dI_55 : decode prog_103_method_6_code 55 = .ok (.ifCond .eq 11, 3) := by decide +kernel
theorem dI_66 : decode prog_103_method_6_code 66 = .ok (.aload_n 0, 1) := by decide +kernel
theorem dI_67 : decode prog_103_method_6_code 67 = .ok (.getfield 7, 3) := by decide +kernel
theorem dI_70 : decode prog_103_method_6_code 70 = .ok (.istore_n 2, 1) := by decide +kernel
theorem dI_71 : decode prog_103_method_6_code 71 = .ok (.iload_n 2, 1) := by decide +kernel
theorem dI_72 : decode prog_103_method_6_code 72 = .ok (.ireturn, 1) := by decide +kernel
set_option maxRecDepth 65536 in
set_option maxHeartbeats 80000000 in
theorem m_contains100_0 (l : Launch) (Z : State) (a0 : Array Value) {z0 : Int32} (hw : ∀ d ∈ tables_1, d.before a0 Z = true) (S0 : Sta Z Z.heap "java/lang/String" "COMPACT_STRINGS" "Z" (.int z0)) (hz0 : ¬ z0 = 0) (r a s t : Addr) (h : Heap) (R0 : Fld Z h r "com/example/entail/entail/model/DataRange" "untagged" "Z" (.int (1 : Int32))) (R1 : Fld Z h r "com/example/entail/entail/model/DataRange" "tagged" "Z" (.int (0 : Int32))) (R2 : Fld Z h r "com/example/entail/entail/model/DataRange" "integers" "Z" (.int (0 : Int32))) (R3 : Fld Z h r "com/example/entail/entail/model/DataRange" "min" "Ljava/math/BigInteger;" .null) (R4 : Fld Z h r "com/example/entail/entail/model/DataRange" "max" "Ljava/math/BigInteger;" .null) (R5 : Fld Z h r "com/example/entail/entail/model/DataRange" "otherValues" "Z" (.int (0 : Int32))) (X : Exa Z h a "com/example/entail/entail/model/DataValue") (G : Fld Z h a "com/example/entail/entail/model/DataValue" "language" "Ljava/lang/String;" (.ref s)) (J : Fld Z h a "com/example/entail/entail/model/DataValue" "integer" "Ljava/math/BigInteger;" .null) (E : Exa Z h s "java/lang/String") (F : Fld Z h s "java/lang/String" "value" "[B" (.ref t)) (A : Av Z h t .byte []) :
    MetW true l Z [("com/example/entail/entail/model/DataRangeStringsPinLaw", 22)] (⟨"com/example/entail/entail/model/DataRange", "contains", "(Lcom/example/entail/entail/model/DataValue;)Z"⟩ : MethodName) prog_103_method_6_code 3 (Option.some Jvm.ClassFile.FieldType.boolean) [] ({ frames := 2, cells := 0, slots := 0, locals := 24 } : Room) #[(.ref r), (.ref a)] [] h (fun v h' => v = some (.int (1 : Int32))) := by
  refine MetW.of (Ls := #[.val (.ref r), .val (.ref a), .unset]) (a0 := a0) (by first | (simp [plainName, overriddenIn]; done) | decide +kernel) (fun m => by first | (simp [entryFrame, mkF, argsToLocals, Value.category]; done) | rfl) (own_EW hw) (fun q => nomatch q) (fun p_ e_ s_ m_ below_ meth_ c_ hs0 C => ?_)
  refine g_aloadN C dI_0 rfl rfl ?_
  refine g_invokevirtual [] [] 0 C dI_1 (hw _ (List.mem_of_getElem? (i := 90) rfl)) (hw _ (List.mem_of_getElem? (i := 91) rfl)) (hw _ (List.mem_of_getElem? (i := 93) rfl)) (hw _ (List.mem_of_getElem? (i := 92) rfl)) (hw _ (List.mem_of_getElem? (i := 71) rfl)) (hw _ (List.mem_of_getElem? (i := 94) rfl)) (fun _ hZ => notFace_of_selects (args := #[]) (mvT hZ (hw _ (List.mem_of_getElem? (i := 93) rfl)))) (by decide) X (m_isInteger l Z a0 hw S0 hz0 _ _ J) (lenOf pd5 rfl) rfl rfl (Nat.le_of_ble_eq_true rfl) (by decide) (by decide) (by decide) (by decide) all0 (fun v1 h2 L3 q4 K5 => ?_)
  obtain rfl := q4
  show Go _ _ _ _ _ _ _ _ _ _ _ _ _ _ _ _ _ _ _ _ _ _ (mkF _ 4 #[.val (.ref r), .val (.ref a), .unset] [(.int (0 : Int32))])
  refine g_ifT 51 C dI_4 (show (0 : Int32) = (0 : Int32) by decide) (by decide) (by decide) ?_
  refine g_aloadN C dI_51 rfl rfl ?_
  have f6 := (G.keep K5 nin0)
  have f7 := (E.keep K5)
  have f8 := (F.keep K5 nin0)
  have f9 := (A.keep K5 nin0)
  have f15 := (X.keep K5)
  refine g_invokevirtual [] [] 0 C dI_52 (hw _ (List.mem_of_getElem? (i := 95) rfl)) (hw _ (List.mem_of_getElem? (i := 96) rfl)) (hw _ (List.mem_of_getElem? (i := 98) rfl)) (hw _ (List.mem_of_getElem? (i := 97) rfl)) (hw _ (List.mem_of_getElem? (i := 71) rfl)) (hw _ (List.mem_of_getElem? (i := 99) rfl)) (fun _ hZ => notFace_of_selects (args := #[]) (mvT hZ (hw _ (List.mem_of_getElem? (i := 98) rfl)))) (by decide) f15 (m_hasLang0 l Z a0 hw S0 hz0 _ _ _ _ f6 f7 f8 f9) (lenOf pd5 rfl) rfl rfl (Nat.le_of_ble_eq_true rfl) (by decide) (by decide) (by decide) (by decide) all0 (fun v10 h11 L12 q13 K14 => ?_)
  obtain rfl := q13
  show Go _ _ _ _ _ _ _ _ _ _ _ _ _ _ _ _ _ _ _ _ _ _ (mkF _ 55 #[.val (.ref r), .val (.ref a), .unset] [(.int (0 : Int32))])
  refine g_ifT 66 C dI_55 (show (0 : Int32) = (0 : Int32) by decide) (by decide) (by decide) ?_
  refine g_aloadN C dI_66 rfl rfl ?_
  have f16 := ((R0.keep K5 nin0).keep K14 nin0)
  refine g_getfield (host := "") C dI_67 (Or.inl (hw _ (List.mem_of_getElem? (i := 54) rfl))) Via.refl f16 ?_
  refine g_istoreN #[.val (.ref r), .val (.ref a), .val (.int (1 : Int32))] C dI_70 rfl ?_
  refine g_iloadN C dI_71 rfl ?_
  exact g_retN C dI_72 (by simp) rfl (by decide) (by decide)
theorem dI_58 : decode prog_103_method_6_code 58 = .ok (.aload_n 0, 1) := by decide +kernel
theorem dI_59 : decode prog_103_method_6_code 59 = .ok (.getfield 13, 3) := by decide +kernel
theorem dI_62 : decode prog_103_method_6_code 62 = .ok (.istore_n 2, 1) := by decide +kernel
theorem dI_63 : decode prog_103_method_6_code 63 = .ok (.goto 8, 3) := by decide +kernel
set_option maxRecDepth 65536 in
set_option maxHeartbeats 80000000 in
theorem m_contains100_1 (l : Launch) (Z : State) (a0 : Array Value) {z0 : Int32} (hw : ∀ d ∈ tables_1, d.before a0 Z = true) (S0 : Sta Z Z.heap "java/lang/String" "COMPACT_STRINGS" "Z" (.int z0)) (hz0 : ¬ z0 = 0) (x : Int32) (r a s t : Addr) (h : Heap) (R0 : Fld Z h r "com/example/entail/entail/model/DataRange" "untagged" "Z" (.int (1 : Int32))) (R1 : Fld Z h r "com/example/entail/entail/model/DataRange" "tagged" "Z" (.int (0 : Int32))) (R2 : Fld Z h r "com/example/entail/entail/model/DataRange" "integers" "Z" (.int (0 : Int32))) (R3 : Fld Z h r "com/example/entail/entail/model/DataRange" "min" "Ljava/math/BigInteger;" .null) (R4 : Fld Z h r "com/example/entail/entail/model/DataRange" "max" "Ljava/math/BigInteger;" .null) (R5 : Fld Z h r "com/example/entail/entail/model/DataRange" "otherValues" "Z" (.int (0 : Int32))) (X : Exa Z h a "com/example/entail/entail/model/DataValue") (G : Fld Z h a "com/example/entail/entail/model/DataValue" "language" "Ljava/lang/String;" (.ref s)) (J : Fld Z h a "com/example/entail/entail/model/DataValue" "integer" "Ljava/math/BigInteger;" .null) (E : Exa Z h s "java/lang/String") (F : Fld Z h s "java/lang/String" "value" "[B" (.ref t)) (A : Av Z h t .byte [.int x]) :
    MetW true l Z [("com/example/entail/entail/model/DataRangeStringsPinLaw", 22)] (⟨"com/example/entail/entail/model/DataRange", "contains", "(Lcom/example/entail/entail/model/DataValue;)Z"⟩ : MethodName) prog_103_method_6_code 3 (Option.some Jvm.ClassFile.FieldType.boolean) [] ({ frames := 2, cells := 0, slots := 0, locals := 24 } : Room) #[(.ref r), (.ref a)] [] h (fun v h' => v = some (.int (0 : Int32))) := by
  refine MetW.of (Ls := #[.val (.ref r), .val (.ref a), .unset]) (a0 := a0) (by first | (simp [plainName, overriddenIn]; done) | decide +kernel) (fun m => by first | (simp [entryFrame, mkF, argsToLocals, Value.category]; done) | rfl) (own_EW hw) (fun q => nomatch q) (fun p_ e_ s_ m_ below_ meth_ c_ hs0 C => ?_)
  refine g_aloadN C dI_0 rfl rfl ?_
  refine g_invokevirtual [] [] 0 C dI_1 (hw _ (List.mem_of_getElem? (i := 90) rfl)) (hw _ (List.mem_of_getElem? (i := 91) rfl)) (hw _ (List.mem_of_getElem? (i := 93) rfl)) (hw _ (List.mem_of_getElem? (i := 92) rfl)) (hw _ (List.mem_of_getElem? (i := 71) rfl)) (hw _ (List.mem_of_getElem? (i := 94) rfl)) (fun _ hZ => notFace_of_selects (args := #[]) (mvT hZ (hw _ (List.mem_of_getElem? (i := 93) rfl)))) (by decide) X (m_isInteger l Z a0 hw S0 hz0 _ _ J) (lenOf pd5 rfl) rfl rfl (Nat.le_of_ble_eq_true rfl) (by decide) (by decide) (by decide) (by decide) all0 (fun v1 h2 L3 q4 K5 => ?_)
  obtain rfl := q4
  show Go _ _ _ _ _ _ _ _ _ _ _ _ _ _ _ _ _ _ _ _ _ _ (mkF _ 4 #[.val (.ref r), .val (.ref a), .unset] [(.int (0 : Int32))])
  refine g_ifT 51 C dI_4 (show (0 : Int32) = (0 : Int32) by decide) (by decide) (by decide) ?_
  refine g_aloadN C dI_51 rfl rfl ?_
  have f6 := (G.keep K5 nin0)
  have f7 := (E.keep K5)
  have f8 := (F.keep K5 nin0)
  have f9 := (A.keep K5 nin0)
  have f15 := (X.keep K5)
  refine g_invokevirtual [] [] 0 C dI_52 (hw _ (List.mem_of_getElem? (i := 95) rfl)) (hw _ (List.mem_of_getElem? (i := 96) rfl)) (hw _ (List.mem_of_getElem? (i := 98) rfl)) (hw _ (List.mem_of_getElem? (i := 97) rfl)) (hw _ (List.mem_of_getElem? (i := 71) rfl)) (hw _ (List.mem_of_getElem? (i := 99) rfl)) (fun _ hZ => notFace_of_selects (args := #[]) (mvT hZ (hw _ (List.mem_of_getElem? (i := 98) rfl)))) (by decide) f15 (m_hasLang1 l Z a0 hw S0 hz0 _ _ _ _ _ f6 f7 f8 f9) (lenOf pd5 rfl) rfl rfl (Nat.le_of_ble_eq_true rfl) (by decide) (by decide) (by decide) (by decide) all0 (fun v10 h11 L12 q13 K14 => ?_)
  obtain rfl := q13
  show Go _ _ _ _ _ _ _ _ _ _ _ _ _ _ _ _ _ _ _ _ _ _ (mkF _ 55 #[.val (.ref r), .val (.ref a), .unset] [(.int (1 : Int32))])
  refine g_ifF C dI_55 (show ¬ (1 : Int32) = (0 : Int32) by decide) ?_
  refine g_aloadN C dI_58 rfl rfl ?_
  have f16 := ((R1.keep K5 nin0).keep K14 nin0)
  refine g_getfield (host := "") C dI_59 (Or.inl (hw _ (List.mem_of_getElem? (i := 56) rfl))) Via.refl f16 ?_
  refine g_istoreN #[.val (.ref r), .val (.ref a), .val (.int (0 : Int32))] C dI_62 rfl ?_
  refine g_goto 71 C dI_63 (by decide) (by decide) ?_
  refine g_iloadN C dI_71 rfl ?_
  exact g_retN C dI_72 (by simp) rfl (by decide) (by decide)
set_option maxRecDepth 65536 in
set_option maxHeartbeats 80000000 in
theorem m_contains110_0 (l : Launch) (Z : State) (a0 : Array Value) {z0 : Int32} (hw : ∀ d ∈ tables_1, d.before a0 Z = true) (S0 : Sta Z Z.heap "java/lang/String" "COMPACT_STRINGS" "Z" (.int z0)) (hz0 : ¬ z0 = 0) (r a s t : Addr) (h : Heap) (R0 : Fld Z h r "com/example/entail/entail/model/DataRange" "untagged" "Z" (.int (1 : Int32))) (R1 : Fld Z h r "com/example/entail/entail/model/DataRange" "tagged" "Z" (.int (1 : Int32))) (R2 : Fld Z h r "com/example/entail/entail/model/DataRange" "integers" "Z" (.int (0 : Int32))) (R3 : Fld Z h r "com/example/entail/entail/model/DataRange" "min" "Ljava/math/BigInteger;" .null) (R4 : Fld Z h r "com/example/entail/entail/model/DataRange" "max" "Ljava/math/BigInteger;" .null) (R5 : Fld Z h r "com/example/entail/entail/model/DataRange" "otherValues" "Z" (.int (0 : Int32))) (X : Exa Z h a "com/example/entail/entail/model/DataValue") (G : Fld Z h a "com/example/entail/entail/model/DataValue" "language" "Ljava/lang/String;" (.ref s)) (J : Fld Z h a "com/example/entail/entail/model/DataValue" "integer" "Ljava/math/BigInteger;" .null) (E : Exa Z h s "java/lang/String") (F : Fld Z h s "java/lang/String" "value" "[B" (.ref t)) (A : Av Z h t .byte []) :
    MetW true l Z [("com/example/entail/entail/model/DataRangeStringsPinLaw", 22)] (⟨"com/example/entail/entail/model/DataRange", "contains", "(Lcom/example/entail/entail/model/DataValue;)Z"⟩ : MethodName) prog_103_method_6_code 3 (Option.some Jvm.ClassFile.FieldType.boolean) [] ({ frames := 2, cells := 0, slots := 0, locals := 24 } : Room) #[(.ref r), (.ref a)] [] h (fun v h' => v = some (.int (1 : Int32))) := by
  refine MetW.of (Ls := #[.val (.ref r), .val (.ref a), .unset]) (a0 := a0) (by first | (simp [plainName, overriddenIn]; done) | decide +kernel) (fun m => by first | (simp [entryFrame, mkF, argsToLocals, Value.category]; done) | rfl) (own_EW hw) (fun q => nomatch q) (fun p_ e_ s_ m_ below_ meth_ c_ hs0 C => ?_)
  refine g_aloadN C dI_0 rfl rfl ?_
  refine g_invokevirtual [] [] 0 C dI_1 (hw _ (List.mem_of_getElem? (i := 90) rfl)) (hw _ (List.mem_of_getElem? (i := 91) rfl)) (hw _ (List.mem_of_getElem? (i := 93) rfl)) (hw _ (List.mem_of_getElem? (i := 92) rfl)) (hw _ (List.mem_of_getElem? (i := 71) rfl)) (hw _ (List.mem_of_getElem? (i := 94) rfl)) (fun _ hZ => notFace_of_selects (args := #[]) (mvT hZ (hw _ (List.mem_of_getElem? (i := 93) rfl)))) (by decide) X (m_isInteger l Z a0 hw S0 hz0 _ _ J) (lenOf pd5 rfl) rfl rfl (Nat.le_of_ble_eq_true rfl) (by decide) (by decide) (by decide) (by decide) all0 (fun v1 h2 L3 q4 K5 => ?_)
  obtain rfl := q4
  show Go _ _ _ _ _ _ _ _ _ _ _ _ _ _ _ _ _ _ _ _ _ _ (mkF _ 4 #[.val (.ref r), .val (.ref a), .unset] [(.int (0 : Int32))])
  refine g_ifT 51 C dI_4 (show (0 : Int32) = (0 : Int32) by decide) (by decide) (by decide) ?_
  refine g_aloadN C dI_51 rfl rfl ?_
  have f6 := (G.keep K5 nin0)
  have f7 := (E.keep K5)
  have f8 := (F.keep K5 nin0)
  have f9 := (A.keep K5 nin0)
  have f15 := (X.keep K5)
  refine g_invokevirtual [] [] 0 C dI_52 (hw _ (List.mem_of_getElem? (i := 95) rfl)) (hw _ (List.mem_of_getElem? (i := 96) rfl)) (hw _ (List.mem_of_getElem? (i := 98) rfl)) (hw _ (List.mem_of_getElem? (i := 97) rfl)) (hw _ (List.mem_of_getElem? (i := 71) rfl)) (hw _ (List.mem_of_getElem? (i := 99) rfl)) (fun _ hZ => notFace_of_selects (args := #[]) (mvT hZ (hw _ (List.mem_of_getElem? (i := 98) rfl)))) (by decide) f15 (m_hasLang0 l Z a0 hw S0 hz0 _ _ _ _ f6 f7 f8 f9) (lenOf pd5 rfl) rfl rfl (Nat.le_of_ble_eq_true rfl) (by decide) (by decide) (by decide) (by decide) all0 (fun v10 h11 L12 q13 K14 => ?_)
  obtain rfl := q13
  show Go _ _ _ _ _ _ _ _ _ _ _ _ _ _ _ _ _ _ _ _ _ _ (mkF _ 55 #[.val (.ref r), .val (.ref a), .unset] [(.int (0 : Int32))])
  refine g_ifT 66 C dI_55 (show (0 : Int32) = (0 : Int32) by decide) (by decide) (by decide) ?_
  refine g_aloadN C dI_66 rfl rfl ?_
  have f16 := ((R0.keep K5 nin0).keep K14 nin0)
  refine g_getfield (host := "") C dI_67 (Or.inl (hw _ (List.mem_of_getElem? (i := 54) rfl))) Via.refl f16 ?_
  refine g_istoreN #[.val (.ref r), .val (.ref a), .val (.int (1 : Int32))] C dI_70 rfl ?_
  refine g_iloadN C dI_71 rfl ?_
  exact g_retN C dI_72 (by simp) rfl (by decide) (by decide)
set_option maxRecDepth 65536 in
set_option maxHeartbeats 80000000 in
theorem m_contains110_1 (l : Launch) (Z : State) (a0 : Array Value) {z0 : Int32} (hw : ∀ d ∈ tables_1, d.before a0 Z = true) (S0 : Sta Z Z.heap "java/lang/String" "COMPACT_STRINGS" "Z" (.int z0)) (hz0 : ¬ z0 = 0) (x : Int32) (r a s t : Addr) (h : Heap) (R0 : Fld Z h r "com/example/entail/entail/model/DataRange" "untagged" "Z" (.int (1 : Int32))) (R1 : Fld Z h r "com/example/entail/entail/model/DataRange" "tagged" "Z" (.int (1 : Int32))) (R2 : Fld Z h r "com/example/entail/entail/model/DataRange" "integers" "Z" (.int (0 : Int32))) (R3 : Fld Z h r "com/example/entail/entail/model/DataRange" "min" "Ljava/math/BigInteger;" .null) (R4 : Fld Z h r "com/example/entail/entail/model/DataRange" "max" "Ljava/math/BigInteger;" .null) (R5 : Fld Z h r "com/example/entail/entail/model/DataRange" "otherValues" "Z" (.int (0 : Int32))) (X : Exa Z h a "com/example/entail/entail/model/DataValue") (G : Fld Z h a "com/example/entail/entail/model/DataValue" "language" "Ljava/lang/String;" (.ref s)) (J : Fld Z h a "com/example/entail/entail/model/DataValue" "integer" "Ljava/math/BigInteger;" .null) (E : Exa Z h s "java/lang/String") (F : Fld Z h s "java/lang/String" "value" "[B" (.ref t)) (A : Av Z h t .byte [.int x]) :
    MetW true l Z [("com/example/entail/entail/model/DataRangeStringsPinLaw", 22)] (⟨"com/example/entail/entail/model/DataRange", "contains", "(Lcom/example/entail/entail/model/DataValue;)Z"⟩ : MethodName) prog_103_method_6_code 3 (Option.some Jvm.ClassFile.FieldType.boolean) [] ({ frames := 2, cells := 0, slots := 0, locals := 24 } : Room) #[(.ref r), (.ref a)] [] h (fun v h' => v = some (.int (1 : Int32))) := by
  refine MetW.of (Ls := #[.val (.ref r), .val (.ref a), .unset]) (a0 := a0) (by first | (simp [plainName, overriddenIn]; done) | decide +kernel) (fun m => by first | (simp [entryFrame, mkF, argsToLocals, Value.category]; done) | rfl) (own_EW hw) (fun q => nomatch q) (fun p_ e_ s_ m_ below_ meth_ c_ hs0 C => ?_)
  refine g_aloadN C dI_0 rfl rfl ?_
  refine g_invokevirtual [] [] 0 C dI_1 (hw _ (List.mem_of_getElem? (i := 90) rfl)) (hw _ (List.mem_of_getElem? (i := 91) rfl)) (hw _ (List.mem_of_getElem? (i := 93) rfl)) (hw _ (List.mem_of_getElem? (i := 92) rfl)) (hw _ (List.mem_of_getElem? (i := 71) rfl)) (hw _ (List.mem_of_getElem? (i := 94) rfl)) (fun _ hZ => notFace_of_selects (args := #[]) (mvT hZ (hw _ (List.mem_of_getElem? (i := 93) rfl)))) (by decide) X (m_isInteger l Z a0 hw S0 hz0 _ _ J) (lenOf pd5 rfl) rfl rfl (Nat.le_of_ble_eq_true rfl) (by decide) (by decide) (by decide) (by decide) all0 (fun v1 h2 L3 q4 K5 => ?_)
  obtain rfl := q4
  show Go _ _ _ _ _ _ _ _ _ _ _ _ _ _ _ _ _ _ _ _ _ _ (mkF _ 4 #[.val (.ref r), .val (.ref a), .unset] [(.int (0 : Int32))])
  refine g_ifT 51 C dI_4 (show (0 : Int32) = (0 : Int32) by decide) (by decide) (by decide) ?_
  refine g_aloadN C dI_51 rfl rfl ?_
  have f6 := (G.keep K5 nin0)
  have f7 := (E.keep K5)
  have f8 := (F.keep K5 nin0)
  have f9 := (A.keep K5 nin0)
  have f15 := (X.keep K5)
  refine g_invokevirtual [] [] 0 C dI_52 (hw _ (List.mem_of_getElem? (i := 95) rfl)) (hw _ (List.mem_of_getElem? (i := 96) rfl)) (hw _ (List.mem_of_getElem? (i := 98) rfl)) (hw _ (List.mem_of_getElem? (i := 97) rfl)) (hw _ (List.mem_of_getElem? (i := 71) rfl)) (hw _ (List.mem_of_getElem? (i := 99) rfl)) (fun _ hZ => notFace_of_selects (args := #[]) (mvT hZ (hw _ (List.mem_of_getElem? (i := 98) rfl)))) (by decide) f15 (m_hasLang1 l Z a0 hw S0 hz0 _ _ _ _ _ f6 f7 f8 f9) (lenOf pd5 rfl) rfl rfl (Nat.le_of_ble_eq_true rfl) (by decide) (by decide) (by decide) (by decide) all0 (fun v10 h11 L12 q13 K14 => ?_)
  obtain rfl := q13
  show Go _ _ _ _ _ _ _ _ _ _ _ _ _ _ _ _ _ _ _ _ _ _ (mkF _ 55 #[.val (.ref r), .val (.ref a), .unset] [(.int (1 : Int32))])
  refine g_ifF C dI_55 (show ¬ (1 : Int32) = (0 : Int32) by decide) ?_
  refine g_aloadN C dI_58 rfl rfl ?_
  have f16 := ((R1.keep K5 nin0).keep K14 nin0)
  refine g_getfield (host := "") C dI_59 (Or.inl (hw _ (List.mem_of_getElem? (i := 56) rfl))) Via.refl f16 ?_
  refine g_istoreN #[.val (.ref r), .val (.ref a), .val (.int (1 : Int32))] C dI_62 rfl ?_
  refine g_goto 71 C dI_63 (by decide) (by decide) ?_
  refine g_iloadN C dI_71 rfl ?_
  exact g_retN C dI_72 (by simp) rfl (by decide) (by decide)
theorem dJ_0 : decode prog_103_method_8_code 0 = .ok (.aload_n 0, 1) := by decide +kernel
theorem dJ_1 : decode prog_103_method_8_code 1 = .ok (.getfield 16, 3) := by decide +kernel
theorem dJ_4 : decode prog_103_method_8_code 4 = .ok (.ifCond .eq 66, 3) := by decide +kernel
theorem dJ_7 : decode prog_103_method_8_code 7 = .ok (.aload_n 1, 1) := by decide +kernel
theorem dJ_8 : decode prog_103_method_8_code 8 = .ok (.getfield 16, 3) := by decide +kernel
theorem dJ_11 : decode prog_103_method_8_code 11 = .ok (.ifCond .eq 63, 3) := by decide +kernel
theorem dJ_74 : decode prog_103_method_8_code 74 = .ok (.iconst 0, 1) := by decide +kernel
theorem dJ_75 : decode prog_103_method_8_code 75 = .ok (.istore_n 2, 1) := by decide +kernel
theorem dJ_76 : decode prog_103_method_8_code 76 = .ok (.aload_n 0, 1) := by decide +kernel
theorem dJ_77 : decode prog_103_method_8_code 77 = .ok (.getfield 7, 3) := by decide +kernel
theorem dJ_80 : decode prog_103_method_8_code 80 = .ok (.ifCond .eq 10, 3) := by decide +kernel
theorem dJ_90 : decode prog_103_method_8_code 90 = .ok (.aload_n 0, 1) := by decide +kernel
theorem dJ_91 : decode prog_103_method_8_code 91 = .ok (.getfield 13, 3) := by decide +kernel
theorem dJ_94 : decode prog_103_method_8_code 94 = .ok (.ifCond .eq 10, 3) := by decide +kernel
theorem dJ_104 : decode prog_103_method_8_code 104 = .ok (.aload_n 0, 1) := by decide +kernel
theorem dJ_105 : decode prog_103_method_8_code 105 = .ok (.getfield 26, 3) := by decide +kernel
theorem dJ_108 : decode prog_103_method_8_code 108 = .ok (.ifCond .eq 10, 3) := by decide +kernel
theorem dJ_118 : decode prog_103_method_8_code 118 = .ok (.iload_n 2, 1) := by decide +kernel
theorem dJ_119 : decode prog_103_method_8_code 119 = .ok (.ifCond .eq 7, 3) := by decide +kernel
theorem dJ_126 : decode prog_103_method_8_code 126 = .ok (.iconst 0, 1) := by decide +kernel
theorem dJ_127 : decode prog_103_method_8_code 127 = .ok (.ireturn, 1) := by decide +kernel
set_option maxRecDepth 65536 in
set_option maxHeartbeats 80000000 in
theorem m_sub001_100 (l : Launch) (Z : State) (a0 : Array Value) {z0 : Int32} (hw : ∀ d ∈ tables_1, d.before a0 Z = true) (S0 : Sta Z Z.heap "java/lang/String" "COMPACT_STRINGS" "Z" (.int z0)) (hz0 : ¬ z0 = 0) (a b : Addr) (h : Heap) (F0 : Fld Z h a "com/example/entail/entail/model/DataRange" "untagged" "Z" (.int (0 : Int32))) (F1 : Fld Z h a "com/example/entail/entail/model/DataRange" "tagged" "Z" (.int (0 : Int32))) (F2 : Fld Z h a "com/example/entail/entail/model/DataRange" "integers" "Z" (.int (1 : Int32))) (F3 : Fld Z h a "com/example/entail/entail/model/DataRange" "min" "Ljava/math/BigInteger;" .null) (F4 : Fld Z h a "com/example/entail/entail/model/DataRange" "max" "Ljava/math/BigInteger;" .null) (F5 : Fld Z h a "com/example/entail/entail/model/DataRange" "otherValues" "Z" (.int (0 : Int32))) (G0 : Fld Z h b "com/example/entail/entail/model/DataRange" "untagged" "Z" (.int (1 : Int32))) (G1 : Fld Z h b "com/example/entail/entail/model/DataRange" "tagged" "Z" (.int (0 : Int32))) (G2 : Fld Z h b "com/example/entail/entail/model/DataRange" "integers" "Z" (.int (0 : Int32))) (G3 : Fld Z h b "com/example/entail/entail/model/DataRange" "min" "Ljava/math/BigInteger;" .null) (G4 : Fld Z h b "com/example/entail/entail/model/DataRange" "max" "Ljava/math/BigInteger;" .null) (G5 : Fld Z h b "com/example/entail/entail/model/DataRange" "otherValues" "Z" (.int (0 : Int32))) :
    MetW true l Z [("com/example/entail/entail/model/DataRangeStringsPinLaw", 22)] (⟨"com/example/entail/entail/model/DataRange", "isSubsetOf", "(Lcom/example/entail/entail/model/DataRange;)Z"⟩ : MethodName) prog_103_method_8_code 3 (Option.some Jvm.ClassFile.FieldType.boolean) [] ({ frames := 0, cells := 0, slots := 0, locals := 0 } : Room) #[(.ref a), (.ref b)] [] h (fun v h' => v = some (.int (0 : Int32))) := by
  refine MetW.of (Ls := #[.val (.ref a), .val (.ref b), .unset]) (a0 := a0) (by first | (simp [plainName, overriddenIn]; done) | decide +kernel) (fun m => by first | (simp [entryFrame, mkF, argsToLocals, Value.category]; done) | rfl) (own_EW hw) (fun q => nomatch q) (fun p_ e_ s_ m_ below_ meth_ c_ hs0 C => ?_)
  refine g_aloadN C dJ_0 rfl rfl ?_
  refine g_getfield (host := "") C dJ_1 (Or.inl (hw _ (List.mem_of_getElem? (i := 58) rfl))) Via.refl F2 ?_
  refine g_ifF C dJ_4 (show ¬ (1 : Int32) = (0 : Int32) by decide) ?_
  refine g_aloadN C dJ_7 rfl rfl ?_
  refine g_getfield (host := "") C dJ_8 (Or.inl (hw _ (List.mem_of_getElem? (i := 58) rfl))) Via.refl G2 ?_
  refine g_ifT 74 C dJ_11 (show (0 : Int32) = (0 : Int32) by decide) (by decide) (by decide) ?_
  refine g_iconst (0 : Int32) C dJ_74 (by decide) ?_
  refine g_istoreN #[.val (.ref a), .val (.ref b), .val (.int (0 : Int32))] C dJ_75 rfl ?_
  refine g_aloadN C dJ_76 rfl rfl ?_
  refine g_getfield (host := "") C dJ_77 (Or.inl (hw _ (List.mem_of_getElem? (i := 54) rfl))) Via.refl F0 ?_
  refine g_ifT 90 C dJ_80 (show (0 : Int32) = (0 : Int32) by decide) (by decide) (by decide) ?_
  refine g_aloadN C dJ_90 rfl rfl ?_
  refine g_getfield (host := "") C dJ_91 (Or.inl (hw _ (List.mem_of_getElem? (i := 56) rfl))) Via.refl F1 ?_
  refine g_ifT 104 C dJ_94 (show (0 : Int32) = (0 : Int32) by decide) (by decide) (by decide) ?_
  refine g_aloadN C dJ_104 rfl rfl ?_
  refine g_getfield (host := "") C dJ_105 (Or.inl (hw _ (List.mem_of_getElem? (i := 64) rfl))) Via.refl F5 ?_
  refine g_ifT 118 C dJ_108 (show (0 : Int32) = (0 : Int32) by decide) (by decide) (by decide) ?_
  refine g_iloadN C dJ_118 rfl ?_
  refine g_ifT 126 C dJ_119 (show (0 : Int32) = (0 : Int32) by decide) (by decide) (by decide) ?_
  refine g_iconst (0 : Int32) C dJ_126 (by decide) ?_
  exact g_retN C dJ_127 (by simp) rfl (by decide) (by decide)
set_option maxRecDepth 65536 in
set_option maxHeartbeats 80000000 in
theorem m_sub001_110 (l : Launch) (Z : State) (a0 : Array Value) {z0 : Int32} (hw : ∀ d ∈ tables_1, d.before a0 Z = true) (S0 : Sta Z Z.heap "java/lang/String" "COMPACT_STRINGS" "Z" (.int z0)) (hz0 : ¬ z0 = 0) (a b : Addr) (h : Heap) (F0 : Fld Z h a "com/example/entail/entail/model/DataRange" "untagged" "Z" (.int (0 : Int32))) (F1 : Fld Z h a "com/example/entail/entail/model/DataRange" "tagged" "Z" (.int (0 : Int32))) (F2 : Fld Z h a "com/example/entail/entail/model/DataRange" "integers" "Z" (.int (1 : Int32))) (F3 : Fld Z h a "com/example/entail/entail/model/DataRange" "min" "Ljava/math/BigInteger;" .null) (F4 : Fld Z h a "com/example/entail/entail/model/DataRange" "max" "Ljava/math/BigInteger;" .null) (F5 : Fld Z h a "com/example/entail/entail/model/DataRange" "otherValues" "Z" (.int (0 : Int32))) (G0 : Fld Z h b "com/example/entail/entail/model/DataRange" "untagged" "Z" (.int (1 : Int32))) (G1 : Fld Z h b "com/example/entail/entail/model/DataRange" "tagged" "Z" (.int (1 : Int32))) (G2 : Fld Z h b "com/example/entail/entail/model/DataRange" "integers" "Z" (.int (0 : Int32))) (G3 : Fld Z h b "com/example/entail/entail/model/DataRange" "min" "Ljava/math/BigInteger;" .null) (G4 : Fld Z h b "com/example/entail/entail/model/DataRange" "max" "Ljava/math/BigInteger;" .null) (G5 : Fld Z h b "com/example/entail/entail/model/DataRange" "otherValues" "Z" (.int (0 : Int32))) :
    MetW true l Z [("com/example/entail/entail/model/DataRangeStringsPinLaw", 22)] (⟨"com/example/entail/entail/model/DataRange", "isSubsetOf", "(Lcom/example/entail/entail/model/DataRange;)Z"⟩ : MethodName) prog_103_method_8_code 3 (Option.some Jvm.ClassFile.FieldType.boolean) [] ({ frames := 0, cells := 0, slots := 0, locals := 0 } : Room) #[(.ref a), (.ref b)] [] h (fun v h' => v = some (.int (0 : Int32))) := by
  refine MetW.of (Ls := #[.val (.ref a), .val (.ref b), .unset]) (a0 := a0) (by first | (simp [plainName, overriddenIn]; done) | decide +kernel) (fun m => by first | (simp [entryFrame, mkF, argsToLocals, Value.category]; done) | rfl) (own_EW hw) (fun q => nomatch q) (fun p_ e_ s_ m_ below_ meth_ c_ hs0 C => ?_)
  refine g_aloadN C dJ_0 rfl rfl ?_
  refine g_getfield (host := "") C dJ_1 (Or.inl (hw _ (List.mem_of_getElem? (i := 58) rfl))) Via.refl F2 ?_
  refine g_ifF C dJ_4 (show ¬ (1 : Int32) = (0 : Int32) by decide) ?_
  refine g_aloadN C dJ_7 rfl rfl ?_
  refine g_getfield (host := "") C dJ_8 (Or.inl (hw _ (List.mem_of_getElem? (i := 58) rfl))) Via.refl G2 ?_
  refine g_ifT 74 C dJ_11 (show (0 : Int32) = (0 : Int32) by decide) (by decide) (by decide) ?_
  refine g_iconst (0 : Int32) C dJ_74 (by decide) ?_
  refine g_istoreN #[.val (.ref a), .val (.ref b), .val (.int (0 : Int32))] C dJ_75 rfl ?_
  refine g_aloadN C dJ_76 rfl rfl ?_
  refine g_getfield (host := "") C dJ_77 (Or.inl (hw _ (List.mem_of_getElem? (i := 54) rfl))) Via.refl F0 ?_
  refine g_ifT 90 C dJ_80 (show (0 : Int32) = (0 : Int32) by decide) (by decide) (by decide) ?_
  refine g_aloadN C dJ_90 rfl rfl ?_
  refine g_getfield (host := "") C dJ_91 (Or.inl (hw _ (List.mem_of_getElem? (i := 56) rfl))) Via.refl F1 ?_
  refine g_ifT 104 C dJ_94 (show (0 : Int32) = (0 : Int32) by decide) (by decide) (by decide) ?_
  refine g_aloadN C dJ_104 rfl rfl ?_
  refine g_getfield (host := "") C dJ_105 (Or.inl (hw _ (List.mem_of_getElem? (i := 64) rfl))) Via.refl F5 ?_
  refine g_ifT 118 C dJ_108 (show (0 : Int32) = (0 : Int32) by decide) (by decide) (by decide) ?_
  refine g_iloadN C dJ_118 rfl ?_
  refine g_ifT 126 C dJ_119 (show (0 : Int32) = (0 : Int32) by decide) (by decide) (by decide) ?_
  refine g_iconst (0 : Int32) C dJ_126 (by decide) ?_
  exact g_retN C dJ_127 (by simp) rfl (by decide) (by decide)
theorem dJ_70 : decode prog_103_method_8_code 70 = .ok (.iconst 1, 1) := by decide +kernel
theorem dJ_71 : decode prog_103_method_8_code 71 = .ok (.goto 4, 3) := by decide +kernel
theorem dJ_83 : decode prog_103_method_8_code 83 = .ok (.aload_n 1, 1) := by decide +kernel
theorem dJ_84 : decode prog_103_method_8_code 84 = .ok (.getfield 7, 3) := by decide +kernel
theorem dJ_87 : decode prog_103_method_8_code 87 = .ok (.ifCond .eq 39, 3) := by decide +kernel
set_option maxRecDepth 65536 in
set_option maxHeartbeats 80000000 in
theorem m_sub100_001 (l : Launch) (Z : State) (a0 : Array Value) {z0 : Int32} (hw : ∀ d ∈ tables_1, d.before a0 Z = true) (S0 : Sta Z Z.heap "java/lang/String" "COMPACT_STRINGS" "Z" (.int z0)) (hz0 : ¬ z0 = 0) (a b : Addr) (h : Heap) (F0 : Fld Z h a "com/example/entail/entail/model/DataRange" "untagged" "Z" (.int (1 : Int32))) (F1 : Fld Z h a "com/example/entail/entail/model/DataRange" "tagged" "Z" (.int (0 : Int32))) (F2 : Fld Z h a "com/example/entail/entail/model/DataRange" "integers" "Z" (.int (0 : Int32))) (F3 : Fld Z h a "com/example/entail/entail/model/DataRange" "min" "Ljava/math/BigInteger;" .null) (F4 : Fld Z h a "com/example/entail/entail/model/DataRange" "max" "Ljava/math/BigInteger;" .null) (F5 : Fld Z h a "com/example/entail/entail/model/DataRange" "otherValues" "Z" (.int (0 : Int32))) (G0 : Fld Z h b "com/example/entail/entail/model/DataRange" "untagged" "Z" (.int (0 : Int32))) (G1 : Fld Z h b "com/example/entail/entail/model/DataRange" "tagged" "Z" (.int (0 : Int32))) (G2 : Fld Z h b "com/example/entail/entail/model/DataRange" "integers" "Z" (.int (1 : Int32))) (G3 : Fld Z h b "com/example/entail/entail/model/DataRange" "min" "Ljava/math/BigInteger;" .null) (G4 : Fld Z h b "com/example/entail/entail/model/DataRange" "max" "Ljava/math/BigInteger;" .null) (G5 : Fld Z h b "com/example/entail/entail/model/DataRange" "otherValues" "Z" (.int (0 : Int32))) :
    MetW true l Z [("com/example/entail/entail/model/DataRangeStringsPinLaw", 22)] (⟨"com/example/entail/entail/model/DataRange", "isSubsetOf", "(Lcom/example/entail/entail/model/DataRange;)Z"⟩ : MethodName) prog_103_method_8_code 3 (Option.some Jvm.ClassFile.FieldType.boolean) [] ({ frames := 0, cells := 0, slots := 0, locals := 0 } : Room) #[(.ref a), (.ref b)] [] h (fun v h' => v = some (.int (0 : Int32))) := by
  refine MetW.of (Ls := #[.val (.ref a), .val (.ref b), .unset]) (a0 := a0) (by first | (simp [plainName, overriddenIn]; done) | decide +kernel) (fun m => by first | (simp [entryFrame, mkF, argsToLocals, Value.category]; done) | rfl) (own_EW hw) (fun q => nomatch q) (fun p_ e_ s_ m_ below_ meth_ c_ hs0 C => ?_)
  refine g_aloadN C dJ_0 rfl rfl ?_
  refine g_getfield (host := "") C dJ_1 (Or.inl (hw _ (List.mem_of_getElem? (i := 58) rfl))) Via.refl F2 ?_
  refine g_ifT 70 C dJ_4 (show (0 : Int32) = (0 : Int32) by decide) (by decide) (by decide) ?_
  refine g_iconst (1 : Int32) C dJ_70 (by decide) ?_
  refine g_goto 75 C dJ_71 (by decide) (by decide) ?_
  refine g_istoreN #[.val (.ref a), .val (.ref b), .val (.int (1 : Int32))] C dJ_75 rfl ?_
  refine g_aloadN C dJ_76 rfl rfl ?_
  refine g_getfield (host := "") C dJ_77 (Or.inl (hw _ (List.mem_of_getElem? (i := 54) rfl))) Via.refl F0 ?_
  refine g_ifF C dJ_80 (show ¬ (1 : Int32) = (0 : Int32) by decide) ?_
  refine g_aloadN C dJ_83 rfl rfl ?_
  refine g_getfield (host := "") C dJ_84 (Or.inl (hw _ (List.mem_of_getElem? (i := 54) rfl))) Via.refl G0 ?_
  refine g_ifT 126 C dJ_87 (show (0 : Int32) = (0 : Int32) by decide) (by decide) (by decide) ?_
  refine g_iconst (0 : Int32) C dJ_126 (by decide) ?_
  exact g_retN C dJ_127 (by simp) rfl (by decide) (by decide)
set_option maxRecDepth 65536 in
set_option maxHeartbeats 80000000 in
theorem m_sub110_001 (l : Launch) (Z : State) (a0 : Array Value) {z0 : Int32} (hw : ∀ d ∈ tables_1, d.before a0 Z = true) (S0 : Sta Z Z.heap "java/lang/String" "COMPACT_STRINGS" "Z" (.int z0)) (hz0 : ¬ z0 = 0) (a b : Addr) (h : Heap) (F0 : Fld Z h a "com/example/entail/entail/model/DataRange" "untagged" "Z" (.int (1 : Int32))) (F1 : Fld Z h a "com/example/entail/entail/model/DataRange" "tagged" "Z" (.int (1 : Int32))) (F2 : Fld Z h a "com/example/entail/entail/model/DataRange" "integers" "Z" (.int (0 : Int32))) (F3 : Fld Z h a "com/example/entail/entail/model/DataRange" "min" "Ljava/math/BigInteger;" .null) (F4 : Fld Z h a "com/example/entail/entail/model/DataRange" "max" "Ljava/math/BigInteger;" .null) (F5 : Fld Z h a "com/example/entail/entail/model/DataRange" "otherValues" "Z" (.int (0 : Int32))) (G0 : Fld Z h b "com/example/entail/entail/model/DataRange" "untagged" "Z" (.int (0 : Int32))) (G1 : Fld Z h b "com/example/entail/entail/model/DataRange" "tagged" "Z" (.int (0 : Int32))) (G2 : Fld Z h b "com/example/entail/entail/model/DataRange" "integers" "Z" (.int (1 : Int32))) (G3 : Fld Z h b "com/example/entail/entail/model/DataRange" "min" "Ljava/math/BigInteger;" .null) (G4 : Fld Z h b "com/example/entail/entail/model/DataRange" "max" "Ljava/math/BigInteger;" .null) (G5 : Fld Z h b "com/example/entail/entail/model/DataRange" "otherValues" "Z" (.int (0 : Int32))) :
    MetW true l Z [("com/example/entail/entail/model/DataRangeStringsPinLaw", 22)] (⟨"com/example/entail/entail/model/DataRange", "isSubsetOf", "(Lcom/example/entail/entail/model/DataRange;)Z"⟩ : MethodName) prog_103_method_8_code 3 (Option.some Jvm.ClassFile.FieldType.boolean) [] ({ frames := 0, cells := 0, slots := 0, locals := 0 } : Room) #[(.ref a), (.ref b)] [] h (fun v h' => v = some (.int (0 : Int32))) := by
  refine MetW.of (Ls := #[.val (.ref a), .val (.ref b), .unset]) (a0 := a0) (by first | (simp [plainName, overriddenIn]; done) | decide +kernel) (fun m => by first | (simp [entryFrame, mkF, argsToLocals, Value.category]; done) | rfl) (own_EW hw) (fun q => nomatch q) (fun p_ e_ s_ m_ below_ meth_ c_ hs0 C => ?_)
  refine g_aloadN C dJ_0 rfl rfl ?_
  refine g_getfield (host := "") C dJ_1 (Or.inl (hw _ (List.mem_of_getElem? (i := 58) rfl))) Via.refl F2 ?_
  refine g_ifT 70 C dJ_4 (show (0 : Int32) = (0 : Int32) by decide) (by decide) (by decide) ?_
  refine g_iconst (1 : Int32) C dJ_70 (by decide) ?_
  refine g_goto 75 C dJ_71 (by decide) (by decide) ?_
  refine g_istoreN #[.val (.ref a), .val (.ref b), .val (.int (1 : Int32))] C dJ_75 rfl ?_
  refine g_aloadN C dJ_76 rfl rfl ?_
  refine g_getfield (host := "") C dJ_77 (Or.inl (hw _ (List.mem_of_getElem? (i := 54) rfl))) Via.refl F0 ?_
  refine g_ifF C dJ_80 (show ¬ (1 : Int32) = (0 : Int32) by decide) ?_
  refine g_aloadN C dJ_83 rfl rfl ?_
  refine g_getfield (host := "") C dJ_84 (Or.inl (hw _ (List.mem_of_getElem? (i := 54) rfl))) Via.refl G0 ?_
  refine g_ifT 126 C dJ_87 (show (0 : Int32) = (0 : Int32) by decide) (by decide) (by decide) ?_
  refine g_iconst (0 : Int32) C dJ_126 (by decide) ?_
  exact g_retN C dJ_127 (by simp) rfl (by decide) (by decide)
theorem dJ_122 : decode prog_103_method_8_code 122 = .ok (.iconst 1, 1) := by decide +kernel
theorem dJ_123 : decode prog_103_method_8_code 123 = .ok (.goto 4, 3) := by decide +kernel
set_option maxRecDepth 65536 in
set_option maxHeartbeats 80000000 in
theorem m_sub100_110 (l : Launch) (Z : State) (a0 : Array Value) {z0 : Int32} (hw : ∀ d ∈ tables_1, d.before a0 Z = true) (S0 : Sta Z Z.heap "java/lang/String" "COMPACT_STRINGS" "Z" (.int z0)) (hz0 : ¬ z0 = 0) (a b : Addr) (h : Heap) (F0 : Fld Z h a "com/example/entail/entail/model/DataRange" "untagged" "Z" (.int (1 : Int32))) (F1 : Fld Z h a "com/example/entail/entail/model/DataRange" "tagged" "Z" (.int (0 : Int32))) (F2 : Fld Z h a "com/example/entail/entail/model/DataRange" "integers" "Z" (.int (0 : Int32))) (F3 : Fld Z h a "com/example/entail/entail/model/DataRange" "min" "Ljava/math/BigInteger;" .null) (F4 : Fld Z h a "com/example/entail/entail/model/DataRange" "max" "Ljava/math/BigInteger;" .null) (F5 : Fld Z h a "com/example/entail/entail/model/DataRange" "otherValues" "Z" (.int (0 : Int32))) (G0 : Fld Z h b "com/example/entail/entail/model/DataRange" "untagged" "Z" (.int (1 : Int32))) (G1 : Fld Z h b "com/example/entail/entail/model/DataRange" "tagged" "Z" (.int (1 : Int32))) (G2 : Fld Z h b "com/example/entail/entail/model/DataRange" "integers" "Z" (.int (0 : Int32))) (G3 : Fld Z h b "com/example/entail/entail/model/DataRange" "min" "Ljava/math/BigInteger;" .null) (G4 : Fld Z h b "com/example/entail/entail/model/DataRange" "max" "Ljava/math/BigInteger;" .null) (G5 : Fld Z h b "com/example/entail/entail/model/DataRange" "otherValues" "Z" (.int (0 : Int32))) :
    MetW true l Z [("com/example/entail/entail/model/DataRangeStringsPinLaw", 22)] (⟨"com/example/entail/entail/model/DataRange", "isSubsetOf", "(Lcom/example/entail/entail/model/DataRange;)Z"⟩ : MethodName) prog_103_method_8_code 3 (Option.some Jvm.ClassFile.FieldType.boolean) [] ({ frames := 0, cells := 0, slots := 0, locals := 0 } : Room) #[(.ref a), (.ref b)] [] h (fun v h' => v = some (.int (1 : Int32))) := by
  refine MetW.of (Ls := #[.val (.ref a), .val (.ref b), .unset]) (a0 := a0) (by first | (simp [plainName, overriddenIn]; done) | decide +kernel) (fun m => by first | (simp [entryFrame, mkF, argsToLocals, Value.category]; done) | rfl) (own_EW hw) (fun q => nomatch q) (fun p_ e_ s_ m_ below_ meth_ c_ hs0 C => ?_)
  refine g_aloadN C dJ_0 rfl rfl ?_
  refine g_getfield (host := "") C dJ_1 (Or.inl (hw _ (List.mem_of_getElem? (i := 58) rfl))) Via.refl F2 ?_
  refine g_ifT 70 C dJ_4 (show (0 : Int32) = (0 : Int32) by decide) (by decide) (by decide) ?_
  refine g_iconst (1 : Int32) C dJ_70 (by decide) ?_
  refine g_goto 75 C dJ_71 (by decide) (by decide) ?_
  refine g_istoreN #[.val (.ref a), .val (.ref b), .val (.int (1 : Int32))] C dJ_75 rfl ?_
  refine g_aloadN C dJ_76 rfl rfl ?_
  refine g_getfield (host := "") C dJ_77 (Or.inl (hw _ (List.mem_of_getElem? (i := 54) rfl))) Via.refl F0 ?_
  refine g_ifF C dJ_80 (show ¬ (1 : Int32) = (0 : Int32) by decide) ?_
  refine g_aloadN C dJ_83 rfl rfl ?_
  refine g_getfield (host := "") C dJ_84 (Or.inl (hw _ (List.mem_of_getElem? (i := 54) rfl))) Via.refl G0 ?_
  refine g_ifF C dJ_87 (show ¬ (1 : Int32) = (0 : Int32) by decide) ?_
  refine g_aloadN C dJ_90 rfl rfl ?_
  refine g_getfield (host := "") C dJ_91 (Or.inl (hw _ (List.mem_of_getElem? (i := 56) rfl))) Via.refl F1 ?_
  refine g_ifT 104 C dJ_94 (show (0 : Int32) = (0 : Int32) by decide) (by decide) (by decide) ?_
  refine g_aloadN C dJ_104 rfl rfl ?_
  refine g_getfield (host := "") C dJ_105 (Or.inl (hw _ (List.mem_of_getElem? (i := 64) rfl))) Via.refl F5 ?_
  refine g_ifT 118 C dJ_108 (show (0 : Int32) = (0 : Int32) by decide) (by decide) (by decide) ?_
  refine g_iloadN C dJ_118 rfl ?_
  refine g_ifF C dJ_119 (show ¬ (1 : Int32) = (0 : Int32) by decide) ?_
  refine g_iconst (1 : Int32) C dJ_122 (by decide) ?_
  refine g_goto 127 C dJ_123 (by decide) (by decide) ?_
  exact g_retN C dJ_127 (by simp) rfl (by decide) (by decide)
theorem dJ_97 : decode prog_103_method_8_code 97 = .ok (.aload_n 1, 1) := by decide +kernel
theorem dJ_98 : decode prog_103_method_8_code 98 = .ok (.getfield 13, 3) := by decide +kernel
theorem dJ_101 : decode prog_103_method_8_code 101 = .ok (.ifCond .eq 25, 3) := by decide +kernel
set_option maxRecDepth 65536 in
set_option maxHeartbeats 80000000 in
theorem m_sub110_110 (l : Launch) (Z : State) (a0 : Array Value) {z0 : Int32} (hw : ∀ d ∈ tables_1, d.before a0 Z = true) (S0 : Sta Z Z.heap "java/lang/String" "COMPACT_STRINGS" "Z" (.int z0)) (hz0 : ¬ z0 = 0) (a b : Addr) (h : Heap) (F0 : Fld Z h a "com/example/entail/entail/model/DataRange" "untagged" "Z" (.int (1 : Int32))) (F1 : Fld Z h a "com/example/entail/entail/model/DataRange" "tagged" "Z" (.int (1 : Int32))) (F2 : Fld Z h a "com/example/entail/entail/model/DataRange" "integers" "Z" (.int (0 : Int32))) (F3 : Fld Z h a "com/example/entail/entail/model/DataRange" "min" "Ljava/math/BigInteger;" .null) (F4 : Fld Z h a "com/example/entail/entail/model/DataRange" "max" "Ljava/math/BigInteger;" .null) (F5 : Fld Z h a "com/example/entail/entail/model/DataRange" "otherValues" "Z" (.int (0 : Int32))) (G0 : Fld Z h b "com/example/entail/entail/model/DataRange" "untagged" "Z" (.int (1 : Int32))) (G1 : Fld Z h b "com/example/entail/entail/model/DataRange" "tagged" "Z" (.int (1 : Int32))) (G2 : Fld Z h b "com/example/entail/entail/model/DataRange" "integers" "Z" (.int (0 : Int32))) (G3 : Fld Z h b "com/example/entail/entail/model/DataRange" "min" "Ljava/math/BigInteger;" .null) (G4 : Fld Z h b "com/example/entail/entail/model/DataRange" "max" "Ljava/math/BigInteger;" .null) (G5 : Fld Z h b "com/example/entail/entail/model/DataRange" "otherValues" "Z" (.int (0 : Int32))) :
    MetW true l Z [("com/example/entail/entail/model/DataRangeStringsPinLaw", 22)] (⟨"com/example/entail/entail/model/DataRange", "isSubsetOf", "(Lcom/example/entail/entail/model/DataRange;)Z"⟩ : MethodName) prog_103_method_8_code 3 (Option.some Jvm.ClassFile.FieldType.boolean) [] ({ frames := 0, cells := 0, slots := 0, locals := 0 } : Room) #[(.ref a), (.ref b)] [] h (fun v h' => v = some (.int (1 : Int32))) := by
  refine MetW.of (Ls := #[.val (.ref a), .val (.ref b), .unset]) (a0 := a0) (by first | (simp [plainName, overriddenIn]; done) | decide +kernel) (fun m => by first | (simp [entryFrame, mkF, argsToLocals, Value.category]; done) | rfl) (own_EW hw) (fun q => nomatch q) (fun p_ e_ s_ m_ below_ meth_ c_ hs0 C => ?_)
  refine g_aloadN C dJ_0 rfl rfl ?_
  refine g_getfield (host := "") C dJ_1 (Or.inl (hw _ (List.mem_of_getElem? (i := 58) rfl))) Via.refl F2 ?_
  refine g_ifT 70 C dJ_4 (show (0 : Int32) = (0 : Int32) by decide) (by decide) (by decide) ?_
  refine g_iconst (1 : Int32) C dJ_70 (by decide) ?_
  refine g_goto 75 C dJ_71 (by decide) (by decide) ?_
  refine g_istoreN #[.val (.ref a), .val (.ref b), .val (.int (1 : Int32))] C dJ_75 rfl ?_
  refine g_aloadN C dJ_76 rfl rfl ?_
  refine g_getfield (host := "") C dJ_77 (Or.inl (hw _ (List.mem_of_getElem? (i := 54) rfl))) Via.refl F0 ?_
  refine g_ifF C dJ_80 (show ¬ (1 : Int32) = (0 : Int32) by decide) ?_
  refine g_aloadN C dJ_83 rfl rfl ?_
  refine g_getfield (host := "") C dJ_84 (Or.inl (hw _ (List.mem_of_getElem? (i := 54) rfl))) Via.refl G0 ?_
  refine g_ifF C dJ_87 (show ¬ (1 : Int32) = (0 : Int32) by decide) ?_
  refine g_aloadN C dJ_90 rfl rfl ?_
  refine g_getfield (host := "") C dJ_91 (Or.inl (hw _ (List.mem_of_getElem? (i := 56) rfl))) Via.refl F1 ?_
  refine g_ifF C dJ_94 (show ¬ (1 : Int32) = (0 : Int32) by decide) ?_
  refine g_aloadN C dJ_97 rfl rfl ?_
  refine g_getfield (host := "") C dJ_98 (Or.inl (hw _ (List.mem_of_getElem? (i := 56) rfl))) Via.refl G1 ?_
  refine g_ifF C dJ_101 (show ¬ (1 : Int32) = (0 : Int32) by decide) ?_
  refine g_aloadN C dJ_104 rfl rfl ?_
  refine g_getfield (host := "") C dJ_105 (Or.inl (hw _ (List.mem_of_getElem? (i := 64) rfl))) Via.refl F5 ?_
  refine g_ifT 118 C dJ_108 (show (0 : Int32) = (0 : Int32) by decide) (by decide) (by decide) ?_
  refine g_iloadN C dJ_118 rfl ?_
  refine g_ifF C dJ_119 (show ¬ (1 : Int32) = (0 : Int32) by decide) ?_
  refine g_iconst (1 : Int32) C dJ_122 (by decide) ?_
  refine g_goto 127 C dJ_123 (by decide) (by decide) ?_
  exact g_retN C dJ_127 (by simp) rfl (by decide) (by decide)
theorem dK_0 : decode prog_103_method_7_code 0 = .ok (.aload_n 0, 1) := by decide +kernel
theorem dK_1 : decode prog_103_method_7_code 1 = .ok (.getfield 7, 3) := by decide +kernel
theorem dK_4 : decode prog_103_method_7_code 4 = .ok (.ifCond .ne 28, 3) := by decide +kernel
theorem dK_32 : decode prog_103_method_7_code 32 = .ok (.iconst 0, 1) := by decide +kernel
theorem dK_33 : decode prog_103_method_7_code 33 = .ok (.ireturn, 1) := by decide +kernel
set_option maxRecDepth 65536 in
set_option maxHeartbeats 80000000 in
theorem m_empty100 (l : Launch) (Z : State) (a0 : Array Value) {z0 : Int32} (hw : ∀ d ∈ tables_1, d.before a0 Z = true) (S0 : Sta Z Z.heap "java/lang/String" "COMPACT_STRINGS" "Z" (.int z0)) (hz0 : ¬ z0 = 0) (a : Addr) (h : Heap) (F0 : Fld Z h a "com/example/entail/entail/model/DataRange" "untagged" "Z" (.int (1 : Int32))) (F1 : Fld Z h a "com/example/entail/entail/model/DataRange" "tagged" "Z" (.int (0 : Int32))) (F2 : Fld Z h a "com/example/entail/entail/model/DataRange" "integers" "Z" (.int (0 : Int32))) (F3 : Fld Z h a "com/example/entail/entail/model/DataRange" "min" "Ljava/math/BigInteger;" .null) (F4 : Fld Z h a "com/example/entail/entail/model/DataRange" "max" "Ljava/math/BigInteger;" .null) (F5 : Fld Z h a "com/example/entail/entail/model/DataRange" "otherValues" "Z" (.int (0 : Int32))) :
    MetW true l Z [("com/example/entail/entail/model/DataRangeStringsPinLaw", 22)] (⟨"com/example/entail/entail/model/DataRange", "isEmpty", "()Z"⟩ : MethodName) prog_103_method_7_code 1 (Option.some Jvm.ClassFile.FieldType.boolean) [] ({ frames := 0, cells := 0, slots := 0, locals := 0 } : Room) #[(.ref a)] [] h (fun v h' => v = some (.int (0 : Int32))) := by
  refine MetW.of (Ls := #[.val (.ref a)]) (a0 := a0) (by first | (simp [plainName, overriddenIn]; done) | decide +kernel) (fun m => by first | (simp [entryFrame, mkF, argsToLocals, Value.category]; done) | rfl) (own_EW hw) (fun q => nomatch q) (fun p_ e_ s_ m_ below_ meth_ c_ hs0 C => ?_)
  refine g_aloadN C dK_0 rfl rfl ?_
  refine g_getfield (host := "") C dK_1 (Or.inl (hw _ (List.mem_of_getElem? (i := 54) rfl))) Via.refl F0 ?_
  refine g_ifT 32 C dK_4 (show ¬ (1 : Int32) = (0 : Int32) by decide) (by decide) (by decide) ?_
  refine g_iconst (0 : Int32) C dK_32 (by decide) ?_
  exact g_retN C dK_33 (by simp) rfl (by decide) (by decide)
set_option maxRecDepth 65536 in
set_option maxHeartbeats 80000000 in
theorem m_empty110 (l : Launch) (Z : State) (a0 : Array Value) {z0 : Int32} (hw : ∀ d ∈ tables_1, d.before a0 Z = true) (S0 : Sta Z Z.heap "java/lang/String" "COMPACT_STRINGS" "Z" (.int z0)) (hz0 : ¬ z0 = 0) (a : Addr) (h : Heap) (F0 : Fld Z h a "com/example/entail/entail/model/DataRange" "untagged" "Z" (.int (1 : Int32))) (F1 : Fld Z h a "com/example/entail/entail/model/DataRange" "tagged" "Z" (.int (1 : Int32))) (F2 : Fld Z h a "com/example/entail/entail/model/DataRange" "integers" "Z" (.int (0 : Int32))) (F3 : Fld Z h a "com/example/entail/entail/model/DataRange" "min" "Ljava/math/BigInteger;" .null) (F4 : Fld Z h a "com/example/entail/entail/model/DataRange" "max" "Ljava/math/BigInteger;" .null) (F5 : Fld Z h a "com/example/entail/entail/model/DataRange" "otherValues" "Z" (.int (0 : Int32))) :
    MetW true l Z [("com/example/entail/entail/model/DataRangeStringsPinLaw", 22)] (⟨"com/example/entail/entail/model/DataRange", "isEmpty", "()Z"⟩ : MethodName) prog_103_method_7_code 1 (Option.some Jvm.ClassFile.FieldType.boolean) [] ({ frames := 0, cells := 0, slots := 0, locals := 0 } : Room) #[(.ref a)] [] h (fun v h' => v = some (.int (0 : Int32))) := by
  refine MetW.of (Ls := #[.val (.ref a)]) (a0 := a0) (by first | (simp [plainName, overriddenIn]; done) | decide +kernel) (fun m => by first | (simp [entryFrame, mkF, argsToLocals, Value.category]; done) | rfl) (own_EW hw) (fun q => nomatch q) (fun p_ e_ s_ m_ below_ meth_ c_ hs0 C => ?_)
  refine g_aloadN C dK_0 rfl rfl ?_
  refine g_getfield (host := "") C dK_1 (Or.inl (hw _ (List.mem_of_getElem? (i := 54) rfl))) Via.refl F0 ?_
  refine g_ifT 32 C dK_4 (show ¬ (1 : Int32) = (0 : Int32) by decide) (by decide) (by decide) ?_
  refine g_iconst (0 : Int32) C dK_32 (by decide) ?_
  exact g_retN C dK_33 (by simp) rfl (by decide) (by decide)
set_option maxRecDepth 65536 in
set_option maxHeartbeats 80000000 in
theorem m_law (l : Launch) (Z : State) (a0 : Array Value) {z0 : Int32} (hw : ∀ d ∈ tables_1, d.before a0 Z = true) (S0 : Sta Z Z.heap "java/lang/String" "COMPACT_STRINGS" "Z" (.int z0)) (hz0 : ¬ z0 = 0) (p0 : Int32) (p1 : Int32) (p2 : Int32) (p3 : Int32) (h : Heap) :
    MetW true l Z [("com/example/entail/entail/model/DataRangeStringsPinLaw", 22)] x code maxLocals ret tables_1 room_1 #[.int p0, .int p1, .int p2, .int p3] [] h (fun v _ => v = some (.int (1 : Int32))) := by
  refine MetW.of (y := x) (Ls := #[.val (.int p0), .val (.int p1), .val (.int p2), .val (.int p3), .unset, .unset, .unset, .unset, .unset, .unset, .unset, .unset, .unset, .unset, .unset]) (a0 := a0) (by first | (simp [x, plainName, overriddenIn]; done) | decide +kernel) (fun m => by first | (simp [entryFrame, mkF, argsToLocals, Value.category, maxLocals]; done) | rfl) (own_EW hw) (fun q => nomatch q) (fun p_ e_ s_ m_ below_ meth_ c_ hs0 C => ?_)
  refine g_iloadN C at_0 rfl ?_
  refine g_iconst (1 : Int32) C at_1 (by decide) ?_
  refine g_iand _ C at_2 rfl ?_
  by_cases cc1 : (p0 &&& (1 : Int32)) = (0 : Int32)
  · skip
    refine g_ifT 10 C at_3 (show (p0 &&& (1 : Int32)) = (0 : Int32) from cc1) (by decide) (by decide) ?_
    refine g_iconst (0 : Int32) C at_10 (by decide) ?_
    refine g_istore #[.val (.int p0), .val (.int p1), .val (.int p2), .val (.int p3), .val (.int (0 : Int32)), .unset, .unset, .unset, .unset, .unset, .unset, .unset, .unset, .unset, .unset] C at_11 rfl ?_
    refine g_iconst (2 : Int32) C at_13 (by decide) ?_
    refine g_newarray_ (ad := "[C") 2 [(.int (0 : Int32)), (.int (0 : Int32))] C at_14 (hw _ (List.mem_of_getElem? (i := 0) rfl)) (by decide) (by decide) (by decide) (by decide) (by decide) (by decide) (by decide) (fun a2 h3 e4 E5 l6 f7 f8 => ?_)
    have K9 := keep_ext E5
    refine g_astore #[.val (.int p0), .val (.int p1), .val (.int p2), .val (.int p3), .val (.int (0 : Int32)), .val (.ref a2), .unset, .unset, .unset, .unset, .unset, .unset, .unset, .unset, .unset] C at_16 rfl rfl ?_
    refine g_aload C at_18 rfl rfl ?_
    refine g_iconst (0 : Int32) C at_20 (by decide) ?_
    refine g_iloadN C at_21 rfl ?_
    refine g_sipush (255 : Int32) C at_22 (by decide) ?_
    refine g_iand _ C at_25 rfl ?_
    refine g_i2c (p1 &&& (255 : Int32)) C at_26 (i2c_mask _) ?_
    refine g_castore 0 C at_27 f8 (by decide) (by decide) (Nat.le_of_ble_eq_true rfl) (List.mem_of_getElem? (i := 0) rfl) (fun h10 K11 z12 f13 => ?_)
    have f14 : Av Z h10 a2 .char [(.int (p1 &&& (255 : Int32))), (.int (0 : Int32))] := (show nar .char (p1 &&& (255 : Int32)) = (p1 &&& (255 : Int32)) from i2c_mask _) ▸ f13
    refine g_aload C at_28 rfl rfl ?_
    refine g_iconst (1 : Int32) C at_30 (by decide) ?_
    refine g_iloadN C at_31 rfl ?_
    refine g_sipush (255 : Int32) C at_32 (by decide) ?_
    refine g_iand _ C at_35 rfl ?_
    refine g_i2c (p2 &&& (255 : Int32)) C at_36 (i2c_mask _) ?_
    refine g_castore 1 C at_37 f14 (by decide) (by decide) (Nat.le_of_ble_eq_true rfl) (List.mem_of_getElem? (i := 0) rfl) (fun h15 K16 z17 f18 => ?_)
    have f19 : Av Z h15 a2 .char [(.int (p1 &&& (255 : Int32))), (.int (p2 &&& (255 : Int32)))] := (show nar .char (p2 &&& (255 : Int32)) = (p2 &&& (255 : Int32)) from i2c_mask _) ▸ f18
    refine g_new_ C at_38 (hw _ (List.mem_of_getElem? (i := 1) rfl)) (hw _ (List.mem_of_getElem? (i := 2) rfl)) (hw _ (List.mem_of_getElem? (i := 3) rfl)) (by decide) (by decide) (fun a20 h21 e22 E23 l24 f25 D26 => ?_)
    have K27 := keep_ext E23
    have f28 : Fld Z h21 a20 "java/lang/String" "coder" "B" (.int (0 : Int32)) := D26 (Or.inr (hw _ (List.mem_of_getElem? (i := 27) rfl))) (ty := .byte) (by decide)
    have f29 : Fld Z h21 a20 "java/lang/String" "value" "[B" .null := D26 (Or.inr (hw _ (List.mem_of_getElem? (i := 29) rfl))) (ty := (.array .byte)) (by decide)
    refine g_dup C at_41 rfl ?_
    refine g_aload C at_42 rfl rfl ?_
    have f37 := (f19.keep K27 nin0)
    refine g_newStr (cs := [(p1 &&& (255 : Int32)), (p2 &&& (255 : Int32))]) 2 [(.ref a20)] 1 C at_44 (own_hws hw) (hw _ (List.mem_of_getElem? (i := 2) rfl)) (hw _ (List.mem_of_getElem? (i := 4) rfl)) (hw _ (List.mem_of_getElem? (i := 5) rfl)) (hw _ (List.mem_of_getElem? (i := 6) rfl)) f25 f29 f28 f37 S0 hz0 rfl (by decide) (by decide) (own_allS (own_mask255 _) (own_allS (own_mask255 _) own_all0)) rfl (Nat.le_of_ble_eq_true rfl) (by decide) (by decide) (by decide) (by decide) (List.mem_of_getElem? (i := 0) rfl) (fun t30 h31 L32 g33 l34 f35 K36 => ?_)
    have f38 := f35.1
    refine g_astore #[.val (.int p0), .val (.int p1), .val (.int p2), .val (.int p3), .val (.int (0 : Int32)), .val (.ref a2), .val (.ref a20), .unset, .unset, .unset, .unset, .unset, .unset, .unset, .unset] C at_47 rfl rfl ?_
    refine g_iloadN C at_49 rfl ?_
    refine g_sipush (255 : Int32) C at_50 (by decide) ?_
    refine g_iand _ C at_53 rfl ?_
    refine g_i2c (p3 &&& (255 : Int32)) C at_54 (i2c_mask _) ?_
    refine g_invokestatic [(.int (p3 &&& (255 : Int32)))] [] 0 C at_55 (hw _ (List.mem_of_getElem? (i := 30) rfl)) (hw _ (List.mem_of_getElem? (i := 31) rfl)) (hw _ (List.mem_of_getElem? (i := 3) rfl)) (hw _ (List.mem_of_getElem? (i := 32) rfl)) (by decide) (m_valueOf l Z a0 hw S0 hz0 (p3 &&& (255 : Int32)) (own_mask255 _) _) (lenOf pd6 rfl) rfl rfl (Nat.le_of_ble_eq_true rfl) (by decide) (by decide) (by decide) (by decide) all0 (fun v44 h45 L46 q47 K48 => ?_)
    obtain ⟨a39, t40, rfl, g41, l42, f43⟩ := q47
    have f49 := f43.1
    have f50 := f43.2.2.1
    have f51 := f43.2.2.2
    show Go _ _ _ _ _ _ _ _ _ _ _ _ _ _ _ _ _ _ _ _ _ _ (mkF _ 58 #[.val (.int p0), .val (.int p1), .val (.int p2), .val (.int p3), .val (.int (0 : Int32)), .val (.ref a2), .val (.ref a20), .unset, .unset, .unset, .unset, .unset, .unset, .unset, .unset] [(.ref a39)])
    refine g_astore #[.val (.int p0), .val (.int p1), .val (.int p2), .val (.int p3), .val (.int (0 : Int32)), .val (.ref a2), .val (.ref a20), .val (.ref a39), .unset, .unset, .unset, .unset, .unset, .unset, .unset] C at_58 rfl rfl ?_
    refine g_iload C at_60 rfl ?_
    refine g_invokestatic [(.int (0 : Int32))] [] 0 C at_62 (hw _ (List.mem_of_getElem? (i := 44) rfl)) (hw _ (List.mem_of_getElem? (i := 45) rfl)) (hw _ (List.mem_of_getElem? (i := 46) rfl)) (hw _ (List.mem_of_getElem? (i := 47) rfl)) (by decide) (m_strings0 l Z a0 hw S0 hz0 _) (lenOf pd7 rfl) rfl rfl (Nat.le_of_ble_eq_true rfl) (by decide) (by decide) (by decide) (by decide) all0 (fun v61 h62 L63 q64 K65 => ?_)
    obtain ⟨a52, rfl, g53, f54, f55, f56, f57, f58, f59, f60⟩ := q64
    show Go _ _ _ _ _ _ _ _ _ _ _ _ _ _ _ _ _ _ _ _ _ _ (mkF _ 65 #[.val (.int p0), .val (.int p1), .val (.int p2), .val (.int p3), .val (.int (0 : Int32)), .val (.ref a2), .val (.ref a20), .val (.ref a39), .unset, .unset, .unset, .unset, .unset, .unset, .unset] [(.ref a52)])
    refine g_astore #[.val (.int p0), .val (.int p1), .val (.int p2), .val (.int p3), .val (.int (0 : Int32)), .val (.ref a2), .val (.ref a20), .val (.ref a39), .val (.ref a52), .unset, .unset, .unset, .unset, .unset, .unset] C at_65 rfl rfl ?_
    refine g_aload C at_67 rfl rfl ?_
    refine g_aload C at_69 rfl rfl ?_
    refine g_ldcStr (vs := []) (zl := 0) 0 C at_71 (hw _ (List.mem_of_getElem? (i := 66) rfl)) (own_wS hw) (List.mem_of_getElem? (i := 0) rfl) (by decide) (by decide) (by decide) (by decide) (by decide) (by decide) (by decide) (fun a66 a67 h68 E69 f70 f71 f72 f73 n74 => ?_)
    have K75 := keep_ext E69
    refine g_invokestatic [(.ref a20), (.ref a66)] [(.ref a52)] 1 C at_73 (hw _ (List.mem_of_getElem? (i := 69) rfl)) (hw _ (List.mem_of_getElem? (i := 70) rfl)) (hw _ (List.mem_of_getElem? (i := 71) rfl)) (hw _ (List.mem_of_getElem? (i := 72) rfl)) (by decide) (m_string l Z a0 hw S0 hz0 a20 a66 _) (lenOf pd8 rfl) rfl rfl (Nat.le_of_ble_eq_true rfl) (by decide) (by decide) (by decide) (by decide) all0 (fun v82 h83 L84 q85 K86 => ?_)
    obtain ⟨a76, rfl, g77, f78, f79, f80, f81⟩ := q85
    show Go _ _ _ _ _ _ _ _ _ _ _ _ _ _ _ _ _ _ _ _ _ _ (mkF _ 76 #[.val (.int p0), .val (.int p1), .val (.int p2), .val (.int p3), .val (.int (0 : Int32)), .val (.ref a2), .val (.ref a20), .val (.ref a39), .val (.ref a52), .unset, .unset, .unset, .unset, .unset, .unset] [(.ref a76), (.ref a52)])
    have f87 := ((f55.keep K75 nin0).keep K86 nin0)
    have f88 := ((f56.keep K75 nin0).keep K86 nin0)
    have f89 := ((f57.keep K75 nin0).keep K86 nin0)
    have f90 := ((f58.keep K75 nin0).keep K86 nin0)
    have f91 := ((f59.keep K75 nin0).keep K86 nin0)
    have f92 := ((f60.keep K75 nin0).keep K86 nin0)
    have f93 := (f70.keep K86)
    have f94 := (f72.keep K86 nin0)
    have f95 := (f73.keep K86 nin0)
    have f101 := ((f54.keep K75).keep K86)
    refine g_invokevirtual [(.ref a76)] [] 0 C at_76 (hw _ (List.mem_of_getElem? (i := 85) rfl)) (hw _ (List.mem_of_getElem? (i := 86) rfl)) (hw _ (List.mem_of_getElem? (i := 88) rfl)) (hw _ (List.mem_of_getElem? (i := 87) rfl)) (hw _ (List.mem_of_getElem? (i := 46) rfl)) (hw _ (List.mem_of_getElem? (i := 89) rfl)) (fun _ hZ => notFace_of_selects (args := #[]) (mvT hZ (hw _ (List.mem_of_getElem? (i := 88) rfl)))) (by decide) f101 (m_contains100_0 l Z a0 hw S0 hz0 _ _ _ _ _ f87 f88 f89 f90 f91 f92 f78 f80 f81 f93 f94 f95) (lenOf pd9 rfl) rfl rfl (Nat.le_of_ble_eq_true rfl) (by decide) (by decide) (by decide) (by decide) all0 (fun v96 h97 L98 q99 K100 => ?_)
    obtain rfl := q99
    show Go _ _ _ _ _ _ _ _ _ _ _ _ _ _ _ _ _ _ _ _ _ _ (mkF _ 79 #[.val (.int p0), .val (.int p1), .val (.int p2), .val (.int p3), .val (.int (0 : Int32)), .val (.ref a2), .val (.ref a20), .val (.ref a39), .val (.ref a52), .unset, .unset, .unset, .unset, .unset, .unset] [(.int (1 : Int32))])
    refine g_istore #[.val (.int p0), .val (.int p1), .val (.int p2), .val (.int p3), .val (.int (0 : Int32)), .val (.ref a2), .val (.ref a20), .val (.ref a39), .val (.ref a52), .val (.int (1 : Int32)), .unset, .unset, .unset, .unset, .unset] C at_79 rfl ?_
    refine g_aload C at_81 rfl rfl ?_
    refine g_aload C at_83 rfl rfl ?_
    refine g_aload C at_85 rfl rfl ?_
    refine g_invokestatic [(.ref a20), (.ref a39)] [(.ref a52)] 1 C at_87 (hw _ (List.mem_of_getElem? (i := 69) rfl)) (hw _ (List.mem_of_getElem? (i := 70) rfl)) (hw _ (List.mem_of_getElem? (i := 71) rfl)) (hw _ (List.mem_of_getElem? (i := 72) rfl)) (by decide) (m_string l Z a0 hw S0 hz0 a20 a39 _) (lenOf pd8 rfl) rfl rfl (Nat.le_of_ble_eq_true rfl) (by decide) (by decide) (by decide) (by decide) all0 (fun v108 h109 L110 q111 K112 => ?_)
    obtain ⟨a102, rfl, g103, f104, f105, f106, f107⟩ := q111
    show Go _ _ _ _ _ _ _ _ _ _ _ _ _ _ _ _ _ _ _ _ _ _ (mkF _ 90 #[.val (.int p0), .val (.int p1), .val (.int p2), .val (.int p3), .val (.int (0 : Int32)), .val (.ref a2), .val (.ref a20), .val (.ref a39), .val (.ref a52), .val (.int (1 : Int32)), .unset, .unset, .unset, .unset, .unset] [(.ref a102), (.ref a52)])
    have f113 := ((f87.keep K100 nin0).keep K112 nin0)
    have f114 := ((f88.keep K100 nin0).keep K112 nin0)
    have f115 := ((f89.keep K100 nin0).keep K112 nin0)
    have f116 := ((f90.keep K100 nin0).keep K112 nin0)
    have f117 := ((f91.keep K100 nin0).keep K112 nin0)
    have f118 := ((f92.keep K100 nin0).keep K112 nin0)
    have f119 := (((((f49.keep K65).keep K75).keep K86).keep K100).keep K112)
    have f120 := (((((f50.keep K65 nin0).keep K75 nin0).keep K86 nin0).keep K100 nin0).keep K112 nin0)
    have f121 := (((((f51.keep K65 nin0).keep K75 nin0).keep K86 nin0).keep K100 nin0).keep K112 nin0)
    have f127 := ((f101.keep K100).keep K112)
    refine g_invokevirtual [(.ref a102)] [] 0 C at_90 (hw _ (List.mem_of_getElem? (i := 85) rfl)) (hw _ (List.mem_of_getElem? (i := 86) rfl)) (hw _ (List.mem_of_getElem? (i := 88) rfl)) (hw _ (List.mem_of_getElem? (i := 87) rfl)) (hw _ (List.mem_of_getElem? (i := 46) rfl)) (hw _ (List.mem_of_getElem? (i := 89) rfl)) (fun _ hZ => notFace_of_selects (args := #[]) (mvT hZ (hw _ (List.mem_of_getElem? (i := 88) rfl)))) (by decide) f127 (m_contains100_1 l Z a0 hw S0 hz0 _ _ _ _ _ _ f113 f114 f115 f116 f117 f118 f104 f106 f107 f119 f120 f121) (lenOf pd9 rfl) rfl rfl (Nat.le_of_ble_eq_true rfl) (by decide) (by decide) (by decide) (by decide) all0 (fun v122 h123 L124 q125 K126 => ?_)
    obtain rfl := q125
    show Go _ _ _ _ _ _ _ _ _ _ _ _ _ _ _ _ _ _ _ _ _ _ (mkF _ 93 #[.val (.int p0), .val (.int p1), .val (.int p2), .val (.int p3), .val (.int (0 : Int32)), .val (.ref a2), .val (.ref a20), .val (.ref a39), .val (.ref a52), .val (.int (1 : Int32)), .unset, .unset, .unset, .unset, .unset] [(.int (0 : Int32))])
    refine g_istore #[.val (.int p0), .val (.int p1), .val (.int p2), .val (.int p3), .val (.int (0 : Int32)), .val (.ref a2), .val (.ref a20), .val (.ref a39), .val (.ref a52), .val (.int (1 : Int32)), .val (.int (0 : Int32)), .unset, .unset, .unset, .unset] C at_93 rfl ?_
    refine g_aconstNull C at_95 ?_
    refine g_aconstNull C at_96 ?_
    refine g_invokestatic [.null, .null] [] 0 C at_97 (hw _ (List.mem_of_getElem? (i := 105) rfl)) (hw _ (List.mem_of_getElem? (i := 106) rfl)) (hw _ (List.mem_of_getElem? (i := 46) rfl)) (hw _ (List.mem_of_getElem? (i := 107) rfl)) (by decide) (m_integers l Z a0 hw S0 hz0 _) (lenOf pd10 rfl) rfl rfl (Nat.le_of_ble_eq_true rfl) (by decide) (by decide) (by decide) (by decide) all0 (fun v137 h138 L139 q140 K141 => ?_)
    obtain ⟨a128, rfl, g129, f130, f131, f132, f133, f134, f135, f136⟩ := q140
    show Go _ _ _ _ _ _ _ _ _ _ _ _ _ _ _ _ _ _ _ _ _ _ (mkF _ 100 #[.val (.int p0), .val (.int p1), .val (.int p2), .val (.int p3), .val (.int (0 : Int32)), .val (.ref a2), .val (.ref a20), .val (.ref a39), .val (.ref a52), .val (.int (1 : Int32)), .val (.int (0 : Int32)), .unset, .unset, .unset, .unset] [(.ref a128)])
    refine g_astore #[.val (.int p0), .val (.int p1), .val (.int p2), .val (.int p3), .val (.int (0 : Int32)), .val (.ref a2), .val (.ref a20), .val (.ref a39), .val (.ref a52), .val (.int (1 : Int32)), .val (.int (0 : Int32)), .val (.ref a128), .unset, .unset, .unset] C at_100 rfl rfl ?_
    refine g_aload C at_102 rfl rfl ?_
    refine g_aload C at_104 rfl rfl ?_
    have f142 := ((f113.keep K126 nin0).keep K141 nin0)
    have f143 := ((f114.keep K126 nin0).keep K141 nin0)
    have f144 := ((f115.keep K126 nin0).keep K141 nin0)
    have f145 := ((f116.keep K126 nin0).keep K141 nin0)
    have f146 := ((f117.keep K126 nin0).keep K141 nin0)
    have f147 := ((f118.keep K126 nin0).keep K141 nin0)
    refine g_invokevirtual [(.ref a52)] [] 0 C at_106 (hw _ (List.mem_of_getElem? (i := 108) rfl)) (hw _ (List.mem_of_getElem? (i := 109) rfl)) (hw _ (List.mem_of_getElem? (i := 111) rfl)) (hw _ (List.mem_of_getElem? (i := 110) rfl)) (hw _ (List.mem_of_getElem? (i := 46) rfl)) (hw _ (List.mem_of_getElem? (i := 112) rfl)) (fun _ hZ => notFace_of_selects (args := #[]) (mvT hZ (hw _ (List.mem_of_getElem? (i := 111) rfl)))) (by decide) f130 (m_sub001_100 l Z a0 hw S0 hz0 _ _ _ f131 f132 f133 f134 f135 f136 f142 f143 f144 f145 f146 f147) (lenOf pd11 rfl) rfl rfl (Nat.le_of_ble_eq_true rfl) (by decide) (by decide) (by decide) (by decide) all0 (fun v148 h149 L150 q151 K152 => ?_)
    obtain rfl := q151
    show Go _ _ _ _ _ _ _ _ _ _ _ _ _ _ _ _ _ _ _ _ _ _ (mkF _ 109 #[.val (.int p0), .val (.int p1), .val (.int p2), .val (.int p3), .val (.int (0 : Int32)), .val (.ref a2), .val (.ref a20), .val (.ref a39), .val (.ref a52), .val (.int (1 : Int32)), .val (.int (0 : Int32)), .val (.ref a128), .unset, .unset, .unset] [(.int (0 : Int32))])
    refine g_istore #[.val (.int p0), .val (.int p1), .val (.int p2), .val (.int p3), .val (.int (0 : Int32)), .val (.ref a2), .val (.ref a20), .val (.ref a39), .val (.ref a52), .val (.int (1 : Int32)), .val (.int (0 : Int32)), .val (.ref a128), .val (.int (0 : Int32)), .unset, .unset] C at_109 rfl ?_
    refine g_aload C at_111 rfl rfl ?_
    refine g_aload C at_113 rfl rfl ?_
    have f153 := (f142.keep K152 nin0)
    have f154 := (f143.keep K152 nin0)
    have f155 := (f144.keep K152 nin0)
    have f156 := (f145.keep K152 nin0)
    have f157 := (f146.keep K152 nin0)
    have f158 := (f147.keep K152 nin0)
    have f159 := (f131.keep K152 nin0)
    have f160 := (f132.keep K152 nin0)
    have f161 := (f133.keep K152 nin0)
    have f162 := (f134.keep K152 nin0)
    have f163 := (f135.keep K152 nin0)
    have f164 := (f136.keep K152 nin0)
    have f170 := (((f127.keep K126).keep K141).keep K152)
    refine g_invokevirtual [(.ref a128)] [] 0 C at_115 (hw _ (List.mem_of_getElem? (i := 108) rfl)) (hw _ (List.mem_of_getElem? (i := 109) rfl)) (hw _ (List.mem_of_getElem? (i := 111) rfl)) (hw _ (List.mem_of_getElem? (i := 110) rfl)) (hw _ (List.mem_of_getElem? (i := 46) rfl)) (hw _ (List.mem_of_getElem? (i := 112) rfl)) (fun _ hZ => notFace_of_selects (args := #[]) (mvT hZ (hw _ (List.mem_of_getElem? (i := 111) rfl)))) (by decide) f170 (m_sub100_001 l Z a0 hw S0 hz0 _ _ _ f153 f154 f155 f156 f157 f158 f159 f160 f161 f162 f163 f164) (lenOf pd11 rfl) rfl rfl (Nat.le_of_ble_eq_true rfl) (by decide) (by decide) (by decide) (by decide) all0 (fun v165 h166 L167 q168 K169 => ?_)
    obtain rfl := q168
    show Go _ _ _ _ _ _ _ _ _ _ _ _ _ _ _ _ _ _ _ _ _ _ (mkF _ 118 #[.val (.int p0), .val (.int p1), .val (.int p2), .val (.int p3), .val (.int (0 : Int32)), .val (.ref a2), .val (.ref a20), .val (.ref a39), .val (.ref a52), .val (.int (1 : Int32)), .val (.int (0 : Int32)), .val (.ref a128), .val (.int (0 : Int32)), .unset, .unset] [(.int (0 : Int32))])
    refine g_istore #[.val (.int p0), .val (.int p1), .val (.int p2), .val (.int p3), .val (.int (0 : Int32)), .val (.ref a2), .val (.ref a20), .val (.ref a39), .val (.ref a52), .val (.int (1 : Int32)), .val (.int (0 : Int32)), .val (.ref a128), .val (.int (0 : Int32)), .val (.int (0 : Int32)), .unset] C at_118 rfl ?_
    refine g_aload C at_120 rfl rfl ?_
    refine g_iconst (1 : Int32) C at_122 (by decide) ?_
    refine g_invokestatic [(.int (1 : Int32))] [(.ref a52)] 1 C at_123 (hw _ (List.mem_of_getElem? (i := 44) rfl)) (hw _ (List.mem_of_getElem? (i := 45) rfl)) (hw _ (List.mem_of_getElem? (i := 46) rfl)) (hw _ (List.mem_of_getElem? (i := 47) rfl)) (by decide) (m_strings1 l Z a0 hw S0 hz0 _) (lenOf pd7 rfl) rfl rfl (Nat.le_of_ble_eq_true rfl) (by decide) (by decide) (by decide) (by decide) all0 (fun v180 h181 L182 q183 K184 => ?_)
    obtain ⟨a171, rfl, g172, f173, f174, f175, f176, f177, f178, f179⟩ := q183
    show Go _ _ _ _ _ _ _ _ _ _ _ _ _ _ _ _ _ _ _ _ _ _ (mkF _ 126 #[.val (.int p0), .val (.int p1), .val (.int p2), .val (.int p3), .val (.int (0 : Int32)), .val (.ref a2), .val (.ref a20), .val (.ref a39), .val (.ref a52), .val (.int (1 : Int32)), .val (.int (0 : Int32)), .val (.ref a128), .val (.int (0 : Int32)), .val (.int (0 : Int32)), .unset] [(.ref a171), (.ref a52)])
    have f185 := ((f153.keep K169 nin0).keep K184 nin0)
    have f186 := ((f154.keep K169 nin0).keep K184 nin0)
    have f187 := ((f155.keep K169 nin0).keep K184 nin0)
    have f188 := ((f156.keep K169 nin0).keep K184 nin0)
    have f189 := ((f157.keep K169 nin0).keep K184 nin0)
    have f190 := ((f158.keep K169 nin0).keep K184 nin0)
    have f196 := ((f170.keep K169).keep K184)
    refine g_invokevirtual [(.ref a171)] [] 0 C at_126 (hw _ (List.mem_of_getElem? (i := 108) rfl)) (hw _ (List.mem_of_getElem? (i := 109) rfl)) (hw _ (List.mem_of_getElem? (i := 111) rfl)) (hw _ (List.mem_of_getElem? (i := 110) rfl)) (hw _ (List.mem_of_getElem? (i := 46) rfl)) (hw _ (List.mem_of_getElem? (i := 112) rfl)) (fun _ hZ => notFace_of_selects (args := #[]) (mvT hZ (hw _ (List.mem_of_getElem? (i := 111) rfl)))) (by decide) f196 (m_sub100_110 l Z a0 hw S0 hz0 _ _ _ f185 f186 f187 f188 f189 f190 f174 f175 f176 f177 f178 f179) (lenOf pd11 rfl) rfl rfl (Nat.le_of_ble_eq_true rfl) (by decide) (by decide) (by decide) (by decide) all0 (fun v191 h192 L193 q194 K195 => ?_)
    obtain rfl := q194
    show Go _ _ _ _ _ _ _ _ _ _ _ _ _ _ _ _ _ _ _ _ _ _ (mkF _ 129 #[.val (.int p0), .val (.int p1), .val (.int p2), .val (.int p3), .val (.int (0 : Int32)), .val (.ref a2), .val (.ref a20), .val (.ref a39), .val (.ref a52), .val (.int (1 : Int32)), .val (.int (0 : Int32)), .val (.ref a128), .val (.int (0 : Int32)), .val (.int (0 : Int32)), .unset] [(.int (1 : Int32))])
    refine g_istore #[.val (.int p0), .val (.int p1), .val (.int p2), .val (.int p3), .val (.int (0 : Int32)), .val (.ref a2), .val (.ref a20), .val (.ref a39), .val (.ref a52), .val (.int (1 : Int32)), .val (.int (0 : Int32)), .val (.ref a128), .val (.int (0 : Int32)), .val (.int (0 : Int32)), .val (.int (1 : Int32))] C at_129 rfl ?_
    refine g_iload C at_131 rfl ?_
    refine g_ifF C at_133 (show ¬ (1 : Int32) = (0 : Int32) by decide) ?_
    refine g_iload C at_136 rfl ?_
    refine g_iload C at_138 rfl ?_
    refine g_icmpF C at_140 (show (0 : Int32) = (0 : Int32) by decide) ?_
    refine g_iload C at_143 rfl ?_
    refine g_ifF C at_145 (show (0 : Int32) = (0 : Int32) by decide) ?_
    refine g_iload C at_148 rfl ?_
    refine g_ifF C at_150 (show (0 : Int32) = (0 : Int32) by decide) ?_
    refine g_iload C at_153 rfl ?_
    refine g_ifF C at_155 (show ¬ (1 : Int32) = (0 : Int32) by decide) ?_
    refine g_aload C at_158 rfl rfl ?_
    have f197 := (f185.keep K195 nin0)
    have f198 := (f186.keep K195 nin0)
    have f199 := (f187.keep K195 nin0)
    have f200 := (f188.keep K195 nin0)
    have f201 := (f189.keep K195 nin0)
    have f202 := (f190.keep K195 nin0)
    have f208 := (f196.keep K195)
    refine g_invokevirtual [] [] 0 C at_160 (hw _ (List.mem_of_getElem? (i := 113) rfl)) (hw _ (List.mem_of_getElem? (i := 114) rfl)) (hw _ (List.mem_of_getElem? (i := 116) rfl)) (hw _ (List.mem_of_getElem? (i := 115) rfl)) (hw _ (List.mem_of_getElem? (i := 46) rfl)) (hw _ (List.mem_of_getElem? (i := 117) rfl)) (fun _ hZ => notFace_of_selects (args := #[]) (mvT hZ (hw _ (List.mem_of_getElem? (i := 116) rfl)))) (by decide) f208 (m_empty100 l Z a0 hw S0 hz0 _ _ f197 f198 f199 f200 f201 f202) (lenOf pd5 rfl) rfl rfl (Nat.le_of_ble_eq_true rfl) (by decide) (by decide) (by decide) (by decide) all0 (fun v203 h204 L205 q206 K207 => ?_)
    obtain rfl := q206
    show Go _ _ _ _ _ _ _ _ _ _ _ _ _ _ _ _ _ _ _ _ _ _ (mkF _ 163 #[.val (.int p0), .val (.int p1), .val (.int p2), .val (.int p3), .val (.int (0 : Int32)), .val (.ref a2), .val (.ref a20), .val (.ref a39), .val (.ref a52), .val (.int (1 : Int32)), .val (.int (0 : Int32)), .val (.ref a128), .val (.int (0 : Int32)), .val (.int (0 : Int32)), .val (.int (1 : Int32))] [(.int (0 : Int32))])
    refine g_ifF C at_163 (show (0 : Int32) = (0 : Int32) by decide) ?_
    refine g_iconst (1 : Int32) C at_166 (by decide) ?_
    refine g_goto 171 C at_167 (by decide) (by decide) ?_
    exact g_retN C at_171 (by simp) rfl (by decide) (by decide)
  · skip
    refine g_ifF C at_3 (show ¬ (p0 &&& (1 : Int32)) = (0 : Int32) from cc1) ?_
    refine g_iconst (1 : Int32) C at_6 (by decide) ?_
    refine g_goto 11 C at_7 (by decide) (by decide) ?_
    refine g_istore #[.val (.int p0), .val (.int p1), .val (.int p2), .val (.int p3), .val (.int (1 : Int32)), .unset, .unset, .unset, .unset, .unset, .unset, .unset, .unset, .unset, .unset] C at_11 rfl ?_
    refine g_iconst (2 : Int32) C at_13 (by decide) ?_
    refine g_newarray_ (ad := "[C") 2 [(.int (0 : Int32)), (.int (0 : Int32))] C at_14 (hw _ (List.mem_of_getElem? (i := 0) rfl)) (by decide) (by decide) (by decide) (by decide) (by decide) (by decide) (by decide) (fun a209 h210 e211 E212 l213 f214 f215 => ?_)
    have K216 := keep_ext E212
    refine g_astore #[.val (.int p0), .val (.int p1), .val (.int p2), .val (.int p3), .val (.int (1 : Int32)), .val (.ref a209), .unset, .unset, .unset, .unset, .unset, .unset, .unset, .unset, .unset] C at_16 rfl rfl ?_
    refine g_aload C at_18 rfl rfl ?_
    refine g_iconst (0 : Int32) C at_20 (by decide) ?_
    refine g_iloadN C at_21 rfl ?_
    refine g_sipush (255 : Int32) C at_22 (by decide) ?_
    refine g_iand _ C at_25 rfl ?_
    refine g_i2c (p1 &&& (255 : Int32)) C at_26 (i2c_mask _) ?_
    refine g_castore 0 C at_27 f215 (by decide) (by decide) (Nat.le_of_ble_eq_true rfl) (List.mem_of_getElem? (i := 0) rfl) (fun h217 K218 z219 f220 => ?_)
    have f221 : Av Z h217 a209 .char [(.int (p1 &&& (255 : Int32))), (.int (0 : Int32))] := (show nar .char (p1 &&& (255 : Int32)) = (p1 &&& (255 : Int32)) from i2c_mask _) ▸ f220
    refine g_aload C at_28 rfl rfl ?_
    refine g_iconst (1 : Int32) C at_30 (by decide) ?_
    refine g_iloadN C at_31 rfl ?_
    refine g_sipush (255 : Int32) C at_32 (by decide) ?_
    refine g_iand _ C at_35 rfl ?_
    refine g_i2c (p2 &&& (255 : Int32)) C at_36 (i2c_mask _) ?_
    refine g_castore 1 C at_37 f221 (by decide) (by decide) (Nat.le_of_ble_eq_true rfl) (List.mem_of_getElem? (i := 0) rfl) (fun h222 K223 z224 f225 => ?_)
    have f226 : Av Z h222 a209 .char [(.int (p1 &&& (255 : Int32))), (.int (p2 &&& (255 : Int32)))] := (show nar .char (p2 &&& (255 : Int32)) = (p2 &&& (255 : Int32)) from i2c_mask _) ▸ f225
    refine g_new_ C at_38 (hw _ (List.mem_of_getElem? (i := 1) rfl)) (hw _ (List.mem_of_getElem? (i := 2) rfl)) (hw _ (List.mem_of_getElem? (i := 3) rfl)) (by decide) (by decide) (fun a227 h228 e229 E230 l231 f232 D233 => ?_)
    have K234 := keep_ext E230
    have f235 : Fld Z h228 a227 "java/lang/String" "coder" "B" (.int (0 : Int32)) := D233 (Or.inr (hw _ (List.mem_of_getElem? (i := 27) rfl))) (ty := .byte) (by decide)
    have f236 : Fld Z h228 a227 "java/lang/String" "value" "[B" .null := D233 (Or.inr (hw _ (List.mem_of_getElem? (i := 29) rfl))) (ty := (.array .byte)) (by decide)
    refine g_dup C at_41 rfl ?_
    refine g_aload C at_42 rfl rfl ?_
    have f244 := (f226.keep K234 nin0)
    refine g_newStr (cs := [(p1 &&& (255 : Int32)), (p2 &&& (255 : Int32))]) 2 [(.ref a227)] 1 C at_44 (own_hws hw) (hw _ (List.mem_of_getElem? (i := 2) rfl)) (hw _ (List.mem_of_getElem? (i := 4) rfl)) (hw _ (List.mem_of_getElem? (i := 5) rfl)) (hw _ (List.mem_of_getElem? (i := 6) rfl)) f232 f236 f235 f244 S0 hz0 rfl (by decide) (by decide) (own_allS (own_mask255 _) (own_allS (own_mask255 _) own_all0)) rfl (Nat.le_of_ble_eq_true rfl) (by decide) (by decide) (by decide) (by decide) (List.mem_of_getElem? (i := 0) rfl) (fun t237 h238 L239 g240 l241 f242 K243 => ?_)
    have f245 := f242.1
    refine g_astore #[.val (.int p0), .val (.int p1), .val (.int p2), .val (.int p3), .val (.int (1 : Int32)), .val (.ref a209), .val (.ref a227), .unset, .unset, .unset, .unset, .unset, .unset, .unset, .unset] C at_47 rfl rfl ?_
    refine g_iloadN C at_49 rfl ?_
    refine g_sipush (255 : Int32) C at_50 (by decide) ?_
    refine g_iand _ C at_53 rfl ?_
    refine g_i2c (p3 &&& (255 : Int32)) C at_54 (i2c_mask _) ?_
    refine g_invokestatic [(.int (p3 &&& (255 : Int32)))] [] 0 C at_55 (hw _ (List.mem_of_getElem? (i := 30) rfl)) (hw _ (List.mem_of_getElem? (i := 31) rfl)) (hw _ (List.mem_of_getElem? (i := 3) rfl)) (hw _ (List.mem_of_getElem? (i := 32) rfl)) (by decide) (m_valueOf l Z a0 hw S0 hz0 (p3 &&& (255 : Int32)) (own_mask255 _) _) (lenOf pd6 rfl) rfl rfl (Nat.le_of_ble_eq_true rfl) (by decide) (by decide) (by decide) (by decide) all0 (fun v251 h252 L253 q254 K255 => ?_)
    obtain ⟨a246, t247, rfl, g248, l249, f250⟩ := q254
    have f256 := f250.1
    have f257 := f250.2.2.1
    have f258 := f250.2.2.2
    show Go _ _ _ _ _ _ _ _ _ _ _ _ _ _ _ _ _ _ _ _ _ _ (mkF _ 58 #[.val (.int p0), .val (.int p1), .val (.int p2), .val (.int p3), .val (.int (1 : Int32)), .val (.ref a209), .val (.ref a227), .unset, .unset, .unset, .unset, .unset, .unset, .unset, .unset] [(.ref a246)])
    refine g_astore #[.val (.int p0), .val (.int p1), .val (.int p2), .val (.int p3), .val (.int (1 : Int32)), .val (.ref a209), .val (.ref a227), .val (.ref a246), .unset, .unset, .unset, .unset, .unset, .unset, .unset] C at_58 rfl rfl ?_
    refine g_iload C at_60 rfl ?_
    refine g_invokestatic [(.int (1 : Int32))] [] 0 C at_62 (hw _ (List.mem_of_getElem? (i := 44) rfl)) (hw _ (List.mem_of_getElem? (i := 45) rfl)) (hw _ (List.mem_of_getElem? (i := 46) rfl)) (hw _ (List.mem_of_getElem? (i := 47) rfl)) (by decide) (m_strings1 l Z a0 hw S0 hz0 _) (lenOf pd7 rfl) rfl rfl (Nat.le_of_ble_eq_true rfl) (by decide) (by decide) (by decide) (by decide) all0 (fun v268 h269 L270 q271 K272 => ?_)
    obtain ⟨a259, rfl, g260, f261, f262, f263, f264, f265, f266, f267⟩ := q271
    show Go _ _ _ _ _ _ _ _ _ _ _ _ _ _ _ _ _ _ _ _ _ _ (mkF _ 65 #[.val (.int p0), .val (.int p1), .val (.int p2), .val (.int p3), .val (.int (1 : Int32)), .val (.ref a209), .val (.ref a227), .val (.ref a246), .unset, .unset, .unset, .unset, .unset, .unset, .unset] [(.ref a259)])
    refine g_astore #[.val (.int p0), .val (.int p1), .val (.int p2), .val (.int p3), .val (.int (1 : Int32)), .val (.ref a209), .val (.ref a227), .val (.ref a246), .val (.ref a259), .unset, .unset, .unset, .unset, .unset, .unset] C at_65 rfl rfl ?_
    refine g_aload C at_67 rfl rfl ?_
    refine g_aload C at_69 rfl rfl ?_
    refine g_ldcStr (vs := []) (zl := 0) 0 C at_71 (hw _ (List.mem_of_getElem? (i := 66) rfl)) (own_wS hw) (List.mem_of_getElem? (i := 0) rfl) (by decide) (by decide) (by decide) (by decide) (by decide) (by decide) (by decide) (fun a273 a274 h275 E276 f277 f278 f279 f280 n281 => ?_)
    have K282 := keep_ext E276
    refine g_invokestatic [(.ref a227), (.ref a273)] [(.ref a259)] 1 C at_73 (hw _ (List.mem_of_getElem? (i := 69) rfl)) (hw _ (List.mem_of_getElem? (i := 70) rfl)) (hw _ (List.mem_of_getElem? (i := 71) rfl)) (hw _ (List.mem_of_getElem? (i := 72) rfl)) (by decide) (m_string l Z a0 hw S0 hz0 a227 a273 _) (lenOf pd8 rfl) rfl rfl (Nat.le_of_ble_eq_true rfl) (by decide) (by decide) (by decide) (by decide) all0 (fun v289 h290 L291 q292 K293 => ?_)
    obtain ⟨a283, rfl, g284, f285, f286, f287, f288⟩ := q292
    show Go _ _ _ _ _ _ _ _ _ _ _ _ _ _ _ _ _ _ _ _ _ _ (mkF _ 76 #[.val (.int p0), .val (.int p1), .val (.int p2), .val (.int p3), .val (.int (1 : Int32)), .val (.ref a209), .val (.ref a227), .val (.ref a246), .val (.ref a259), .unset, .unset, .unset, .unset, .unset, .unset] [(.ref a283), (.ref a259)])
    have f294 := ((f262.keep K282 nin0).keep K293 nin0)
    have f295 := ((f263.keep K282 nin0).keep K293 nin0)
    have f296 := ((f264.keep K282 nin0).keep K293 nin0)
    have f297 := ((f265.keep K282 nin0).keep K293 nin0)
    have f298 := ((f266.keep K282 nin0).keep K293 nin0)
    have f299 := ((f267.keep K282 nin0).keep K293 nin0)
    have f300 := (f277.keep K293)
    have f301 := (f279.keep K293 nin0)
    have f302 := (f280.keep K293 nin0)
    have f308 := ((f261.keep K282).keep K293)
    refine g_invokevirtual [(.ref a283)] [] 0 C at_76 (hw _ (List.mem_of_getElem? (i := 85) rfl)) (hw _ (List.mem_of_getElem? (i := 86) rfl)) (hw _ (List.mem_of_getElem? (i := 88) rfl)) (hw _ (List.mem_of_getElem? (i := 87) rfl)) (hw _ (List.mem_of_getElem? (i := 46) rfl)) (hw _ (List.mem_of_getElem? (i := 89) rfl)) (fun _ hZ => notFace_of_selects (args := #[]) (mvT hZ (hw _ (List.mem_of_getElem? (i := 88) rfl)))) (by decide) f308 (m_contains110_0 l Z a0 hw S0 hz0 _ _ _ _ _ f294 f295 f296 f297 f298 f299 f285 f287 f288 f300 f301 f302) (lenOf pd9 rfl) rfl rfl (Nat.le_of_ble_eq_true rfl) (by decide) (by decide) (by decide) (by decide) all0 (fun v303 h304 L305 q306 K307 => ?_)
    obtain rfl := q306
    show Go _ _ _ _ _ _ _ _ _ _ _ _ _ _ _ _ _ _ _ _ _ _ (mkF _ 79 #[.val (.int p0), .val (.int p1), .val (.int p2), .val (.int p3), .val (.int (1 : Int32)), .val (.ref a209), .val (.ref a227), .val (.ref a246), .val (.ref a259), .unset, .unset, .unset, .unset, .unset, .unset] [(.int (1 : Int32))])
    refine g_istore #[.val (.int p0), .val (.int p1), .val (.int p2), .val (.int p3), .val (.int (1 : Int32)), .val (.ref a209), .val (.ref a227), .val (.ref a246), .val (.ref a259), .val (.int (1 : Int32)), .unset, .unset, .unset, .unset, .unset] C at_79 rfl ?_
    refine g_aload C at_81 rfl rfl ?_
    refine g_aload C at_83 rfl rfl ?_
    refine g_aload C at_85 rfl rfl ?_
    refine g_invokestatic [(.ref a227), (.ref a246)] [(.ref a259)] 1 C at_87 (hw _ (List.mem_of_getElem? (i := 69) rfl)) (hw _ (List.mem_of_getElem? (i := 70) rfl)) (hw _ (List.mem_of_getElem? (i := 71) rfl)) (hw _ (List.mem_of_getElem? (i := 72) rfl)) (by decide) (m_string l Z a0 hw S0 hz0 a227 a246 _) (lenOf pd8 rfl) rfl rfl (Nat.le_of_ble_eq_true rfl) (by decide) (by decide) (by decide) (by decide) all0 (fun v315 h316 L317 q318 K319 => ?_)
    obtain ⟨a309, rfl, g310, f311, f312, f313, f314⟩ := q318
    show Go _ _ _ _ _ _ _ _ _ _ _ _ _ _ _ _ _ _ _ _ _ _ (mkF _ 90 #[.val (.int p0), .val (.int p1), .val (.int p2), .val (.int p3), .val (.int (1 : Int32)), .val (.ref a209), .val (.ref a227), .val (.ref a246), .val (.ref a259), .val (.int (1 : Int32)), .unset, .unset, .unset, .unset, .unset] [(.ref a309), (.ref a259)])
    have f320 := ((f294.keep K307 nin0).keep K319 nin0)
    have f321 := ((f295.keep K307 nin0).keep K319 nin0)
    have f322 := ((f296.keep K307 nin0).keep K319 nin0)
    have f323 := ((f297.keep K307 nin0).keep K319 nin0)
    have f324 := ((f298.keep K307 nin0).keep K319 nin0)
    have f325 := ((f299.keep K307 nin0).keep K319 nin0)
    have f326 := (((((f256.keep K272).keep K282).keep K293).keep K307).keep K319)
    have f327 := (((((f257.keep K272 nin0).keep K282 nin0).keep K293 nin0).keep K307 nin0).keep K319 nin0)
    have f328 := (((((f258.keep K272 nin0).keep K282 nin0).keep K293 nin0).keep K307 nin0).keep K319 nin0)
    have f334 := ((f308.keep K307).keep K319)
    refine g_invokevirtual [(.ref a309)] [] 0 C at_90 (hw _ (List.mem_of_getElem? (i := 85) rfl)) (hw _ (List.mem_of_getElem? (i := 86) rfl)) (hw _ (List.mem_of_getElem? (i := 88) rfl)) (hw _ (List.mem_of_getElem? (i := 87) rfl)) (hw _ (List.mem_of_getElem? (i := 46) rfl)) (hw _ (List.mem_of_getElem? (i := 89) rfl)) (fun _ hZ => notFace_of_selects (args := #[]) (mvT hZ (hw _ (List.mem_of_getElem? (i := 88) rfl)))) (by decide) f334 (m_contains110_1 l Z a0 hw S0 hz0 _ _ _ _ _ _ f320 f321 f322 f323 f324 f325 f311 f313 f314 f326 f327 f328) (lenOf pd9 rfl) rfl rfl (Nat.le_of_ble_eq_true rfl) (by decide) (by decide) (by decide) (by decide) all0 (fun v329 h330 L331 q332 K333 => ?_)
    obtain rfl := q332
    show Go _ _ _ _ _ _ _ _ _ _ _ _ _ _ _ _ _ _ _ _ _ _ (mkF _ 93 #[.val (.int p0), .val (.int p1), .val (.int p2), .val (.int p3), .val (.int (1 : Int32)), .val (.ref a209), .val (.ref a227), .val (.ref a246), .val (.ref a259), .val (.int (1 : Int32)), .unset, .unset, .unset, .unset, .unset] [(.int (1 : Int32))])
    refine g_istore #[.val (.int p0), .val (.int p1), .val (.int p2), .val (.int p3), .val (.int (1 : Int32)), .val (.ref a209), .val (.ref a227), .val (.ref a246), .val (.ref a259), .val (.int (1 : Int32)), .val (.int (1 : Int32)), .unset, .unset, .unset, .unset] C at_93 rfl ?_
    refine g_aconstNull C at_95 ?_
    refine g_aconstNull C at_96 ?_
    refine g_invokestatic [.null, .null] [] 0 C at_97 (hw _ (List.mem_of_getElem? (i := 105) rfl)) (hw _ (List.mem_of_getElem? (i := 106) rfl)) (hw _ (List.mem_of_getElem? (i := 46) rfl)) (hw _ (List.mem_of_getElem? (i := 107) rfl)) (by decide) (m_integers l Z a0 hw S0 hz0 _) (lenOf pd10 rfl) rfl rfl (Nat.le_of_ble_eq_true rfl) (by decide) (by decide) (by decide) (by decide) all0 (fun v344 h345 L346 q347 K348 => ?_)
    obtain ⟨a335, rfl, g336, f337, f338, f339, f340, f341, f342, f343⟩ := q347
    show Go _ _ _ _ _ _ _ _ _ _ _ _ _ _ _ _ _ _ _ _ _ _ (mkF _ 100 #[.val (.int p0), .val (.int p1), .val (.int p2), .val (.int p3), .val (.int (1 : Int32)), .val (.ref a209), .val (.ref a227), .val (.ref a246), .val (.ref a259), .val (.int (1 : Int32)), .val (.int (1 : Int32)), .unset, .unset, .unset, .unset] [(.ref a335)])
    refine g_astore #[.val (.int p0), .val (.int p1), .val (.int p2), .val (.int p3), .val (.int (1 : Int32)), .val (.ref a209), .val (.ref a227), .val (.ref a246), .val (.ref a259), .val (.int (1 : Int32)), .val (.int (1 : Int32)), .val (.ref a335), .unset, .unset, .unset] C at_100 rfl rfl ?_
    refine g_aload C at_102 rfl rfl ?_
    refine g_aload C at_104 rfl rfl ?_
    have f349 := ((f320.keep K333 nin0).keep K348 nin0)
    have f350 := ((f321.keep K333 nin0).keep K348 nin0)
    have f351 := ((f322.keep K333 nin0).keep K348 nin0)
    have f352 := ((f323.keep K333 nin0).keep K348 nin0)
    have f353 := ((f324.keep K333 nin0).keep K348 nin0)
    have f354 := ((f325.keep K333 nin0).keep K348 nin0)
    refine g_invokevirtual [(.ref a259)] [] 0 C at_106 (hw _ (List.mem_of_getElem? (i := 108) rfl)) (hw _ (List.mem_of_getElem? (i := 109) rfl)) (hw _ (List.mem_of_getElem? (i := 111) rfl)) (hw _ (List.mem_of_getElem? (i := 110) rfl)) (hw _ (List.mem_of_getElem? (i := 46) rfl)) (hw _ (List.mem_of_getElem? (i := 112) rfl)) (fun _ hZ => notFace_of_selects (args := #[]) (mvT hZ (hw _ (List.mem_of_getElem? (i := 111) rfl)))) (by decide) f337 (m_sub001_110 l Z a0 hw S0 hz0 _ _ _ f338 f339 f340 f341 f342 f343 f349 f350 f351 f352 f353 f354) (lenOf pd11 rfl) rfl rfl (Nat.le_of_ble_eq_true rfl) (by decide) (by decide) (by decide) (by decide) all0 (fun v355 h356 L357 q358 K359 => ?_)
    obtain rfl := q358
    show Go _ _ _ _ _ _ _ _ _ _ _ _ _ _ _ _ _ _ _ _ _ _ (mkF _ 109 #[.val (.int p0), .val (.int p1), .val (.int p2), .val (.int p3), .val (.int (1 : Int32)), .val (.ref a209), .val (.ref a227), .val (.ref a246), .val (.ref a259), .val (.int (1 : Int32)), .val (.int (1 : Int32)), .val (.ref a335), .unset, .unset, .unset] [(.int (0 : Int32))])
    refine g_istore #[.val (.int p0), .val (.int p1), .val (.int p2), .val (.int p3), .val (.int (1 : Int32)), .val (.ref a209), .val (.ref a227), .val (.ref a246), .val (.ref a259), .val (.int (1 : Int32)), .val (.int (1 : Int32)), .val (.ref a335), .val (.int (0 : Int32)), .unset, .unset] C at_109 rfl ?_
    refine g_aload C at_111 rfl rfl ?_
    refine g_aload C at_113 rfl rfl ?_
    have f360 := (f349.keep K359 nin0)
    have f361 := (f350.keep K359 nin0)
    have f362 := (f351.keep K359 nin0)
    have f363 := (f352.keep K359 nin0)
    have f364 := (f353.keep K359 nin0)
    have f365 := (f354.keep K359 nin0)
    have f366 := (f338.keep K359 nin0)
    have f367 := (f339.keep K359 nin0)
    have f368 := (f340.keep K359 nin0)
    have f369 := (f341.keep K359 nin0)
    have f370 := (f342.keep K359 nin0)
    have f371 := (f343.keep K359 nin0)
    have f377 := (((f334.keep K333).keep K348).keep K359)
    refine g_invokevirtual [(.ref a335)] [] 0 C at_115 (hw _ (List.mem_of_getElem? (i := 108) rfl)) (hw _ (List.mem_of_getElem? (i := 109) rfl)) (hw _ (List.mem_of_getElem? (i := 111) rfl)) (hw _ (List.mem_of_getElem? (i := 110) rfl)) (hw _ (List.mem_of_getElem? (i := 46) rfl)) (hw _ (List.mem_of_getElem? (i := 112) rfl)) (fun _ hZ => notFace_of_selects (args := #[]) (mvT hZ (hw _ (List.mem_of_getElem? (i := 111) rfl)))) (by decide) f377 (m_sub110_001 l Z a0 hw S0 hz0 _ _ _ f360 f361 f362 f363 f364 f365 f366 f367 f368 f369 f370 f371) (lenOf pd11 rfl) rfl rfl (Nat.le_of_ble_eq_true rfl) (by decide) (by decide) (by decide) (by decide) all0 (fun v372 h373 L374 q375 K376 => ?_)
    obtain rfl := q375
    show Go _ _ _ _ _ _ _ _ _ _ _ _ _ _ _ _ _ _ _ _ _ _ (mkF _ 118 #[.val (.int p0), .val (.int p1), .val (.int p2), .val (.int p3), .val (.int (1 : Int32)), .val (.ref a209), .val (.ref a227), .val (.ref a246), .val (.ref a259), .val (.int (1 : Int32)), .val (.int (1 : Int32)), .val (.ref a335), .val (.int (0 : Int32)), .unset, .unset] [(.int (0 : Int32))])
    refine g_istore #[.val (.int p0), .val (.int p1), .val (.int p2), .val (.int p3), .val (.int (1 : Int32)), .val (.ref a209), .val (.ref a227), .val (.ref a246), .val (.ref a259), .val (.int (1 : Int32)), .val (.int (1 : Int32)), .val (.ref a335), .val (.int (0 : Int32)), .val (.int (0 : Int32)), .unset] C at_118 rfl ?_
    refine g_aload C at_120 rfl rfl ?_
    refine g_iconst (1 : Int32) C at_122 (by decide) ?_
    refine g_invokestatic [(.int (1 : Int32))] [(.ref a259)] 1 C at_123 (hw _ (List.mem_of_getElem? (i := 44) rfl)) (hw _ (List.mem_of_getElem? (i := 45) rfl)) (hw _ (List.mem_of_getElem? (i := 46) rfl)) (hw _ (List.mem_of_getElem? (i := 47) rfl)) (by decide) (m_strings1 l Z a0 hw S0 hz0 _) (lenOf pd7 rfl) rfl rfl (Nat.le_of_ble_eq_true rfl) (by decide) (by decide) (by decide) (by decide) all0 (fun v387 h388 L389 q390 K391 => ?_)
    obtain ⟨a378, rfl, g379, f380, f381, f382, f383, f384, f385, f386⟩ := q390
    show Go _ _ _ _ _ _ _ _ _ _ _ _ _ _ _ _ _ _ _ _ _ _ (mkF _ 126 #[.val (.int p0), .val (.int p1), .val (.int p2), .val (.int p3), .val (.int (1 : Int32)), .val (.ref a209), .val (.ref a227), .val (.ref a246), .val (.ref a259), .val (.int (1 : Int32)), .val (.int (1 : Int32)), .val (.ref a335), .val (.int (0 : Int32)), .val (.int (0 : Int32)), .unset] [(.ref a378), (.ref a259)])
    have f392 := ((f360.keep K376 nin0).keep K391 nin0)
    have f393 := ((f361.keep K376 nin0).keep K391 nin0)
    have f394 := ((f362.keep K376 nin0).keep K391 nin0)
    have f395 := ((f363.keep K376 nin0).keep K391 nin0)
    have f396 := ((f364.keep K376 nin0).keep K391 nin0)
    have f397 := ((f365.keep K376 nin0).keep K391 nin0)
    have f403 := ((f377.keep K376).keep K391)
    refine g_invokevirtual [(.ref a378)] [] 0 C at_126 (hw _ (List.mem_of_getElem? (i := 108) rfl)) (hw _ (List.mem_of_getElem? (i := 109) rfl)) (hw _ (List.mem_of_getElem? (i := 111) rfl)) (hw _ (List.mem_of_getElem? (i := 110) rfl)) (hw _ (List.mem_of_getElem? (i := 46) rfl)) (hw _ (List.mem_of_getElem? (i := 112) rfl)) (fun _ hZ => notFace_of_selects (args := #[]) (mvT hZ (hw _ (List.mem_of_getElem? (i := 111) rfl)))) (by decide) f403 (m_sub110_110 l Z a0 hw S0 hz0 _ _ _ f392 f393 f394 f395 f396 f397 f381 f382 f383 f384 f385 f386) (lenOf pd11 rfl) rfl rfl (Nat.le_of_ble_eq_true rfl) (by decide) (by decide) (by decide) (by decide) all0 (fun v398 h399 L400 q401 K402 => ?_)
    obtain rfl := q401
    show Go _ _ _ _ _ _ _ _ _ _ _ _ _ _ _ _ _ _ _ _ _ _ (mkF _ 129 #[.val (.int p0), .val (.int p1), .val (.int p2), .val (.int p3), .val (.int (1 : Int32)), .val (.ref a209), .val (.ref a227), .val (.ref a246), .val (.ref a259), .val (.int (1 : Int32)), .val (.int (1 : Int32)), .val (.ref a335), .val (.int (0 : Int32)), .val (.int (0 : Int32)), .unset] [(.int (1 : Int32))])
    refine g_istore #[.val (.int p0), .val (.int p1), .val (.int p2), .val (.int p3), .val (.int (1 : Int32)), .val (.ref a209), .val (.ref a227), .val (.ref a246), .val (.ref a259), .val (.int (1 : Int32)), .val (.int (1 : Int32)), .val (.ref a335), .val (.int (0 : Int32)), .val (.int (0 : Int32)), .val (.int (1 : Int32))] C at_129 rfl ?_
    refine g_iload C at_131 rfl ?_
    refine g_ifF C at_133 (show ¬ (1 : Int32) = (0 : Int32) by decide) ?_
    refine g_iload C at_136 rfl ?_
    refine g_iload C at_138 rfl ?_
    refine g_icmpF C at_140 (show (1 : Int32) = (1 : Int32) by decide) ?_
    refine g_iload C at_143 rfl ?_
    refine g_ifF C at_145 (show (0 : Int32) = (0 : Int32) by decide) ?_
    refine g_iload C at_148 rfl ?_
    refine g_ifF C at_150 (show (0 : Int32) = (0 : Int32) by decide) ?_
    refine g_iload C at_153 rfl ?_
    refine g_ifF C at_155 (show ¬ (1 : Int32) = (0 : Int32) by decide) ?_
    refine g_aload C at_158 rfl rfl ?_
    have f404 := (f392.keep K402 nin0)
    have f405 := (f393.keep K402 nin0)
    have f406 := (f394.keep K402 nin0)
    have f407 := (f395.keep K402 nin0)
    have f408 := (f396.keep K402 nin0)
    have f409 := (f397.keep K402 nin0)
    have f415 := (f403.keep K402)
    refine g_invokevirtual [] [] 0 C at_160 (hw _ (List.mem_of_getElem? (i := 113) rfl)) (hw _ (List.mem_of_getElem? (i := 114) rfl)) (hw _ (List.mem_of_getElem? (i := 116) rfl)) (hw _ (List.mem_of_getElem? (i := 115) rfl)) (hw _ (List.mem_of_getElem? (i := 46) rfl)) (hw _ (List.mem_of_getElem? (i := 117) rfl)) (fun _ hZ => notFace_of_selects (args := #[]) (mvT hZ (hw _ (List.mem_of_getElem? (i := 116) rfl)))) (by decide) f415 (m_empty110 l Z a0 hw S0 hz0 _ _ f404 f405 f406 f407 f408 f409) (lenOf pd5 rfl) rfl rfl (Nat.le_of_ble_eq_true rfl) (by decide) (by decide) (by decide) (by decide) all0 (fun v410 h411 L412 q413 K414 => ?_)
    obtain rfl := q413
    show Go _ _ _ _ _ _ _ _ _ _ _ _ _ _ _ _ _ _ _ _ _ _ (mkF _ 163 #[.val (.int p0), .val (.int p1), .val (.int p2), .val (.int p3), .val (.int (1 : Int32)), .val (.ref a209), .val (.ref a227), .val (.ref a246), .val (.ref a259), .val (.int (1 : Int32)), .val (.int (1 : Int32)), .val (.ref a335), .val (.int (0 : Int32)), .val (.int (0 : Int32)), .val (.int (1 : Int32))] [(.int (0 : Int32))])
    refine g_ifF C at_163 (show (0 : Int32) = (0 : Int32) by decide) ?_
    refine g_iconst (1 : Int32) C at_166 (by decide) ?_
    refine g_goto 171 C at_167 (by decide) (by decide) ?_
    exact g_retN C at_171 (by simp) rfl (by decide) (by decide)
set_option maxRecDepth 65536 in
set_option maxHeartbeats 40000000 in
theorem comes_1 {Post : Tables → Env → Array Value → State → Outcome → State → Prop} (hpost : ∀ tb e args s v u, (limb_1_1.after args s (.returned v) u = true ∧ limb_1_2.after args s (.returned v) u = true ∧ True) → ReturnedEndW s (.returned v) u (Jvm.fieldLocs frame_1_writes args s ++ Jvm.arrayLocs frame_1_arrays args s ++ Jvm.staticLocs frame_1_statics s) 32 1216 → Post tb e args s (.returned v) u) :
    ArmFor flags0 classFile x code maxLocals ret World_1 tables_1 room_1 Calls_1 rest_1 Pre_1 Post := by
  intro l hfl _ _ p e ha hc hk s m args below hf hA hF happ hP
  obtain ⟨hcalls, hrest, hpre⟩ := hP
  obtain ⟨-, -, -, hnamed, -, -, -, hat⟩ := (Spec.applies_iff hf).mp happ
  obtain ⟨hg, hn⟩ := and_e (Cond.before_iff.mp (show (Jvm.Cond.and given_1 narrow_1).before args s = true from hpre))
  obtain ⟨h1, h2⟩ := and_e hg
  obtain ⟨g0, h2⟩ := and_e h2
  obtain ⟨g1, h2⟩ := and_e h2
  obtain ⟨g2, g3⟩ := and_e h2
  obtain ⟨w0, w1, w2, w3, rfl⟩ : ∃ w0 w1 w2 w3 : Value, args = #[w0, w1, w2, w3] := by
    have hs : args.size = 4 := by simpa [Cond.value, given_1] using h1
    obtain ⟨L⟩ := args
    match L, hs with
    | [w0, w1, w2, w3], _ => exact ⟨w0, w1, w2, w3, rfl⟩
  have hw := fun d (hd : d ∈ tables_1) => atoms_spec (ws := Jvm.Cond.code x code maxLocals ret :: tables_1) hat d (List.mem_cons_of_mem _ hd)
  obtain ⟨i0, e0⟩ := is_v g0
  obtain rfl : w0 = (.int i0) := Option.some.inj e0
  obtain ⟨i1, e1⟩ := is_v g1
  obtain rfl : w1 = (.int i1) := Option.some.inj e1
  obtain ⟨i2, e2⟩ := is_v g2
  obtain rfl : w2 = (.int i2) := Option.some.inj e2
  obtain ⟨i3, e3⟩ := is_v g3
  obtain rfl : w3 = (.int i3) := Option.some.inj e3
  obtain ⟨hsets, hown0⟩ := atoms_of _ (rest_1_c_eq ▸ (show rest_1_c.before _ s = true from hrest))
  have n5 := not_v (Cond.before_iff.mp (hsets _ (List.mem_of_getElem? (i := 2) rfl)))
  obtain ⟨i11, e10⟩ := is_v (Cond.before_iff.mp (hsets _ (List.mem_of_getElem? (i := 1) rfl)))
  have S0 : Sta s s.heap "java/lang/String" "COMPACT_STRINGS" "Z" (.int i11) := Sta.start e10 (Or.inl (hsets _ (List.mem_of_getElem? (i := 0) rfl)))
  have c17 : ¬ (i11 = (0 : Int32)) := gotF (Cond.eq_ints e10 (Term.int_eval (0))) n5
  have hheld : CHv s [("com/example/entail/entail/model/DataRangeStringsPinLaw", 22)] s.vm s.heap := CHv.start (own_EW hw) (fun q hq => hcalls.1 q ((by decide : ∀ q ∈ ([("com/example/entail/entail/model/DataRangeStringsPinLaw", 22)] : List (String × Nat)), q ∈ consts_1) q hq)) (hsets _ (List.mem_of_getElem? (i := 2) rfl)) (hw _ (List.mem_of_getElem? (i := 19) rfl)) (hw _ (List.mem_of_getElem? (i := 2) rfl))
  obtain ⟨n, o, h1, h2, h3, _, L, rfl, rfl, -, hfin, -, -, N⟩ := m_law l s _ hw S0 c17  i0 i1 i2 i3 s.heap p e ha hc hk s m _ below hf ((Spec.applies_iff_loose hf).mp happ).1 ⟨rfl, State.Warmed39.refl s, rfl, hheld, all0, ⟨Nat.le_refl _, fun _ _ q => q⟩⟩ trivial
  have hq := hfin.2
  refine ⟨n, _, h1, h2, h3, hpost _ _ _ _ _ _ ⟨Cond.after_iff.mpr rfl, Cond.after_iff.mpr (eq_i res_at (Term.int_eval (1)) rfl), trivial⟩ ⟨hq.1, hq.2.1, hq.2.2.1, (hq.2.2.2.sift fun y hy => Or.inr (N y hy)).mono (by decide) (by decide)⟩⟩
theorem main_1_1 : Claimed_1_1 := comes_1 fun _ _ _ _ _ _ h hF => ⟨h.1, hF⟩
theorem main_1_2 : Claimed_1_2 := comes_1 fun _ _ _ _ _ _ h hF => ⟨h.2.1, hF⟩
end Jvm.Pilot.@@N@@
namespace Jvm.Pilot.@@N@@
open Jvm Jvm.ClassFile Sem Op Lib Jvm.Free Jvm.Stand Jvm.Pilot.@@N@@.Jvm.D
/-! MADE BY PROGRAM (witnessworld.py) out of the Statement's table words and the real class files: 21 classes; the members and pool entries that the words name. The judged class is class 1, her method 1. -/
namespace start1
open Jvm.ClassFile
def u (s : String) : CpInfo := .utf8 (stringToUtf16 s)
/-- a pool by its gaps: so many unusable entries, then the entry; so many at the end -/
def gap : Nat → List CpInfo → List CpInfo
  | 0, r => r
  | n + 1, r => .unusable :: gap n r
def poolList (es : List (Nat × CpInfo)) (last : Nat) : List CpInfo := es.foldr (fun e r => gap e.1 (e.2 :: r)) (gap last [])
def pool (es : List (Nat × CpInfo)) (last : Nat) : Array CpInfo := ⟨poolList es last⟩
def fileOf (pool : Array CpInfo) (this : Nat) (attrs : Array Attribute := #[]) (ms : Array MethodInfo := #[]) (fl : Nat := 33) (sup : Nat := 0) (ifs : Array Nat := #[]) (fds : Array FieldInfo := #[]) : ClassFile where
  minorVersion := 0
  majorVersion := 65
  constantPool := pool
  accessFlags := fl
  thisClass := this
  superClass := sup
  interfaces := ifs
  fields := fds
  methods := ms
  attributes := attrs
def plain (name : String) (sup : Option ClassId) : Class where
  name := name
  kind := .ordinary
  loader := none
  accessFlags := 33
  super := sup
  interfaces := #[]
  cf := none
  fields := #[]
  methods := #[]
  instanceTypes := #[]
  staticTypes := #[]
  resolved := #[]
  callSites := []
  init := .initialized
  statics := none
  mirror := none

def pool0 : Array CpInfo := pool [(5, u "<init>"), (0, u "()V"), (1, .class_ 10), (1, u "java/lang/Object")] 113

def k0c0 : Code := { maxStack := 0, maxLocals := 1, code := object_method_1_code, exceptionTable := #[], attributes := #[] }
def k0m0 : Method := { name := "<init>", desc := "()V", sig := { parameters := [], returnType := none }, accessFlags := 1, code := some k0c0 }
/-- java/lang/Object -/
def k0 : Class := { plain "java/lang/Object" none with
  accessFlags := 33
  interfaces := #[]
  cf := some (fileOf pool0 8 #[] #[{ accessFlags := 1, nameIndex := 5, descriptorIndex := 6, attributes := #[] }] 33 0 #[] #[])
  fields := #[]
  methods := #[k0m0]
  instanceTypes := #[]
  staticTypes := #[]
  resolved := Array.replicate 124 none
  statics := none }

def pool1 : Array CpInfo := pool [(2, .class_ 4), (1, u "java/lang/Object"), (0, u "<init>"), (0, u "()V"), (0, .class_ 8), (0, u "java/lang/String"), (0, .methodref 7 10), (0, .nameAndType 5 11), (0, u "([C)V"), (0, .methodref 7 13), (0, .nameAndType 14 15), (0, u "valueOf"), (0, u "(C)Ljava/lang/String;"), (0, .methodref 17 18), (0, .class_ 19), (0, .nameAndType 20 21), (0, u "com/example/entail/entail/model/DataRange"), (0, u "strings"), (0, u "(Z)Lcom/example/entail/entail/model/DataRange;"), (0, .string 23), (0, u ""), (0, .methodref 25 26), (0, .class_ 27), (0, .nameAndType 28 29), (0, u "com/example/entail/entail/model/DataValue"), (0, u "string"), (0, u "(Ljava/lang/String;Ljava/lang/String;)Lcom/example/entail/entail/model/DataValue;"), (0, .methodref 17 31), (0, .nameAndType 32 33), (0, u "contains"), (0, u "(Lcom/example/entail/entail/model/DataValue;)Z"), (0, .methodref 17 35), (0, .nameAndType 36 37), (0, u "integers"), (0, u "(Ljava/math/BigInteger;Ljava/math/BigInteger;)Lcom/example/entail/entail/model/DataRange;"), (0, .methodref 17 39), (0, .nameAndType 40 41), (0, u "isSubsetOf"), (0, u "(Lcom/example/entail/entail/model/DataRange;)Z"), (0, .methodref 17 43), (0, .nameAndType 44 45), (0, u "isEmpty"), (0, u "()Z"), (0, .class_ 47), (0, u "com/example/entail/entail/model/DataRangeStringsPinLaw"), (2, u "law"), (0, u "(IIII)Z")] 5

def k1m0 : Method := { name := "<init>", desc := "()V", sig := { parameters := [], returnType := none }, accessFlags := 1, code := none }
def k1c1 : Code := { maxStack := 4, maxLocals := 15, code := code, exceptionTable := #[], attributes := #[] }
def k1m1 : Method := { name := "law", desc := "(IIII)Z", sig := { parameters := [.int, .int, .int, .int], returnType := some .boolean }, accessFlags := 9, code := some k1c1 }
/-- com/example/entail/entail/model/DataRangeStringsPinLaw -/
def k1 : Class := { plain "com/example/entail/entail/model/DataRangeStringsPinLaw" (some 0) with
  accessFlags := 49
  interfaces := #[]
  cf := some (fileOf pool1 46 #[] #[{ accessFlags := 1, nameIndex := 5, descriptorIndex := 6, attributes := #[] }, { accessFlags := 9, nameIndex := 50, descriptorIndex := 51, attributes := #[] }] 49 2 #[] #[])
  fields := #[]
  methods := #[k1m0, k1m1]
  instanceTypes := #[]
  staticTypes := #[]
  resolved := Array.replicate 57 none
  statics := none }

def pool2 : Array CpInfo := pool [(1, .class_ 2), (0, u "java/io/Serializable"), (0, .class_ 4), (0, u "java/lang/Object")] 2

/-- java/io/Serializable -/
def k2 : Class := { plain "java/io/Serializable" (some 0) with
  accessFlags := 1537
  interfaces := #[]
  cf := some (fileOf pool2 1 #[] #[] 1537 3 #[] #[])
  fields := #[]
  methods := #[]
  instanceTypes := #[]
  staticTypes := #[]
  resolved := Array.replicate 7 none
  statics := none }

def pool3 : Array CpInfo := pool [(1, .class_ 2), (0, u "java/lang/Comparable"), (0, .class_ 4), (0, u "java/lang/Object")] 7

/-- java/lang/Comparable -/
def k3 : Class := { plain "java/lang/Comparable" (some 0) with
  accessFlags := 1537
  interfaces := #[]
  cf := some (fileOf pool3 1 #[] #[] 1537 3 #[] #[])
  fields := #[]
  methods := #[]
  instanceTypes := #[]
  staticTypes := #[]
  resolved := Array.replicate 12 none
  statics := none }

def pool4 : Array CpInfo := pool [(2, .class_ 4), (1, u "java/lang/CharSequence"), (42, .class_ 48), (0, u "java/lang/CharSequence$1CodePointIterator"), (10, .class_ 60), (0, u "java/lang/CharSequence$1CharIterator"), (5, .class_ 67), (0, u "java/lang/Object")] 63

/-- java/lang/CharSequence -/
def k4 : Class := { plain "java/lang/CharSequence" (some 0) with
  accessFlags := 1537
  interfaces := #[]
  cf := some (fileOf pool4 2 #[.nestMembers #[47, 59]] #[] 1537 66 #[] #[])
  fields := #[]
  methods := #[]
  instanceTypes := #[]
  staticTypes := #[]
  resolved := Array.replicate 131 none
  statics := none }

def pool5 : Array CpInfo := pool [(1, .class_ 2), (0, u "java/lang/constant/Constable"), (0, .class_ 4), (0, u "java/lang/Object")] 6

/-- java/lang/constant/Constable -/
def k5 : Class := { plain "java/lang/constant/Constable" (some 0) with
  accessFlags := 1537
  interfaces := #[]
  cf := some (fileOf pool5 1 #[] #[] 1537 3 #[] #[])
  fields := #[]
  methods := #[]
  instanceTypes := #[]
  staticTypes := #[]
  resolved := Array.replicate 11 none
  statics := none }

def pool6 : Array CpInfo := pool [(1, .class_ 2), (0, u "java/lang/constant/ConstantDesc"), (0, .class_ 4), (0, u "java/lang/Object")] 32

/-- java/lang/constant/ConstantDesc -/
def k6 : Class := { plain "java/lang/constant/ConstantDesc" (some 0) with
  accessFlags := 1537
  interfaces := #[]
  cf := some (fileOf pool6 1 #[] #[] 1537 3 #[] #[])
  fields := #[]
  methods := #[]
  instanceTypes := #[]
  staticTypes := #[]
  resolved := Array.replicate 37 none
  statics := none }

def pool7 : Array CpInfo := pool [(1, .methodref 2 3), (0, .class_ 4), (0, .nameAndType 5 6), (0, u "java/lang/Object"), (0, u "<init>"), (0, u "()V"), (2, .fieldref 10 11), (0, .class_ 12), (0, .nameAndType 13 14), (0, u "java/lang/String"), (0, u "value"), (0, u "[B"), (0, .fieldref 10 16), (0, .nameAndType 17 18), (0, u "coder"), (0, u "B"), (2, u "hash"), (0, u "I"), (2, u "hashIsZero"), (0, u "Z"), (0, .methodref 10 28), (0, .nameAndType 5 29), (0, u "([CIILjava/lang/Void;)V"), (8, .fieldref 10 39), (0, .nameAndType 40 26), (0, u "COMPACT_STRINGS"), (1, .class_ 44), (1, u "java/lang/StringUTF16"), (0, u "compress"), (1, .methodref 42 48), (0, .nameAndType 49 50), (0, u "coderFromArrayLen"), (0, u "([BI)B"), (2, u "toBytes"), (53, .class_ 109), (1, u "java/lang/StringLatin1"), (32, u "()Z"), (34, .methodref 42 178), (0, .nameAndType 45 179), (0, u "([CII)[B"), (29, .methodref 10 210), (0, .nameAndType 5 211), (0, u "([BB)V"), (157, u "(C)Z"), (205, .class_ 576), (0, u "java/lang/CharSequence"), (22, u "CASE_INSENSITIVE_ORDER"), (0, u "Ljava/util/Comparator;"), (91, u "isEmpty"), (89, u "valueOf"), (0, u "(C)Ljava/lang/String;"), (226, u "([C)V"), (4, .methodref 107 1016), (0, .nameAndType 1017 369), (0, u "canEncode"), (0, .methodref 107 1019), (0, .nameAndType 53 1020), (0, u "(C)[B"), (80, u "serialPersistentFields"), (0, u "[Ljava/io/ObjectStreamField;"), (0, .class_ 1104), (0, u "java/lang/String$CaseInsensitiveComparator"), (1, .class_ 1107), (0, u "java/io/Serializable"), (0, .class_ 1109), (0, u "java/lang/Comparable"), (0, .class_ 1111), (0, u "java/lang/constant/Constable"), (0, .class_ 1113), (0, u "java/lang/constant/ConstantDesc"), (2, u "serialVersionUID"), (0, u "J"), (3, u "REPL"), (0, u "C"), (2, u "LATIN1"), (1, u "UTF16")] 323

def k7m0 : Method := { name := "<init>", desc := "()V", sig := { parameters := [], returnType := none }, accessFlags := 1, code := none }
def k7c1 : Code := { maxStack := 5, maxLocals := 2, code := jdk_42_method_3_code, exceptionTable := #[], attributes := #[] }
def k7m1 : Method := { name := "<init>", desc := "([C)V", sig := { parameters := [(.array .char)], returnType := none }, accessFlags := 1, code := some k7c1 }
def k7c2 : Code := { maxStack := 1, maxLocals := 1, code := jdk_42_method_55_code, exceptionTable := #[], attributes := #[] }
def k7m2 : Method := { name := "isEmpty", desc := "()Z", sig := { parameters := [], returnType := some .boolean }, accessFlags := 1, code := some k7c2 }
def k7c3 : Code := { maxStack := 4, maxLocals := 1, code := jdk_42_method_139_code, exceptionTable := #[], attributes := #[] }
def k7m3 : Method := { name := "valueOf", desc := "(C)Ljava/lang/String;", sig := { parameters := [.char], returnType := some (.object "java/lang/String") }, accessFlags := 9, code := some k7c3 }
def k7c4 : Code := { maxStack := 4, maxLocals := 6, code := jdk_42_method_149_code, exceptionTable := #[], attributes := #[] }
def k7m4 : Method := { name := "<init>", desc := "([CIILjava/lang/Void;)V", sig := { parameters := [(.array .char), .int, .int, (.object "java/lang/Void")], returnType := none }, accessFlags := 2, code := some k7c4 }
def k7c5 : Code := { maxStack := 2, maxLocals := 3, code := jdk_42_method_151_code, exceptionTable := #[], attributes := #[] }
def k7m5 : Method := { name := "<init>", desc := "([BB)V", sig := { parameters := [(.array .byte), .byte], returnType := none }, accessFlags := 0, code := some k7c5 }
/-- java/lang/String -/
def k7 : Class := { plain "java/lang/String" (some 0) with
  accessFlags := 49
  interfaces := #[2, 3, 4, 5, 6]
  cf := some (fileOf pool7 10 #[.nestMembers #[1103]] #[{ accessFlags := 1, nameIndex := 5, descriptorIndex := 6, attributes := #[] }, { accessFlags := 1, nameIndex := 5, descriptorIndex := 1010, attributes := #[] }, { accessFlags := 1, nameIndex := 692, descriptorIndex := 142, attributes := #[] }, { accessFlags := 9, nameIndex := 782, descriptorIndex := 783, attributes := #[] }, { accessFlags := 2, nameIndex := 5, descriptorIndex := 29, attributes := #[] }, { accessFlags := 0, nameIndex := 5, descriptorIndex := 211, attributes := #[] }] 49 2 #[1106, 1108, 575, 1110, 1112] #[{ accessFlags := 18, nameIndex := 13, descriptorIndex := 14, attributes := #[] }, { accessFlags := 18, nameIndex := 17, descriptorIndex := 18, attributes := #[] }, { accessFlags := 2, nameIndex := 21, descriptorIndex := 22, attributes := #[] }, { accessFlags := 2, nameIndex := 25, descriptorIndex := 26, attributes := #[] }, { accessFlags := 26, nameIndex := 1116, descriptorIndex := 1117, attributes := #[] }, { accessFlags := 24, nameIndex := 40, descriptorIndex := 26, attributes := #[] }, { accessFlags := 26, nameIndex := 1101, descriptorIndex := 1102, attributes := #[] }, { accessFlags := 26, nameIndex := 1121, descriptorIndex := 1122, attributes := #[] }, { accessFlags := 25, nameIndex := 599, descriptorIndex := 600, attributes := #[] }, { accessFlags := 24, nameIndex := 1125, descriptorIndex := 18, attributes := #[] }, { accessFlags := 24, nameIndex := 1127, descriptorIndex := 18, attributes := #[] }])
  fields := #[{ name := "value", type := (.array .byte), accessFlags := 18, slot := 0, constantValue := 0 }, { name := "coder", type := .byte, accessFlags := 18, slot := 1, constantValue := 0 }, { name := "hash", type := .int, accessFlags := 2, slot := 2, constantValue := 0 }, { name := "hashIsZero", type := .boolean, accessFlags := 2, slot := 3, constantValue := 0 }, { name := "serialVersionUID", type := .long, accessFlags := 26, slot := 0, constantValue := 0 }, { name := "COMPACT_STRINGS", type := .boolean, accessFlags := 24, slot := 1, constantValue := 0 }, { name := "serialPersistentFields", type := (.array (.object "java/io/ObjectStreamField")), accessFlags := 26, slot := 2, constantValue := 0 }, { name := "REPL", type := .char, accessFlags := 26, slot := 3, constantValue := 0 }, { name := "CASE_INSENSITIVE_ORDER", type := (.object "java/util/Comparator"), accessFlags := 25, slot := 4, constantValue := 0 }, { name := "LATIN1", type := .byte, accessFlags := 24, slot := 5, constantValue := 0 }, { name := "UTF16", type := .byte, accessFlags := 24, slot := 6, constantValue := 0 }]
  methods := #[k7m0, k7m1, k7m2, k7m3, k7m4, k7m5]
  instanceTypes := #[(.array .byte), .byte, .int, .boolean]
  staticTypes := #[.long, .boolean, (.array (.object "java/io/ObjectStreamField")), .char, (.object "java/util/Comparator"), .byte, .byte]
  resolved := Array.replicate 1451 none
  statics := some 0 }

def pool8 : Array CpInfo := pool [(6, .class_ 8), (1, u "java/lang/Object"), (0, u "<init>"), (0, u "()V"), (1, .class_ 14), (1, u "java/lang/StringUTF16"), (31, u "$assertionsDisabled"), (0, u "Z"), (13, u "HI_BYTE_SHIFT"), (0, u "I"), (2, u "LO_BYTE_SHIFT"), (49, .methodref 12 116), (0, .nameAndType 117 118), (0, u "compress"), (0, u "([CI[BII)I"), (3, u "([CII)[B"), (138, u "coderFromArrayLen"), (0, u "([BI)B"), (106, .class_ 371), (1, u "java/lang/StringUTF16$LinesSpliterator"), (58, u "MAX_LENGTH"), (196, .class_ 628), (0, u "java/lang/StringUTF16$CodePointsSpliterator"), (0, .class_ 630), (0, u "java/lang/StringUTF16$CharsSpliterator")] 4

def k8m0 : Method := { name := "<init>", desc := "()V", sig := { parameters := [], returnType := none }, accessFlags := 0, code := none }
def k8c1 : Code := { maxStack := 2, maxLocals := 2, code := jdk_52_method_15_code, exceptionTable := #[], attributes := #[] }
def k8m1 : Method := { name := "coderFromArrayLen", desc := "([BI)B", sig := { parameters := [(.array .byte), .int], returnType := some .byte }, accessFlags := 8, code := some k8c1 }
def k8c2 : Code := { maxStack := 5, maxLocals := 6, code := jdk_52_method_16_code, exceptionTable := #[], attributes := #[] }
def k8m2 : Method := { name := "compress", desc := "([CII)[B", sig := { parameters := [(.array .char), .int, .int], returnType := some (.array .byte) }, accessFlags := 9, code := some k8c2 }
def k8c3 : Code := { maxStack := 3, maxLocals := 7, code := jdk_52_method_21_code, exceptionTable := #[], attributes := #[] }
def k8m3 : Method := { name := "compress", desc := "([CI[BII)I", sig := { parameters := [(.array .char), .int, (.array .byte), .int, .int], returnType := some .int }, accessFlags := 9, code := some k8c3 }
/-- java/lang/StringUTF16 -/
def k8 : Class := { plain "java/lang/StringUTF16" (some 0) with
  accessFlags := 48
  interfaces := #[]
  cf := some (fileOf pool8 12 #[.nestMembers #[627, 629, 369]] #[{ accessFlags := 0, nameIndex := 9, descriptorIndex := 10, attributes := #[] }, { accessFlags := 8, nameIndex := 261, descriptorIndex := 262, attributes := #[] }, { accessFlags := 9, nameIndex := 117, descriptorIndex := 122, attributes := #[] }, { accessFlags := 9, nameIndex := 117, descriptorIndex := 118, attributes := #[] }] 48 6 #[] #[{ accessFlags := 26, nameIndex := 61, descriptorIndex := 62, attributes := #[] }, { accessFlags := 26, nameIndex := 65, descriptorIndex := 62, attributes := #[] }, { accessFlags := 24, nameIndex := 430, descriptorIndex := 62, attributes := #[] }, { accessFlags := 4120, nameIndex := 46, descriptorIndex := 47, attributes := #[] }])
  fields := #[{ name := "HI_BYTE_SHIFT", type := .int, accessFlags := 26, slot := 0, constantValue := 0 }, { name := "LO_BYTE_SHIFT", type := .int, accessFlags := 26, slot := 1, constantValue := 0 }, { name := "MAX_LENGTH", type := .int, accessFlags := 24, slot := 2, constantValue := 0 }, { name := "$assertionsDisabled", type := .boolean, accessFlags := 4120, slot := 3, constantValue := 0 }]
  methods := #[k8m0, k8m1, k8m2, k8m3]
  instanceTypes := #[]
  staticTypes := #[.int, .int, .int, .boolean]
  resolved := Array.replicate 635 none
  statics := none }

def pool9 : Array CpInfo := pool [(4, .class_ 6), (1, u "java/lang/Object"), (0, u "<init>"), (0, u "()V"), (5, .class_ 16), (1, u "java/lang/StringLatin1"), (73, u "canEncode"), (14, u "(C)Z"), (15, u "$assertionsDisabled"), (0, u "Z"), (98, .class_ 223), (1, u "java/lang/StringLatin1$LinesSpliterator"), (156, u "toBytes"), (1, u "(C)[B"), (7, .class_ 391), (0, u "java/lang/StringLatin1$CharsSpliterator")] 3

def k9m0 : Method := { name := "<init>", desc := "()V", sig := { parameters := [], returnType := none }, accessFlags := 0, code := none }
def k9c1 : Code := { maxStack := 2, maxLocals := 1, code := jdk_43_method_3_code, exceptionTable := #[], attributes := #[] }
def k9m1 : Method := { name := "canEncode", desc := "(C)Z", sig := { parameters := [.char], returnType := some .boolean }, accessFlags := 9, code := some k9c1 }
def k9c2 : Code := { maxStack := 4, maxLocals := 1, code := jdk_43_method_46_code, exceptionTable := #[], attributes := #[] }
def k9m2 : Method := { name := "toBytes", desc := "(C)[B", sig := { parameters := [.char], returnType := some (.array .byte) }, accessFlags := 9, code := some k9c2 }
/-- java/lang/StringLatin1 -/
def k9 : Class := { plain "java/lang/StringLatin1" (some 0) with
  accessFlags := 48
  interfaces := #[]
  cf := some (fileOf pool9 14 #[.nestMembers #[390, 221]] #[{ accessFlags := 0, nameIndex := 7, descriptorIndex := 8, attributes := #[] }, { accessFlags := 9, nameIndex := 90, descriptorIndex := 105, attributes := #[] }, { accessFlags := 9, nameIndex := 380, descriptorIndex := 382, attributes := #[] }] 48 4 #[] #[{ accessFlags := 4120, nameIndex := 121, descriptorIndex := 122, attributes := #[] }])
  fields := #[{ name := "$assertionsDisabled", type := .boolean, accessFlags := 4120, slot := 0, constantValue := 0 }]
  methods := #[k9m0, k9m1, k9m2]
  instanceTypes := #[]
  staticTypes := #[.boolean]
  resolved := Array.replicate 395 none
  statics := none }

def pool10 : Array CpInfo := pool [(1, .methodref 2 3), (0, .class_ 4), (0, .nameAndType 5 6), (0, u "java/lang/Object"), (0, u "<init>"), (0, u "()V"), (0, .fieldref 8 9), (0, .class_ 10), (0, .nameAndType 11 12), (0, u "com/example/entail/entail/model/DataRange"), (0, u "untagged"), (0, u "Z"), (0, .fieldref 8 14), (0, .nameAndType 15 12), (0, u "tagged"), (0, .fieldref 8 17), (0, .nameAndType 18 12), (0, u "integers"), (0, .fieldref 8 20), (0, .nameAndType 21 22), (0, u "min"), (0, u "Ljava/math/BigInteger;"), (0, .fieldref 8 24), (0, .nameAndType 25 22), (0, u "max"), (0, .fieldref 8 27), (0, .nameAndType 28 12), (0, u "otherValues"), (2, u "ALL"), (0, u "Lcom/example/entail/entail/model/DataRange;"), (0, .methodref 8 34), (0, .nameAndType 5 35), (0, u "(ZZZLjava/math/BigInteger;Ljava/math/BigInteger;Z)V"), (11, u "()Z"), (14, .methodref 63 64), (0, .class_ 65), (0, .nameAndType 66 47), (0, u "com/example/entail/entail/model/DataValue"), (0, u "isInteger"), (11, .methodref 63 79), (0, .nameAndType 80 47), (0, u "hasLanguage"), (14, u "strings"), (0, u "(Z)Lcom/example/entail/entail/model/DataRange;"), (0, u "(Ljava/math/BigInteger;Ljava/math/BigInteger;)Lcom/example/entail/entail/model/DataRange;"), (5, u "contains"), (0, u "(Lcom/example/entail/entail/model/DataValue;)Z"), (0, u "isEmpty"), (0, u "isSubsetOf"), (0, u "(Lcom/example/entail/entail/model/DataRange;)Z")] 3

def k10c0 : Code := { maxStack := 2, maxLocals := 7, code := prog_103_method_1_code, exceptionTable := #[], attributes := #[] }
def k10m0 : Method := { name := "<init>", desc := "(ZZZLjava/math/BigInteger;Ljava/math/BigInteger;Z)V", sig := { parameters := [.boolean, .boolean, .boolean, (.object "java/math/BigInteger"), (.object "java/math/BigInteger"), .boolean], returnType := none }, accessFlags := 2, code := some k10c0 }
def k10c1 : Code := { maxStack := 8, maxLocals := 1, code := prog_103_method_3_code, exceptionTable := #[], attributes := #[] }
def k10m1 : Method := { name := "strings", desc := "(Z)Lcom/example/entail/entail/model/DataRange;", sig := { parameters := [.boolean], returnType := some (.object "com/example/entail/entail/model/DataRange") }, accessFlags := 8, code := some k10c1 }
def k10c2 : Code := { maxStack := 8, maxLocals := 2, code := prog_103_method_4_code, exceptionTable := #[], attributes := #[] }
def k10m2 : Method := { name := "integers", desc := "(Ljava/math/BigInteger;Ljava/math/BigInteger;)Lcom/example/entail/entail/model/DataRange;", sig := { parameters := [(.object "java/math/BigInteger"), (.object "java/math/BigInteger")], returnType := some (.object "com/example/entail/entail/model/DataRange") }, accessFlags := 8, code := some k10c2 }
def k10c3 : Code := { maxStack := 2, maxLocals := 3, code := prog_103_method_6_code, exceptionTable := #[], attributes := #[] }
def k10m3 : Method := { name := "contains", desc := "(Lcom/example/entail/entail/model/DataValue;)Z", sig := { parameters := [(.object "com/example/entail/entail/model/DataValue")], returnType := some .boolean }, accessFlags := 1, code := some k10c3 }
def k10c4 : Code := { maxStack := 1, maxLocals := 1, code := prog_103_method_7_code, exceptionTable := #[], attributes := #[] }
def k10m4 : Method := { name := "isEmpty", desc := "()Z", sig := { parameters := [], returnType := some .boolean }, accessFlags := 1, code := some k10c4 }
def k10c5 : Code := { maxStack := 2, maxLocals := 3, code := prog_103_method_8_code, exceptionTable := #[], attributes := #[] }
def k10m5 : Method := { name := "isSubsetOf", desc := "(Lcom/example/entail/entail/model/DataRange;)Z", sig := { parameters := [(.object "com/example/entail/entail/model/DataRange")], returnType := some .boolean }, accessFlags := 1, code := some k10c5 }
/-- com/example/entail/entail/model/DataRange -/
def k10 : Class := { plain "com/example/entail/entail/model/DataRange" (some 0) with
  accessFlags := 33
  interfaces := #[]
  cf := some (fileOf pool10 8 #[] #[{ accessFlags := 2, nameIndex := 5, descriptorIndex := 35, attributes := #[] }, { accessFlags := 8, nameIndex := 95, descriptorIndex := 96, attributes := #[] }, { accessFlags := 8, nameIndex := 18, descriptorIndex := 97, attributes := #[] }, { accessFlags := 1, nameIndex := 103, descriptorIndex := 104, attributes := #[] }, { accessFlags := 1, nameIndex := 105, descriptorIndex := 47, attributes := #[] }, { accessFlags := 1, nameIndex := 106, descriptorIndex := 107, attributes := #[] }] 33 2 #[] #[{ accessFlags := 26, nameIndex := 31, descriptorIndex := 32, attributes := #[] }, { accessFlags := 18, nameIndex := 11, descriptorIndex := 12, attributes := #[] }, { accessFlags := 18, nameIndex := 15, descriptorIndex := 12, attributes := #[] }, { accessFlags := 18, nameIndex := 18, descriptorIndex := 12, attributes := #[] }, { accessFlags := 18, nameIndex := 21, descriptorIndex := 22, attributes := #[] }, { accessFlags := 18, nameIndex := 25, descriptorIndex := 22, attributes := #[] }, { accessFlags := 18, nameIndex := 28, descriptorIndex := 12, attributes := #[] }])
  fields := #[{ name := "ALL", type := (.object "com/example/entail/entail/model/DataRange"), accessFlags := 26, slot := 0, constantValue := 0 }, { name := "untagged", type := .boolean, accessFlags := 18, slot := 0, constantValue := 0 }, { name := "tagged", type := .boolean, accessFlags := 18, slot := 1, constantValue := 0 }, { name := "integers", type := .boolean, accessFlags := 18, slot := 2, constantValue := 0 }, { name := "min", type := (.object "java/math/BigInteger"), accessFlags := 18, slot := 3, constantValue := 0 }, { name := "max", type := (.object "java/math/BigInteger"), accessFlags := 18, slot := 4, constantValue := 0 }, { name := "otherValues", type := .boolean, accessFlags := 18, slot := 5, constantValue := 0 }]
  methods := #[k10m0, k10m1, k10m2, k10m3, k10m4, k10m5]
  instanceTypes := #[.boolean, .boolean, .boolean, (.object "java/math/BigInteger"), (.object "java/math/BigInteger"), .boolean]
  staticTypes := #[(.object "com/example/entail/entail/model/DataRange")]
  resolved := Array.replicate 111 none
  statics := none }

def pool11 : Array CpInfo := pool [(1, .methodref 2 3), (0, .class_ 4), (0, .nameAndType 5 6), (0, u "java/lang/Object"), (0, u "<init>"), (0, u "()V"), (0, .fieldref 8 9), (0, .class_ 10), (0, .nameAndType 11 12), (0, u "com/example/entail/entail/model/DataValue"), (0, u "text"), (0, u "Ljava/lang/String;"), (0, .fieldref 8 14), (0, .nameAndType 15 12), (0, u "language"), (0, .fieldref 8 17), (0, .nameAndType 18 19), (0, u "integer"), (0, u "Ljava/math/BigInteger;"), (0, .methodref 8 21), (0, .nameAndType 5 22), (0, u "(Ljava/lang/String;Ljava/lang/String;Ljava/math/BigInteger;)V"), (2, .methodref 26 27), (0, .class_ 28), (0, .nameAndType 29 30), (0, u "java/lang/String"), (0, u "isEmpty"), (0, u "()Z"), (15, u "isInteger"), (23, u "hasLanguage"), (5, u "string"), (0, u "(Ljava/lang/String;Ljava/lang/String;)Lcom/example/entail/entail/model/DataValue;")] 28

def k11c0 : Code := { maxStack := 2, maxLocals := 4, code := prog_105_method_1_code, exceptionTable := #[], attributes := #[] }
def k11m0 : Method := { name := "<init>", desc := "(Ljava/lang/String;Ljava/lang/String;Ljava/math/BigInteger;)V", sig := { parameters := [(.object "java/lang/String"), (.object "java/lang/String"), (.object "java/math/BigInteger")], returnType := none }, accessFlags := 2, code := some k11c0 }
def k11c1 : Code := { maxStack := 5, maxLocals := 2, code := prog_105_method_2_code, exceptionTable := #[], attributes := #[] }
def k11m1 : Method := { name := "string", desc := "(Ljava/lang/String;Ljava/lang/String;)Lcom/example/entail/entail/model/DataValue;", sig := { parameters := [(.object "java/lang/String"), (.object "java/lang/String")], returnType := some (.object "com/example/entail/entail/model/DataValue") }, accessFlags := 8, code := some k11c1 }
def k11c2 : Code := { maxStack := 1, maxLocals := 1, code := prog_105_method_4_code, exceptionTable := #[], attributes := #[] }
def k11m2 : Method := { name := "isInteger", desc := "()Z", sig := { parameters := [], returnType := some .boolean }, accessFlags := 0, code := some k11c2 }
def k11c3 : Code := { maxStack := 1, maxLocals := 1, code := prog_105_method_6_code, exceptionTable := #[], attributes := #[] }
def k11m3 : Method := { name := "hasLanguage", desc := "()Z", sig := { parameters := [], returnType := some .boolean }, accessFlags := 0, code := some k11c3 }
/-- com/example/entail/entail/model/DataValue -/
def k11 : Class := { plain "com/example/entail/entail/model/DataValue" (some 0) with
  accessFlags := 33
  interfaces := #[]
  cf := some (fileOf pool11 8 #[] #[{ accessFlags := 2, nameIndex := 5, descriptorIndex := 22, attributes := #[] }, { accessFlags := 8, nameIndex := 76, descriptorIndex := 77, attributes := #[] }, { accessFlags := 0, nameIndex := 46, descriptorIndex := 30, attributes := #[] }, { accessFlags := 0, nameIndex := 70, descriptorIndex := 30, attributes := #[] }] 33 2 #[] #[{ accessFlags := 18, nameIndex := 11, descriptorIndex := 12, attributes := #[] }, { accessFlags := 18, nameIndex := 15, descriptorIndex := 12, attributes := #[] }, { accessFlags := 18, nameIndex := 18, descriptorIndex := 19, attributes := #[] }])
  fields := #[{ name := "text", type := (.object "java/lang/String"), accessFlags := 18, slot := 0, constantValue := 0 }, { name := "language", type := (.object "java/lang/String"), accessFlags := 18, slot := 1, constantValue := 0 }, { name := "integer", type := (.object "java/math/BigInteger"), accessFlags := 18, slot := 2, constantValue := 0 }]
  methods := #[k11m0, k11m1, k11m2, k11m3]
  instanceTypes := #[(.object "java/lang/String"), (.object "java/lang/String"), (.object "java/math/BigInteger")]
  staticTypes := #[]
  resolved := Array.replicate 106 none
  statics := none }

def pool12 : Array CpInfo := pool [(2, .class_ 4), (1, u "java/lang/Object"), (0, u "<init>"), (0, u "()V"), (17, .class_ 26), (1, u "jdk/internal/util/Preconditions"), (28, .class_ 56), (0, u "jdk/internal/util/Preconditions$4"), (57, .class_ 115), (0, u "jdk/internal/util/Preconditions$1"), (7, u "SIOOBE_FORMATTER"), (0, u "Ljava/util/function/BiFunction;"), (0, .class_ 126), (0, u "jdk/internal/util/Preconditions$2"), (3, u "AIOOBE_FORMATTER"), (0, .class_ 132), (0, u "jdk/internal/util/Preconditions$3"), (3, u "IOOBE_FORMATTER")] 57

def k12m0 : Method := { name := "<init>", desc := "()V", sig := { parameters := [], returnType := none }, accessFlags := 1, code := none }
/-- jdk/internal/util/Preconditions -/
def k12 : Class := { plain "jdk/internal/util/Preconditions" (some 0) with
  accessFlags := 33
  interfaces := #[]
  cf := some (fileOf pool12 24 #[.nestMembers #[55, 131, 125, 114]] #[{ accessFlags := 1, nameIndex := 5, descriptorIndex := 6, attributes := #[] }] 33 2 #[] #[{ accessFlags := 25, nameIndex := 123, descriptorIndex := 124, attributes := #[] }, { accessFlags := 25, nameIndex := 130, descriptorIndex := 124, attributes := #[] }, { accessFlags := 25, nameIndex := 136, descriptorIndex := 124, attributes := #[] }])
  fields := #[{ name := "SIOOBE_FORMATTER", type := (.object "java/util/function/BiFunction"), accessFlags := 25, slot := 0, constantValue := 0 }, { name := "AIOOBE_FORMATTER", type := (.object "java/util/function/BiFunction"), accessFlags := 25, slot := 1, constantValue := 0 }, { name := "IOOBE_FORMATTER", type := (.object "java/util/function/BiFunction"), accessFlags := 25, slot := 2, constantValue := 0 }]
  methods := #[k12m0]
  instanceTypes := #[]
  staticTypes := #[(.object "java/util/function/BiFunction"), (.object "java/util/function/BiFunction"), (.object "java/util/function/BiFunction")]
  resolved := Array.replicate 194 none
  statics := some 1 }

def pool13 : Array CpInfo := pool [(9, u "<init>"), (6, .class_ 18), (1, u "java/lang/Object"), (0, u "()V"), (1, .class_ 23), (1, u "jdk/internal/util/ArraysSupport"), (0, u "LOG2_ARRAY_LONG_INDEX_SCALE"), (0, u "I"), (2, u "U"), (0, u "Ljdk/internal/misc/Unsafe;"), (8, u "BIG_ENDIAN"), (0, u "Z"), (8, u "LOG2_BYTE_BIT_SIZE"), (4, u "LOG2_ARRAY_INT_INDEX_SCALE"), (54, u "JLA"), (0, u "Ljdk/internal/access/JavaLangAccess;"), (11, u "LOG2_ARRAY_BOOLEAN_INDEX_SCALE"), (9, u "LOG2_ARRAY_BYTE_INDEX_SCALE"), (5, u "LOG2_ARRAY_CHAR_INDEX_SCALE"), (5, u "LOG2_ARRAY_SHORT_INDEX_SCALE"), (18, u "LOG2_ARRAY_FLOAT_INDEX_SCALE"), (24, u "LOG2_ARRAY_DOUBLE_INDEX_SCALE"), (89, u "T_BOOLEAN"), (2, u "T_CHAR"), (1, u "T_FLOAT"), (1, u "T_DOUBLE"), (1, u "T_BYTE"), (1, u "T_SHORT"), (1, u "T_INT"), (1, u "T_LONG"), (1, u "SOFT_MAX_ARRAY_LENGTH")] 83

def k13m0 : Method := { name := "<init>", desc := "()V", sig := { parameters := [], returnType := none }, accessFlags := 2, code := none }
/-- jdk/internal/util/ArraysSupport -/
def k13 : Class := { plain "jdk/internal/util/ArraysSupport" (some 0) with
  accessFlags := 33
  interfaces := #[]
  cf := some (fileOf pool13 21 #[] #[{ accessFlags := 2, nameIndex := 9, descriptorIndex := 19, attributes := #[] }] 33 16 #[] #[{ accessFlags := 24, nameIndex := 28, descriptorIndex := 29, attributes := #[] }, { accessFlags := 26, nameIndex := 38, descriptorIndex := 39, attributes := #[] }, { accessFlags := 25, nameIndex := 121, descriptorIndex := 25, attributes := #[] }, { accessFlags := 25, nameIndex := 131, descriptorIndex := 25, attributes := #[] }, { accessFlags := 25, nameIndex := 137, descriptorIndex := 25, attributes := #[] }, { accessFlags := 25, nameIndex := 143, descriptorIndex := 25, attributes := #[] }, { accessFlags := 25, nameIndex := 53, descriptorIndex := 25, attributes := #[] }, { accessFlags := 25, nameIndex := 24, descriptorIndex := 25, attributes := #[] }, { accessFlags := 25, nameIndex := 162, descriptorIndex := 25, attributes := #[] }, { accessFlags := 25, nameIndex := 187, descriptorIndex := 25, attributes := #[] }, { accessFlags := 26, nameIndex := 48, descriptorIndex := 25, attributes := #[] }, { accessFlags := 25, nameIndex := 277, descriptorIndex := 25, attributes := #[] }, { accessFlags := 25, nameIndex := 280, descriptorIndex := 25, attributes := #[] }, { accessFlags := 25, nameIndex := 282, descriptorIndex := 25, attributes := #[] }, { accessFlags := 25, nameIndex := 284, descriptorIndex := 25, attributes := #[] }, { accessFlags := 25, nameIndex := 286, descriptorIndex := 25, attributes := #[] }, { accessFlags := 25, nameIndex := 288, descriptorIndex := 25, attributes := #[] }, { accessFlags := 25, nameIndex := 290, descriptorIndex := 25, attributes := #[] }, { accessFlags := 25, nameIndex := 292, descriptorIndex := 25, attributes := #[] }, { accessFlags := 26, nameIndex := 108, descriptorIndex := 109, attributes := #[] }, { accessFlags := 25, nameIndex := 294, descriptorIndex := 25, attributes := #[] }])
  fields := #[{ name := "U", type := (.object "jdk/internal/misc/Unsafe"), accessFlags := 24, slot := 0, constantValue := 0 }, { name := "BIG_ENDIAN", type := .boolean, accessFlags := 26, slot := 1, constantValue := 0 }, { name := "LOG2_ARRAY_BOOLEAN_INDEX_SCALE", type := .int, accessFlags := 25, slot := 2, constantValue := 0 }, { name := "LOG2_ARRAY_BYTE_INDEX_SCALE", type := .int, accessFlags := 25, slot := 3, constantValue := 0 }, { name := "LOG2_ARRAY_CHAR_INDEX_SCALE", type := .int, accessFlags := 25, slot := 4, constantValue := 0 }, { name := "LOG2_ARRAY_SHORT_INDEX_SCALE", type := .int, accessFlags := 25, slot := 5, constantValue := 0 }, { name := "LOG2_ARRAY_INT_INDEX_SCALE", type := .int, accessFlags := 25, slot := 6, constantValue := 0 }, { name := "LOG2_ARRAY_LONG_INDEX_SCALE", type := .int, accessFlags := 25, slot := 7, constantValue := 0 }, { name := "LOG2_ARRAY_FLOAT_INDEX_SCALE", type := .int, accessFlags := 25, slot := 8, constantValue := 0 }, { name := "LOG2_ARRAY_DOUBLE_INDEX_SCALE", type := .int, accessFlags := 25, slot := 9, constantValue := 0 }, { name := "LOG2_BYTE_BIT_SIZE", type := .int, accessFlags := 26, slot := 10, constantValue := 0 }, { name := "T_BOOLEAN", type := .int, accessFlags := 25, slot := 11, constantValue := 0 }, { name := "T_CHAR", type := .int, accessFlags := 25, slot := 12, constantValue := 0 }, { name := "T_FLOAT", type := .int, accessFlags := 25, slot := 13, constantValue := 0 }, { name := "T_DOUBLE", type := .int, accessFlags := 25, slot := 14, constantValue := 0 }, { name := "T_BYTE", type := .int, accessFlags := 25, slot := 15, constantValue := 0 }, { name := "T_SHORT", type := .int, accessFlags := 25, slot := 16, constantValue := 0 }, { name := "T_INT", type := .int, accessFlags := 25, slot := 17, constantValue := 0 }, { name := "T_LONG", type := .int, accessFlags := 25, slot := 18, constantValue := 0 }, { name := "JLA", type := (.object "jdk/internal/access/JavaLangAccess"), accessFlags := 26, slot := 19, constantValue := 0 }, { name := "SOFT_MAX_ARRAY_LENGTH", type := .int, accessFlags := 25, slot := 20, constantValue := 0 }]
  methods := #[k13m0]
  instanceTypes := #[]
  staticTypes := #[(.object "jdk/internal/misc/Unsafe"), .boolean, .int, .int, .int, .int, .int, .int, .int, .int, .int, .int, .int, .int, .int, .int, .int, .int, .int, (.object "jdk/internal/access/JavaLangAccess"), .int]
  resolved := Array.replicate 378 none
  statics := none }

def pool14 : Array CpInfo := pool [(1, u "java/lang/Cloneable"), (0, .class_ 1), (0, u "java/lang/Object"), (0, .class_ 3)] 3

/-- java/lang/Cloneable -/
def k14 : Class := { plain "java/lang/Cloneable" (some 0) with
  accessFlags := 1537
  interfaces := #[]
  cf := some (fileOf pool14 2 #[] #[] 1537 4 #[] #[])
  fields := #[]
  methods := #[]
  instanceTypes := #[]
  staticTypes := #[]
  resolved := Array.replicate 8 none
  statics := none }

/-- the primitive byte -/
def k15 : Class := { plain "byte" none with kind := .primitive 'B', accessFlags := 0x411 }
/-- [B -/
def k16 : Class := { plain "[B" (some 0) with kind := .array 15 .byte, interfaces := #[14, 2], accessFlags := 1041 }

/-- the primitive char -/
def k17 : Class := { plain "char" none with kind := .primitive 'C', accessFlags := 0x411 }
/-- [C -/
def k18 : Class := { plain "[C" (some 0) with kind := .array 17 .char, interfaces := #[14, 2], accessFlags := 1041 }

/-- the primitive int -/
def k19 : Class := { plain "int" none with kind := .primitive 'I', accessFlags := 0x411 }
/-- [I -/
def k20 : Class := { plain "[I" (some 0) with kind := .array 19 .int, interfaces := #[14, 2], accessFlags := 1041 }

def heap : Heap := #[{ cls := 7, slots := #[.long 0, .int 1, .null, .int 0, .null, .int 0, .int 0], vm := .statics 7 },
  { cls := 12, slots := #[.null, .null, .null], vm := .statics 12 }]
def classes : Array Class := #[k0, k1, k2, k3, k4, k5, k6, k7, k8, k9, k10, k11, k12, k13, k14, k15, k16, k17, k18, k19, k20]
def interned : List (Array UInt16 × Addr) := []
def slotsUsed : Nat := 10
def theMethod : MethodId := ⟨1, 1⟩
def args0 : Array Value := #[.int 5, .int 6, .int 7, .int 8]
def aboutOver (below : List Frame) : State where
  vm := { classes := classes, interned := interned.toArray }
  heap := heap
  slotsUsed := slotsUsed
  threads := #[{ frames := .invoking theMethod args0 :: below }]
def below0 : List Frame := [.native { method := ⟨0, 0⟩, args := #[] }]
def about1 : State := aboutOver below0
def p0 : Program := .bare "" "" ""
def e0 : Env := launch0.env 0 0 0
theorem w_frames : about1.frames = Frame.invoking theMethod args0 :: below0 := rfl
set_option maxRecDepth 65536 in
theorem w_args : argsFit about1.vm theMethod args0 = true := by decide +kernel
set_option maxRecDepth 65536 in
theorem w_heap : heapFits about1 = true := by decide +kernel
set_option maxRecDepth 65536 in
theorem w_runnable : about1.curStatus? = some .runnable := by decide +kernel
set_option maxRecDepth 65536 in
theorem w_alone : about1.alone = true := by decide +kernel
set_option maxRecDepth 65536 in
theorem w_named : about1.methodNamed? x = some theMethod := by decide +kernel
set_option maxRecDepth 65536 in
theorem w_hears : about1.hears theMethod below0 = true := by decide +kernel
set_option maxRecDepth 65536 in
theorem w_ripe : about1.ripe theMethod args0 below0 = true := by decide +kernel
theorem w_running : about1.status = .running := rfl
set_option maxRecDepth 65536 in
theorem w_room : about1.hasRoom e0.platform room_1 = true :=
  launch0.hasRoom_least _ room_1 (by decide +kernel) (by decide +kernel) (by decide +kernel) (by decide +kernel) (by decide +kernel) (by decide +kernel)
theorem allAtoms_all (ts : List Jvm.Cond) (a : Array Jvm.Value) (st : Jvm.State) : (allAtoms ts).before a st = ts.all (fun c => c.before a st) := by
  induction ts with
  | nil => rfl
  | cons c t ih =>
    show (Jvm.Cond.and c (allAtoms t)).before a st = _
    rw [Jvm.Cond.before_and, ih, List.all_cons]
def words1 : List Jvm.Cond := Jvm.Cond.code x code maxLocals ret :: tables_1
/-- a 'code' word, met by the world's own term for the bytes: nothing is compared byte by byte -/
theorem code_word {y : MethodName} {bytes : ByteArray} {mx : Nat} {rt : Option FieldType} {a : Array Value} {s : State} {m : MethodId} {meth : Method} {c : Code} (h1 : s.methodNamed? y = some m) (h2 : s.vm.method? m = some meth) (h3 : meth.code = some c) (h4 : c.code = bytes)
    (h5 : (c.maxLocals == mx && c.exceptionTable.isEmpty && decide (c.maxStack ≤ mostOperands) && decide (meth.sig.returnType = rt) && !meth.locks && decide (parseMethodDescriptor y.desc = some meth.sig)) = true) : (Jvm.Cond.code y bytes mx rt).before a s = true := by
  simp only [Bool.and_eq_true, beq_iff_eq, Bool.not_eq_true', decide_eq_true_eq] at h5
  obtain ⟨⟨⟨⟨⟨g1, g2⟩, g3⟩, g4⟩, g5⟩, g6⟩ := h5
  simp [Cond.before, Cond.holds, Cond.value, h1, h2, h3, h4, g1, g2, g3, g4, g5, g6]
def isCode : Jvm.Cond → Bool
  | .code _ _ _ _ => true
  | _ => false
theorem all_split {L : List Jvm.Cond} {P : Jvm.Cond → Bool} (h1 : L.all (fun c => isCode c || P c) = true) (h2 : ∀ c ∈ L.filter isCode, P c = true) : L.all P = true := by
  refine List.all_eq_true.mpr fun c hc => ?_
  have h := List.all_eq_true.mp h1 c hc
  rcases Bool.eq_false_or_eq_true (isCode c) with hi | hi
  · exact h2 c (List.mem_filter.mpr ⟨hc, hi⟩)
  · simpa [hi] using h
set_option maxRecDepth 65536 in
theorem w_c0 : (Jvm.Cond.code x code maxLocals ret).before args0 about1 = true := code_word (m := ⟨1, 1⟩) (meth := k1m1) (c := k1c1) (by decide +kernel) rfl rfl rfl (by decide +kernel)
set_option maxRecDepth 65536 in
theorem w_c1 : (Jvm.Cond.code ({ cls := "java/lang/String", name := "<init>", desc := "([C)V" } : Jvm.MethodName) jdk_42_method_3_code (2 : Nat) (Option.none : Option Jvm.ClassFile.FieldType)).before args0 about1 = true := code_word (m := ⟨7, 1⟩) (meth := k7m1) (c := k7c1) (by decide +kernel) rfl rfl rfl (by decide +kernel)
set_option maxRecDepth 65536 in
theorem w_c2 : (Jvm.Cond.code ({ cls := "java/lang/String", name := "<init>", desc := "([CIILjava/lang/Void;)V" } : Jvm.MethodName) jdk_42_method_149_code (6 : Nat) (Option.none : Option Jvm.ClassFile.FieldType)).before args0 about1 = true := code_word (m := ⟨7, 4⟩) (meth := k7m4) (c := k7c4) (by decide +kernel) rfl rfl rfl (by decide +kernel)
set_option maxRecDepth 65536 in
theorem w_c3 : (Jvm.Cond.code ({ cls := "java/lang/Object", name := "<init>", desc := "()V" } : Jvm.MethodName) object_method_1_code (1 : Nat) (Option.none : Option Jvm.ClassFile.FieldType)).before args0 about1 = true := code_word (m := ⟨0, 0⟩) (meth := k0m0) (c := k0c0) (by decide +kernel) rfl rfl rfl (by decide +kernel)
set_option maxRecDepth 65536 in
theorem w_c4 : (Jvm.Cond.code ({ cls := "java/lang/StringUTF16", name := "compress", desc := "([CII)[B" } : Jvm.MethodName) jdk_52_method_16_code (6 : Nat) (Option.some (Jvm.ClassFile.FieldType.array Jvm.ClassFile.FieldType.byte))).before args0 about1 = true := code_word (m := ⟨8, 2⟩) (meth := k8m2) (c := k8c2) (by decide +kernel) rfl rfl rfl (by decide +kernel)
set_option maxRecDepth 65536 in
theorem w_c5 : (Jvm.Cond.code ({ cls := "java/lang/StringUTF16", name := "compress", desc := "([CI[BII)I" } : Jvm.MethodName) jdk_52_method_21_code (7 : Nat) (Option.some Jvm.ClassFile.FieldType.int)).before args0 about1 = true := code_word (m := ⟨8, 3⟩) (meth := k8m3) (c := k8c3) (by decide +kernel) rfl rfl rfl (by decide +kernel)
set_option maxRecDepth 65536 in
theorem w_c6 : (Jvm.Cond.code ({ cls := "java/lang/StringUTF16", name := "coderFromArrayLen", desc := "([BI)B" } : Jvm.MethodName) jdk_52_method_15_code (2 : Nat) (Option.some Jvm.ClassFile.FieldType.byte)).before args0 about1 = true := code_word (m := ⟨8, 1⟩) (meth := k8m1) (c := k8c1) (by decide +kernel) rfl rfl rfl (by decide +kernel)
set_option maxRecDepth 65536 in
theorem w_c7 : (Jvm.Cond.code ({ cls := "java/lang/String", name := "valueOf", desc := "(C)Ljava/lang/String;" } : Jvm.MethodName) jdk_42_method_139_code (1 : Nat) (Option.some (Jvm.ClassFile.FieldType.object "java/lang/String"))).before args0 about1 = true := code_word (m := ⟨7, 3⟩) (meth := k7m3) (c := k7c3) (by decide +kernel) rfl rfl rfl (by decide +kernel)
set_option maxRecDepth 65536 in
theorem w_c8 : (Jvm.Cond.code ({ cls := "java/lang/StringLatin1", name := "canEncode", desc := "(C)Z" } : Jvm.MethodName) jdk_43_method_3_code (1 : Nat) (Option.some Jvm.ClassFile.FieldType.boolean)).before args0 about1 = true := code_word (m := ⟨9, 1⟩) (meth := k9m1) (c := k9c1) (by decide +kernel) rfl rfl rfl (by decide +kernel)
set_option maxRecDepth 65536 in
theorem w_c9 : (Jvm.Cond.code ({ cls := "java/lang/StringLatin1", name := "toBytes", desc := "(C)[B" } : Jvm.MethodName) jdk_43_method_46_code (1 : Nat) (Option.some (Jvm.ClassFile.FieldType.array Jvm.ClassFile.FieldType.byte))).before args0 about1 = true := code_word (m := ⟨9, 2⟩) (meth := k9m2) (c := k9c2) (by decide +kernel) rfl rfl rfl (by decide +kernel)
set_option maxRecDepth 65536 in
theorem w_c10 : (Jvm.Cond.code ({ cls := "java/lang/String", name := "<init>", desc := "([BB)V" } : Jvm.MethodName) jdk_42_method_151_code (3 : Nat) (Option.none : Option Jvm.ClassFile.FieldType)).before args0 about1 = true := code_word (m := ⟨7, 5⟩) (meth := k7m5) (c := k7c5) (by decide +kernel) rfl rfl rfl (by decide +kernel)
set_option maxRecDepth 65536 in
theorem w_c11 : (Jvm.Cond.code ({ cls := "com/example/entail/entail/model/DataRange", name := "strings", desc := "(Z)Lcom/example/entail/entail/model/DataRange;" } : Jvm.MethodName) prog_103_method_3_code (1 : Nat) (Option.some (Jvm.ClassFile.FieldType.object "com/example/entail/entail/model/DataRange"))).before args0 about1 = true := code_word (m := ⟨10, 1⟩) (meth := k10m1) (c := k10c1) (by decide +kernel) rfl rfl rfl (by decide +kernel)
set_option maxRecDepth 65536 in
theorem w_c12 : (Jvm.Cond.code ({ cls := "com/example/entail/entail/model/DataRange", name := "<init>", desc := "(ZZZLjava/math/BigInteger;Ljava/math/BigInteger;Z)V" } : Jvm.MethodName) prog_103_method_1_code (7 : Nat) (Option.none : Option Jvm.ClassFile.FieldType)).before args0 about1 = true := code_word (m := ⟨10, 0⟩) (meth := k10m0) (c := k10c0) (by decide +kernel) rfl rfl rfl (by decide +kernel)
set_option maxRecDepth 65536 in
theorem w_c13 : (Jvm.Cond.code ({ cls := "com/example/entail/entail/model/DataValue", name := "string", desc := "(Ljava/lang/String;Ljava/lang/String;)Lcom/example/entail/entail/model/DataValue;" } : Jvm.MethodName) prog_105_method_2_code (2 : Nat) (Option.some (Jvm.ClassFile.FieldType.object "com/example/entail/entail/model/DataValue"))).before args0 about1 = true := code_word (m := ⟨11, 1⟩) (meth := k11m1) (c := k11c1) (by decide +kernel) rfl rfl rfl (by decide +kernel)
set_option maxRecDepth 65536 in
theorem w_c14 : (Jvm.Cond.code ({ cls := "com/example/entail/entail/model/DataValue", name := "<init>", desc := "(Ljava/lang/String;Ljava/lang/String;Ljava/math/BigInteger;)V" } : Jvm.MethodName) prog_105_method_1_code (4 : Nat) (Option.none : Option Jvm.ClassFile.FieldType)).before args0 about1 = true := code_word (m := ⟨11, 0⟩) (meth := k11m0) (c := k11c0) (by decide +kernel) rfl rfl rfl (by decide +kernel)
set_option maxRecDepth 65536 in
theorem w_c15 : (Jvm.Cond.code ({ cls := "com/example/entail/entail/model/DataRange", name := "contains", desc := "(Lcom/example/entail/entail/model/DataValue;)Z" } : Jvm.MethodName) prog_103_method_6_code (3 : Nat) (Option.some Jvm.ClassFile.FieldType.boolean)).before args0 about1 = true := code_word (m := ⟨10, 3⟩) (meth := k10m3) (c := k10c3) (by decide +kernel) rfl rfl rfl (by decide +kernel)
set_option maxRecDepth 65536 in
theorem w_c16 : (Jvm.Cond.code ({ cls := "com/example/entail/entail/model/DataValue", name := "isInteger", desc := "()Z" } : Jvm.MethodName) prog_105_method_4_code (1 : Nat) (Option.some Jvm.ClassFile.FieldType.boolean)).before args0 about1 = true := code_word (m := ⟨11, 2⟩) (meth := k11m2) (c := k11c2) (by decide +kernel) rfl rfl rfl (by decide +kernel)
set_option maxRecDepth 65536 in
theorem w_c17 : (Jvm.Cond.code ({ cls := "com/example/entail/entail/model/DataValue", name := "hasLanguage", desc := "()Z" } : Jvm.MethodName) prog_105_method_6_code (1 : Nat) (Option.some Jvm.ClassFile.FieldType.boolean)).before args0 about1 = true := code_word (m := ⟨11, 3⟩) (meth := k11m3) (c := k11c3) (by decide +kernel) rfl rfl rfl (by decide +kernel)
set_option maxRecDepth 65536 in
theorem w_c18 : (Jvm.Cond.code ({ cls := "java/lang/String", name := "isEmpty", desc := "()Z" } : Jvm.MethodName) jdk_42_method_55_code (1 : Nat) (Option.some Jvm.ClassFile.FieldType.boolean)).before args0 about1 = true := code_word (m := ⟨7, 2⟩) (meth := k7m2) (c := k7c2) (by decide +kernel) rfl rfl rfl (by decide +kernel)
set_option maxRecDepth 65536 in
theorem w_c19 : (Jvm.Cond.code ({ cls := "com/example/entail/entail/model/DataRange", name := "integers", desc := "(Ljava/math/BigInteger;Ljava/math/BigInteger;)Lcom/example/entail/entail/model/DataRange;" } : Jvm.MethodName) prog_103_method_4_code (2 : Nat) (Option.some (Jvm.ClassFile.FieldType.object "com/example/entail/entail/model/DataRange"))).before args0 about1 = true := code_word (m := ⟨10, 2⟩) (meth := k10m2) (c := k10c2) (by decide +kernel) rfl rfl rfl (by decide +kernel)
set_option maxRecDepth 65536 in
theorem w_c20 : (Jvm.Cond.code ({ cls := "com/example/entail/entail/model/DataRange", name := "isSubsetOf", desc := "(Lcom/example/entail/entail/model/DataRange;)Z" } : Jvm.MethodName) prog_103_method_8_code (3 : Nat) (Option.some Jvm.ClassFile.FieldType.boolean)).before args0 about1 = true := code_word (m := ⟨10, 5⟩) (meth := k10m5) (c := k10c5) (by decide +kernel) rfl rfl rfl (by decide +kernel)
set_option maxRecDepth 65536 in
theorem w_c21 : (Jvm.Cond.code ({ cls := "com/example/entail/entail/model/DataRange", name := "isEmpty", desc := "()Z" } : Jvm.MethodName) prog_103_method_7_code (1 : Nat) (Option.some Jvm.ClassFile.FieldType.boolean)).before args0 about1 = true := code_word (m := ⟨10, 4⟩) (meth := k10m4) (c := k10c4) (by decide +kernel) rfl rfl rfl (by decide +kernel)
def codes1 : List Jvm.Cond := [Jvm.Cond.code x code maxLocals ret, Jvm.Cond.code ({ cls := "java/lang/String", name := "<init>", desc := "([C)V" } : Jvm.MethodName) jdk_42_method_3_code (2 : Nat) (Option.none : Option Jvm.ClassFile.FieldType), Jvm.Cond.code ({ cls := "java/lang/String", name := "<init>", desc := "([CIILjava/lang/Void;)V" } : Jvm.MethodName) jdk_42_method_149_code (6 : Nat) (Option.none : Option Jvm.ClassFile.FieldType), Jvm.Cond.code ({ cls := "java/lang/Object", name := "<init>", desc := "()V" } : Jvm.MethodName) object_method_1_code (1 : Nat) (Option.none : Option Jvm.ClassFile.FieldType), Jvm.Cond.code ({ cls := "java/lang/StringUTF16", name := "compress", desc := "([CII)[B" } : Jvm.MethodName) jdk_52_method_16_code (6 : Nat) (Option.some (Jvm.ClassFile.FieldType.array Jvm.ClassFile.FieldType.byte)), Jvm.Cond.code ({ cls := "java/lang/StringUTF16", name := "compress", desc := "([CI[BII)I" } : Jvm.MethodName) jdk_52_method_21_code (7 : Nat) (Option.some Jvm.ClassFile.FieldType.int), Jvm.Cond.code ({ cls := "java/lang/StringUTF16", name := "coderFromArrayLen", desc := "([BI)B" } : Jvm.MethodName) jdk_52_method_15_code (2 : Nat) (Option.some Jvm.ClassFile.FieldType.byte), Jvm.Cond.code ({ cls := "java/lang/String", name := "valueOf", desc := "(C)Ljava/lang/String;" } : Jvm.MethodName) jdk_42_method_139_code (1 : Nat) (Option.some (Jvm.ClassFile.FieldType.object "java/lang/String")), Jvm.Cond.code ({ cls := "java/lang/StringLatin1", name := "canEncode", desc := "(C)Z" } : Jvm.MethodName) jdk_43_method_3_code (1 : Nat) (Option.some Jvm.ClassFile.FieldType.boolean), Jvm.Cond.code ({ cls := "java/lang/StringLatin1", name := "toBytes", desc := "(C)[B" } : Jvm.MethodName) jdk_43_method_46_code (1 : Nat) (Option.some (Jvm.ClassFile.FieldType.array Jvm.ClassFile.FieldType.byte)), Jvm.Cond.code ({ cls := "java/lang/String", name := "<init>", desc := "([BB)V" } : Jvm.MethodName) jdk_42_method_151_code (3 : Nat) (Option.none : Option Jvm.ClassFile.FieldType), Jvm.Cond.code ({ cls := "com/example/entail/entail/model/DataRange", name := "strings", desc := "(Z)Lcom/example/entail/entail/model/DataRange;" } : Jvm.MethodName) prog_103_method_3_code (1 : Nat) (Option.some (Jvm.ClassFile.FieldType.object "com/example/entail/entail/model/DataRange")), Jvm.Cond.code ({ cls := "com/example/entail/entail/model/DataRange", name := "<init>", desc := "(ZZZLjava/math/BigInteger;Ljava/math/BigInteger;Z)V" } : Jvm.MethodName) prog_103_method_1_code (7 : Nat) (Option.none : Option Jvm.ClassFile.FieldType), Jvm.Cond.code ({ cls := "com/example/entail/entail/model/DataValue", name := "string", desc := "(Ljava/lang/String;Ljava/lang/String;)Lcom/example/entail/entail/model/DataValue;" } : Jvm.MethodName) prog_105_method_2_code (2 : Nat) (Option.some (Jvm.ClassFile.FieldType.object "com/example/entail/entail/model/DataValue")), Jvm.Cond.code ({ cls := "com/example/entail/entail/model/DataValue", name := "<init>", desc := "(Ljava/lang/String;Ljava/lang/String;Ljava/math/BigInteger;)V" } : Jvm.MethodName) prog_105_method_1_code (4 : Nat) (Option.none : Option Jvm.ClassFile.FieldType), Jvm.Cond.code ({ cls := "com/example/entail/entail/model/DataRange", name := "contains", desc := "(Lcom/example/entail/entail/model/DataValue;)Z" } : Jvm.MethodName) prog_103_method_6_code (3 : Nat) (Option.some Jvm.ClassFile.FieldType.boolean), Jvm.Cond.code ({ cls := "com/example/entail/entail/model/DataValue", name := "isInteger", desc := "()Z" } : Jvm.MethodName) prog_105_method_4_code (1 : Nat) (Option.some Jvm.ClassFile.FieldType.boolean), Jvm.Cond.code ({ cls := "com/example/entail/entail/model/DataValue", name := "hasLanguage", desc := "()Z" } : Jvm.MethodName) prog_105_method_6_code (1 : Nat) (Option.some Jvm.ClassFile.FieldType.boolean), Jvm.Cond.code ({ cls := "java/lang/String", name := "isEmpty", desc := "()Z" } : Jvm.MethodName) jdk_42_method_55_code (1 : Nat) (Option.some Jvm.ClassFile.FieldType.boolean), Jvm.Cond.code ({ cls := "com/example/entail/entail/model/DataRange", name := "integers", desc := "(Ljava/math/BigInteger;Ljava/math/BigInteger;)Lcom/example/entail/entail/model/DataRange;" } : Jvm.MethodName) prog_103_method_4_code (2 : Nat) (Option.some (Jvm.ClassFile.FieldType.object "com/example/entail/entail/model/DataRange")), Jvm.Cond.code ({ cls := "com/example/entail/entail/model/DataRange", name := "isSubsetOf", desc := "(Lcom/example/entail/entail/model/DataRange;)Z" } : Jvm.MethodName) prog_103_method_8_code (3 : Nat) (Option.some Jvm.ClassFile.FieldType.boolean), Jvm.Cond.code ({ cls := "com/example/entail/entail/model/DataRange", name := "isEmpty", desc := "()Z" } : Jvm.MethodName) prog_103_method_7_code (1 : Nat) (Option.some Jvm.ClassFile.FieldType.boolean)]
set_option maxRecDepth 65536 in
theorem codes_eq : words1.filter isCode = codes1 := rfl
theorem w_codes : ∀ c ∈ words1.filter isCode, c.before args0 about1 = true := by
  rw [codes_eq]
  intro c hc
  simp only [codes1, List.mem_cons, List.not_mem_nil, or_false] at hc
  rcases hc with rfl | rfl | rfl | rfl | rfl | rfl | rfl | rfl | rfl | rfl | rfl | rfl | rfl | rfl | rfl | rfl | rfl | rfl | rfl | rfl | rfl | rfl
  · exact w_c0
  · exact w_c1
  · exact w_c2
  · exact w_c3
  · exact w_c4
  · exact w_c5
  · exact w_c6
  · exact w_c7
  · exact w_c8
  · exact w_c9
  · exact w_c10
  · exact w_c11
  · exact w_c12
  · exact w_c13
  · exact w_c14
  · exact w_c15
  · exact w_c16
  · exact w_c17
  · exact w_c18
  · exact w_c19
  · exact w_c20
  · exact w_c21
set_option maxRecDepth 65536 in
theorem w_t1 : (words1.take 24).all (fun c => isCode c || c.before args0 about1) = true := by decide +kernel
set_option maxRecDepth 65536 in
theorem w_t2 : ((words1.drop 24).take 24).all (fun c => isCode c || c.before args0 about1) = true := by decide +kernel
set_option maxRecDepth 65536 in
theorem w_t3 : (((words1.drop 24).drop 24).take 24).all (fun c => isCode c || c.before args0 about1) = true := by decide +kernel
set_option maxRecDepth 65536 in
theorem w_t4 : ((((words1.drop 24).drop 24).drop 24).take 24).all (fun c => isCode c || c.before args0 about1) = true := by decide +kernel
set_option maxRecDepth 65536 in
theorem w_t5 : ((((words1.drop 24).drop 24).drop 24).drop 24).all (fun c => isCode c || c.before args0 about1) = true := by decide +kernel
theorem w_tables : (allAtoms (Jvm.Cond.code x code maxLocals ret :: tables_1)).before args0 about1 = true := by
  rw [allAtoms_all]
  show words1.all (fun c => c.before args0 about1) = true
  refine all_split ?_ w_codes
  rw [← List.take_append_drop 24 words1, List.all_append, w_t1, ← List.take_append_drop 24 (words1.drop 24), List.all_append, w_t2, ← List.take_append_drop 24 ((words1.drop 24).drop 24), List.all_append, w_t3, ← List.take_append_drop 24 (((words1.drop 24).drop 24).drop 24), List.all_append, w_t4, w_t5]
  rfl
set_option maxRecDepth 65536 in
theorem w_rest : rest_1_c.before args0 about1 = true := by decide +kernel
set_option maxRecDepth 65536 in
theorem w_case : (Jvm.Cond.and given_1 narrow_1).before args0 about1 = true := by decide +kernel
set_option maxRecDepth 65536 in
theorem w_consts : constsHeld consts_1 about1 := Jvm.Lit.constsHeldB_iff.mp (by decide +kernel)
theorem w_applies : (headSpec (Jvm.Cond.code x code maxLocals ret :: tables_1) room_1).applies x e0.platform about1 = true :=
  (Spec.applies_iff w_frames).mpr ⟨w_running, w_runnable, w_alone, w_named, w_hears, w_ripe, w_room, w_tables⟩
theorem atStart : AtStart classFile x code maxLocals ret World_1 tables_1 room_1 Calls_1 rest_1 Pre_1 launch0 p0 e0 about1 theMethod args0 below0 :=
  ⟨lists_1, trivial, launch0.admits_env _ _ _, launch0.least_env, fairChoices_fair.cas, fairChoices_fair.clock, w_frames, w_args, w_heap, w_applies, ⟨w_consts, trivial⟩, w_rest, w_case⟩
end start1
theorem witness_1 : WitnessClaimed_1 := ⟨start1.p0, start1.e0, start1.about1, start1.theMethod, start1.args0, start1.below0, start1.atStart⟩
end Jvm.Pilot.@@N@@
