import JvmDerived
import JvmDerived.Pilot.@@N@@Statement
import JvmDerived.Pilot.@@N@@Code
set_option linter.unusedVariables false
set_option linter.unusedSimpArgs false
namespace Jvm.Wk9
open Sem ClassFile Op Lib Jvm.Stand Jvm.Free Jvm.LawKit Jvm.RoadKit
/-- the end of a walk; narrow (nothing interned) where wd is false -/
def FinE (wd : Bool) (s : State) (o : Outcome) (t : State) (L : List Loc) (k n : Nat) : Prop :=
  (wd = false → FrameEnd s o t L k n) ∧ ReturnedEndW s o t L k n
/-- what the walk keeps of the tables at hand and of the booked literals; mine: the cells it may write -/
def Vi (wd : Bool) (Z s : State) (EL : List (String × Nat)) (m0 mine : List Addr) (locs : List Loc) (vm : Vm) (h : Heap) : Prop :=
  ((wd = false → vm = s.vm) ∧ Z.Warmed39 vm ∧ (∃ k0, s.Since vm k0 ∧ k0 ≤ h.size) ∧ CHr Z EL s.vm s.heap vm h) ∧ (∀ x ∈ mine, x < h.size ∧ Safe Z EL vm h x ∧ Z.heap.size ≤ x ∧ (x ∈ m0 ∨ s.heap.size ≤ x)) ∧ Ext Z.heap h ∧ Keep s.heap h m0 ∧ Fr Z.heap.size locs
/-- from this frame over this heap the invocation comes to an end of which Q holds -/
def Go (wd : Bool) (p : Program) (l : Launch) (e : Env) (R : Room) (s : State) (m : MethodId) (args : Array Value) (below : List Frame) (meth : Method) (c : Code) (Z : State) (EL : List (String × Nat)) (Q : Option Value → Heap → Prop) (kc ks : Nat) (m0 mine : List Addr) (h : Heap) (locs : List Loc) (cells slots : Nat) (g : JFrame) : Prop :=
  ∀ (T : State) (vm0 : Vm), Stand p l e R (s.setVm vm0) m args below meth c T locs cells slots → T.heap = h → Vi wd Z s EL m0 mine locs vm0 h →
    ∃ (s₂ : State) (o : Outcome), Steps p.tables e below (T.setTop g) s₂ ∧ s₂.status = .running ∧ Ended s₂ below o ∧ ∃ (v : Option Value) (L : List Loc), o = .returned v ∧ Q v s₂.heap ∧ CHr Z EL s.vm s.heap s₂.vm s₂.heap ∧ FinE wd s o s₂ L kc ks ∧ Ext Z.heap s₂.heap ∧ Keep s.heap s₂.heap m0 ∧ Fr Z.heap.size L
/-- what is known of the method that is walked -/
def Cx (wd : Bool) (p : Program) (s : State) (m : MethodId) (meth : Method) (c : Code) (Z : State) (a0 : Array Value) (EL : List (String × Nat)) (own : String) (bytes : ByteArray) (ml : Nat) (ret : Option FieldType) (nm : String) : Prop :=
  p.tables.exec = Jvm.exec ∧ s.vm.findClass own = some m.cls ∧ c.code = bytes ∧ c.maxLocals = ml ∧ meth.sig.returnType = ret ∧ meth.locks = false ∧ EW Z a0 EL ∧ (wd = false → EL = []) ∧ meth.name = nm
/-- a contract: of the method y at these arguments, over the heap h -/
def MetW (wd : Bool) (l : Launch) (Z : State) (EL : List (String × Nat)) (y : MethodName) (bytes : ByteArray) (ml : Nat) (ret : Option FieldType) (ws : List Cond) (rm : Room) (as' : Array Value) (m0 : List Addr) (h : Heap) (Q : Option Value → Heap → Prop) : Prop :=
  MetFree l y (head1 (Cond.code y bytes ml ret :: ws) rm) (fun a U => a = as' ∧ Z.Warmed39 U.vm ∧ U.heap = h ∧ CHv Z EL U.vm h ∧ (∀ x ∈ m0, x < h.size ∧ Safe Z EL U.vm h x ∧ Z.heap.size ≤ x) ∧ Ext Z.heap h) (fun _ _ _ _ _ => True)
    (fun _ U o U' => ∃ v L, o = .returned v ∧ Q v U'.heap ∧ CHr Z EL U.vm U.heap U'.vm U'.heap ∧ FinE wd U o U' L rm.cells rm.slots ∧ Ext Z.heap U'.heap ∧ Keep U.heap U'.heap m0 ∧ Fr Z.heap.size L)
/-- an array whose places hold just vs -/
def Av (Z : State) (h : Heap) (a : Addr) (ty : FieldType) (vs : List Value) : Prop :=
  ∃ c : Cell, Arr Z h a c ty ∧ c.slots.toList = vs ∧ vs.length < 2147483648 ∧ ∀ v ∈ vs, fits ty v = true
section K
variable {wd : Bool} {p : Program} {l : Launch} {e : Env} {R : Room} {s : State} {m : MethodId} {args : Array Value} {below : List Frame} {meth : Method} {c : Code} {Z : State} {a0 : Array Value} {EL : List (String × Nat)} {Q : Option Value → Heap → Prop} {kc ks : Nat} {m0 mine : List Addr} {h h' : Heap} {locs : List Loc} {cells slots : Nat} {own nm : String} {bytes : ByteArray} {ml : Nat} {ret : Option FieldType} {pc : Nat} {Ls : Array Slot} {st : List Value} {a b : Addr} {ty : FieldType} {vs : List Value} {vm : Vm} {ws : List Addr} {v : Value} {sl : Nat}
theorem Cx.hx (C : Cx wd p s m meth c Z a0 EL own bytes ml ret nm) : p.tables.exec = Jvm.exec := C.1
theorem Cx.hown (C : Cx wd p s m meth c Z a0 EL own bytes ml ret nm) : s.vm.findClass own = some m.cls := C.2.1
theorem Cx.hby (C : Cx wd p s m meth c Z a0 EL own bytes ml ret nm) : c.code = bytes := C.2.2.1
theorem Cx.hml (C : Cx wd p s m meth c Z a0 EL own bytes ml ret nm) : c.maxLocals = ml := C.2.2.2.1
theorem Cx.hret (C : Cx wd p s m meth c Z a0 EL own bytes ml ret nm) : meth.sig.returnType = ret := C.2.2.2.2.1
theorem Cx.hlk (C : Cx wd p s m meth c Z a0 EL own bytes ml ret nm) : meth.locks = false := C.2.2.2.2.2.1
theorem Cx.hEW (C : Cx wd p s m meth c Z a0 EL own bytes ml ret nm) : EW Z a0 EL := C.2.2.2.2.2.2.1
theorem Cx.hwd (C : Cx wd p s m meth c Z a0 EL own bytes ml ret nm) : wd = false → EL = [] := C.2.2.2.2.2.2.2.1
theorem Cx.hnm (C : Cx wd p s m meth c Z a0 EL own bytes ml ret nm) : meth.name = nm := C.2.2.2.2.2.2.2.2
theorem Vi.hZ (V : Vi wd Z s EL m0 mine locs vm h) : Z.Warmed39 vm := V.1.2.1
theorem Vi.hZ' (V : Vi wd Z s EL m0 mine locs vm h) : Z.Warmed39 (s.setVm vm).vm := V.1.2.1
theorem Vi.held (V : Vi wd Z s EL m0 mine locs vm h) : CHv Z EL vm h := V.1.2.2.2.1
theorem Vi.fr (V : Vi wd Z s EL m0 mine locs vm h) : Fr Z.heap.size locs := V.2.2.2.2
theorem Vi.old (V : Vi wd Z s EL m0 mine locs vm h) : Ext Z.heap h := V.2.2.1
theorem Vi.hown (C : Cx wd p s m meth c Z a0 EL own bytes ml ret nm) (V : Vi wd Z s EL m0 mine locs vm h) : (s.setVm vm).vm.findClass own = some m.cls := by
  obtain ⟨⟨-, -, ⟨k0, hS, -⟩, -⟩, -⟩ := V
  show vm.findClass own = some m.cls
  rw [hS.1.alike.findClass]; exact C.hown
theorem Vi.hown' (C : Cx wd p s m meth c Z a0 EL own bytes ml ret nm) (V : Vi wd Z s EL m0 mine locs vm h) : vm.findClass own = some m.cls := V.hown C
theorem Vi.keep {locs' : List Loc} (K : Keep h h' ws) (hw : ∀ x ∈ ws, x ∈ mine) (hF : Fr Z.heap.size locs') (V : Vi wd Z s EL m0 mine locs vm h) : Vi wd Z s EL m0 mine locs' vm h' := by
  obtain ⟨⟨v1, v2, ⟨k0, v3, v4⟩, v5⟩, v6, v7, v8, v9⟩ := V
  have sf : ∀ x ∈ ws, Safe Z EL vm h x := fun x hx => (v6 x (hw x hx)).2.1
  have R2 : CHr Z EL vm h vm h' := CHr.keep K sf v5.1
  exact ⟨⟨v1, v2, ⟨k0, v3, Nat.le_trans v4 K.1⟩, v5.trans R2⟩, fun x hx => ⟨Nat.lt_of_lt_of_le (v6 x hx).1 K.1, R2.safe (v6 x hx).1 (v6 x hx).2.1, (v6 x hx).2.2⟩,
    (Old.keep (n0 := Z.heap.size) ⟨rfl, v7⟩ K (fun x hx => (v6 x (hw x hx)).2.2.1)).2, v8.trans K (fun x hx => (v6 x (hw x hx)).2.2.2), hF⟩
theorem keep_ext (E : Ext h h') : Keep h h' [] := (Keep.refl h []).ext E
theorem Vi.ext (E : Ext h h') (V : Vi wd Z s EL m0 mine locs vm h) : Vi wd Z s EL m0 mine locs vm h' := V.keep (keep_ext E) (fun _ q => nomatch q) V.fr
theorem Vi.new (E : Ext h h') (hlt : h.size < h'.size) (V : Vi wd Z s EL m0 mine locs vm h) : Vi wd Z s EL m0 (h.size :: mine) locs vm h' := by
  have V' := V.ext E
  refine ⟨V'.1, fun x hx => ?_, V'.2.2⟩
  rcases List.mem_cons.mp hx with rfl | hx
  · exact ⟨hlt, Safe.ext E V.held (Safe.new (Nat.le_refl _)), V.2.2.1.1, Or.inr V.2.2.2.1.1⟩
  · exact V'.2.1 x hx
theorem Vi.less {mine' : List Addr} (hm : ∀ x ∈ mine', x ∈ mine) (V : Vi wd Z s EL m0 mine locs vm h) : Vi wd Z s EL m0 mine' locs vm h :=
  ⟨V.1, fun x hx => V.2.1 x (hm x hx), V.2.2⟩
theorem Vi.wr1 (V : Vi wd Z s EL m0 mine locs vm h) (hm : a ∈ mine) : Fr Z.heap.size (locs ++ [⟨a, sl⟩]) := fun y hy => by
  rcases List.mem_append.mp hy with q | q
  · exact V.fr y q
  · rw [List.mem_singleton.mp q]; exact (V.2.1 a hm).2.2.1
theorem Go.less {mine' : List Addr} {g : JFrame} (hm : ∀ x ∈ mine', x ∈ mine) (nx : Go wd p l e R s m args below meth c Z EL Q kc ks m0 mine' h locs cells slots g) : Go wd p l e R s m args below meth c Z EL Q kc ks m0 mine h locs cells slots g :=
  fun T vm0 X eT V => nx T vm0 X eT (V.less hm)
theorem Go.join {α : Sort _} {P : α → JFrame} {g : JFrame} (k : ∀ x, Go wd p l e R s m args below meth c Z EL Q kc ks m0 mine h locs cells slots (P x)) (u : (∀ x, Go wd p l e R s m args below meth c Z EL Q kc ks m0 mine h locs cells slots (P x)) → Go wd p l e R s m args below meth c Z EL Q kc ks m0 mine h locs cells slots g) : Go wd p l e R s m args below meth c Z EL Q kc ks m0 mine h locs cells slots g := u k
/-- what the walk knows besides, brought to light -/
theorem Go.know {g : JFrame} (nx : Ext Z.heap h → Keep s.heap h m0 → (∀ x ∈ mine, x < h.size ∧ Z.heap.size ≤ x) → Go wd p l e R s m args below meth c Z EL Q kc ks m0 mine h locs cells slots g) : Go wd p l e R s m args below meth c Z EL Q kc ks m0 mine h locs cells slots g :=
  fun T vm0 X eT V => nx V.2.2.1 V.2.2.2.1 (fun x hx => ⟨(V.2.1 x hx).1, (V.2.1 x hx).2.2.1⟩) T vm0 X eT V
theorem FinE.mono {o : Outcome} {t : State} {L : List Loc} {k n k' n' : Nat} (F : FinE wd s o t L k n) (h1 : k ≤ k') (h2 : n ≤ n') : FinE wd s o t L k' n' :=
  ⟨fun q => ⟨(F.1 q).1, (F.1 q).2.1, (F.1 q).2.2.mono h1 h2⟩, F.2.1, F.2.2.1, F.2.2.2.1, F.2.2.2.2.mono h1 h2⟩
theorem MetW.post {y : MethodName} {wsc : List Cond} {rm : Room} {as' : Array Value} {Q' : Option Value → Heap → Prop} (M : MetW wd l Z EL y bytes ml ret wsc rm as' m0 h Q) (hq : ∀ v h', Q v h' → Keep h h' m0 → Q' v h') : MetW wd l Z EL y bytes ml ret wsc rm as' m0 h Q' :=
  MetFree.mono M (fun _ _ q => q) (fun _ _ _ _ _ q => q) (fun _ _ _ _ hP ⟨v, L, q1, q2, q3, q4, q5, q6, q7⟩ => ⟨v, L, q1, hq _ _ q2 (by rw [← hP.2.2.1]; exact q6), q3, q4, q5, q6, q7⟩)
/-- the entry of a method -/
theorem MetW.of {y : MethodName} {wsc : List Cond} {rm : Room} {as' : Array Value} (hpn : plainName y.cls = true) (hef : ∀ m : MethodId, entryFrame m as' ml = mkF m 0 Ls []) (hEW : EW Z a0 EL) (hwd : wd = false → EL = [])
    (body : ∀ (p : Program) (e : Env) (s : State) (m : MethodId) (below : List Frame) (meth : Method) (c : Code), s.heap = h → Cx wd p s m meth c Z a0 EL y.cls bytes ml ret y.name → Go wd p l e rm s m as' below meth c Z EL Q rm.cells rm.slots m0 m0 h [] 0 0 (mkF m 0 Ls [])) :
    MetW wd l Z EL y bytes ml ret wsc rm as' m0 h Q := by
  refine MetFree.of_bodySF (plainFor_of_name hpn) hisR ?_
  intro p e s m args below meth c s₁ Bd hml0 hP hK
  obtain ⟨rfl, hZ, hh, H, hm, hold⟩ := hP
  have X0 : Stand p l e rm s m args below meth c s₁ [] 0 0 := Stand.of_body Bd
  have e0 : s₁.heap = h := by rw [← hh, Bd.state]; rfl
  have hlk : meth.locks = false := by first | exact BodyLoose.notSynchronized Bd | exact Body.notSynchronized Bd
  have C : Cx wd p s m meth c Z a0 EL y.cls bytes ml ret y.name := ⟨Bd.exec, findClass_of_methodNamed Bd.named, Bd.bytes, hml0, Bd.returns, hlk, hEW, hwd, (name_of_methodNamed Bd.named Bd.method).1⟩
  have V : Vi wd Z s EL m0 m0 [] s.vm h := ⟨⟨fun _ => rfl, hZ, ⟨h.size, ⟨State.Warmed39.refl s, fun j q hj hq => absurd (Array.getElem?_eq_some_iff.mp hq).1 (Nat.not_lt.mpr hj)⟩, Nat.le_refl _⟩, by rw [hh]; exact CHr.refl H⟩, fun x hx => ⟨(hm x hx).1, (hm x hx).2.1, (hm x hx).2.2, Or.inl hx⟩, hold, by rw [hh]; exact Keep.refl _ _, Fr.nil _⟩
  obtain ⟨s₂, o, k, r1, r2, v, L, r3, r4, r5, r6⟩ := body p e s m below meth c hh C s₁ s.vm X0 e0 V
  exact ⟨s₂, o, castTop (hef m) k, r1, r2, v, L, r3, r4, r5, r6⟩
theorem Go.pure {g g' : JFrame} (nx : Go wd p l e R s m args below meth c Z EL Q kc ks m0 mine h locs cells slots g') (stp : ∀ (T target : State), At T m c below → Steps p.tables e below (T.setTop g') target → Steps p.tables e below (T.setTop g) target) : Go wd p l e R s m args below meth c Z EL Q kc ks m0 mine h locs cells slots g :=
  fun T vm0 X eT V => by
    obtain ⟨s₂, o, k, r⟩ := nx T vm0 X eT V
    exact ⟨s₂, o, stp T s₂ X.here k, r⟩
def hC (cd : ClassFile.Cond) (x y : Int32) : Prop := match cd with | .eq => x = y | .ne => ¬ x = y | .lt => x < y | .ge => ¬ x < y | .gt => y < x | .le => ¬ y < x
def nC (cd : ClassFile.Cond) (x y : Int32) : Prop := match cd with | .eq => ¬ x = y | .ne => x = y | .lt => ¬ x < y | .ge => x < y | .gt => ¬ y < x | .le => y < x
theorem hC_t {cd : ClassFile.Cond} {x y : Int32} (q : hC cd x y) : if_icmp.holds cd x y = true := by
  cases cd
  · exact (teq q).1
  · exact (feq q).2
  · exact (tlt q).1
  · exact (flt q).2.1
  · exact (tlt q).2.2.1
  · exact (flt q).2.2.2
theorem nC_f {cd : ClassFile.Cond} {x y : Int32} (q : nC cd x y) : if_icmp.holds cd x y = false := by
  cases cd
  · exact (feq q).1
  · exact (teq q).2
  · exact (flt q).1
  · exact (tlt q).2.1
  · exact (flt q).2.2.1
  · exact (tlt q).2.2.2
def aC (cd : ClassFile.ACond) (x y : Value) : Prop := match cd with | .eq => x = y | .ne => ¬ x = y
def aN (cd : ClassFile.ACond) (x y : Value) : Prop := match cd with | .eq => ¬ x = y | .ne => x = y
theorem aC_t {cd : ClassFile.ACond} {x y : Value} (q : aC cd x y) : XT.acmp cd x y = true := by
  cases cd
  · exact XT.aa_eq_t q
  · exact XT.aa_ne_t q
theorem aN_f {cd : ClassFile.ACond} {x y : Value} (q : aN cd x y) : XT.acmp cd x y = false := by
  cases cd
  · exact XT.aa_eq_f q
  · exact XT.aa_ne_f q
theorem g_aloadN {k : Fin 4} {v : Value} (C : Cx wd p s m meth c Z a0 EL own bytes ml ret nm) (hd : decode bytes pc = .ok (.aload_n k, 1)) (hl : Ls[k.val]? = some (.val v)) (hv : v.isRef = true) (nx : Go wd p l e R s m args below meth c Z EL Q kc ks m0 mine h locs cells slots (mkF m (pc + 1) Ls (v :: st))) : Go wd p l e R s m args below meth c Z EL Q kc ks m0 mine h locs cells slots (mkF m pc Ls (st)) := nx.pure fun T t H hr => XS.aloadN H C.hx rfl (hb C.hby hd) hl hv hr
theorem g_aload {k : Nat} {v : Value} (C : Cx wd p s m meth c Z a0 EL own bytes ml ret nm) (hd : decode bytes pc = .ok (.aload k, 2)) (hl : Ls[k]? = some (.val v)) (hv : v.isRef = true) (nx : Go wd p l e R s m args below meth c Z EL Q kc ks m0 mine h locs cells slots (mkF m (pc + 2) Ls (v :: st))) : Go wd p l e R s m args below meth c Z EL Q kc ks m0 mine h locs cells slots (mkF m pc Ls (st)) := nx.pure fun T t H hr => XS.aload H C.hx rfl (hb C.hby hd) hl hv hr
theorem g_iloadN {k : Fin 4} {x : Int32} (C : Cx wd p s m meth c Z a0 EL own bytes ml ret nm) (hd : decode bytes pc = .ok (.iload_n k, 1)) (hl : Ls[k.val]? = some (.val (.int x))) (nx : Go wd p l e R s m args below meth c Z EL Q kc ks m0 mine h locs cells slots (mkF m (pc + 1) Ls (.int x :: st))) : Go wd p l e R s m args below meth c Z EL Q kc ks m0 mine h locs cells slots (mkF m pc Ls (st)) := nx.pure fun T t H hr => XS.iloadN H C.hx rfl (hb C.hby hd) hl hr
theorem g_iload {k : Nat} {x : Int32} (C : Cx wd p s m meth c Z a0 EL own bytes ml ret nm) (hd : decode bytes pc = .ok (.iload k, 2)) (hl : Ls[k]? = some (.val (.int x))) (nx : Go wd p l e R s m args below meth c Z EL Q kc ks m0 mine h locs cells slots (mkF m (pc + 2) Ls (.int x :: st))) : Go wd p l e R s m args below meth c Z EL Q kc ks m0 mine h locs cells slots (mkF m pc Ls (st)) := nx.pure fun T t H hr => XS.iload H C.hx rfl (hb C.hby hd) hl hr
theorem g_lloadN {k : Fin 4} {x : Int64} (C : Cx wd p s m meth c Z a0 EL own bytes ml ret nm) (hd : decode bytes pc = .ok (.lload_n k, 1)) (hl : Ls[k.val]? = some (.val (.long x))) (nx : Go wd p l e R s m args below meth c Z EL Q kc ks m0 mine h locs cells slots (mkF m (pc + 1) Ls (.long x :: st))) : Go wd p l e R s m args below meth c Z EL Q kc ks m0 mine h locs cells slots (mkF m pc Ls (st)) := nx.pure fun T t H hr => XT.lloadN H C.hx rfl (hb C.hby hd) hl hr
theorem g_lload {k : Nat} {x : Int64} (C : Cx wd p s m meth c Z a0 EL own bytes ml ret nm) (hd : decode bytes pc = .ok (.lload k, 2)) (hl : Ls[k]? = some (.val (.long x))) (nx : Go wd p l e R s m args below meth c Z EL Q kc ks m0 mine h locs cells slots (mkF m (pc + 2) Ls (.long x :: st))) : Go wd p l e R s m args below meth c Z EL Q kc ks m0 mine h locs cells slots (mkF m pc Ls (st)) := nx.pure fun T t H hr => XT.lload H C.hx rfl (hb C.hby hd) hl hr
theorem g_istoreN {k : Fin 4} {x : Int32} (l' : Array Slot) (C : Cx wd p s m meth c Z a0 EL own bytes ml ret nm) (hd : decode bytes pc = .ok (.istore_n k, 1)) (hl : storeLocals Ls k.val (.int x) = some l') (nx : Go wd p l e R s m args below meth c Z EL Q kc ks m0 mine h locs cells slots (mkF m (pc + 1) l' (st))) : Go wd p l e R s m args below meth c Z EL Q kc ks m0 mine h locs cells slots (mkF m pc Ls (.int x :: st)) := nx.pure fun T t H hr => XS.istoreN H C.hx rfl (hb C.hby hd) rfl hl hr
theorem g_istore {k : Nat} {x : Int32} (l' : Array Slot) (C : Cx wd p s m meth c Z a0 EL own bytes ml ret nm) (hd : decode bytes pc = .ok (.istore k, 2)) (hl : storeLocals Ls k (.int x) = some l') (nx : Go wd p l e R s m args below meth c Z EL Q kc ks m0 mine h locs cells slots (mkF m (pc + 2) l' (st))) : Go wd p l e R s m args below meth c Z EL Q kc ks m0 mine h locs cells slots (mkF m pc Ls (.int x :: st)) := nx.pure fun T t H hr => XS.istore H C.hx rfl (hb C.hby hd) rfl hl hr
theorem g_lstoreN {k : Fin 4} {x : Int64} (l' : Array Slot) (C : Cx wd p s m meth c Z a0 EL own bytes ml ret nm) (hd : decode bytes pc = .ok (.lstore_n k, 1)) (hl : storeLocals Ls k.val (.long x) = some l') (nx : Go wd p l e R s m args below meth c Z EL Q kc ks m0 mine h locs cells slots (mkF m (pc + 1) l' (st))) : Go wd p l e R s m args below meth c Z EL Q kc ks m0 mine h locs cells slots (mkF m pc Ls (.long x :: st)) := nx.pure fun T t H hr => XT.lstoreN H C.hx rfl (hb C.hby hd) rfl hl hr
theorem g_lstore {k : Nat} {x : Int64} (l' : Array Slot) (C : Cx wd p s m meth c Z a0 EL own bytes ml ret nm) (hd : decode bytes pc = .ok (.lstore k, 2)) (hl : storeLocals Ls k (.long x) = some l') (nx : Go wd p l e R s m args below meth c Z EL Q kc ks m0 mine h locs cells slots (mkF m (pc + 2) l' (st))) : Go wd p l e R s m args below meth c Z EL Q kc ks m0 mine h locs cells slots (mkF m pc Ls (.long x :: st)) := nx.pure fun T t H hr => XT.lstore H C.hx rfl (hb C.hby hd) rfl hl hr
theorem g_astoreN {k : Fin 4} {x : Value} (l' : Array Slot) (C : Cx wd p s m meth c Z a0 EL own bytes ml ret nm) (hd : decode bytes pc = .ok (.astore_n k, 1)) (hv : x.isRef = true) (hl : storeLocals Ls k.val x = some l') (nx : Go wd p l e R s m args below meth c Z EL Q kc ks m0 mine h locs cells slots (mkF m (pc + 1) l' (st))) : Go wd p l e R s m args below meth c Z EL Q kc ks m0 mine h locs cells slots (mkF m pc Ls (x :: st)) := nx.pure fun T t H hr => XS.astoreN H C.hx rfl (hb C.hby hd) rfl hv hl hr
theorem g_astore {k : Nat} {x : Value} (l' : Array Slot) (C : Cx wd p s m meth c Z a0 EL own bytes ml ret nm) (hd : decode bytes pc = .ok (.astore k, 2)) (hv : x.isRef = true) (hl : storeLocals Ls k x = some l') (nx : Go wd p l e R s m args below meth c Z EL Q kc ks m0 mine h locs cells slots (mkF m (pc + 2) l' (st))) : Go wd p l e R s m args below meth c Z EL Q kc ks m0 mine h locs cells slots (mkF m pc Ls (x :: st)) := nx.pure fun T t H hr => XS.astore H C.hx rfl (hb C.hby hd) rfl hv hl hr
theorem g_iconst {i : Int} (z : Int32) (C : Cx wd p s m meth c Z a0 EL own bytes ml ret nm) (hd : decode bytes pc = .ok (.iconst i, 1)) (hz : Int32.ofInt i = z) (nx : Go wd p l e R s m args below meth c Z EL Q kc ks m0 mine h locs cells slots (mkF m (pc + 1) Ls (.int z :: st))) : Go wd p l e R s m args below meth c Z EL Q kc ks m0 mine h locs cells slots (mkF m pc Ls (st)) := nx.pure fun T t H hr => XT.iconstV H C.hx rfl z (hb C.hby hd) hz hr
theorem g_bipush {i : Int} (z : Int32) (C : Cx wd p s m meth c Z a0 EL own bytes ml ret nm) (hd : decode bytes pc = .ok (.bipush i, 2)) (hz : (Int8.ofInt i).toInt32 = z) (nx : Go wd p l e R s m args below meth c Z EL Q kc ks m0 mine h locs cells slots (mkF m (pc + 2) Ls (.int z :: st))) : Go wd p l e R s m args below meth c Z EL Q kc ks m0 mine h locs cells slots (mkF m pc Ls (st)) := nx.pure fun T t H hr => XT.bipushV H C.hx rfl z (hb C.hby hd) hz hr
theorem g_sipush {i : Int} (z : Int32) (C : Cx wd p s m meth c Z a0 EL own bytes ml ret nm) (hd : decode bytes pc = .ok (.sipush i, 3)) (hz : (Int16.ofInt i).toInt32 = z) (nx : Go wd p l e R s m args below meth c Z EL Q kc ks m0 mine h locs cells slots (mkF m (pc + 3) Ls (.int z :: st))) : Go wd p l e R s m args below meth c Z EL Q kc ks m0 mine h locs cells slots (mkF m pc Ls (st)) := nx.pure fun T t H hr => XT.sipushV H C.hx rfl z (hb C.hby hd) hz hr
theorem g_lconst {k : Fin 2} (z : Int64) (C : Cx wd p s m meth c Z a0 EL own bytes ml ret nm) (hd : decode bytes pc = .ok (.lconst k, 1)) (hz : Int64.ofNat k = z) (nx : Go wd p l e R s m args below meth c Z EL Q kc ks m0 mine h locs cells slots (mkF m (pc + 1) Ls (.long z :: st))) : Go wd p l e R s m args below meth c Z EL Q kc ks m0 mine h locs cells slots (mkF m pc Ls (st)) := nx.pure fun T t H hr => XT.lconstV H C.hx rfl z (hb C.hby hd) hz hr
theorem g_aconstNull  (C : Cx wd p s m meth c Z a0 EL own bytes ml ret nm) (hd : decode bytes pc = .ok (.aconst_null, 1))  (nx : Go wd p l e R s m args below meth c Z EL Q kc ks m0 mine h locs cells slots (mkF m (pc + 1) Ls (.null :: st))) : Go wd p l e R s m args below meth c Z EL Q kc ks m0 mine h locs cells slots (mkF m pc Ls (st)) := nx.pure fun T t H hr => XS.aconstNull H C.hx rfl (hb C.hby hd) hr
theorem g_iadd {x y : Int32} (z : Int32) (C : Cx wd p s m meth c Z a0 EL own bytes ml ret nm) (hd : decode bytes pc = .ok (.iadd, 1)) (hz : x + y = z) (nx : Go wd p l e R s m args below meth c Z EL Q kc ks m0 mine h locs cells slots (mkF m (pc + 1) Ls (.int z :: st))) : Go wd p l e R s m args below meth c Z EL Q kc ks m0 mine h locs cells slots (mkF m pc Ls (.int y :: .int x :: st)) := by subst hz; exact nx.pure fun T t H hr => XS.iadd H C.hx rfl (hb C.hby hd) rfl hr
theorem g_isub {x y : Int32} (z : Int32) (C : Cx wd p s m meth c Z a0 EL own bytes ml ret nm) (hd : decode bytes pc = .ok (.isub, 1)) (hz : x - y = z) (nx : Go wd p l e R s m args below meth c Z EL Q kc ks m0 mine h locs cells slots (mkF m (pc + 1) Ls (.int z :: st))) : Go wd p l e R s m args below meth c Z EL Q kc ks m0 mine h locs cells slots (mkF m pc Ls (.int y :: .int x :: st)) := by subst hz; exact nx.pure fun T t H hr => XS.isub H C.hx rfl (hb C.hby hd) rfl hr
theorem g_iand {x y : Int32} (z : Int32) (C : Cx wd p s m meth c Z a0 EL own bytes ml ret nm) (hd : decode bytes pc = .ok (.iand, 1)) (hz : x &&& y = z) (nx : Go wd p l e R s m args below meth c Z EL Q kc ks m0 mine h locs cells slots (mkF m (pc + 1) Ls (.int z :: st))) : Go wd p l e R s m args below meth c Z EL Q kc ks m0 mine h locs cells slots (mkF m pc Ls (.int y :: .int x :: st)) := by subst hz; exact nx.pure fun T t H hr => XS.iand H C.hx rfl (hb C.hby hd) rfl hr
theorem g_imul {x y : Int32} (z : Int32) (C : Cx wd p s m meth c Z a0 EL own bytes ml ret nm) (hd : decode bytes pc = .ok (.imul, 1)) (hz : x * y = z) (nx : Go wd p l e R s m args below meth c Z EL Q kc ks m0 mine h locs cells slots (mkF m (pc + 1) Ls (.int z :: st))) : Go wd p l e R s m args below meth c Z EL Q kc ks m0 mine h locs cells slots (mkF m pc Ls (.int y :: .int x :: st)) := by subst hz; exact nx.pure fun T t H hr => XS.imul H C.hx rfl (hb C.hby hd) rfl hr
theorem g_ixor {x y : Int32} (z : Int32) (C : Cx wd p s m meth c Z a0 EL own bytes ml ret nm) (hd : decode bytes pc = .ok (.ixor, 1)) (hz : x ^^^ y = z) (nx : Go wd p l e R s m args below meth c Z EL Q kc ks m0 mine h locs cells slots (mkF m (pc + 1) Ls (.int z :: st))) : Go wd p l e R s m args below meth c Z EL Q kc ks m0 mine h locs cells slots (mkF m pc Ls (.int y :: .int x :: st)) := by subst hz; exact nx.pure fun T t H hr => XT.ixor H C.hx rfl (hb C.hby hd) rfl hr
theorem g_ior {x y : Int32} (z : Int32) (C : Cx wd p s m meth c Z a0 EL own bytes ml ret nm) (hd : decode bytes pc = .ok (.ior, 1)) (hz : x ||| y = z) (nx : Go wd p l e R s m args below meth c Z EL Q kc ks m0 mine h locs cells slots (mkF m (pc + 1) Ls (.int z :: st))) : Go wd p l e R s m args below meth c Z EL Q kc ks m0 mine h locs cells slots (mkF m pc Ls (.int y :: .int x :: st)) := by subst hz; exact nx.pure fun T t H hr => XT.ior H C.hx rfl (hb C.hby hd) rfl hr
theorem g_ishl {x y : Int32} (z : Int32) (C : Cx wd p s m meth c Z a0 EL own bytes ml ret nm) (hd : decode bytes pc = .ok (.ishl, 1)) (hz : x <<< (y &&& 31) = z) (nx : Go wd p l e R s m args below meth c Z EL Q kc ks m0 mine h locs cells slots (mkF m (pc + 1) Ls (.int z :: st))) : Go wd p l e R s m args below meth c Z EL Q kc ks m0 mine h locs cells slots (mkF m pc Ls (.int y :: .int x :: st)) := by subst hz; exact nx.pure fun T t H hr => XT.ishl H C.hx rfl (hb C.hby hd) rfl hr
theorem g_ishr {x y : Int32} (z : Int32) (C : Cx wd p s m meth c Z a0 EL own bytes ml ret nm) (hd : decode bytes pc = .ok (.ishr, 1)) (hz : x >>> (y &&& 31) = z) (nx : Go wd p l e R s m args below meth c Z EL Q kc ks m0 mine h locs cells slots (mkF m (pc + 1) Ls (.int z :: st))) : Go wd p l e R s m args below meth c Z EL Q kc ks m0 mine h locs cells slots (mkF m pc Ls (.int y :: .int x :: st)) := by subst hz; exact nx.pure fun T t H hr => XT.ishr H C.hx rfl (hb C.hby hd) rfl hr
theorem g_iushr {x y : Int32} (z : Int32) (C : Cx wd p s m meth c Z a0 EL own bytes ml ret nm) (hd : decode bytes pc = .ok (.iushr, 1)) (hz : XT.ushr x y = z) (nx : Go wd p l e R s m args below meth c Z EL Q kc ks m0 mine h locs cells slots (mkF m (pc + 1) Ls (.int z :: st))) : Go wd p l e R s m args below meth c Z EL Q kc ks m0 mine h locs cells slots (mkF m pc Ls (.int y :: .int x :: st)) := by subst hz; exact nx.pure fun T t H hr => XT.iushr H C.hx rfl (hb C.hby hd) rfl hr
theorem g_idiv {x y : Int32} (z : Int32) (C : Cx wd p s m meth c Z a0 EL own bytes ml ret nm) (hd : decode bytes pc = .ok (.idiv, 1)) (hy : y ≠ 0) (hz : x / y = z) (nx : Go wd p l e R s m args below meth c Z EL Q kc ks m0 mine h locs cells slots (mkF m (pc + 1) Ls (.int z :: st))) : Go wd p l e R s m args below meth c Z EL Q kc ks m0 mine h locs cells slots (mkF m pc Ls (.int y :: .int x :: st)) := by subst hz; exact nx.pure fun T t H hr => XS.idiv H C.hx rfl (hb C.hby hd) rfl hy hr
theorem g_irem {x y : Int32} (z : Int32) (C : Cx wd p s m meth c Z a0 EL own bytes ml ret nm) (hd : decode bytes pc = .ok (.irem, 1)) (hy : y ≠ 0) (hz : x - (x / y) * y = z) (nx : Go wd p l e R s m args below meth c Z EL Q kc ks m0 mine h locs cells slots (mkF m (pc + 1) Ls (.int z :: st))) : Go wd p l e R s m args below meth c Z EL Q kc ks m0 mine h locs cells slots (mkF m pc Ls (.int y :: .int x :: st)) := by subst hz; exact nx.pure fun T t H hr => XS.irem H C.hx rfl (hb C.hby hd) rfl hy hr
theorem g_ineg {x : Int32} (z : Int32) (C : Cx wd p s m meth c Z a0 EL own bytes ml ret nm) (hd : decode bytes pc = .ok (.ineg, 1)) (hz : -x = z) (nx : Go wd p l e R s m args below meth c Z EL Q kc ks m0 mine h locs cells slots (mkF m (pc + 1) Ls (.int z :: st))) : Go wd p l e R s m args below meth c Z EL Q kc ks m0 mine h locs cells slots (mkF m pc Ls (.int x :: st)) := by subst hz; exact nx.pure fun T t H hr => XS.ineg H C.hx rfl (hb C.hby hd) rfl hr
theorem g_i2b {x : Int32} (z : Int32) (C : Cx wd p s m meth c Z a0 EL own bytes ml ret nm) (hd : decode bytes pc = .ok (.i2b, 1)) (hz : x.toInt8.toInt32 = z) (nx : Go wd p l e R s m args below meth c Z EL Q kc ks m0 mine h locs cells slots (mkF m (pc + 1) Ls (.int z :: st))) : Go wd p l e R s m args below meth c Z EL Q kc ks m0 mine h locs cells slots (mkF m pc Ls (.int x :: st)) := by subst hz; exact nx.pure fun T t H hr => XT.i2b H C.hx rfl (hb C.hby hd) rfl hr
theorem g_i2c {x : Int32} (z : Int32) (C : Cx wd p s m meth c Z a0 EL own bytes ml ret nm) (hd : decode bytes pc = .ok (.i2c, 1)) (hz : x.toUInt32.toUInt16.toUInt32.toInt32 = z) (nx : Go wd p l e R s m args below meth c Z EL Q kc ks m0 mine h locs cells slots (mkF m (pc + 1) Ls (.int z :: st))) : Go wd p l e R s m args below meth c Z EL Q kc ks m0 mine h locs cells slots (mkF m pc Ls (.int x :: st)) := by subst hz; exact nx.pure fun T t H hr => XT.i2c H C.hx rfl (hb C.hby hd) rfl hr
theorem g_i2s {x : Int32} (z : Int32) (C : Cx wd p s m meth c Z a0 EL own bytes ml ret nm) (hd : decode bytes pc = .ok (.i2s, 1)) (hz : x.toInt16.toInt32 = z) (nx : Go wd p l e R s m args below meth c Z EL Q kc ks m0 mine h locs cells slots (mkF m (pc + 1) Ls (.int z :: st))) : Go wd p l e R s m args below meth c Z EL Q kc ks m0 mine h locs cells slots (mkF m pc Ls (.int x :: st)) := by subst hz; exact nx.pure fun T t H hr => XT.i2s H C.hx rfl (hb C.hby hd) rfl hr
theorem g_i2l {x : Int32} (z : Int64) (C : Cx wd p s m meth c Z a0 EL own bytes ml ret nm) (hd : decode bytes pc = .ok (.i2l, 1)) (hz : x.toInt64 = z) (nx : Go wd p l e R s m args below meth c Z EL Q kc ks m0 mine h locs cells slots (mkF m (pc + 1) Ls (.long z :: st))) : Go wd p l e R s m args below meth c Z EL Q kc ks m0 mine h locs cells slots (mkF m pc Ls (.int x :: st)) := by subst hz; exact nx.pure fun T t H hr => XT.i2l H C.hx rfl (hb C.hby hd) rfl hr
theorem g_l2i {x : Int64} (z : Int32) (C : Cx wd p s m meth c Z a0 EL own bytes ml ret nm) (hd : decode bytes pc = .ok (.l2i, 1)) (hz : x.toInt32 = z) (nx : Go wd p l e R s m args below meth c Z EL Q kc ks m0 mine h locs cells slots (mkF m (pc + 1) Ls (.int z :: st))) : Go wd p l e R s m args below meth c Z EL Q kc ks m0 mine h locs cells slots (mkF m pc Ls (.long x :: st)) := by subst hz; exact nx.pure fun T t H hr => XT.l2i H C.hx rfl (hb C.hby hd) rfl hr
theorem g_ladd {x y : Int64} (z : Int64) (C : Cx wd p s m meth c Z a0 EL own bytes ml ret nm) (hd : decode bytes pc = .ok (.ladd, 1)) (hz : x + y = z) (nx : Go wd p l e R s m args below meth c Z EL Q kc ks m0 mine h locs cells slots (mkF m (pc + 1) Ls (.long z :: st))) : Go wd p l e R s m args below meth c Z EL Q kc ks m0 mine h locs cells slots (mkF m pc Ls (.long y :: .long x :: st)) := by subst hz; exact nx.pure fun T t H hr => XT.ladd H C.hx rfl (hb C.hby hd) rfl hr
theorem g_lsub {x y : Int64} (z : Int64) (C : Cx wd p s m meth c Z a0 EL own bytes ml ret nm) (hd : decode bytes pc = .ok (.lsub, 1)) (hz : x - y = z) (nx : Go wd p l e R s m args below meth c Z EL Q kc ks m0 mine h locs cells slots (mkF m (pc + 1) Ls (.long z :: st))) : Go wd p l e R s m args below meth c Z EL Q kc ks m0 mine h locs cells slots (mkF m pc Ls (.long y :: .long x :: st)) := by subst hz; exact nx.pure fun T t H hr => XT.lsub H C.hx rfl (hb C.hby hd) rfl hr
theorem g_lmul {x y : Int64} (z : Int64) (C : Cx wd p s m meth c Z a0 EL own bytes ml ret nm) (hd : decode bytes pc = .ok (.lmul, 1)) (hz : x * y = z) (nx : Go wd p l e R s m args below meth c Z EL Q kc ks m0 mine h locs cells slots (mkF m (pc + 1) Ls (.long z :: st))) : Go wd p l e R s m args below meth c Z EL Q kc ks m0 mine h locs cells slots (mkF m pc Ls (.long y :: .long x :: st)) := by subst hz; exact nx.pure fun T t H hr => XT.lmul H C.hx rfl (hb C.hby hd) rfl hr
theorem g_land {x y : Int64} (z : Int64) (C : Cx wd p s m meth c Z a0 EL own bytes ml ret nm) (hd : decode bytes pc = .ok (.land, 1)) (hz : x &&& y = z) (nx : Go wd p l e R s m args below meth c Z EL Q kc ks m0 mine h locs cells slots (mkF m (pc + 1) Ls (.long z :: st))) : Go wd p l e R s m args below meth c Z EL Q kc ks m0 mine h locs cells slots (mkF m pc Ls (.long y :: .long x :: st)) := by subst hz; exact nx.pure fun T t H hr => XT.land H C.hx rfl (hb C.hby hd) rfl hr
theorem g_lor {x y : Int64} (z : Int64) (C : Cx wd p s m meth c Z a0 EL own bytes ml ret nm) (hd : decode bytes pc = .ok (.lor, 1)) (hz : x ||| y = z) (nx : Go wd p l e R s m args below meth c Z EL Q kc ks m0 mine h locs cells slots (mkF m (pc + 1) Ls (.long z :: st))) : Go wd p l e R s m args below meth c Z EL Q kc ks m0 mine h locs cells slots (mkF m pc Ls (.long y :: .long x :: st)) := by subst hz; exact nx.pure fun T t H hr => XT.lor H C.hx rfl (hb C.hby hd) rfl hr
theorem g_lxor {x y : Int64} (z : Int64) (C : Cx wd p s m meth c Z a0 EL own bytes ml ret nm) (hd : decode bytes pc = .ok (.lxor, 1)) (hz : x ^^^ y = z) (nx : Go wd p l e R s m args below meth c Z EL Q kc ks m0 mine h locs cells slots (mkF m (pc + 1) Ls (.long z :: st))) : Go wd p l e R s m args below meth c Z EL Q kc ks m0 mine h locs cells slots (mkF m pc Ls (.long y :: .long x :: st)) := by subst hz; exact nx.pure fun T t H hr => XT.lxor H C.hx rfl (hb C.hby hd) rfl hr
theorem g_ldiv {x y : Int64} (z : Int64) (C : Cx wd p s m meth c Z a0 EL own bytes ml ret nm) (hd : decode bytes pc = .ok (.ldiv, 1)) (hy : y ≠ 0) (hz : x / y = z) (nx : Go wd p l e R s m args below meth c Z EL Q kc ks m0 mine h locs cells slots (mkF m (pc + 1) Ls (.long z :: st))) : Go wd p l e R s m args below meth c Z EL Q kc ks m0 mine h locs cells slots (mkF m pc Ls (.long y :: .long x :: st)) := by subst hz; exact nx.pure fun T t H hr => XT.ldiv H C.hx rfl (hb C.hby hd) rfl hy hr
theorem g_lrem {x y : Int64} (z : Int64) (C : Cx wd p s m meth c Z a0 EL own bytes ml ret nm) (hd : decode bytes pc = .ok (.lrem, 1)) (hy : y ≠ 0) (hz : x - (x / y) * y = z) (nx : Go wd p l e R s m args below meth c Z EL Q kc ks m0 mine h locs cells slots (mkF m (pc + 1) Ls (.long z :: st))) : Go wd p l e R s m args below meth c Z EL Q kc ks m0 mine h locs cells slots (mkF m pc Ls (.long y :: .long x :: st)) := by subst hz; exact nx.pure fun T t H hr => XT.lrem H C.hx rfl (hb C.hby hd) rfl hy hr
theorem g_lshl {x : Int64} {y : Int32} (z : Int64) (C : Cx wd p s m meth c Z a0 EL own bytes ml ret nm) (hd : decode bytes pc = .ok (.lshl, 1)) (hz : x <<< (y.toInt64 &&& 63) = z) (nx : Go wd p l e R s m args below meth c Z EL Q kc ks m0 mine h locs cells slots (mkF m (pc + 1) Ls (.long z :: st))) : Go wd p l e R s m args below meth c Z EL Q kc ks m0 mine h locs cells slots (mkF m pc Ls (.int y :: .long x :: st)) := by subst hz; exact nx.pure fun T t H hr => XT.lshl H C.hx rfl (hb C.hby hd) rfl hr
theorem g_lshr {x : Int64} {y : Int32} (z : Int64) (C : Cx wd p s m meth c Z a0 EL own bytes ml ret nm) (hd : decode bytes pc = .ok (.lshr, 1)) (hz : x >>> (y.toInt64 &&& 63) = z) (nx : Go wd p l e R s m args below meth c Z EL Q kc ks m0 mine h locs cells slots (mkF m (pc + 1) Ls (.long z :: st))) : Go wd p l e R s m args below meth c Z EL Q kc ks m0 mine h locs cells slots (mkF m pc Ls (.int y :: .long x :: st)) := by subst hz; exact nx.pure fun T t H hr => XT.lshr H C.hx rfl (hb C.hby hd) rfl hr
theorem g_lushr {x : Int64} {y : Int32} (z : Int64) (C : Cx wd p s m meth c Z a0 EL own bytes ml ret nm) (hd : decode bytes pc = .ok (.lushr, 1)) (hz : XT.ushrL x y = z) (nx : Go wd p l e R s m args below meth c Z EL Q kc ks m0 mine h locs cells slots (mkF m (pc + 1) Ls (.long z :: st))) : Go wd p l e R s m args below meth c Z EL Q kc ks m0 mine h locs cells slots (mkF m pc Ls (.int y :: .long x :: st)) := by subst hz; exact nx.pure fun T t H hr => XT.lushr H C.hx rfl (hb C.hby hd) rfl hr
theorem g_lneg {x : Int64} (z : Int64) (C : Cx wd p s m meth c Z a0 EL own bytes ml ret nm) (hd : decode bytes pc = .ok (.lneg, 1)) (hz : -x = z) (nx : Go wd p l e R s m args below meth c Z EL Q kc ks m0 mine h locs cells slots (mkF m (pc + 1) Ls (.long z :: st))) : Go wd p l e R s m args below meth c Z EL Q kc ks m0 mine h locs cells slots (mkF m pc Ls (.long x :: st)) := by subst hz; exact nx.pure fun T t H hr => XT.lneg H C.hx rfl (hb C.hby hd) rfl hr
theorem g_lcmp {x y : Int64} (C : Cx wd p s m meth c Z a0 EL own bytes ml ret nm) (hd : decode bytes pc = .ok (.lcmp, 1))  (nx : Go wd p l e R s m args below meth c Z EL Q kc ks m0 mine h locs cells slots (mkF m (pc + 1) Ls (.int (XT.cmpL x y) :: st))) : Go wd p l e R s m args below meth c Z EL Q kc ks m0 mine h locs cells slots (mkF m pc Ls (.long y :: .long x :: st)) := nx.pure fun T t H hr => XT.lcmp H C.hx rfl (hb C.hby hd) rfl hr
theorem g_iinc {k : Nat} {cst : Int} {x : Int32} (z : Int32) (l' : Array Slot) (C : Cx wd p s m meth c Z a0 EL own bytes ml ret nm) (hd : decode bytes pc = .ok (.iinc k cst, 3)) (hl : Ls[k]? = some (.val (.int x))) (hz : x + Int32.ofInt cst = z) (hl' : storeLocals Ls k (.int z) = some l') (nx : Go wd p l e R s m args below meth c Z EL Q kc ks m0 mine h locs cells slots (mkF m (pc + 3) l' (st))) : Go wd p l e R s m args below meth c Z EL Q kc ks m0 mine h locs cells slots (mkF m pc Ls (st)) := by subst hz; exact nx.pure fun T t H hr => XS.iinc H C.hx rfl (hb C.hby hd) hl hl' hr
theorem g_dup {x : Value} (C : Cx wd p s m meth c Z a0 EL own bytes ml ret nm) (hd : decode bytes pc = .ok (.dup, 1)) (hc : x.category = 1) (nx : Go wd p l e R s m args below meth c Z EL Q kc ks m0 mine h locs cells slots (mkF m (pc + 1) Ls (x :: x :: st))) : Go wd p l e R s m args below meth c Z EL Q kc ks m0 mine h locs cells slots (mkF m pc Ls (x :: st)) := nx.pure fun T t H hr => XS.dup H C.hx rfl (hb C.hby hd) rfl hc hr
theorem g_pop {x : Value} (C : Cx wd p s m meth c Z a0 EL own bytes ml ret nm) (hd : decode bytes pc = .ok (.pop, 1)) (hc : x.category = 1) (nx : Go wd p l e R s m args below meth c Z EL Q kc ks m0 mine h locs cells slots (mkF m (pc + 1) Ls (st))) : Go wd p l e R s m args below meth c Z EL Q kc ks m0 mine h locs cells slots (mkF m pc Ls (x :: st)) := nx.pure fun T t H hr => XT.pop H C.hx rfl (hb C.hby hd) rfl hc hr
theorem g_dupX1 {x y : Value} (C : Cx wd p s m meth c Z a0 EL own bytes ml ret nm) (hd : decode bytes pc = .ok (.dup_x1, 1)) (hc : x.category = 1) (hc' : y.category = 1) (nx : Go wd p l e R s m args below meth c Z EL Q kc ks m0 mine h locs cells slots (mkF m (pc + 1) Ls (x :: y :: x :: st))) : Go wd p l e R s m args below meth c Z EL Q kc ks m0 mine h locs cells slots (mkF m pc Ls (x :: y :: st)) := nx.pure fun T t H hr => XT.dupX1 H C.hx rfl (hb C.hby hd) rfl hc hc' hr
theorem g_dup2 {x y : Value} (C : Cx wd p s m meth c Z a0 EL own bytes ml ret nm) (hd : decode bytes pc = .ok (.dup2, 1)) (hc : x.category = 1) (hc' : y.category = 1) (nx : Go wd p l e R s m args below meth c Z EL Q kc ks m0 mine h locs cells slots (mkF m (pc + 1) Ls (x :: y :: x :: y :: st))) : Go wd p l e R s m args below meth c Z EL Q kc ks m0 mine h locs cells slots (mkF m pc Ls (x :: y :: st)) := nx.pure fun T t H hr => XT.dup2 H C.hx rfl (hb C.hby hd) rfl hc hc' hr
theorem g_dup2L {x : Int64} (C : Cx wd p s m meth c Z a0 EL own bytes ml ret nm) (hd : decode bytes pc = .ok (.dup2, 1))  (nx : Go wd p l e R s m args below meth c Z EL Q kc ks m0 mine h locs cells slots (mkF m (pc + 1) Ls (.long x :: .long x :: st))) : Go wd p l e R s m args below meth c Z EL Q kc ks m0 mine h locs cells slots (mkF m pc Ls (.long x :: st)) := nx.pure fun T t H hr => XT.dup2L H C.hx rfl (hb C.hby hd) rfl hr
theorem g_goto {o : Int} (pc' : Nat) (C : Cx wd p s m meth c Z a0 EL own bytes ml ret nm) (hd : decode bytes pc = .ok (.goto o, 3)) (ho : 0 ≤ (pc : Int) + o) (hp : ((pc : Int) + o).toNat = pc') (nx : Go wd p l e R s m args below meth c Z EL Q kc ks m0 mine h locs cells slots (mkF m pc' Ls (st))) : Go wd p l e R s m args below meth c Z EL Q kc ks m0 mine h locs cells slots (mkF m pc Ls (st)) := nx.pure fun T t H hr => XS.goto H C.hx rfl rfl (hb C.hby hd) ho hp hr
theorem g_ifT {cd : ClassFile.Cond} {x : Int32} {o : Int} (pc' : Nat) (C : Cx wd p s m meth c Z a0 EL own bytes ml ret nm) (hd : decode bytes pc = .ok (.ifCond cd o, 3)) (hc : hC cd x 0) (ho : 0 ≤ (pc : Int) + o) (hp : ((pc : Int) + o).toNat = pc') (nx : Go wd p l e R s m args below meth c Z EL Q kc ks m0 mine h locs cells slots (mkF m pc' Ls (st))) : Go wd p l e R s m args below meth c Z EL Q kc ks m0 mine h locs cells slots (mkF m pc Ls (.int x :: st)) := nx.pure fun T t H hr => XS.ifYes H C.hx rfl rfl (hb C.hby hd) rfl (by rw [if0]; exact hC_t hc) ho hp hr
theorem g_ifF {cd : ClassFile.Cond} {x : Int32} {o : Int} (C : Cx wd p s m meth c Z a0 EL own bytes ml ret nm) (hd : decode bytes pc = .ok (.ifCond cd o, 3)) (hc : nC cd x 0) (nx : Go wd p l e R s m args below meth c Z EL Q kc ks m0 mine h locs cells slots (mkF m (pc + 3) Ls (st))) : Go wd p l e R s m args below meth c Z EL Q kc ks m0 mine h locs cells slots (mkF m pc Ls (.int x :: st)) := nx.pure fun T t H hr => XS.ifNo H C.hx rfl (hb C.hby hd) rfl (by rw [if0]; exact nC_f hc) hr
theorem g_icmpT {cd : ClassFile.Cond} {x y : Int32} {o : Int} (pc' : Nat) (C : Cx wd p s m meth c Z a0 EL own bytes ml ret nm) (hd : decode bytes pc = .ok (.if_icmp cd o, 3)) (hc : hC cd x y) (ho : 0 ≤ (pc : Int) + o) (hp : ((pc : Int) + o).toNat = pc') (nx : Go wd p l e R s m args below meth c Z EL Q kc ks m0 mine h locs cells slots (mkF m pc' Ls (st))) : Go wd p l e R s m args below meth c Z EL Q kc ks m0 mine h locs cells slots (mkF m pc Ls (.int y :: .int x :: st)) := nx.pure fun T t H hr => XS.icmpYes H C.hx rfl rfl (hb C.hby hd) rfl (hC_t hc) ho hp hr
theorem g_icmpF {cd : ClassFile.Cond} {x y : Int32} {o : Int} (C : Cx wd p s m meth c Z a0 EL own bytes ml ret nm) (hd : decode bytes pc = .ok (.if_icmp cd o, 3)) (hc : nC cd x y) (nx : Go wd p l e R s m args below meth c Z EL Q kc ks m0 mine h locs cells slots (mkF m (pc + 3) Ls (st))) : Go wd p l e R s m args below meth c Z EL Q kc ks m0 mine h locs cells slots (mkF m pc Ls (.int y :: .int x :: st)) := nx.pure fun T t H hr => XS.icmpNo H C.hx rfl (hb C.hby hd) rfl (nC_f hc) hr
theorem g_acmpT {cd : ClassFile.ACond} {x y : Value} {o : Int} (pc' : Nat) (C : Cx wd p s m meth c Z a0 EL own bytes ml ret nm) (hd : decode bytes pc = .ok (.if_acmp cd o, 3)) (hx : x.isRef = true) (hy : y.isRef = true) (hc : aC cd x y) (ho : 0 ≤ (pc : Int) + o) (hp : ((pc : Int) + o).toNat = pc') (nx : Go wd p l e R s m args below meth c Z EL Q kc ks m0 mine h locs cells slots (mkF m pc' Ls (st))) : Go wd p l e R s m args below meth c Z EL Q kc ks m0 mine h locs cells slots (mkF m pc Ls (y :: x :: st)) := nx.pure fun T t H hr => XT.acmpYes H C.hx rfl rfl (hb C.hby hd) rfl hx hy (aC_t hc) ho hp hr
theorem g_acmpF {cd : ClassFile.ACond} {x y : Value} {o : Int} (C : Cx wd p s m meth c Z a0 EL own bytes ml ret nm) (hd : decode bytes pc = .ok (.if_acmp cd o, 3)) (hx : x.isRef = true) (hy : y.isRef = true) (hc : aN cd x y) (nx : Go wd p l e R s m args below meth c Z EL Q kc ks m0 mine h locs cells slots (mkF m (pc + 3) Ls (st))) : Go wd p l e R s m args below meth c Z EL Q kc ks m0 mine h locs cells slots (mkF m pc Ls (y :: x :: st)) := nx.pure fun T t H hr => XT.acmpNo H C.hx rfl (hb C.hby hd) rfl hx hy (aN_f hc) hr
theorem g_ifnullT {o : Int} (pc' : Nat) (C : Cx wd p s m meth c Z a0 EL own bytes ml ret nm) (hd : decode bytes pc = .ok (.ifnull o, 3)) (ho : 0 ≤ (pc : Int) + o) (hp : ((pc : Int) + o).toNat = pc') (nx : Go wd p l e R s m args below meth c Z EL Q kc ks m0 mine h locs cells slots (mkF m pc' Ls (st))) : Go wd p l e R s m args below meth c Z EL Q kc ks m0 mine h locs cells slots (mkF m pc Ls (.null :: st)) := nx.pure fun T t H hr => XS.ifnullYes H C.hx rfl rfl (hb C.hby hd) rfl ho hp hr
theorem g_ifnullF {o : Int} {b : Addr} (C : Cx wd p s m meth c Z a0 EL own bytes ml ret nm) (hd : decode bytes pc = .ok (.ifnull o, 3))  (nx : Go wd p l e R s m args below meth c Z EL Q kc ks m0 mine h locs cells slots (mkF m (pc + 3) Ls (st))) : Go wd p l e R s m args below meth c Z EL Q kc ks m0 mine h locs cells slots (mkF m pc Ls (.ref b :: st)) := nx.pure fun T t H hr => XS.ifnullNo H C.hx rfl (hb C.hby hd) rfl hr
theorem g_ifnonnullT {o : Int} {b : Addr} (pc' : Nat) (C : Cx wd p s m meth c Z a0 EL own bytes ml ret nm) (hd : decode bytes pc = .ok (.ifnonnull o, 3)) (ho : 0 ≤ (pc : Int) + o) (hp : ((pc : Int) + o).toNat = pc') (nx : Go wd p l e R s m args below meth c Z EL Q kc ks m0 mine h locs cells slots (mkF m pc' Ls (st))) : Go wd p l e R s m args below meth c Z EL Q kc ks m0 mine h locs cells slots (mkF m pc Ls (.ref b :: st)) := nx.pure fun T t H hr => XT.ifnonnullYes H C.hx rfl rfl (hb C.hby hd) rfl ho hp hr
theorem g_ifnonnullF {o : Int} (C : Cx wd p s m meth c Z a0 EL own bytes ml ret nm) (hd : decode bytes pc = .ok (.ifnonnull o, 3))  (nx : Go wd p l e R s m args below meth c Z EL Q kc ks m0 mine h locs cells slots (mkF m (pc + 3) Ls (st))) : Go wd p l e R s m args below meth c Z EL Q kc ks m0 mine h locs cells slots (mkF m pc Ls (.null :: st)) := nx.pure fun T t H hr => XT.ifnonnullNo H C.hx rfl (hb C.hby hd) rfl hr
theorem g_leave_ {v : Option Value} {g : JFrame} (C : Cx wd p s m meth c Z a0 EL own bytes ml ret nm) (hv : meth.sig.returnType = none → v = none) (hq : Q v h) (hc : cells ≤ kc) (hs : slots ≤ ks)
    (stp : ∀ (T : State) (vm0 : Vm) (fs : List Frame), Stand p l e R (s.setVm vm0) m args below meth c T locs cells slots → (∀ (f : JFrame) (acts : List Action), f.method = m → f.locked = none → f.entered = [] → (doReturn e (T.setTop f) acts v).1 = T.setFrames fs) → Steps p.tables e below (T.setTop g) (T.setFrames fs)) :
    Go wd p l e R s m args below meth c Z EL Q kc ks m0 mine h locs cells slots g := fun T vm0 X eT V => by
  obtain ⟨⟨v1, v2, ⟨k0, v3, v4⟩, v5⟩, v6, v7, v8, v9⟩ := V
  have hlk := C.hlk
  obtain ⟨fs, hr, hrun, hended, hW, hsame⟩ := X.leave hv hlk
  obtain ⟨u1, u2, u3⟩ := v3.ended (U := T.setFrames fs) hW (by show k0 ≤ T.heap.size; rw [eT]; exact v4) hsame
  have hC : CHr Z EL vm0 h T.vm h := CHv.at X v2 C.hEW v5.1
  refine ⟨_, _, stp T vm0 fs X hr, hrun, hended, v, locs, rfl, ?_, ?_, FinE.mono ⟨fun q => ?_, ⟨v, rfl⟩, u1, u2, u3⟩ hc hs, ?_, ?_, v9⟩
  · show Q v T.heap
    rw [eT]; exact hq
  · show CHr Z EL s.vm s.heap T.vm T.heap
    rw [eT]; exact v5.trans hC
  · have e1 : vm0 = s.vm := v1 q
    subst e1
    exact ⟨⟨v, rfl⟩, hW, hsame⟩
  · show Ext Z.heap T.heap
    rw [eT]; exact v7
  · show Keep s.heap T.heap m0
    rw [eT]; exact v8
theorem g_retV {i : Instr} {t : FieldType} {w : Value} (C : Cx wd p s m meth c Z a0 EL own bytes ml (some t) nm) (hd : decode bytes pc = .ok (i, 1)) (hn : narrow t w = w)
    (hi : (i = .ireturn ∧ (t = .int ∨ t = .boolean ∨ t = .byte ∨ t = .char ∨ t = .short) ∧ ∃ z, w = .int z) ∨ (i = .lreturn ∧ t = .long ∧ ∃ z, w = .long z) ∨ (i = .dreturn ∧ t = .double ∧ ∃ z, w = .double z) ∨ (i = .freturn ∧ t = .float ∧ ∃ z, w = .float z) ∨ (i = .areturn ∧ t.isReference = true ∧ w.isRef = true))
    (hq : Q (some w) h) (hc : cells ≤ kc) (hs : slots ≤ ks) : Go wd p l e R s m args below meth c Z EL Q kc ks m0 mine h locs cells slots (mkF m pc Ls (w :: st)) :=
  g_leave_ C (fun q => by rw [C.hret] at q; cases q) hq hc hs fun T vm0 fs X hr => retOut X C.hx C.hret hn hi (hb C.hby hd) hr
theorem g_retI {z : Int32} (C : Cx wd p s m meth c Z a0 EL own bytes ml (some .int) nm) (hd : decode bytes pc = .ok (.ireturn, 1)) (hq : Q (some (.int z)) h) (hc : cells ≤ kc) (hs : slots ≤ ks) : Go wd p l e R s m args below meth c Z EL Q kc ks m0 mine h locs cells slots (mkF m pc Ls (.int z :: st)) :=
  g_retV C hd rfl (Or.inl ⟨rfl, Or.inl rfl, z, rfl⟩) hq hc hs
theorem g_retJ {z : Int64} (C : Cx wd p s m meth c Z a0 EL own bytes ml (some .long) nm) (hd : decode bytes pc = .ok (.lreturn, 1)) (hq : Q (some (.long z)) h) (hc : cells ≤ kc) (hs : slots ≤ ks) : Go wd p l e R s m args below meth c Z EL Q kc ks m0 mine h locs cells slots (mkF m pc Ls (.long z :: st)) :=
  g_retV C hd rfl (Or.inr (Or.inl ⟨rfl, rfl, z, rfl⟩)) hq hc hs
theorem g_retA {t : FieldType} {w : Value} (C : Cx wd p s m meth c Z a0 EL own bytes ml (some t) nm) (hd : decode bytes pc = .ok (.areturn, 1)) (ht : t.isReference = true) (hw : w.isRef = true) (hq : Q (some w) h) (hc : cells ≤ kc) (hs : slots ≤ ks) : Go wd p l e R s m args below meth c Z EL Q kc ks m0 mine h locs cells slots (mkF m pc Ls (w :: st)) :=
  g_retV C hd (by cases t <;> first | (simp [FieldType.isReference] at ht; done) | rfl) (Or.inr (Or.inr (Or.inr (Or.inr ⟨rfl, ht, hw⟩)))) hq hc hs
/-- boolean, byte, char, short: what is left of z -/
theorem g_retN {z : Int32} {t : FieldType} (C : Cx wd p s m meth c Z a0 EL own bytes ml (some t) nm) (hd : decode bytes pc = .ok (.ireturn, 1)) (ht : t = .boolean ∨ t = .byte ∨ t = .char ∨ t = .short) (hq : Q (some (.int (nar t z))) h) (hc : cells ≤ kc) (hs : slots ≤ ks) : Go wd p l e R s m args below meth c Z EL Q kc ks m0 mine h locs cells slots (mkF m pc Ls (.int z :: st)) :=
  g_leave_ C (fun q => by rw [C.hret] at q; cases q) hq hc hs fun T vm0 fs X hr => RoadKit.retN X C.hx C.hret ht (hb C.hby hd) hr
theorem g_retU (C : Cx wd p s m meth c Z a0 EL own bytes ml none nm) (hd : decode bytes pc = .ok (.return_, 1)) (hq : Q none h) (hc : cells ≤ kc) (hs : slots ≤ ks) : Go wd p l e R s m args below meth c Z EL Q kc ks m0 mine h locs cells slots (mkF m pc Ls []) :=
  g_leave_ C (fun _ => rfl) hq hc hs fun T vm0 fs X hr => X.returnOut C.hx C.hret (hb C.hby hd) hr
theorem g_getfield {idx : Nat} {R0 O n d host : String} {v : Value} (C : Cx wd p s m meth c Z a0 EL own bytes ml ret nm) (hd : decode bytes pc = .ok (.getfield idx, 3)) (w : (Cond.fieldLink own idx R0 n d).before a0 Z = true ∨ (Cond.fieldLinkNest own idx R0 n d host).before a0 Z = true) (via : Via Z R0 O n d) (F : Fld Z h a O n d v)
    (nx : Go wd p l e R s m args below meth c Z EL Q kc ks m0 mine h locs cells slots (mkF m (pc + 3) Ls (v :: st))) : Go wd p l e R s m args below meth c Z EL Q kc ks m0 mine h locs cells slots (mkF m pc Ls (.ref a :: st)) := fun T vm0 X eT V => by
  obtain ⟨T', X', e', k1⟩ := RoadKit.getF X C.hx V.hZ' (V.hown C) w via eT F (g := mkF m pc Ls (.ref a :: st)) rfl rfl (hb C.hby hd)
  obtain ⟨s₂, o, k, r⟩ := nx T' vm0 X' e' V
  exact ⟨s₂, o, k1 _ k, r⟩
theorem g_getstatic {idx : Nat} {R0 O n d host : String} {v : Value} (C : Cx wd p s m meth c Z a0 EL own bytes ml ret nm) (hd : decode bytes pc = .ok (.getstatic idx, 3)) (w : (Cond.fieldLink own idx R0 n d).before a0 Z = true ∨ (Cond.fieldLinkNest own idx R0 n d host).before a0 Z = true) (via : Via Z R0 O n d) (F : Sta Z Z.heap O n d v)
    (nx : Go wd p l e R s m args below meth c Z EL Q kc ks m0 mine h locs cells slots (mkF m (pc + 3) Ls (v :: st))) : Go wd p l e R s m args below meth c Z EL Q kc ks m0 mine h locs cells slots (mkF m pc Ls st) := fun T vm0 X eT V => by
  obtain ⟨T', X', e', k1⟩ := getS2 X C.hx V.hZ' (V.hown C) w via eT (Sta.ext V.old F) (g := mkF m pc Ls st) rfl (hb C.hby hd)
  obtain ⟨s₂, o, k, r⟩ := nx T' vm0 X' e' V
  exact ⟨s₂, o, k1 _ k, r⟩
theorem g_putfield {idx kk : Nat} {R0 O n d host Cn : String} {v old : Value} {ty : FieldType} (C : Cx wd p s m meth c Z a0 EL own bytes ml ret nm) (hd : decode bytes pc = .ok (.putfield idx, 3)) (w : (Cond.fieldLink own idx R0 n d).before a0 Z = true ∨ (Cond.fieldLinkNest own idx R0 n d host).before a0 Z = true) (via : Via Z R0 O n d) (F : Fld Z h a O n d old) (E : Exa Z h a Cn)
    (L : (Cond.lays Cn O n d).before a0 Z = true ∨ ((Cond.laysFinal Cn O n d).before a0 Z = true ∧ own = O ∧ nm = "<init>")) (wi : (Cond.instantiable Cn kk).before a0 Z = true) (hty : parseFieldDescriptor d = some ty) (hn : narrow ty v = v) (hf : fits ty v = true) (hm : a ∈ mine)
    (nx : ∀ h', Wr h h' a (RoadKit.slotOf Z O n d) v → Keep h h' [a] → Go wd p l e R s m args below meth c Z EL Q kc ks m0 mine h' (locs ++ [⟨a, RoadKit.slotOf Z O n d⟩]) cells slots (mkF m (pc + 3) Ls st)) : Go wd p l e R s m args below meth c Z EL Q kc ks m0 mine h locs cells slots (mkF m pc Ls (v :: .ref a :: st)) := fun T vm0 X eT V => by
  have L' : (Cond.lays Cn O n d).before a0 Z = true ∨ ((Cond.laysFinal Cn O n d).before a0 Z = true ∧ own = O ∧ meth.name = "<init>") := L.imp id fun q => ⟨q.1, q.2.1, by rw [C.hnm]; exact q.2.2⟩
  obtain ⟨T', h', X', e', W, k1⟩ := putF X C.hx V.hZ' (V.hown C) w via eT F E L' wi hty hn hf (g := mkF m pc Ls (v :: .ref a :: st)) rfl rfl (hb C.hby hd)
  obtain ⟨s₂, o, k, r⟩ := nx h' W (Keep.of_wr W) T' vm0 X' e' (V.keep (Keep.of_wr W) (fun x hx => by rw [List.mem_singleton.mp hx]; exact hm) (V.wr1 hm))
  exact ⟨s₂, o, k1 _ k, r⟩
theorem g_new_ {idx kk : Nat} {Cn : String} (C : Cx wd p s m meth c Z a0 EL own bytes ml ret nm) (hd : decode bytes pc = .ok (.new idx, 3)) (w : (Cond.classLink own idx Cn).before a0 Z = true) (wi : (Cond.instantiable Cn kk).before a0 Z = true) (wz : (Cond.initialized Cn).before a0 Z = true) (hc : cells + 1 ≤ R.cells) (hs : slots + kk ≤ R.slots)
    (nx : ∀ (a : Addr) (h' : Heap), a = h.size → Ext h h' → a < h'.size → Exa Z h' a Cn → (∀ {O n d : String} {ty : FieldType}, Laid Z a0 Cn O n d → parseFieldDescriptor d = some ty → Fld Z h' a O n d (defaultValue ty)) → Go wd p l e R s m args below meth c Z EL Q kc ks m0 (a :: mine) h' locs (cells + 1) (slots + kk) (mkF m (pc + 3) Ls (.ref a :: st))) : Go wd p l e R s m args below meth c Z EL Q kc ks m0 mine h locs cells slots (mkF m pc Ls st) := fun T vm0 X eT V => by
  obtain ⟨T', h', X', e', E, A, D, -, k1⟩ := newO X C.hx V.hZ' (V.hown C) w wi wz eT (g := mkF m pc Ls st) rfl (hb C.hby hd) hc hs
  obtain ⟨s₂, o, k, r⟩ := nx h.size h' rfl E A.lt A D T' vm0 X' e' (V.new E A.lt)
  exact ⟨s₂, o, k1 _ k, r⟩
theorem g_objInit {idx : Nat} (C : Cx wd p s m meth c Z a0 EL own bytes ml ret nm) (hd : decode bytes pc = .ok (.invokespecial idx, 3)) (w1 : (Cond.methodLink own idx Lib.objectInit).before a0 Z = true) (w2 : (Cond.instanceMethod Lib.objectInit).before a0 Z = true) (w3 : (Cond.code Lib.objectInit ⟨#[0xb1]⟩ 1 none).before a0 Z = true)
    (hsz : Ls.size = ml) (hf : 1 ≤ R.frames) (hl : (st.map fun v => v.category).sum + 12 ≤ R.locals) (nx : Go wd p l e R s m args below meth c Z EL Q kc ks m0 mine h locs cells slots (mkF m (pc + 3) Ls st)) : Go wd p l e R s m args below meth c Z EL Q kc ks m0 mine h locs cells slots (mkF m pc Ls (.ref a :: st)) := fun T vm0 X eT V => by
  obtain ⟨T', X', e', k1⟩ := initO X C.hx V.hZ' (V.hown C) w1 w2 w3 eT (g := mkF m pc Ls (.ref a :: st)) rfl (by rw [C.hml]; exact hsz) rfl (hb C.hby hd) hf (W := (st.map fun v => v.category).sum) (by show 2 * 0 + _ ≤ _; omega) hl
  obtain ⟨s₂, o, k, r⟩ := nx T' vm0 X' e' V
  exact ⟨s₂, o, k1 _ k, r⟩
theorem g_castY {idx : Nat} {K : String} (C : Cx wd p s m meth c Z a0 EL own bytes ml ret nm) (hd : decode bytes pc = .ok (.checkcast idx, 3)) (w : (Cond.classLink own idx K).before a0 Z = true) (I : Ins Z h a K true) (nx : Go wd p l e R s m args below meth c Z EL Q kc ks m0 mine h locs cells slots (mkF m (pc + 3) Ls (.ref a :: st))) : Go wd p l e R s m args below meth c Z EL Q kc ks m0 mine h locs cells slots (mkF m pc Ls (.ref a :: st)) := fun T vm0 X eT V => by
  obtain ⟨T', X', e', k1⟩ := RoadKit.castY X C.hx V.hZ' (V.hown C) w eT I (g := mkF m pc Ls (.ref a :: st)) rfl rfl (hb C.hby hd)
  obtain ⟨s₂, o, k, r⟩ := nx T' vm0 X' e' V
  exact ⟨s₂, o, k1 _ k, r⟩
theorem g_instY {idx : Nat} {K : String} (C : Cx wd p s m meth c Z a0 EL own bytes ml ret nm) (hd : decode bytes pc = .ok (.instanceof idx, 3)) (w : (Cond.classLink own idx K).before a0 Z = true) (I : Ins Z h a K true) (nx : Go wd p l e R s m args below meth c Z EL Q kc ks m0 mine h locs cells slots (mkF m (pc + 3) Ls (.int 1 :: st))) : Go wd p l e R s m args below meth c Z EL Q kc ks m0 mine h locs cells slots (mkF m pc Ls (.ref a :: st)) := fun T vm0 X eT V => by
  obtain ⟨T', X', e', k1⟩ := RoadKit.instY X C.hx V.hZ' (V.hown C) w eT I (g := mkF m pc Ls (.ref a :: st)) rfl rfl (hb C.hby hd)
  obtain ⟨s₂, o, k, r⟩ := nx T' vm0 X' e' V
  exact ⟨s₂, o, k1 _ k, r⟩
/-- not an instance: the object is exactly of a class Cn that isn't assignable to K -/
theorem g_instNo {idx : Nat} {K Cn : String} (C : Cx wd p s m meth c Z a0 EL own bytes ml ret nm) (hd : decode bytes pc = .ok (.instanceof idx, 3)) (w : (Cond.classLink own idx K).before a0 Z = true) (I : Ins Z h a K false) (E : Exa Z h a Cn) (nx : Go wd p l e R s m args below meth c Z EL Q kc ks m0 mine h locs cells slots (mkF m (pc + 3) Ls (.int 0 :: st))) : Go wd p l e R s m args below meth c Z EL Q kc ks m0 mine h locs cells slots (mkF m pc Ls (.ref a :: st)) := fun T vm0 X eT V => by
  obtain ⟨cell, cT, h1, h2, h3⟩ := I
  obtain ⟨cell', k, e1, -, e3, e4, -⟩ := E
  cases h1.symm.trans e1
  obtain ⟨k', q, -⟩ := V.hZ'.alike.2.2 _ _ e3
  obtain ⟨vm', X', k1⟩ := Sym.instanceofNoAt X C.hx (V.hown C) (mv V.hZ' w) (by rw [eT]; exact h1) e4 q (by rw [V.hZ'.alike.findClass]; exact h2) (by rw [V.hZ'.alike.assignable]; simpa [e4] using h3) (g := mkF m pc Ls (.ref a :: st)) rfl rfl (hb C.hby hd)
  obtain ⟨s₂, o, k, r⟩ := nx _ vm0 X' eT V
  exact ⟨s₂, o, k1 _ k, r⟩
theorem g_instNull {idx : Nat} (C : Cx wd p s m meth c Z a0 EL own bytes ml ret nm) (hd : decode bytes pc = .ok (.instanceof idx, 3)) (nx : Go wd p l e R s m args below meth c Z EL Q kc ks m0 mine h locs cells slots (mkF m (pc + 3) Ls (.int 0 :: st))) : Go wd p l e R s m args below meth c Z EL Q kc ks m0 mine h locs cells slots (mkF m pc Ls (.null :: st)) := fun T vm0 X eT V => by
  obtain ⟨s₂, o, k, r⟩ := nx T vm0 X eT V
  exact ⟨s₂, o, X.instanceofNull C.hx (g := mkF m pc Ls (.null :: st)) rfl rfl (hb C.hby hd) _ k, r⟩
theorem g_castNull {idx : Nat} (C : Cx wd p s m meth c Z a0 EL own bytes ml ret nm) (hd : decode bytes pc = .ok (.checkcast idx, 3)) (nx : Go wd p l e R s m args below meth c Z EL Q kc ks m0 mine h locs cells slots (mkF m (pc + 3) Ls (.null :: st))) : Go wd p l e R s m args below meth c Z EL Q kc ks m0 mine h locs cells slots (mkF m pc Ls (.null :: st)) := fun T vm0 X eT V => by
  obtain ⟨s₂, o, k, r⟩ := nx T vm0 X eT V
  exact ⟨s₂, o, X.checkcastNull C.hx (g := mkF m pc Ls (.null :: st)) rfl rfl (hb C.hby hd) _ k, r⟩
theorem Av.lt (A : Av Z h a ty vs) : a < h.size := by obtain ⟨c, A, -⟩ := A; exact A.lt
theorem Av.keep (A : Av Z h a ty vs) (K : Keep h h' ws) (q : a ∉ ws) : Av Z h' a ty vs := by
  obtain ⟨c, A, r⟩ := A
  exact ⟨c, ⟨K.2.1 _ _ A.1 q, A.2⟩, r⟩
theorem Av.ext (A : Av Z h a ty vs) (E : Ext h h') : Av Z h' a ty vs := A.keep (keep_ext E) (fun q => nomatch q)
theorem Av.set {i : Nat} (A : Av Z h a ty vs) (W : Wr h h' a i v) (hf : fits ty v = true) : Av Z h' a ty (vs.set i v) := by
  obtain ⟨c, A, rfl, h2, h3⟩ := A
  refine ⟨c.setSlot i v, A.same W, by simp [Cell.setSlot], by simpa using h2, fun w hw => ?_⟩
  rcases List.mem_or_eq_of_mem_set hw with q | rfl
  · exact h3 w q
  · exact hf
theorem Av.of_arv {k : ClassId} {z : Int32} {d : Value} (A : Arv Z h a k ty z vs d) (hl : z.toNatClampNeg = vs.length) : Av Z h a ty vs := by
  obtain ⟨c, A, -, hs, hz, H, G⟩ := A
  have e1 : c.slots.toList = vs := by
    apply List.ext_getElem?
    intro i
    rw [Array.getElem?_toList]
    by_cases q : i < c.slots.size
    · rw [H i q, List.getD_eq_getElem?_getD, List.getElem?_eq_getElem (by omega)]; rfl
    · rw [Array.getElem?_eq_none (by omega), List.getElem?_eq_none (by omega)]
  refine ⟨c, A, e1, ?_, fun w hw => ?_⟩
  · have := (back32 hz).2; omega
  · obtain ⟨i, hi, rfl⟩ := List.mem_iff_getElem.mp hw
    have := G i (by omega)
    rwa [List.getD_eq_getElem?_getD, List.getElem?_eq_getElem hi] at this
theorem toNat_ofNat {n : Nat} (hn : n < 2147483648) : (Int32.ofNat n).toNatClampNeg = n ∧ ¬ Int32.ofNat n < 0 := by
  have e := Int32.toInt_ofNat_small (n := n) hn
  refine ⟨by simp only [Int32.toNatClampNeg, e]; omega, fun q => ?_⟩
  have := Int32.lt_iff_toInt_lt.mp q
  rw [e] at this
  simp at this
  omega
theorem Arv.of_av {d : Value} (A : Av Z h a ty vs) : ∃ k, Arv Z h a k ty (Int32.ofNat vs.length) vs d := by
  obtain ⟨c, A, rfl, h2, h3⟩ := A
  obtain ⟨q1, q2⟩ := toNat_ofNat h2
  refine ⟨c.cls, c, A, rfl, by rw [q1]; simp, q2, fun i hi => ?_, fun i hi => ?_⟩
  · rw [List.getD_eq_getElem?_getD, Array.getElem?_toList, Array.getElem?_eq_getElem hi]; rfl
  · rw [List.getD_eq_getElem?_getD, Array.getElem?_toList, Array.getElem?_eq_getElem hi]
    exact h3 _ (Array.mem_toList_iff.mpr (Array.getElem_mem hi))
theorem g_alen {z : Int32} (C : Cx wd p s m meth c Z a0 EL own bytes ml ret nm) (hd : decode bytes pc = .ok (.arraylength, 1)) (A : Av Z h a ty vs) (hz : Int32.ofNat vs.length = z) (nx : Go wd p l e R s m args below meth c Z EL Q kc ks m0 mine h locs cells slots (mkF m (pc + 1) Ls (.int z :: st))) : Go wd p l e R s m args below meth c Z EL Q kc ks m0 mine h locs cells slots (mkF m pc Ls (.ref a :: st)) := fun T vm0 X eT V => by
  obtain ⟨cl, Ar, rfl, -, -⟩ := A
  obtain ⟨s₂, o, k, r⟩ := nx T vm0 X eT V
  refine ⟨s₂, o, X.arraylength C.hx (by rw [eT]; exact Ar.1) (State.isArrayOf_alike V.hZ'.alike Ar.2.1) (g := mkF m pc Ls (.ref a :: st)) rfl rfl (hb C.hby hd) _ ?_, r⟩
  have e1 : cl.slots.size.toInt32 = z := by rw [← hz, Array.length_toList]
  rw [e1]; exact k
theorem g_iaload {j : Int32} {v : Value} (i : Nat) (C : Cx wd p s m meth c Z a0 EL own bytes ml ret nm) (hd : decode bytes pc = .ok (.iaload, 1)) (A : Av Z h a .int vs) (hj : ¬ j < 0) (hi : j.toNatClampNeg = i) (hv : vs[i]? = some v) (nx : Go wd p l e R s m args below meth c Z EL Q kc ks m0 mine h locs cells slots (mkF m (pc + 1) Ls (v :: st))) : Go wd p l e R s m args below meth c Z EL Q kc ks m0 mine h locs cells slots (mkF m pc Ls (.int j :: .ref a :: st)) := fun T vm0 X eT V => by
  obtain ⟨cl, Ar, rfl, -, -⟩ := A
  obtain ⟨s₂, o, k, r⟩ := nx T vm0 X eT V
  rw [Array.getElem?_toList] at hv
  have hlt := (Array.getElem?_eq_some_iff.mp hv).1
  exact ⟨s₂, o, X.iaload C.hx (by rw [eT]; exact Ar.1) (State.isArrayOf_alike V.hZ'.alike Ar.2.1) Ar.2.2 (fun q => q.elim hj (by omega)) (by rw [hi]; exact hv) (g := mkF m pc Ls (.int j :: .ref a :: st)) rfl rfl (hb C.hby hd) _ k, r⟩
theorem g_laload {j : Int32} {v : Value} (i : Nat) (C : Cx wd p s m meth c Z a0 EL own bytes ml ret nm) (hd : decode bytes pc = .ok (.laload, 1)) (A : Av Z h a .long vs) (hj : ¬ j < 0) (hi : j.toNatClampNeg = i) (hv : vs[i]? = some v) (nx : Go wd p l e R s m args below meth c Z EL Q kc ks m0 mine h locs cells slots (mkF m (pc + 1) Ls (v :: st))) : Go wd p l e R s m args below meth c Z EL Q kc ks m0 mine h locs cells slots (mkF m pc Ls (.int j :: .ref a :: st)) := fun T vm0 X eT V => by
  obtain ⟨cl, Ar, rfl, -, -⟩ := A
  obtain ⟨s₂, o, k, r⟩ := nx T vm0 X eT V
  rw [Array.getElem?_toList] at hv
  have hlt := (Array.getElem?_eq_some_iff.mp hv).1
  exact ⟨s₂, o, X.laload C.hx (by rw [eT]; exact Ar.1) (State.isArrayOf_alike V.hZ'.alike Ar.2.1) Ar.2.2 (fun q => q.elim hj (by omega)) (by rw [hi]; exact hv) (g := mkF m pc Ls (.int j :: .ref a :: st)) rfl rfl (hb C.hby hd) _ k, r⟩
theorem g_caload {j : Int32} {v : Value} (i : Nat) (C : Cx wd p s m meth c Z a0 EL own bytes ml ret nm) (hd : decode bytes pc = .ok (.caload, 1)) (A : Av Z h a .char vs) (hj : ¬ j < 0) (hi : j.toNatClampNeg = i) (hv : vs[i]? = some v) (nx : Go wd p l e R s m args below meth c Z EL Q kc ks m0 mine h locs cells slots (mkF m (pc + 1) Ls (v :: st))) : Go wd p l e R s m args below meth c Z EL Q kc ks m0 mine h locs cells slots (mkF m pc Ls (.int j :: .ref a :: st)) := fun T vm0 X eT V => by
  obtain ⟨cl, Ar, rfl, -, -⟩ := A
  obtain ⟨s₂, o, k, r⟩ := nx T vm0 X eT V
  rw [Array.getElem?_toList] at hv
  have hlt := (Array.getElem?_eq_some_iff.mp hv).1
  exact ⟨s₂, o, X.caload C.hx (by rw [eT]; exact Ar.1) (State.isArrayOf_alike V.hZ'.alike Ar.2.1) Ar.2.2 (fun q => q.elim hj (by omega)) (by rw [hi]; exact hv) (g := mkF m pc Ls (.int j :: .ref a :: st)) rfl rfl (hb C.hby hd) _ k, r⟩
theorem g_baload {j : Int32} {v : Value} (i : Nat) (C : Cx wd p s m meth c Z a0 EL own bytes ml ret nm) (hd : decode bytes pc = .ok (.baload, 1)) (A : Av Z h a .byte vs) (hj : ¬ j < 0) (hi : j.toNatClampNeg = i) (hv : vs[i]? = some v) (nx : Go wd p l e R s m args below meth c Z EL Q kc ks m0 mine h locs cells slots (mkF m (pc + 1) Ls (v :: st))) : Go wd p l e R s m args below meth c Z EL Q kc ks m0 mine h locs cells slots (mkF m pc Ls (.int j :: .ref a :: st)) := fun T vm0 X eT V => by
  obtain ⟨cl, Ar, rfl, -, -⟩ := A
  obtain ⟨s₂, o, k, r⟩ := nx T vm0 X eT V
  rw [Array.getElem?_toList] at hv
  have hlt := (Array.getElem?_eq_some_iff.mp hv).1
  exact ⟨s₂, o, X.baloadBytes C.hx (by rw [eT]; exact Ar.1) (State.isArrayOf_alike V.hZ'.alike Ar.2.1) Ar.2.2 (fun q => q.elim hj (by omega)) (by rw [hi]; exact hv) (g := mkF m pc Ls (.int j :: .ref a :: st)) rfl rfl (hb C.hby hd) _ k, r⟩
theorem g_aaload {j : Int32} {v : Value} (i : Nat) (C : Cx wd p s m meth c Z a0 EL own bytes ml ret nm) (hd : decode bytes pc = .ok (.aaload, 1)) (A : Av Z h a ty vs) (hty : ty.isReference = true) (hj : ¬ j < 0) (hi : j.toNatClampNeg = i) (hv : vs[i]? = some v) (nx : Go wd p l e R s m args below meth c Z EL Q kc ks m0 mine h locs cells slots (mkF m (pc + 1) Ls (v :: st))) : Go wd p l e R s m args below meth c Z EL Q kc ks m0 mine h locs cells slots (mkF m pc Ls (.int j :: .ref a :: st)) := fun T vm0 X eT V => by
  obtain ⟨cl, Ar, rfl, -, -⟩ := A
  obtain ⟨s₂, o, k, r⟩ := nx T vm0 X eT V
  rw [Array.getElem?_toList] at hv
  have hlt := (Array.getElem?_eq_some_iff.mp hv).1
  exact ⟨s₂, o, X.aaload C.hx (by rw [eT]; exact Ar.1) (State.isArrayOf_alike V.hZ'.alike Ar.2.1) hty Ar.2.2 (fun q => q.elim hj (by omega)) (by rw [hi]; exact hv) (g := mkF m pc Ls (.int j :: .ref a :: st)) rfl rfl (hb C.hby hd) _ k, r⟩
theorem g_castore {j : Int32} {x : Int32} (i : Nat) (C : Cx wd p s m meth c Z a0 EL own bytes ml ret nm) (hd : decode bytes pc = .ok (.castore, 1)) (A : Av Z h a .char vs) (hj : ¬ j < 0) (hi : j.toNatClampNeg = i) (hlt : i < vs.length) (hm : a ∈ mine) (nx : ∀ h', Keep h h' [a] → h'.size = h.size → Av Z h' a .char (vs.set i (.int (nar .char x))) → Go wd p l e R s m args below meth c Z EL Q kc ks m0 mine h' (locs ++ [⟨a, i⟩]) cells slots (mkF m (pc + 1) Ls st)) : Go wd p l e R s m args below meth c Z EL Q kc ks m0 mine h locs cells slots (mkF m pc Ls (.int x :: .int j :: .ref a :: st)) := fun T vm0 X eT V => by
  have A' := A
  obtain ⟨cl, Ar, e1, -, -⟩ := A
  subst hi
  obtain ⟨T', h', X', e', W, k1⟩ := stC X C.hx V.hZ' eT Ar (j := j) (x := x) (fun q => q.elim hj (by rw [← Array.length_toList, e1]; omega)) (g := mkF m pc Ls (.int x :: .int j :: .ref a :: st)) rfl rfl (hb C.hby hd)
  obtain ⟨s₂, o, k, r⟩ := nx h' (Keep.of_wr W) W.size (A'.set W (fits_nar_char x)) T' vm0 X' e' (V.keep (Keep.of_wr W) (fun x hx => by rw [List.mem_singleton.mp hx]; exact hm) (V.wr1 hm))
  exact ⟨s₂, o, k1 _ k, r⟩
theorem g_bastore {j : Int32} {x : Int32} (i : Nat) (C : Cx wd p s m meth c Z a0 EL own bytes ml ret nm) (hd : decode bytes pc = .ok (.bastore, 1)) (A : Av Z h a .byte vs) (hj : ¬ j < 0) (hi : j.toNatClampNeg = i) (hlt : i < vs.length) (hm : a ∈ mine) (nx : ∀ h', Keep h h' [a] → h'.size = h.size → Av Z h' a .byte (vs.set i (.int (nar .byte x))) → Go wd p l e R s m args below meth c Z EL Q kc ks m0 mine h' (locs ++ [⟨a, i⟩]) cells slots (mkF m (pc + 1) Ls st)) : Go wd p l e R s m args below meth c Z EL Q kc ks m0 mine h locs cells slots (mkF m pc Ls (.int x :: .int j :: .ref a :: st)) := fun T vm0 X eT V => by
  have A' := A
  obtain ⟨cl, Ar, e1, -, -⟩ := A
  subst hi
  obtain ⟨T', h', X', e', W, k1⟩ := stB X C.hx V.hZ' eT Ar (j := j) (x := x) (fun q => q.elim hj (by rw [← Array.length_toList, e1]; omega)) (g := mkF m pc Ls (.int x :: .int j :: .ref a :: st)) rfl rfl (hb C.hby hd)
  obtain ⟨s₂, o, k, r⟩ := nx h' (Keep.of_wr W) W.size (A'.set W (fits_nar_byte x)) T' vm0 X' e' (V.keep (Keep.of_wr W) (fun x hx => by rw [List.mem_singleton.mp hx]; exact hm) (V.wr1 hm))
  exact ⟨s₂, o, k1 _ k, r⟩
theorem g_iastore {j : Int32} {x : Int32} (i : Nat) (C : Cx wd p s m meth c Z a0 EL own bytes ml ret nm) (hd : decode bytes pc = .ok (.iastore, 1)) (A : Av Z h a .int vs) (hj : ¬ j < 0) (hi : j.toNatClampNeg = i) (hlt : i < vs.length) (hm : a ∈ mine) (nx : ∀ h', Keep h h' [a] → h'.size = h.size → Av Z h' a .int (vs.set i (.int x)) → Go wd p l e R s m args below meth c Z EL Q kc ks m0 mine h' (locs ++ [⟨a, i⟩]) cells slots (mkF m (pc + 1) Ls st)) : Go wd p l e R s m args below meth c Z EL Q kc ks m0 mine h locs cells slots (mkF m pc Ls (.int x :: .int j :: .ref a :: st)) := fun T vm0 X eT V => by
  have A' := A
  obtain ⟨cl, Ar, e1, -, -⟩ := A
  subst hi
  obtain ⟨T', h', X', e', W, k1⟩ := stI X C.hx V.hZ' eT Ar (j := j) (x := x) (fun q => q.elim hj (by rw [← Array.length_toList, e1]; omega)) (g := mkF m pc Ls (.int x :: .int j :: .ref a :: st)) rfl rfl (hb C.hby hd)
  obtain ⟨s₂, o, k, r⟩ := nx h' (Keep.of_wr W) W.size (A'.set W rfl) T' vm0 X' e' (V.keep (Keep.of_wr W) (fun x hx => by rw [List.mem_singleton.mp hx]; exact hm) (V.wr1 hm))
  exact ⟨s₂, o, k1 _ k, r⟩
theorem g_lastore {j : Int32} {x : Int64} (i : Nat) (C : Cx wd p s m meth c Z a0 EL own bytes ml ret nm) (hd : decode bytes pc = .ok (.lastore, 1)) (A : Av Z h a .long vs) (hj : ¬ j < 0) (hi : j.toNatClampNeg = i) (hlt : i < vs.length) (hm : a ∈ mine) (nx : ∀ h', Keep h h' [a] → h'.size = h.size → Av Z h' a .long (vs.set i (.long x)) → Go wd p l e R s m args below meth c Z EL Q kc ks m0 mine h' (locs ++ [⟨a, i⟩]) cells slots (mkF m (pc + 1) Ls st)) : Go wd p l e R s m args below meth c Z EL Q kc ks m0 mine h locs cells slots (mkF m pc Ls (.long x :: .int j :: .ref a :: st)) := fun T vm0 X eT V => by
  have A' := A
  obtain ⟨cl, Ar, e1, -, -⟩ := A
  subst hi
  obtain ⟨T', h', X', e', W, k1⟩ := stJ X C.hx V.hZ' eT Ar (j := j) (x := x) (fun q => q.elim hj (by rw [← Array.length_toList, e1]; omega)) (g := mkF m pc Ls (.long x :: .int j :: .ref a :: st)) rfl rfl (hb C.hby hd)
  obtain ⟨s₂, o, k, r⟩ := nx h' (Keep.of_wr W) W.size (A'.set W rfl) T' vm0 X' e' (V.keep (Keep.of_wr W) (fun x hx => by rw [List.mem_singleton.mp hx]; exact hm) (V.wr1 hm))
  exact ⟨s₂, o, k1 _ k, r⟩
theorem g_aastore {j : Int32} {x : Value} (i : Nat) (C : Cx wd p s m meth c Z a0 EL own bytes ml ret nm) (hd : decode bytes pc = .ok (.aastore, 1)) (A : Av Z h a ty vs) (hty : ty.isReference = true) (hx : x.isRef = true) (S : Sto Z h a x) (hj : ¬ j < 0) (hi : j.toNatClampNeg = i) (hlt : i < vs.length) (hm : a ∈ mine) (nx : ∀ h', Keep h h' [a] → h'.size = h.size → Av Z h' a ty (vs.set i x) → Go wd p l e R s m args below meth c Z EL Q kc ks m0 mine h' (locs ++ [⟨a, i⟩]) cells slots (mkF m (pc + 1) Ls st)) : Go wd p l e R s m args below meth c Z EL Q kc ks m0 mine h locs cells slots (mkF m pc Ls (x :: .int j :: .ref a :: st)) := fun T vm0 X eT V => by
  have A' := A
  obtain ⟨cl, Ar, e1, -, -⟩ := A
  subst hi
  obtain ⟨T', h', X', e', W, k1⟩ := stR X C.hx V.hZ' eT Ar (j := j) (v := x) (fun q => q.elim hj (by rw [← Array.length_toList, e1]; omega)) hty S (g := mkF m pc Ls (x :: .int j :: .ref a :: st)) rfl rfl (hb C.hby hd)
  have hf : fits ty x = true := by rcases ref_cases hx with rfl | ⟨q, rfl⟩ <;> cases ty <;> first | rfl | (simp [FieldType.isReference] at hty; done)
  obtain ⟨s₂, o, k, r⟩ := nx h' (Keep.of_wr W) W.size (A'.set W hf) T' vm0 X' e' (V.keep (Keep.of_wr W) (fun x hx => by rw [List.mem_singleton.mp hx]; exact hm) (V.wr1 hm))
  exact ⟨s₂, o, k1 _ k, r⟩
theorem g_newarray_ {aty : ArrayType} {n : Int32} {ad : String} (cap : Nat) (vs : List Value) (C : Cx wd p s m meth c Z a0 EL own bytes ml ret nm) (hd : decode bytes pc = .ok (.newarray aty, 2)) (w : (Cond.arrayClass (newarray.typeOf aty)).before a0 Z = true) (hn : ¬ n < 0) (hcap : n.toNatClampNeg ≤ cap) (hbig : cap * 8 ≤ 536870912) (had : "[" ++ (newarray.typeOf aty).toString = ad) (hvs : List.replicate n.toNatClampNeg (defaultValue (newarray.typeOf aty)) = vs) (hc : cells + 1 ≤ R.cells) (hs : slots + cap ≤ R.slots)
    (nx : ∀ (a : Addr) (h' : Heap), a = h.size → Ext h h' → a < h'.size → Exa Z h' a ad → Av Z h' a (newarray.typeOf aty) vs → Go wd p l e R s m args below meth c Z EL Q kc ks m0 (a :: mine) h' locs (cells + 1) (slots + cap) (mkF m (pc + 2) Ls (.ref a :: st))) : Go wd p l e R s m args below meth c Z EL Q kc ks m0 mine h locs cells slots (mkF m pc Ls (.int n :: st)) := fun T vm0 X eT V => by
  obtain ⟨T', h', cA, X', e', E, A, A2, k1⟩ := newPE X C.hx V.hZ' w eT (g := mkF m pc Ls (.int n :: st)) rfl (hb C.hby hd) rfl hn hcap hbig hc hs had
  have hav : Av Z h' h.size (newarray.typeOf aty) vs := by
    refine ⟨_, A, by rw [← hvs]; simp [newA], ?_, fun w hw => ?_⟩
    · rw [← hvs]; simp; have := (back32 hn).2; omega
    · rw [← hvs] at hw
      rw [(List.mem_replicate.mp hw).2]; cases aty <;> rfl
  obtain ⟨s₂, o, k, r⟩ := nx h.size h' rfl E A.lt A2 hav T' vm0 X' e' (V.new E A.lt)
  exact ⟨s₂, o, k1 _ k, r⟩
theorem g_anewarray_ {idx : Nat} {n : Int32} {ad Cn : String} (cap : Nat) (vs : List Value) (C : Cx wd p s m meth c Z a0 EL own bytes ml ret nm) (hd : decode bytes pc = .ok (.anewarray idx, 3)) (w1 : (Cond.classLink own idx Cn).before a0 Z = true) (w2 : (Cond.arrayOver (.object Cn)).before a0 Z = true) (hn : ¬ n < 0) (hcap : n.toNatClampNeg ≤ cap) (hbig : cap * 8 ≤ 536870912) (had : "[" ++ (FieldType.object Cn).toString = ad) (hvs : List.replicate n.toNatClampNeg Value.null = vs) (hc : cells + 1 ≤ R.cells) (hs : slots + cap ≤ R.slots)
    (nx : ∀ (a : Addr) (h' : Heap), a = h.size → Ext h h' → a < h'.size → Exa Z h' a ad → Av Z h' a (.object Cn) vs → (∃ cA cl, h'[a]? = some cl ∧ cl.cls = cA ∧ Ovr Z cA Cn) → Go wd p l e R s m args below meth c Z EL Q kc ks m0 (a :: mine) h' locs (cells + 1) (slots + cap) (mkF m (pc + 3) Ls (.ref a :: st))) : Go wd p l e R s m args below meth c Z EL Q kc ks m0 mine h locs cells slots (mkF m pc Ls (.int n :: st)) := fun T vm0 X eT V => by
  obtain ⟨T', h', cA, X', e', E, A, A2, O, k1⟩ := newRE X C.hx V.hZ' (V.hown C) w1 w2 eT (g := mkF m pc Ls (.int n :: st)) rfl (hb C.hby hd) rfl hn hcap hbig hc hs had
  have hav : Av Z h' h.size (.object Cn) vs := by
    refine ⟨_, A, by rw [← hvs]; simp [newA, defaultValue], ?_, fun w hw => ?_⟩
    · rw [← hvs]; simp; have := (back32 hn).2; omega
    · rw [← hvs] at hw
      rw [(List.mem_replicate.mp hw).2]; rfl
  obtain ⟨s₂, o, k, r⟩ := nx h.size h' rfl E A.lt A2 hav ⟨cA, _, A.1, rfl, O⟩ T' vm0 X' e' (V.new E A.lt)
  exact ⟨s₂, o, k1 _ k, r⟩
theorem Sto.ofAv {y : Addr} {Cn : String} (A : Av Z h a ty vs) (O : ∃ cA cl, h[a]? = some cl ∧ cl.cls = cA ∧ Ovr Z cA Cn) (I : Ins Z h y Cn true) : Sto Z h a (.ref y) := by
  obtain ⟨c, A, -⟩ := A
  obtain ⟨cA, cl, q1, q2, O⟩ := O
  cases A.1.symm.trans q1
  exact Sto.ofV A q2 O I
theorem g_clone_ {idx : Nat} {ad : String} (cap : Nat) (C : Cx wd p s m meth c Z a0 EL own bytes ml ret nm) (hd : decode bytes pc = .ok (.invokevirtual idx, 3)) (w1 : (Cond.methodLink own idx ⟨ad, "clone", "()Ljava/lang/Object;"⟩).before a0 Z = true) (w2 : (Cond.sameMethod ad "java/lang/Object" "clone" "()Ljava/lang/Object;").before a0 Z = true) (w3 : (Cond.native ⟨"java/lang/Object", "clone", "()Ljava/lang/Object;"⟩).before a0 Z = true)
    (w4 : (Cond.instanceMethod ⟨"java/lang/Object", "clone", "()Ljava/lang/Object;"⟩).before a0 Z = true) (w5 : (Cond.selects ad ⟨ad, "clone", "()Ljava/lang/Object;"⟩ ⟨"java/lang/Object", "clone", "()Ljava/lang/Object;"⟩).before a0 Z = true) (w6 : (Cond.castable ad "java/lang/Cloneable").before a0 Z = true)
    (A : Av Z h a ty vs) (E : Exa Z h a ad) (hcap : vs.length ≤ cap) (hsz : Ls.size = ml) (hf : 1 ≤ R.frames) (hl : (st.map fun v => v.category).sum + 14 ≤ R.locals) (hc : cells + 1 ≤ R.cells) (hs : slots + cap ≤ R.slots)
    (nx : ∀ (b : Addr) (h' : Heap), b = h.size → Ext h h' → b < h'.size → Exa Z h' b ad → Av Z h' b ty vs → Go wd p l e R s m args below meth c Z EL Q kc ks m0 (b :: mine) h' locs (cells + 1) (slots + cap) (mkF m (pc + 3) Ls (.ref b :: st))) : Go wd p l e R s m args below meth c Z EL Q kc ks m0 mine h locs cells slots (mkF m pc Ls (.ref a :: st)) := fun T vm0 X eT V => by
  obtain ⟨cl, Ar, rfl, h2, h3⟩ := A
  have FC : FitC Z cl := fitC_of Ar fun i hi v hv => h3 v (by rw [Array.getElem?_eq_getElem hi] at hv; cases hv; exact Array.mem_toList_iff.mpr (Array.getElem_mem hi))
  obtain ⟨T', h', X', e', E', A', A2, k1⟩ := cloneA X C.hx V.hZ' (V.hown C) w1 w2 w3 w4 w5 w6 eT Ar E FC (g := mkF m pc Ls (.ref a :: st)) rfl (by rw [C.hml]; exact hsz) rfl (hb C.hby hd) hf (W := (st.map fun v => v.category).sum) (by show 2 * 0 + _ ≤ _; omega) hl (by rw [← Array.length_toList]; exact hcap) hc hs
  obtain ⟨s₂, o, k, r⟩ := nx h.size h' rfl E' A'.lt A2 ⟨_, A', rfl, h2, h3⟩ T' vm0 X' e' (V.new E' A'.lt)
  exact ⟨s₂, o, k1 _ k, r⟩
/-! calls -/
theorem safe0 {x : Addr} : Safe Z [] vm h x := fun ⟨_, q, _⟩ => nomatch q
theorem chv0 : CHv Z [] vm h := fun _ q => nomatch q
variable {y z : MethodName} {bytes' : ByteArray} {ml' : Nat} {ret' : Option FieldType} {rm : Room} {Q' : Option Value → Heap → Prop} {mine' : List Addr} {as' : Array Value} {len W : Nat}
theorem backN (M : MetW false l Z [] y bytes' ml' ret' [] rm as' mine' h Q') (hZ : Z.Warmed39 s.vm) (wc : (Cond.code y bytes' ml' ret').before a0 Z = true) (wz : (Cond.initialized y.cls).before a0 Z = true) (hf : rm.frames + 1 ≤ R.frames) (hl : W + (ml' + 11) + rm.locals ≤ R.locals) (hm : ∀ x ∈ mine', x < h.size ∧ Z.heap.size ≤ x) (hold : Ext Z.heap h) :
    Back l R p e below s args y len W (fun A a => a = as' ∧ A.U.heap = h ∧ A.cells + rm.cells ≤ R.cells ∧ A.slots + rm.slots ≤ R.slots)
      (fun A _ v B => ∃ L, Q' v B.U.heap ∧ B.locs = A.locs ++ L ∧ B.cells = A.cells + rm.cells ∧ B.slots = A.slots + rm.slots ∧ Keep h B.U.heap mine' ∧ Fr Z.heap.size L) :=
  Back.of_free (bytes := bytes') (maxL := ml') (ret := ret') (E := fun _ first o t L k n => k = rm.cells ∧ n = rm.slots ∧ (∃ v, o = .returned v ∧ Q' v t.heap) ∧ Keep first.heap t.heap mine' ∧ Fr Z.heap.size L) M hf hl
    (fun m meth c A a Y hp => have hU : Z.Warmed39 A.U.vm := wtrans hZ Y.warmed
      ⟨by show (Cond.and _ .tt).before a A.U = true; rw [Cond.before_and, mv hU wc]; rfl, mv hU wc, mv hU wz, hp.2.2.1, hp.2.2.2⟩)
    (fun m meth c A a g mk Y hp => ⟨hp.1, wtrans hZ Y.warmed, hp.2.1, chv0, fun x hx => ⟨(hm x hx).1, safe0, (hm x hx).2⟩, hold⟩) (fun _ _ _ _ _ _ _ _ _ => trivial)
    (fun _ _ _ _ ⟨v, L, h1, h2, h3, h4, h5, h6, h7⟩ => ⟨L, _, _, h4.1 rfl, rfl, rfl, ⟨v, h1, h2⟩, h6, h7⟩)
    (fun m meth c A a g mk v t L k n Y hp _ _ ⟨e1, e2, ⟨v', e3, e4⟩, e5, e6⟩ => by
      cases e3; subst e1 e2
      refine ⟨L, e4, rfl, rfl, rfl, ?_, e6⟩
      rw [← hp.2.1]; exact e5)
theorem backW {vm0 : Vm} (M : MetW true l Z EL y bytes' ml' ret' [] rm as' mine' h Q') (hZ : Z.Warmed39 vm0) (wc : (Cond.code y bytes' ml' ret').before a0 Z = true) (wz : (Cond.initialized y.cls).before a0 Z = true) (hf : rm.frames + 1 ≤ R.frames) (hl : W + (ml' + 11) + rm.locals ≤ R.locals) (hEL : EW Z a0 EL) (H : CHv Z EL vm0 h) (hm : ∀ x ∈ mine', x < h.size ∧ Safe Z EL vm0 h x ∧ Z.heap.size ≤ x) (hold : Ext Z.heap h) :
    BackS l R p e below (s.setVm vm0) args y len W (fun A a => a = as' ∧ A.U.heap = h ∧ A.cells + rm.cells ≤ R.cells ∧ A.slots + rm.slots ≤ R.slots)
      (fun A _ v B => ∃ L, Q' v B.U.heap ∧ B.locs = A.locs ++ L ∧ B.cells = A.cells + rm.cells ∧ B.slots = A.slots + rm.slots ∧ CHr Z EL vm0 h B.U.vm B.U.heap ∧ Keep h B.U.heap mine' ∧ Fr Z.heap.size L) :=
  BackS.of_freeW (bytes := bytes') (maxL := ml') (ret := ret') (E := fun _ first o t L k n => k = rm.cells ∧ n = rm.slots ∧ (∃ v, o = .returned v ∧ Q' v t.heap) ∧ CHr Z EL first.vm first.heap t.vm t.heap ∧ Keep first.heap t.heap mine' ∧ Fr Z.heap.size L) M hf hl
    (fun m meth c A a Y hp => have hU : Z.Warmed39 A.U.vm := wtrans (s := s.setVm vm0) hZ Y.warmed
      ⟨by show (Cond.and _ .tt).before a A.U = true; rw [Cond.before_and, mv hU wc]; rfl, mv hU wc, mv hU wz, hp.2.2.1, hp.2.2.2⟩)
    (fun m meth c A a g mk Y hp => ⟨hp.1, wtrans (s := s.setVm vm0) hZ Y.warmed, hp.2.1, (CHv.at Y hZ hEL H).1, fun x hx => ⟨(hm x hx).1, (CHv.at Y hZ hEL H).safe (hm x hx).1 (hm x hx).2.1, (hm x hx).2.2⟩, hold⟩) (fun _ _ _ _ _ _ _ _ _ => trivial)
    (fun _ _ _ _ ⟨v, L, h1, h2, h3, h4, h5, h6, h7⟩ => ⟨L, _, _, h4.2, rfl, rfl, ⟨v, h1, h2⟩, h3, h6, h7⟩)
    (fun m meth c A a g mk v t L k n Y hp _ _ ⟨e1, e2, ⟨v', e3, e4⟩, e5, e6, e7⟩ => by
      cases e3; subst e1 e2
      refine ⟨L, e4, rfl, rfl, rfl, (CHv.at Y hZ hEL H).trans ?_, ?_, e7⟩
      · rw [← hp.2.1]; exact e5
      · rw [← hp.2.1]; exact e6)
theorem Vi.call {vm0 vm1 : Vm} {n : Nat} {locs' : List Loc} (V : Vi true Z s EL m0 mine locs vm0 h) (hS : (s.setVm vm0).Since vm1 n) (hn : n ≤ h'.size) (hg : h.size ≤ n) (R2 : CHr Z EL vm0 h vm1 h') (K : Keep h h' ws) (hw : ∀ x ∈ ws, x ∈ mine) (hF : Fr Z.heap.size locs') : Vi true Z s EL m0 mine locs' vm1 h' := by
  have V' := V.keep K hw hF
  obtain ⟨⟨v1, v2, ⟨k0, v3, v4⟩, v5⟩, v6, v7, v8, v9⟩ := V
  exact ⟨⟨fun q => (nomatch q), State.Warmed39.trans (t := s.setVm vm0) v2 hS.1, ⟨n, v3.trans hS (Nat.le_trans v4 hg), hn⟩, v5.trans R2⟩, fun x hx => ⟨(V'.2.1 x hx).1, R2.safe (v6 x hx).1 (v6 x hx).2.1, (V'.2.1 x hx).2.2⟩, V'.2.2⟩
theorem Fr.both {L L' : List Loc} {n : Nat} (A : Fr n L) (B : Fr n L') : Fr n (L ++ L') := Fr.app A B
theorem g_invokestatic {idx : Nat} {st0 : List Value} (argsL rest : List Value) (W : Nat) (C : Cx wd p s m meth c Z a0 EL own bytes ml ret nm) (hd : decode bytes pc = .ok (.invokestatic idx, 3)) (w1 : (Cond.methodLink own idx y).before a0 Z = true) (w2 : (Cond.static y).before a0 Z = true) (w3 : (Cond.initialized y.cls).before a0 Z = true) (w4 : (Cond.code y bytes' ml' ret').before a0 Z = true) (hy : y.cls ≠ "java/lang/invoke/MethodHandle" ∧ y.cls ≠ "java/lang/invoke/VarHandle") (M : MetW wd l Z EL y bytes' ml' ret' [] rm argsL.toArray mine' h Q') (hlen : ∀ sig, parseMethodDescriptor y.desc = some sig → argsL.length = sig.parameters.length) (hst : st0 = argsL.reverse ++ rest) (hsz : Ls.size = ml) (hW : (rest.map fun v => v.category).sum ≤ W) (hf : rm.frames + 1 ≤ R.frames) (hl : W + (ml' + 11) + rm.locals ≤ R.locals) (hc : cells + rm.cells ≤ R.cells) (hs : slots + rm.slots ≤ R.slots) (hm : ∀ x ∈ mine', x ∈ mine) (nx : ∀ (v : Option Value) (h' : Heap) (L : List Loc), Q' v h' → Keep h h' mine' → Go wd p l e R s m args below meth c Z EL Q kc ks m0 mine h' (locs ++ L) (cells + rm.cells) (slots + rm.slots) (mkF m (pc + 3) Ls (v.toList ++ rest))) : Go wd p l e R s m args below meth c Z EL Q kc ks m0 mine h locs cells slots (mkF m pc Ls st0) := fun T vm0 X eT V => by
  subst hst
  have h2W : 2 * 0 + (rest.map fun v => v.category).sum ≤ W := by omega
  cases wd with
  | false =>
    have hE := C.hwd rfl
    subst hE
    have e1 : vm0 = s.vm := V.1.1 rfl
    subst e1
    obtain ⟨v, vm₁, ⟨T', L', k', n'⟩, -, X', ⟨L, hq, l1, l2, l3, hK, hF⟩, k1⟩ := Jvm.LawKit.callS X C.hx (V.hown C) (mvT V.hZ' w1) (mvT V.hZ' w2) (mvT V.hZ' w3) (mvT V.hZ' w4) hy (backN (len := 3) (W := W) M V.hZ' w4 w3 hf hl (fun x hx => ⟨(V.2.1 x (hm x hx)).1, (V.2.1 x (hm x hx)).2.2.1⟩) V.old) (g := mkF m pc Ls _) rfl (by rw [C.hml]; exact hsz) hlen rfl h2W (hb C.hby hd) (fun _ _ => ⟨rfl, eT, hc, hs⟩)
    dsimp only [Pt.U, Pt.locs, Pt.cells, Pt.slots] at X' l1 l2 l3 k1 hq hK
    subst l1 l2 l3
    obtain ⟨s₂, o, k, r⟩ := nx v _ L hq hK T' s.vm X' rfl (V.keep hK hm (Fr.app V.fr hF))
    exact ⟨s₂, o, k1 _ k, r⟩
  | true =>
    obtain ⟨v, vm₁, ⟨T', L', k', n'⟩, -, X', hS, hg, ⟨L, hq, l1, l2, l3, hR, hK, hF⟩, k1⟩ := callSS X C.hx (V.hown C) (mvT V.hZ' w1) (mvT V.hZ' w2) (mvT V.hZ' w3) (mvT V.hZ' w4) hy (backW (len := 3) (W := W) M V.hZ w4 w3 hf hl C.hEW V.held (fun x hx => ⟨(V.2.1 x (hm x hx)).1, (V.2.1 x (hm x hx)).2.1, (V.2.1 x (hm x hx)).2.2.1⟩) V.old) (g := mkF m pc Ls _) rfl (by rw [C.hml]; exact hsz) hlen rfl h2W (hb C.hby hd) (fun _ _ => ⟨rfl, eT, hc, hs⟩)
    dsimp only [Pt.U, Pt.locs, Pt.cells, Pt.slots] at X' l1 l2 l3 k1 hq hg hS hR hK
    subst l1 l2 l3
    rw [eT] at hg
    obtain ⟨s₂, o, k, r⟩ := nx v _ L hq hK T' T'.vm X' rfl (V.call hS (Nat.le_refl _) hg hR hK hm (Fr.app V.fr hF))
    exact ⟨s₂, o, k1.trans k, r⟩
theorem g_invokespecial {idx : Nat} {st0 : List Value} (argsL rest : List Value) (W : Nat) (C : Cx wd p s m meth c Z a0 EL own bytes ml ret nm) (hd : decode bytes pc = .ok (.invokespecial idx, 3)) (hyi : y.name = "<init>") (w1 : (Cond.methodLink own idx y).before a0 Z = true) (w2 : (Cond.instanceMethod y).before a0 Z = true) (w3 : (Cond.initialized y.cls).before a0 Z = true) (w4 : (Cond.code y bytes' ml' none).before a0 Z = true) (hy : y.cls ≠ "java/lang/invoke/MethodHandle" ∧ y.cls ≠ "java/lang/invoke/VarHandle") (M : MetW wd l Z EL y bytes' ml' none [] rm (.ref a :: argsL).toArray mine' h Q') (hlen : ∀ sig, parseMethodDescriptor y.desc = some sig → argsL.length = sig.parameters.length) (hst : st0 = argsL.reverse ++ .ref a :: rest) (hsz : Ls.size = ml) (hW : (rest.map fun v => v.category).sum ≤ W) (hf : rm.frames + 1 ≤ R.frames) (hl : W + (ml' + 11) + rm.locals ≤ R.locals) (hc : cells + rm.cells ≤ R.cells) (hs : slots + rm.slots ≤ R.slots) (hm : ∀ x ∈ mine', x ∈ mine) (nx : ∀ (v : Option Value) (h' : Heap) (L : List Loc), Q' v h' → Keep h h' mine' → Go wd p l e R s m args below meth c Z EL Q kc ks m0 mine h' (locs ++ L) (cells + rm.cells) (slots + rm.slots) (mkF m (pc + 3) Ls (v.toList ++ rest))) : Go wd p l e R s m args below meth c Z EL Q kc ks m0 mine h locs cells slots (mkF m pc Ls st0) := fun T vm0 X eT V => by
  subst hst
  have h2W : 2 * 0 + (rest.map fun v => v.category).sum ≤ W := by omega
  cases wd with
  | false =>
    have hE := C.hwd rfl
    subst hE
    have e1 : vm0 = s.vm := V.1.1 rfl
    subst e1
    obtain ⟨v, vm₁, ⟨T', L', k', n'⟩, -, X', ⟨L, hq, l1, l2, l3, hK, hF⟩, k1⟩ := X.specialBack C.hx hyi (V.hown C) (mvT V.hZ' w1) (mvT V.hZ' w2) (mvT V.hZ' w4) hy (backN (len := 3) (W := W) M V.hZ' w4 w3 hf hl (fun x hx => ⟨(V.2.1 x (hm x hx)).1, (V.2.1 x (hm x hx)).2.2.1⟩) V.old) (g := mkF m pc Ls _) rfl (by rw [C.hml]; exact hsz) (Steps.refl _) hlen rfl h2W (hb C.hby hd) (fun _ _ => ⟨rfl, eT, hc, hs⟩)
    dsimp only [Pt.U, Pt.locs, Pt.cells, Pt.slots] at X' l1 l2 l3 k1 hq hK
    subst l1 l2 l3
    obtain ⟨s₂, o, k, r⟩ := nx v _ L hq hK T' s.vm X' rfl (V.keep hK hm (Fr.app V.fr hF))
    exact ⟨s₂, o, k1.trans k, r⟩
  | true =>
    obtain ⟨v, vm₁, ⟨T', L', k', n'⟩, -, X', hS, hg, ⟨L, hq, l1, l2, l3, hR, hK, hF⟩, k1⟩ := X.specialBackS C.hx hyi (V.hown C) (mvT V.hZ' w1) (mvT V.hZ' w2) (mvT V.hZ' w4) hy (backW (len := 3) (W := W) M V.hZ w4 w3 hf hl C.hEW V.held (fun x hx => ⟨(V.2.1 x (hm x hx)).1, (V.2.1 x (hm x hx)).2.1, (V.2.1 x (hm x hx)).2.2.1⟩) V.old) (g := mkF m pc Ls _) rfl (by rw [C.hml]; exact hsz) (Steps.refl _) hlen rfl h2W (hb C.hby hd) (fun _ _ => ⟨rfl, eT, hc, hs⟩)
    dsimp only [Pt.U, Pt.locs, Pt.cells, Pt.slots] at X' l1 l2 l3 k1 hq hg hS hR hK
    subst l1 l2 l3
    rw [eT] at hg
    obtain ⟨s₂, o, k, r⟩ := nx v _ L hq hK T' T'.vm X' rfl (V.call hS (Nat.le_refl _) hg hR hK hm (Fr.app V.fr hF))
    exact ⟨s₂, o, k1.trans k, r⟩
theorem g_invokevirtual {idx : Nat} {st0 : List Value} {Cn : String} (argsL rest : List Value) (W : Nat) (C : Cx wd p s m meth c Z a0 EL own bytes ml ret nm) (hd : decode bytes pc = .ok (.invokevirtual idx, 3)) (w1 : (Cond.methodLink own idx y).before a0 Z = true) (w5 : (Cond.declares y).before a0 Z = true) (w6 : (Cond.selects Cn y z).before a0 Z = true) (w2 : (Cond.instanceMethod z).before a0 Z = true) (w3 : (Cond.initialized z.cls).before a0 Z = true) (w4 : (Cond.code z bytes' ml' ret').before a0 Z = true) (hnf : ∀ U : State, Z.Warmed39 U.vm → NotFace U y) (hy : y.cls ≠ "java/lang/invoke/MethodHandle" ∧ y.cls ≠ "java/lang/invoke/VarHandle") (E : Exa Z h a Cn) (M : MetW wd l Z EL z bytes' ml' ret' [] rm (.ref a :: argsL).toArray mine' h Q') (hlen : ∀ sig, parseMethodDescriptor y.desc = some sig → argsL.length = sig.parameters.length) (hst : st0 = argsL.reverse ++ .ref a :: rest) (hsz : Ls.size = ml) (hW : (rest.map fun v => v.category).sum ≤ W) (hf : rm.frames + 1 ≤ R.frames) (hl : W + (ml' + 11) + rm.locals ≤ R.locals) (hc : cells + rm.cells ≤ R.cells) (hs : slots + rm.slots ≤ R.slots) (hm : ∀ x ∈ mine', x ∈ mine) (nx : ∀ (v : Option Value) (h' : Heap) (L : List Loc), Q' v h' → Keep h h' mine' → Go wd p l e R s m args below meth c Z EL Q kc ks m0 mine h' (locs ++ L) (cells + rm.cells) (slots + rm.slots) (mkF m (pc + 3) Ls (v.toList ++ rest))) : Go wd p l e R s m args below meth c Z EL Q kc ks m0 mine h locs cells slots (mkF m pc Ls st0) := fun T vm0 X eT V => by
  subst hst
  have h2W : 2 * 0 + (rest.map fun v => v.category).sum ≤ W := by omega
  obtain ⟨cB, kB, qa, qb, qc⟩ := isOf V.hZ' eT E
  cases wd with
  | false =>
    have hE := C.hwd rfl
    subst hE
    have e1 : vm0 = s.vm := V.1.1 rfl
    subst e1
    obtain ⟨v, vm₁, ⟨T', L', k', n'⟩, -, X', ⟨L, hq, l1, l2, l3, hK, hF⟩, k1⟩ := X.virtualBack C.hx (V.hown C) (mvT V.hZ' w1) (mvT V.hZ' w5) (hnf _ V.hZ') (mvT V.hZ' w6) (mvT V.hZ' w2) hy (backN (len := 3) (W := W) M V.hZ' w4 w3 hf hl (fun x hx => ⟨(V.2.1 x (hm x hx)).1, (V.2.1 x (hm x hx)).2.2.1⟩) V.old) qa qc (g := mkF m pc Ls _) rfl (by rw [C.hml]; exact hsz) (Steps.refl _) hlen rfl h2W (hb C.hby hd) (fun _ _ => ⟨rfl, eT, hc, hs⟩)
    dsimp only [Pt.U, Pt.locs, Pt.cells, Pt.slots] at X' l1 l2 l3 k1 hq hK
    subst l1 l2 l3
    obtain ⟨s₂, o, k, r⟩ := nx v _ L hq hK T' s.vm X' rfl (V.keep hK hm (Fr.app V.fr hF))
    exact ⟨s₂, o, k1.trans k, r⟩
  | true =>
    obtain ⟨v, vm₁, ⟨T', L', k', n'⟩, -, X', hS, hg, ⟨L, hq, l1, l2, l3, hR, hK, hF⟩, k1⟩ := X.virtualBackS C.hx (V.hown C) (mvT V.hZ' w1) (mvT V.hZ' w5) (hnf _ V.hZ') (mvT V.hZ' w6) (mvT V.hZ' w2) hy (backW (len := 3) (W := W) M V.hZ w4 w3 hf hl C.hEW V.held (fun x hx => ⟨(V.2.1 x (hm x hx)).1, (V.2.1 x (hm x hx)).2.1, (V.2.1 x (hm x hx)).2.2.1⟩) V.old) qa qc (g := mkF m pc Ls _) rfl (by rw [C.hml]; exact hsz) (Steps.refl _) hlen rfl h2W (hb C.hby hd) (fun _ _ => ⟨rfl, eT, hc, hs⟩)
    dsimp only [Pt.U, Pt.locs, Pt.cells, Pt.slots] at X' l1 l2 l3 k1 hq hg hS hR hK
    subst l1 l2 l3
    rw [eT] at hg
    obtain ⟨s₂, o, k, r⟩ := nx v _ L hq hK T' T'.vm X' rfl (V.call hS (Nat.le_refl _) hg hR hK hm (Fr.app V.fr hF))
    exact ⟨s₂, o, k1.trans k, r⟩
theorem g_specialB {idx : Nat} {rc rs : Nat} {QB : Option Value → Heap → List Loc → Prop} {st0 : List Value} (argsL rest : List Value) (W : Nat) (C : Cx wd p s m meth c Z a0 EL own bytes ml ret nm) (hd : decode bytes pc = .ok (.invokespecial idx, 3)) (hyi : y.name = "<init>") (w1 : (Cond.methodLink own idx y).before a0 Z = true) (w2 : (Cond.instanceMethod y).before a0 Z = true) (w4 : (Cond.code y bytes' ml' none).before a0 Z = true) (hy : y.cls ≠ "java/lang/invoke/MethodHandle" ∧ y.cls ≠ "java/lang/invoke/VarHandle") (hB : ∀ vm0 : Vm, Z.Warmed39 vm0 → Ext Z.heap h → Back l R p e below (s.setVm vm0) args y 3 W (fun A a => a = as' ∧ A.U.heap = h ∧ A.cells + rc ≤ R.cells ∧ A.slots + rs ≤ R.slots) (fun A _ v B => ∃ L, QB v B.U.heap L ∧ B.locs = A.locs ++ L ∧ B.cells = A.cells + rc ∧ B.slots = A.slots + rs)) (has : as' = (.ref a :: argsL).toArray) (hlen : ∀ sig, parseMethodDescriptor y.desc = some sig → argsL.length = sig.parameters.length) (hst : st0 = argsL.reverse ++ .ref a :: rest) (hsz : Ls.size = ml) (hW : (rest.map fun v => v.category).sum ≤ W) (hc : cells + rc ≤ R.cells) (hs : slots + rs ≤ R.slots) (hk : ∀ (v : Option Value) (h' : Heap) (L : List Loc), QB v h' L → Keep h h' mine' ∧ Fr Z.heap.size L) (hm : ∀ x ∈ mine', x ∈ mine) (nx : ∀ (v : Option Value) (h' : Heap) (L : List Loc), QB v h' L → Keep h h' mine' → Go wd p l e R s m args below meth c Z EL Q kc ks m0 mine h' (locs ++ L) (cells + rc) (slots + rs) (mkF m (pc + 3) Ls (v.toList ++ rest))) : Go wd p l e R s m args below meth c Z EL Q kc ks m0 mine h locs cells slots (mkF m pc Ls st0) := fun T vm0 X eT V => by
  subst hst
  have h2W : 2 * 0 + (rest.map fun v => v.category).sum ≤ W := by omega
  obtain ⟨v, vm₁, ⟨T', L', k', n'⟩, -, X', ⟨L, hq, l1, l2, l3⟩, k1⟩ := X.specialBack C.hx hyi (V.hown C) (mvT V.hZ' w1) (mvT V.hZ' w2) (mvT V.hZ' w4) hy (hB vm0 V.hZ V.old) (g := mkF m pc Ls _) rfl (by rw [C.hml]; exact hsz) (Steps.refl _) hlen rfl h2W (hb C.hby hd) (fun _ _ => ⟨has.symm, eT, hc, hs⟩)
  dsimp only [Pt.U, Pt.locs, Pt.cells, Pt.slots] at X' l1 l2 l3 k1 hq
  subst l1 l2 l3
  obtain ⟨K, hF⟩ := hk _ _ _ hq
  obtain ⟨s₂, o, k, r⟩ := nx v _ L hq K T' vm0 X' rfl (V.keep K hm (Fr.app V.fr hF))
  exact ⟨s₂, o, k1.trans k, r⟩
theorem g_virtualB {idx : Nat} {rc rs : Nat} {QB : Option Value → Heap → List Loc → Prop} {st0 : List Value} {Cn : String} (argsL rest : List Value) (W : Nat) (C : Cx wd p s m meth c Z a0 EL own bytes ml ret nm) (hd : decode bytes pc = .ok (.invokevirtual idx, 3)) (w1 : (Cond.methodLink own idx y).before a0 Z = true) (w5 : (Cond.declares y).before a0 Z = true) (w6 : (Cond.selects Cn y z).before a0 Z = true) (w2 : (Cond.instanceMethod z).before a0 Z = true) (hnf : ∀ U : State, Z.Warmed39 U.vm → NotFace U y) (hy : y.cls ≠ "java/lang/invoke/MethodHandle" ∧ y.cls ≠ "java/lang/invoke/VarHandle") (E : Exa Z h a Cn) (hB : ∀ vm0 : Vm, Z.Warmed39 vm0 → Ext Z.heap h → Back l R p e below (s.setVm vm0) args z 3 W (fun A a => a = as' ∧ A.U.heap = h ∧ A.cells + rc ≤ R.cells ∧ A.slots + rs ≤ R.slots) (fun A _ v B => ∃ L, QB v B.U.heap L ∧ B.locs = A.locs ++ L ∧ B.cells = A.cells + rc ∧ B.slots = A.slots + rs)) (has : as' = (.ref a :: argsL).toArray) (hlen : ∀ sig, parseMethodDescriptor y.desc = some sig → argsL.length = sig.parameters.length) (hst : st0 = argsL.reverse ++ .ref a :: rest) (hsz : Ls.size = ml) (hW : (rest.map fun v => v.category).sum ≤ W) (hc : cells + rc ≤ R.cells) (hs : slots + rs ≤ R.slots) (hk : ∀ (v : Option Value) (h' : Heap) (L : List Loc), QB v h' L → Keep h h' mine' ∧ Fr Z.heap.size L) (hm : ∀ x ∈ mine', x ∈ mine) (nx : ∀ (v : Option Value) (h' : Heap) (L : List Loc), QB v h' L → Keep h h' mine' → Go wd p l e R s m args below meth c Z EL Q kc ks m0 mine h' (locs ++ L) (cells + rc) (slots + rs) (mkF m (pc + 3) Ls (v.toList ++ rest))) : Go wd p l e R s m args below meth c Z EL Q kc ks m0 mine h locs cells slots (mkF m pc Ls st0) := fun T vm0 X eT V => by
  subst hst
  have h2W : 2 * 0 + (rest.map fun v => v.category).sum ≤ W := by omega
  obtain ⟨cB, kB, qa, qb, qc⟩ := isOf V.hZ' eT E
  obtain ⟨v, vm₁, ⟨T', L', k', n'⟩, -, X', ⟨L, hq, l1, l2, l3⟩, k1⟩ := X.virtualBack C.hx (V.hown C) (mvT V.hZ' w1) (mvT V.hZ' w5) (hnf _ V.hZ') (mvT V.hZ' w6) (mvT V.hZ' w2) hy (hB vm0 V.hZ V.old) qa qc (g := mkF m pc Ls _) rfl (by rw [C.hml]; exact hsz) (Steps.refl _) hlen rfl h2W (hb C.hby hd) (fun _ _ => ⟨has.symm, eT, hc, hs⟩)
  dsimp only [Pt.U, Pt.locs, Pt.cells, Pt.slots] at X' l1 l2 l3 k1 hq
  subst l1 l2 l3
  obtain ⟨K, hF⟩ := hk _ _ _ hq
  obtain ⟨s₂, o, k, r⟩ := nx v _ L hq K T' vm0 X' rfl (V.keep K hm (Fr.app V.fr hF))
  exact ⟨s₂, o, k1.trans k, r⟩
theorem g_ldcStr {idx : Nat} {text : String} {zl : Int32} (n : Nat) (C : Cx true p s m meth c Z a0 EL own bytes ml ret nm) (hd : decode bytes pc = .ok (.ldc idx, 2)) (w : (Cond.stringLink own idx text).before a0 Z = true) (wS : ∀ a ∈ Bundle.stringAtoms, a.before a0 Z = true) (hmem : (own, idx) ∈ EL)
    (ht : (∀ c ∈ text.toList, c.toNat < 256) ∧ text.toList.map (fun c => Value.int (Jvm.Lit.byteI c.toNat.toUInt16)) = vs) (hz : ¬ zl < 0) (hzl : zl.toNatClampNeg = vs.length) (hn : 4 * text.toList.length ≤ n) (hbig : n ≤ 536870912) (hc : cells + 2 ≤ R.cells) (hs : slots + (n + 4) ≤ R.slots)
    (nx : ∀ (a b : Addr) (h' : Heap), Ext h h' → Exa Z h' a "java/lang/String" → Fld Z h' a "java/lang/String" "coder" "B" (.int 0) → Fld Z h' a "java/lang/String" "value" "[B" (.ref b) → Av Z h' b .byte vs → (∀ x ∈ mine, x ≠ a ∧ x ≠ b) → Go true p l e R s m args below meth c Z EL Q kc ks m0 mine h' locs (cells + 2) (slots + (n + 4)) (mkF m (pc + 2) Ls (.ref a :: st))) : Go true p l e R s m args below meth c Z EL Q kc ks m0 mine h locs cells slots (mkF m pc Ls st) := fun T vm0 X eT V => by
  have V' := V
  obtain ⟨⟨v1, v2, ⟨k0, v3, v4⟩, v5⟩, v6, -⟩ := V'

  obtain ⟨a, T', h', k1, b, kb, X', e', E, hS, hk, hW, hf, F1, F2, F3, F4, l1, l2, hR, hL, hne, kk⟩ := ldcCH X C.hx V.hZ (V.hown' C) w wS eT v3 v4 C.hEW hmem v5.1 ht hz hzl (g := mkF m pc Ls st) rfl (hb C.hby hd) hn hbig hc hs
  have V2 := V.ext E
  have v6' : ∀ x ∈ mine, x < h'.size ∧ Safe Z EL T'.vm h' x ∧ Z.heap.size ≤ x ∧ (x ∈ m0 ∨ s.heap.size ≤ x) := fun x hx => ⟨Nat.lt_of_lt_of_le (v6 x hx).1 E.1, hR.safe (v6 x hx).1 (v6 x hx).2.1, (v6 x hx).2.2⟩
  obtain ⟨s₂, o, k, r⟩ := nx a b h' E F1 F2 F3 (Av.of_arv F4 hzl) (fun x hx => hne x (v6' x hx).2.1) T' T'.vm X' e' ⟨⟨fun q => (nomatch q), hW, ⟨k1, hS, hk⟩, v5.trans hR⟩, v6', V2.2.2⟩
  exact ⟨s₂, o, kk _ k, r⟩
/-- a String constant that isn't read -/
theorem g_ldcOpq {idx : Nat} {text : String} (n : Nat) (C : Cx true p s m meth c Z a0 EL own bytes ml ret nm) (hd : decode bytes pc = .ok (.ldc idx, 2)) (w : (Cond.stringLink own idx text).before a0 Z = true) (wS : ∀ a ∈ Bundle.stringAtoms, a.before a0 Z = true)
    (hn : 4 * text.toList.length ≤ n) (hbig : n ≤ 536870912) (hc : cells + 2 ≤ R.cells) (hs : slots + (n + 4) ≤ R.slots)
    (nx : ∀ (a : Addr) (h' : Heap), Ext h h' → Go true p l e R s m args below meth c Z EL Q kc ks m0 mine h' locs (cells + 2) (slots + (n + 4)) (mkF m (pc + 2) Ls (.ref a :: st))) : Go true p l e R s m args below meth c Z EL Q kc ks m0 mine h locs cells slots (mkF m pc Ls st) := fun T vm0 X eT V => by
  have V' := V
  obtain ⟨⟨v1, v2, ⟨k0, v3, v4⟩, v5⟩, v6, -⟩ := V'

  obtain ⟨a, T', h', k1, X', e', E, hS, hk, hW, hf, hR, hL, kk⟩ := ldcOH X C.hx V.hZ (V.hown' C) w wS eT v3 v4 C.hEW v5.1 (g := mkF m pc Ls st) rfl (hb C.hby hd) hn hbig hc hs
  obtain ⟨s₂, o, k, r⟩ := nx a h' E T' T'.vm X' e' ⟨⟨fun q => (nomatch q), hW, ⟨k1, hS, hk⟩, v5.trans hR⟩, fun x hx => ⟨Nat.lt_of_lt_of_le (v6 x hx).1 E.1, hR.safe (v6 x hx).1 (v6 x hx).2.1, (v6 x hx).2.2⟩, (V.ext E).2.2⟩
  exact ⟨s₂, o, kk _ k, r⟩
/-- a String of Latin-1 chars cs, its bytes at t -/
def Str (Z : State) (h : Heap) (x t : Addr) (cs : List Int32) : Prop :=
  Exa Z h x "java/lang/String" ∧ Fld Z h x "java/lang/String" "coder" "B" (.int 0) ∧ Fld Z h x "java/lang/String" "value" "[B" (.ref t) ∧ Av Z h t .byte (cs.map fun c => Value.int c.toInt8.toInt32)
theorem Str.keep {x t : Addr} {cs : List Int32} (F : Str Z h x t cs) (K : Keep h h' ws) (q1 : x ∉ ws) (q2 : t ∉ ws) : Str Z h' x t cs := ⟨F.1.keep K, F.2.1.keep K q1, F.2.2.1.keep K q1, F.2.2.2.keep K q2⟩
theorem Str.ext {x t : Addr} {cs : List Int32} (F : Str Z h x t cs) (E : Ext h h') : Str Z h' x t cs := F.keep (keep_ext E) (fun q => nomatch q) (fun q => nomatch q)
theorem g_ldc2w {idx : Nat} (z : Int64) (C : Cx wd p s m meth c Z a0 EL own bytes ml ret nm) (hd : decode bytes pc = .ok (.ldc2_w idx, 3)) (w : (Cond.constantLong own idx z).before a0 Z = true) (nx : Go wd p l e R s m args below meth c Z EL Q kc ks m0 mine h locs cells slots (mkF m (pc + 3) Ls (.long z :: st))) : Go wd p l e R s m args below meth c Z EL Q kc ks m0 mine h locs cells slots (mkF m pc Ls st) := fun T vm0 X eT V => by
  obtain ⟨s₂, o, k, r⟩ := nx T vm0 X eT V
  exact ⟨s₂, o, X.ldc2J C.hx (V.hown C) (mvT V.hZ' w) (g := mkF m pc Ls st) rfl (hb C.hby hd) k, r⟩
theorem g_ldcInt {idx : Nat} (z : Int32) (C : Cx wd p s m meth c Z a0 EL own bytes ml ret nm) (hd : decode bytes pc = .ok (.ldc idx, 2)) (w : (Cond.constant own idx z).before a0 Z = true) (nx : Go wd p l e R s m args below meth c Z EL Q kc ks m0 mine h locs cells slots (mkF m (pc + 2) Ls (.int z :: st))) : Go wd p l e R s m args below meth c Z EL Q kc ks m0 mine h locs cells slots (mkF m pc Ls st) := fun T vm0 X eT V => by
  obtain ⟨s₂, o, k, r⟩ := nx T vm0 X eT V
  exact ⟨s₂, o, X.ldcI C.hx (V.hown C) (mvT V.hZ' w) (g := mkF m pc Ls st) rfl (hb C.hby hd) k, r⟩
theorem cl_lt {x y : Int64} : XT.cmpL x y < 0 ↔ x < y := by rw [← lw_lt]; rfl
theorem cl_gt {x y : Int64} : 0 < XT.cmpL x y ↔ y < x := by rw [← lw_gt]; rfl
theorem cl_eq {x y : Int64} : XT.cmpL x y = 0 ↔ x = y := by rw [← lw_eq]; rfl
theorem cl_eq_t {x y : Int64} (q : x = y) : hC .eq (XT.cmpL x y) 0 := cl_eq.mpr q
theorem cl_eq_f {x y : Int64} (q : ¬ x = y) : nC .eq (XT.cmpL x y) 0 := fun z => q (cl_eq.mp z)
theorem cl_ne_t {x y : Int64} (q : ¬ x = y) : hC .ne (XT.cmpL x y) 0 := fun z => q (cl_eq.mp z)
theorem cl_ne_f {x y : Int64} (q : x = y) : nC .ne (XT.cmpL x y) 0 := cl_eq.mpr q
theorem cl_lt_t {x y : Int64} (q : x < y) : hC .lt (XT.cmpL x y) 0 := cl_lt.mpr q
theorem cl_lt_f {x y : Int64} (q : ¬ x < y) : nC .lt (XT.cmpL x y) 0 := fun z => q (cl_lt.mp z)
theorem cl_ge_t {x y : Int64} (q : ¬ x < y) : hC .ge (XT.cmpL x y) 0 := fun z => q (cl_lt.mp z)
theorem cl_ge_f {x y : Int64} (q : x < y) : nC .ge (XT.cmpL x y) 0 := cl_lt.mpr q
theorem cl_gt_t {x y : Int64} (q : y < x) : hC .gt (XT.cmpL x y) 0 := cl_gt.mpr q
theorem cl_gt_f {x y : Int64} (q : ¬ y < x) : nC .gt (XT.cmpL x y) 0 := fun z => q (cl_gt.mp z)
theorem cl_le_t {x y : Int64} (q : ¬ y < x) : hC .le (XT.cmpL x y) 0 := fun z => q (cl_gt.mp z)
theorem cl_le_f {x y : Int64} (q : y < x) : nC .le (XT.cmpL x y) 0 := cl_gt.mpr q
end K
end Jvm.Wk9
namespace Jvm.Pilot.@@N@@
open Jvm Jvm.ClassFile Sem Op Lib Jvm.Free Jvm.Stand Jvm.LawKit Jvm.RoadKit Bundle Jvm.Pilot.@@N@@.Jvm.D Jvm.Wk9
theorem pd0 : parseMethodDescriptor "([JIIJ)I" = some ⟨[(.array .long), .int, .int, .long], some .int⟩ := by decide +kernel
theorem pd1 : parseMethodDescriptor "([JJ)I" = some ⟨[(.array .long), .long], some .int⟩ := by decide +kernel
theorem pd2 : parseMethodDescriptor "(J)I" = some ⟨[.long], some .int⟩ := by decide +kernel
theorem pd3 : parseMethodDescriptor "([J[J)V" = some ⟨[(.array .long), (.array .long)], none⟩ := by decide +kernel
theorem pd4 : parseMethodDescriptor "(J)J" = some ⟨[.long], some .long⟩ := by decide +kernel
theorem own_and3 (x : Int32) : x &&& 3 = 0 ∨ x &&& 3 = 1 ∨ x &&& 3 = 2 ∨ x &&& 3 = 3 := by
  have h := c_and x 3 (by decide)
  have e : (3 : Int32).toInt = 3 := by decide
  rw [e] at h
  have k : (x &&& 3).toInt = 0 ∨ (x &&& 3).toInt = 1 ∨ (x &&& 3).toInt = 2 ∨ (x &&& 3).toInt = 3 := by omega
  rcases k with k | k | k | k
  · exact Or.inl (Int32.toInt_inj.mp k)
  · exact Or.inr (Or.inl (Int32.toInt_inj.mp k))
  · exact Or.inr (Or.inr (Or.inl (Int32.toInt_inj.mp k)))
  · exact Or.inr (Or.inr (Or.inr (Int32.toInt_inj.mp k)))
theorem own_one7 (x : Int32) : 1 ≤ ((1 : Int32) + (x &&& (7 : Int32))).toInt64.toInt ∧ ((1 : Int32) + (x &&& (7 : Int32))).toInt64.toInt ≤ 8 := by
  have h := c_and x 7 (by decide)
  have e : (7 : Int32).toInt = 7 := by decide
  have e1 : (1 : Int32).toInt = 1 := by decide
  rw [e] at h
  rw [c_i2l, XT.add32 (x := 1) (y := x &&& 7) (by unfold XT.fits32; omega)]
  omega
theorem own_f0 (x : Int64) : 0 ≤ (x &&& (4611686018427387903 : Int64)).toInt ∧ (x &&& (4611686018427387903 : Int64)).toInt < 4611686018427387904 := by
  rw [c_maskL x 4611686018427387903 62 (by decide) (by decide)]
  omega
theorem own_add {x y : Int64} (h1 : 0 ≤ x.toInt) (h2 : x.toInt < 4611686018427388904) (h3 : 0 ≤ y.toInt) (h4 : y.toInt ≤ 1000) : (x + y).toInt = x.toInt + y.toInt := XT.add64 (by unfold XT.fits64; omega)
theorem own_z64 : (0 : Int64).toInt = 0 := by decide

theorem dC_0 : decode prog_45_method_1_code 0 = .ok (.aload_n 0, 1) := by decide +kernel
theorem dC_1 : decode prog_45_method_1_code 1 = .ok (.invokespecial 1, 3) := by decide +kernel
theorem dC_4 : decode prog_45_method_1_code 4 = .ok (.aload_n 1, 1) := by decide +kernel
theorem dC_5 : decode prog_45_method_1_code 5 = .ok (.arraylength, 1) := by decide +kernel
theorem dC_6 : decode prog_45_method_1_code 6 = .ok (.aload_n 2, 1) := by decide +kernel
theorem dC_7 : decode prog_45_method_1_code 7 = .ok (.arraylength, 1) := by decide +kernel
theorem dC_8 : decode prog_45_method_1_code 8 = .ok (.if_icmp .eq 20, 3) := by decide +kernel
theorem dC_28 : decode prog_45_method_1_code 28 = .ok (.aload_n 1, 1) := by decide +kernel
theorem dC_29 : decode prog_45_method_1_code 29 = .ok (.arraylength, 1) := by decide +kernel
theorem dC_30 : decode prog_45_method_1_code 30 = .ok (.newarray .long, 2) := by decide +kernel
theorem dC_32 : decode prog_45_method_1_code 32 = .ok (.astore_n 3, 1) := by decide +kernel
theorem dC_33 : decode prog_45_method_1_code 33 = .ok (.lconst 0, 1) := by decide +kernel
theorem dC_34 : decode prog_45_method_1_code 34 = .ok (.lstore 4, 2) := by decide +kernel
theorem dC_36 : decode prog_45_method_1_code 36 = .ok (.iconst 0, 1) := by decide +kernel
theorem dC_37 : decode prog_45_method_1_code 37 = .ok (.istore 6, 2) := by decide +kernel
theorem dC_39 : decode prog_45_method_1_code 39 = .ok (.iload 6, 2) := by decide +kernel
theorem dC_41 : decode prog_45_method_1_code 41 = .ok (.aload_n 1, 1) := by decide +kernel
theorem dC_42 : decode prog_45_method_1_code 42 = .ok (.arraylength, 1) := by decide +kernel
theorem dC_43 : decode prog_45_method_1_code 43 = .ok (.if_icmp .ge 103, 3) := by decide +kernel
theorem dC_146 : decode prog_45_method_1_code 146 = .ok (.aload_n 0, 1) := by decide +kernel
theorem dC_147 : decode prog_45_method_1_code 147 = .ok (.aload_n 1, 1) := by decide +kernel
theorem dC_148 : decode prog_45_method_1_code 148 = .ok (.putfield 19, 3) := by decide +kernel
theorem dC_151 : decode prog_45_method_1_code 151 = .ok (.aload_n 0, 1) := by decide +kernel
theorem dC_152 : decode prog_45_method_1_code 152 = .ok (.aload_n 2, 1) := by decide +kernel
theorem dC_153 : decode prog_45_method_1_code 153 = .ok (.putfield 25, 3) := by decide +kernel
theorem dC_156 : decode prog_45_method_1_code 156 = .ok (.aload_n 0, 1) := by decide +kernel
theorem dC_157 : decode prog_45_method_1_code 157 = .ok (.aload_n 3, 1) := by decide +kernel
theorem dC_158 : decode prog_45_method_1_code 158 = .ok (.putfield 28, 3) := by decide +kernel
theorem dC_161 : decode prog_45_method_1_code 161 = .ok (.aload_n 0, 1) := by decide +kernel
theorem dC_162 : decode prog_45_method_1_code 162 = .ok (.lload 4, 2) := by decide +kernel
theorem dC_164 : decode prog_45_method_1_code 164 = .ok (.putfield 31, 3) := by decide +kernel
theorem dC_167 : decode prog_45_method_1_code 167 = .ok (.return_, 1) := by decide +kernel
set_option maxRecDepth 65536 in
set_option maxHeartbeats 40000000 in
theorem m_ctor0 (l : Launch) (Z : State) (a0 : Array Value) (hw : ∀ d ∈ tables_1, d.before a0 Z = true)  (a f k : Addr) (h : Heap)  (E : Exa Z h a "com/example/keelstone/keelstone/store/Runs") (F1 : Fld Z h a "com/example/keelstone/keelstone/store/Runs" "firsts" "[J" .null) (F2 : Fld Z h a "com/example/keelstone/keelstone/store/Runs" "counts" "[J" .null) (F3 : Fld Z h a "com/example/keelstone/keelstone/store/Runs" "starts" "[J" .null) (F4 : Fld Z h a "com/example/keelstone/keelstone/store/Runs" "blocks" "J" (.long (0 : Int64))) (Af : Av Z h f .long []) (Ak : Av Z h k .long []) (nf : f ≠ a) (nk : k ≠ a) :
    MetW false l Z [] (⟨"com/example/keelstone/keelstone/store/Runs", "<init>", "([J[J)V"⟩ : MethodName) prog_45_method_1_code 8 none [] ({ frames := 1, cells := 1, slots := 0, locals := 14 } : Room) #[(.ref a), (.ref f), (.ref k)] [a] h (fun v h' => v = none ∧ ∃ t : Addr, h.size ≤ t ∧ Exa Z h' a "com/example/keelstone/keelstone/store/Runs" ∧ Fld Z h' a "com/example/keelstone/keelstone/store/Runs" "firsts" "[J" (.ref f) ∧ Fld Z h' a "com/example/keelstone/keelstone/store/Runs" "counts" "[J" (.ref k) ∧ Fld Z h' a "com/example/keelstone/keelstone/store/Runs" "starts" "[J" (.ref t) ∧ Fld Z h' a "com/example/keelstone/keelstone/store/Runs" "blocks" "J" (.long (0 : Int64)) ∧ Av Z h' t .long []) := by
  refine MetW.of (Ls := #[.val (.ref a), .val (.ref f), .val (.ref k), .unset, .unset, .unset, .unset, .unset]) (a0 := a0) (by first | (simp [plainName, overriddenIn]; done) | decide +kernel) (fun m => by first | (simp [entryFrame, mkF, argsToLocals, Value.category]; done) | rfl) EW.nil (fun _ => rfl) (fun p e s m below meth c hs0 C => ?_)
  refine g_aloadN C dC_0 rfl rfl ?_
  refine g_objInit C dC_1 (hw _ (List.mem_of_getElem? (i := 10) rfl)) (hw _ (List.mem_of_getElem? (i := 11) rfl)) (hw _ (List.mem_of_getElem? (i := 12) rfl)) rfl (by decide) (Nat.le_of_ble_eq_true rfl) ?_
  refine g_aloadN C dC_4 rfl rfl ?_
  refine g_alen C dC_5 Af (z := (0 : Int32)) rfl ?_
  refine g_aloadN C dC_6 rfl rfl ?_
  refine g_alen C dC_7 Ak (z := (0 : Int32)) rfl ?_
  refine g_icmpT 28 C dC_8 (show (0 : Int32) = (0 : Int32) by decide) (by decide) (by decide) ?_
  refine g_aloadN C dC_28 rfl rfl ?_
  refine g_alen C dC_29 Af (z := (0 : Int32)) rfl ?_
  refine g_newarray_ (ad := "[J") 0 [] C dC_30 (hw _ (List.mem_of_getElem? (i := 3) rfl)) (by decide) (by decide) (by decide) (by decide) (by decide) (by decide) (by decide) (fun a1 h2 e3 E4 l5 f6 f7 => ?_)
  have K8 := keep_ext E4
  refine g_astoreN #[.val (.ref a), .val (.ref f), .val (.ref k), .val (.ref a1), .unset, .unset, .unset, .unset] C dC_32 rfl rfl ?_
  refine g_lconst (0 : Int64) C dC_33 (by decide) ?_
  refine g_lstore #[.val (.ref a), .val (.ref f), .val (.ref k), .val (.ref a1), .val (.long (0 : Int64)), .second, .unset, .unset] C dC_34 rfl ?_
  refine g_iconst (0 : Int32) C dC_36 (by decide) ?_
  refine g_istore #[.val (.ref a), .val (.ref f), .val (.ref k), .val (.ref a1), .val (.long (0 : Int64)), .second, .val (.int (0 : Int32)), .unset] C dC_37 rfl ?_
  refine g_iload C dC_39 rfl ?_
  refine g_aloadN C dC_41 rfl rfl ?_
  have f9 := (Af.keep K8 nin0)
  refine g_alen C dC_42 f9 (z := (0 : Int32)) rfl ?_
  refine g_icmpT 146 C dC_43 (show ¬ (0 : Int32) < (0 : Int32) by decide) (by decide) (by decide) ?_
  refine g_aloadN C dC_146 rfl rfl ?_
  refine g_aloadN C dC_147 rfl rfl ?_
  have f10 := (F1.keep K8 nin0)
  have f11 := (E.keep K8)
  have f12 := (F2.keep K8 nin0)
  have f13 := (F3.keep K8 nin0)
  have f14 := (F4.keep K8 nin0)
  refine g_putfield (host := "") C dC_148 (Or.inl (hw _ (List.mem_of_getElem? (i := 13) rfl))) Via.refl f10 f11 (Or.inr ⟨(hw _ (List.mem_of_getElem? (i := 14) rfl)), rfl, rfl⟩) (hw _ (List.mem_of_getElem? (i := 5) rfl)) (ty := (.array .long)) (by decide) rfl rfl (List.mem_of_getElem? (i := 1) rfl) (fun h15 W16 K17 => ?_)
  have f18 := Fld.same W16 f10
  have f19 := Fld.other W16 f12 (Or.inr (slot_ne (Or.inr (hw _ (List.mem_of_getElem? (i := 16) rfl))) (Or.inr (hw _ (List.mem_of_getElem? (i := 14) rfl))) (by decide) (t := (.array .long)) (t' := (.array .long)) (by decide) (by decide)))
  have f20 := Fld.other W16 f13 (Or.inr (slot_ne (Or.inr (hw _ (List.mem_of_getElem? (i := 18) rfl))) (Or.inr (hw _ (List.mem_of_getElem? (i := 14) rfl))) (by decide) (t := (.array .long)) (t' := (.array .long)) (by decide) (by decide)))
  have f21 := Fld.other W16 f14 (Or.inr (slot_ne (Or.inr (hw _ (List.mem_of_getElem? (i := 20) rfl))) (Or.inr (hw _ (List.mem_of_getElem? (i := 14) rfl))) (by decide) (t := .long) (t' := (.array .long)) (by decide) (by decide)))
  refine g_aloadN C dC_151 rfl rfl ?_
  refine g_aloadN C dC_152 rfl rfl ?_
  have f22 := (f11.keep K17)
  refine g_putfield (host := "") C dC_153 (Or.inl (hw _ (List.mem_of_getElem? (i := 15) rfl))) Via.refl f19 f22 (Or.inr ⟨(hw _ (List.mem_of_getElem? (i := 16) rfl)), rfl, rfl⟩) (hw _ (List.mem_of_getElem? (i := 5) rfl)) (ty := (.array .long)) (by decide) rfl rfl (List.mem_of_getElem? (i := 1) rfl) (fun h23 W24 K25 => ?_)
  have f26 := Fld.same W24 f19
  have f27 := Fld.other W24 f18 (Or.inr (slot_ne (Or.inr (hw _ (List.mem_of_getElem? (i := 14) rfl))) (Or.inr (hw _ (List.mem_of_getElem? (i := 16) rfl))) (by decide) (t := (.array .long)) (t' := (.array .long)) (by decide) (by decide)))
  have f28 := Fld.other W24 f20 (Or.inr (slot_ne (Or.inr (hw _ (List.mem_of_getElem? (i := 18) rfl))) (Or.inr (hw _ (List.mem_of_getElem? (i := 16) rfl))) (by decide) (t := (.array .long)) (t' := (.array .long)) (by decide) (by decide)))
  have f29 := Fld.other W24 f21 (Or.inr (slot_ne (Or.inr (hw _ (List.mem_of_getElem? (i := 20) rfl))) (Or.inr (hw _ (List.mem_of_getElem? (i := 16) rfl))) (by decide) (t := .long) (t' := (.array .long)) (by decide) (by decide)))
  refine g_aloadN C dC_156 rfl rfl ?_
  refine g_aloadN C dC_157 rfl rfl ?_
  have f30 := (f22.keep K25)
  refine g_putfield (host := "") C dC_158 (Or.inl (hw _ (List.mem_of_getElem? (i := 17) rfl))) Via.refl f28 f30 (Or.inr ⟨(hw _ (List.mem_of_getElem? (i := 18) rfl)), rfl, rfl⟩) (hw _ (List.mem_of_getElem? (i := 5) rfl)) (ty := (.array .long)) (by decide) rfl rfl (List.mem_of_getElem? (i := 1) rfl) (fun h31 W32 K33 => ?_)
  have f34 := Fld.same W32 f28
  have f35 := Fld.other W32 f27 (Or.inr (slot_ne (Or.inr (hw _ (List.mem_of_getElem? (i := 14) rfl))) (Or.inr (hw _ (List.mem_of_getElem? (i := 18) rfl))) (by decide) (t := (.array .long)) (t' := (.array .long)) (by decide) (by decide)))
  have f36 := Fld.other W32 f26 (Or.inr (slot_ne (Or.inr (hw _ (List.mem_of_getElem? (i := 16) rfl))) (Or.inr (hw _ (List.mem_of_getElem? (i := 18) rfl))) (by decide) (t := (.array .long)) (t' := (.array .long)) (by decide) (by decide)))
  have f37 := Fld.other W32 f29 (Or.inr (slot_ne (Or.inr (hw _ (List.mem_of_getElem? (i := 20) rfl))) (Or.inr (hw _ (List.mem_of_getElem? (i := 18) rfl))) (by decide) (t := .long) (t' := (.array .long)) (by decide) (by decide)))
  refine g_aloadN C dC_161 rfl rfl ?_
  refine g_lload C dC_162 rfl ?_
  have f38 := (f30.keep K33)
  refine g_putfield (host := "") C dC_164 (Or.inl (hw _ (List.mem_of_getElem? (i := 19) rfl))) Via.refl f37 f38 (Or.inr ⟨(hw _ (List.mem_of_getElem? (i := 20) rfl)), rfl, rfl⟩) (hw _ (List.mem_of_getElem? (i := 5) rfl)) (ty := .long) (by decide) rfl rfl (List.mem_of_getElem? (i := 1) rfl) (fun h39 W40 K41 => ?_)
  have f42 := Fld.same W40 f37
  have f43 := Fld.other W40 f35 (Or.inr (slot_ne (Or.inr (hw _ (List.mem_of_getElem? (i := 14) rfl))) (Or.inr (hw _ (List.mem_of_getElem? (i := 20) rfl))) (by decide) (t := (.array .long)) (t' := .long) (by decide) (by decide)))
  have f44 := Fld.other W40 f36 (Or.inr (slot_ne (Or.inr (hw _ (List.mem_of_getElem? (i := 16) rfl))) (Or.inr (hw _ (List.mem_of_getElem? (i := 20) rfl))) (by decide) (t := (.array .long)) (t' := .long) (by decide) (by decide)))
  have f45 := Fld.other W40 f34 (Or.inr (slot_ne (Or.inr (hw _ (List.mem_of_getElem? (i := 18) rfl))) (Or.inr (hw _ (List.mem_of_getElem? (i := 20) rfl))) (by decide) (t := (.array .long)) (t' := .long) (by decide) (by decide)))
  have f46 := (f38.keep K41)
  have f47 := ((((f7.keep K17 (ninS (Nat.ne_of_gt (Nat.lt_of_lt_of_le E.lt (Nat.le_of_eq e3.symm))) nin0)).keep K25 (ninS (Nat.ne_of_gt (Nat.lt_of_lt_of_le E.lt (Nat.le_of_eq e3.symm))) nin0)).keep K33 (ninS (Nat.ne_of_gt (Nat.lt_of_lt_of_le E.lt (Nat.le_of_eq e3.symm))) nin0)).keep K41 (ninS (Nat.ne_of_gt (Nat.lt_of_lt_of_le E.lt (Nat.le_of_eq e3.symm))) nin0))
  exact g_retU C dC_167 ⟨rfl, a1, Nat.le_trans (Nat.le_refl _) (Nat.le_of_eq e3.symm), f46, f43, f44, f45, f42, f47⟩ (by decide) (by decide)
theorem dC_46 : decode prog_45_method_1_code 46 = .ok (.iload 6, 2) := by decide +kernel
theorem dC_48 : decode prog_45_method_1_code 48 = .ok (.ifCond .eq 24, 3) := by decide +kernel
theorem dC_72 : decode prog_45_method_1_code 72 = .ok (.iconst 1, 1) := by decide +kernel
theorem dC_73 : decode prog_45_method_1_code 73 = .ok (.goto 4, 3) := by decide +kernel
theorem dC_77 : decode prog_45_method_1_code 77 = .ok (.istore 7, 2) := by decide +kernel
theorem dC_79 : decode prog_45_method_1_code 79 = .ok (.aload_n 1, 1) := by decide +kernel
theorem dC_80 : decode prog_45_method_1_code 80 = .ok (.iload 6, 2) := by decide +kernel
theorem dC_82 : decode prog_45_method_1_code 82 = .ok (.laload, 1) := by decide +kernel
theorem dC_83 : decode prog_45_method_1_code 83 = .ok (.lconst 0, 1) := by decide +kernel
theorem dC_84 : decode prog_45_method_1_code 84 = .ok (.lcmp, 1) := by decide +kernel
theorem dC_85 : decode prog_45_method_1_code 85 = .ok (.ifCond .lt 17, 3) := by decide +kernel
theorem dC_88 : decode prog_45_method_1_code 88 = .ok (.aload_n 2, 1) := by decide +kernel
theorem dC_89 : decode prog_45_method_1_code 89 = .ok (.iload 6, 2) := by decide +kernel
theorem dC_91 : decode prog_45_method_1_code 91 = .ok (.laload, 1) := by decide +kernel
theorem dC_92 : decode prog_45_method_1_code 92 = .ok (.lconst 0, 1) := by decide +kernel
theorem dC_93 : decode prog_45_method_1_code 93 = .ok (.lcmp, 1) := by decide +kernel
theorem dC_94 : decode prog_45_method_1_code 94 = .ok (.ifCond .le 8, 3) := by decide +kernel
theorem dC_97 : decode prog_45_method_1_code 97 = .ok (.iload 7, 2) := by decide +kernel
theorem dC_99 : decode prog_45_method_1_code 99 = .ok (.ifCond .ne 26, 3) := by decide +kernel
theorem dC_125 : decode prog_45_method_1_code 125 = .ok (.aload_n 3, 1) := by decide +kernel
theorem dC_126 : decode prog_45_method_1_code 126 = .ok (.iload 6, 2) := by decide +kernel
theorem dC_128 : decode prog_45_method_1_code 128 = .ok (.lload 4, 2) := by decide +kernel
theorem dC_130 : decode prog_45_method_1_code 130 = .ok (.lastore, 1) := by decide +kernel
theorem dC_131 : decode prog_45_method_1_code 131 = .ok (.lload 4, 2) := by decide +kernel
theorem dC_133 : decode prog_45_method_1_code 133 = .ok (.aload_n 2, 1) := by decide +kernel
theorem dC_134 : decode prog_45_method_1_code 134 = .ok (.iload 6, 2) := by decide +kernel
theorem dC_136 : decode prog_45_method_1_code 136 = .ok (.laload, 1) := by decide +kernel
theorem dC_137 : decode prog_45_method_1_code 137 = .ok (.ladd, 1) := by decide +kernel
theorem dC_138 : decode prog_45_method_1_code 138 = .ok (.lstore 4, 2) := by decide +kernel
theorem dC_140 : decode prog_45_method_1_code 140 = .ok (.iinc 6 1, 3) := by decide +kernel
theorem dC_143 : decode prog_45_method_1_code 143 = .ok (.goto (-104), 3) := by decide +kernel
set_option maxRecDepth 65536 in
set_option maxHeartbeats 40000000 in
theorem m_ctor1 (l : Launch) (Z : State) (a0 : Array Value) (hw : ∀ d ∈ tables_1, d.before a0 Z = true) (f0 c0 : Int64) (a f k : Addr) (h : Heap) (B : 0 ≤ f0.toInt ∧ f0.toInt < 4611686018427388404 ∧ 1 ≤ c0.toInt ∧ c0.toInt ≤ 16) (E : Exa Z h a "com/example/keelstone/keelstone/store/Runs") (F1 : Fld Z h a "com/example/keelstone/keelstone/store/Runs" "firsts" "[J" .null) (F2 : Fld Z h a "com/example/keelstone/keelstone/store/Runs" "counts" "[J" .null) (F3 : Fld Z h a "com/example/keelstone/keelstone/store/Runs" "starts" "[J" .null) (F4 : Fld Z h a "com/example/keelstone/keelstone/store/Runs" "blocks" "J" (.long (0 : Int64))) (Af : Av Z h f .long [(.long f0)]) (Ak : Av Z h k .long [(.long c0)]) (nf : f ≠ a) (nk : k ≠ a) :
    MetW false l Z [] (⟨"com/example/keelstone/keelstone/store/Runs", "<init>", "([J[J)V"⟩ : MethodName) prog_45_method_1_code 8 none [] ({ frames := 1, cells := 1, slots := 1, locals := 14 } : Room) #[(.ref a), (.ref f), (.ref k)] [a] h (fun v h' => v = none ∧ ∃ t : Addr, h.size ≤ t ∧ Exa Z h' a "com/example/keelstone/keelstone/store/Runs" ∧ Fld Z h' a "com/example/keelstone/keelstone/store/Runs" "firsts" "[J" (.ref f) ∧ Fld Z h' a "com/example/keelstone/keelstone/store/Runs" "counts" "[J" (.ref k) ∧ Fld Z h' a "com/example/keelstone/keelstone/store/Runs" "starts" "[J" (.ref t) ∧ Fld Z h' a "com/example/keelstone/keelstone/store/Runs" "blocks" "J" (.long ((0 : Int64) + c0)) ∧ Av Z h' t .long [(.long (0 : Int64))]) := by
  obtain ⟨b0, b1, p0, q0⟩ := B
  have s0 : (f0 + c0).toInt = f0.toInt + c0.toInt := own_add (by omega) (by omega) (by omega) (by omega)
  have z0 : ¬ f0 < (0 : Int64) := by rw [Int64.lt_iff_toInt_lt, own_z64]; omega
  have g0 : (0 : Int64) < c0 := by rw [Int64.lt_iff_toInt_lt, own_z64]; omega
  refine MetW.of (Ls := #[.val (.ref a), .val (.ref f), .val (.ref k), .unset, .unset, .unset, .unset, .unset]) (a0 := a0) (by first | (simp [plainName, overriddenIn]; done) | decide +kernel) (fun m => by first | (simp [entryFrame, mkF, argsToLocals, Value.category]; done) | rfl) EW.nil (fun _ => rfl) (fun p e s m below meth c hs0 C => ?_)
  refine g_aloadN C dC_0 rfl rfl ?_
  refine g_objInit C dC_1 (hw _ (List.mem_of_getElem? (i := 10) rfl)) (hw _ (List.mem_of_getElem? (i := 11) rfl)) (hw _ (List.mem_of_getElem? (i := 12) rfl)) rfl (by decide) (Nat.le_of_ble_eq_true rfl) ?_
  refine g_aloadN C dC_4 rfl rfl ?_
  refine g_alen C dC_5 Af (z := (1 : Int32)) rfl ?_
  refine g_aloadN C dC_6 rfl rfl ?_
  refine g_alen C dC_7 Ak (z := (1 : Int32)) rfl ?_
  refine g_icmpT 28 C dC_8 (show (1 : Int32) = (1 : Int32) by decide) (by decide) (by decide) ?_
  refine g_aloadN C dC_28 rfl rfl ?_
  refine g_alen C dC_29 Af (z := (1 : Int32)) rfl ?_
  refine g_newarray_ (ad := "[J") 1 [(.long (0 : Int64))] C dC_30 (hw _ (List.mem_of_getElem? (i := 3) rfl)) (by decide) (by decide) (by decide) (by decide) (by decide) (by decide) (by decide) (fun a1 h2 e3 E4 l5 f6 f7 => ?_)
  have K8 := keep_ext E4
  refine g_astoreN #[.val (.ref a), .val (.ref f), .val (.ref k), .val (.ref a1), .unset, .unset, .unset, .unset] C dC_32 rfl rfl ?_
  refine g_lconst (0 : Int64) C dC_33 (by decide) ?_
  refine g_lstore #[.val (.ref a), .val (.ref f), .val (.ref k), .val (.ref a1), .val (.long (0 : Int64)), .second, .unset, .unset] C dC_34 rfl ?_
  refine g_iconst (0 : Int32) C dC_36 (by decide) ?_
  refine g_istore #[.val (.ref a), .val (.ref f), .val (.ref k), .val (.ref a1), .val (.long (0 : Int64)), .second, .val (.int (0 : Int32)), .unset] C dC_37 rfl ?_
  refine g_iload C dC_39 rfl ?_
  refine g_aloadN C dC_41 rfl rfl ?_
  have f9 := (Af.keep K8 nin0)
  refine g_alen C dC_42 f9 (z := (1 : Int32)) rfl ?_
  refine g_icmpF C dC_43 (show (0 : Int32) < (1 : Int32) by decide) ?_
  refine g_iload C dC_46 rfl ?_
  refine g_ifT 72 C dC_48 (show (0 : Int32) = (0 : Int32) by decide) (by decide) (by decide) ?_
  refine g_iconst (1 : Int32) C dC_72 (by decide) ?_
  refine g_goto 77 C dC_73 (by decide) (by decide) ?_
  refine g_istore #[.val (.ref a), .val (.ref f), .val (.ref k), .val (.ref a1), .val (.long (0 : Int64)), .second, .val (.int (0 : Int32)), .val (.int (1 : Int32))] C dC_77 rfl ?_
  refine g_aloadN C dC_79 rfl rfl ?_
  refine g_iload C dC_80 rfl ?_
  refine g_laload 0 C dC_82 f9 (by decide) (by decide) rfl ?_
  refine g_lconst (0 : Int64) C dC_83 (by decide) ?_
  refine g_lcmp C dC_84 ?_
  refine g_ifF C dC_85 (cl_lt_f z0) ?_
  refine g_aloadN C dC_88 rfl rfl ?_
  refine g_iload C dC_89 rfl ?_
  have f10 := (Ak.keep K8 nin0)
  refine g_laload 0 C dC_91 f10 (by decide) (by decide) rfl ?_
  refine g_lconst (0 : Int64) C dC_92 (by decide) ?_
  refine g_lcmp C dC_93 ?_
  refine g_ifF C dC_94 (cl_le_f g0) ?_
  refine g_iload C dC_97 rfl ?_
  refine g_ifT 125 C dC_99 (show ¬ (1 : Int32) = (0 : Int32) by decide) (by decide) (by decide) ?_
  refine g_aloadN C dC_125 rfl rfl ?_
  refine g_iload C dC_126 rfl ?_
  refine g_lload C dC_128 rfl ?_
  refine g_lastore 0 C dC_130 f7 (by decide) (by decide) (Nat.le_of_ble_eq_true rfl) (List.mem_of_getElem? (i := 0) rfl) (fun h11 K12 z13 f14 => ?_)
  have f15 : Av Z h11 a1 .long [(.long (0 : Int64))] := f14
  refine g_lload C dC_131 rfl ?_
  refine g_aloadN C dC_133 rfl rfl ?_
  refine g_iload C dC_134 rfl ?_
  have f16 := (f10.keep K12 (ninS (Nat.ne_of_lt (Nat.lt_of_lt_of_le Ak.lt (Nat.le_of_eq e3.symm))) nin0))
  refine g_laload 0 C dC_136 f16 (by decide) (by decide) rfl ?_
  refine g_ladd _ C dC_137 rfl ?_
  refine g_lstore #[.val (.ref a), .val (.ref f), .val (.ref k), .val (.ref a1), .val (.long ((0 : Int64) + c0)), .second, .val (.int (0 : Int32)), .val (.int (1 : Int32))] C dC_138 rfl ?_
  refine g_iinc (1 : Int32) #[.val (.ref a), .val (.ref f), .val (.ref k), .val (.ref a1), .val (.long ((0 : Int64) + c0)), .second, .val (.int (1 : Int32)), .val (.int (1 : Int32))] C dC_140 rfl (by decide) rfl ?_
  refine g_goto 39 C dC_143 (by decide) (by decide) ?_
  refine g_iload C dC_39 rfl ?_
  refine g_aloadN C dC_41 rfl rfl ?_
  have f17 := (f9.keep K12 (ninS (Nat.ne_of_lt (Nat.lt_of_lt_of_le Af.lt (Nat.le_of_eq e3.symm))) nin0))
  refine g_alen C dC_42 f17 (z := (1 : Int32)) rfl ?_
  refine g_icmpT 146 C dC_43 (show ¬ (1 : Int32) < (1 : Int32) by decide) (by decide) (by decide) ?_
  refine g_aloadN C dC_146 rfl rfl ?_
  refine g_aloadN C dC_147 rfl rfl ?_
  have f18 := ((F1.keep K8 nin0).keep K12 (ninS (Nat.ne_of_lt (Nat.lt_of_lt_of_le E.lt (Nat.le_of_eq e3.symm))) nin0))
  have f19 := ((E.keep K8).keep K12)
  have f20 := ((F2.keep K8 nin0).keep K12 (ninS (Nat.ne_of_lt (Nat.lt_of_lt_of_le E.lt (Nat.le_of_eq e3.symm))) nin0))
  have f21 := ((F3.keep K8 nin0).keep K12 (ninS (Nat.ne_of_lt (Nat.lt_of_lt_of_le E.lt (Nat.le_of_eq e3.symm))) nin0))
  have f22 := ((F4.keep K8 nin0).keep K12 (ninS (Nat.ne_of_lt (Nat.lt_of_lt_of_le E.lt (Nat.le_of_eq e3.symm))) nin0))
  refine g_putfield (host := "") C dC_148 (Or.inl (hw _ (List.mem_of_getElem? (i := 13) rfl))) Via.refl f18 f19 (Or.inr ⟨(hw _ (List.mem_of_getElem? (i := 14) rfl)), rfl, rfl⟩) (hw _ (List.mem_of_getElem? (i := 5) rfl)) (ty := (.array .long)) (by decide) rfl rfl (List.mem_of_getElem? (i := 1) rfl) (fun h23 W24 K25 => ?_)
  have f26 := Fld.same W24 f18
  have f27 := Fld.other W24 f20 (Or.inr (slot_ne (Or.inr (hw _ (List.mem_of_getElem? (i := 16) rfl))) (Or.inr (hw _ (List.mem_of_getElem? (i := 14) rfl))) (by decide) (t := (.array .long)) (t' := (.array .long)) (by decide) (by decide)))
  have f28 := Fld.other W24 f21 (Or.inr (slot_ne (Or.inr (hw _ (List.mem_of_getElem? (i := 18) rfl))) (Or.inr (hw _ (List.mem_of_getElem? (i := 14) rfl))) (by decide) (t := (.array .long)) (t' := (.array .long)) (by decide) (by decide)))
  have f29 := Fld.other W24 f22 (Or.inr (slot_ne (Or.inr (hw _ (List.mem_of_getElem? (i := 20) rfl))) (Or.inr (hw _ (List.mem_of_getElem? (i := 14) rfl))) (by decide) (t := .long) (t' := (.array .long)) (by decide) (by decide)))
  refine g_aloadN C dC_151 rfl rfl ?_
  refine g_aloadN C dC_152 rfl rfl ?_
  have f30 := (f19.keep K25)
  refine g_putfield (host := "") C dC_153 (Or.inl (hw _ (List.mem_of_getElem? (i := 15) rfl))) Via.refl f27 f30 (Or.inr ⟨(hw _ (List.mem_of_getElem? (i := 16) rfl)), rfl, rfl⟩) (hw _ (List.mem_of_getElem? (i := 5) rfl)) (ty := (.array .long)) (by decide) rfl rfl (List.mem_of_getElem? (i := 1) rfl) (fun h31 W32 K33 => ?_)
  have f34 := Fld.same W32 f27
  have f35 := Fld.other W32 f26 (Or.inr (slot_ne (Or.inr (hw _ (List.mem_of_getElem? (i := 14) rfl))) (Or.inr (hw _ (List.mem_of_getElem? (i := 16) rfl))) (by decide) (t := (.array .long)) (t' := (.array .long)) (by decide) (by decide)))
  have f36 := Fld.other W32 f28 (Or.inr (slot_ne (Or.inr (hw _ (List.mem_of_getElem? (i := 18) rfl))) (Or.inr (hw _ (List.mem_of_getElem? (i := 16) rfl))) (by decide) (t := (.array .long)) (t' := (.array .long)) (by decide) (by decide)))
  have f37 := Fld.other W32 f29 (Or.inr (slot_ne (Or.inr (hw _ (List.mem_of_getElem? (i := 20) rfl))) (Or.inr (hw _ (List.mem_of_getElem? (i := 16) rfl))) (by decide) (t := .long) (t' := (.array .long)) (by decide) (by decide)))
  refine g_aloadN C dC_156 rfl rfl ?_
  refine g_aloadN C dC_157 rfl rfl ?_
  have f38 := (f30.keep K33)
  refine g_putfield (host := "") C dC_158 (Or.inl (hw _ (List.mem_of_getElem? (i := 17) rfl))) Via.refl f36 f38 (Or.inr ⟨(hw _ (List.mem_of_getElem? (i := 18) rfl)), rfl, rfl⟩) (hw _ (List.mem_of_getElem? (i := 5) rfl)) (ty := (.array .long)) (by decide) rfl rfl (List.mem_of_getElem? (i := 1) rfl) (fun h39 W40 K41 => ?_)
  have f42 := Fld.same W40 f36
  have f43 := Fld.other W40 f35 (Or.inr (slot_ne (Or.inr (hw _ (List.mem_of_getElem? (i := 14) rfl))) (Or.inr (hw _ (List.mem_of_getElem? (i := 18) rfl))) (by decide) (t := (.array .long)) (t' := (.array .long)) (by decide) (by decide)))
  have f44 := Fld.other W40 f34 (Or.inr (slot_ne (Or.inr (hw _ (List.mem_of_getElem? (i := 16) rfl))) (Or.inr (hw _ (List.mem_of_getElem? (i := 18) rfl))) (by decide) (t := (.array .long)) (t' := (.array .long)) (by decide) (by decide)))
  have f45 := Fld.other W40 f37 (Or.inr (slot_ne (Or.inr (hw _ (List.mem_of_getElem? (i := 20) rfl))) (Or.inr (hw _ (List.mem_of_getElem? (i := 18) rfl))) (by decide) (t := .long) (t' := (.array .long)) (by decide) (by decide)))
  refine g_aloadN C dC_161 rfl rfl ?_
  refine g_lload C dC_162 rfl ?_
  have f46 := (f38.keep K41)
  refine g_putfield (host := "") C dC_164 (Or.inl (hw _ (List.mem_of_getElem? (i := 19) rfl))) Via.refl f45 f46 (Or.inr ⟨(hw _ (List.mem_of_getElem? (i := 20) rfl)), rfl, rfl⟩) (hw _ (List.mem_of_getElem? (i := 5) rfl)) (ty := .long) (by decide) rfl rfl (List.mem_of_getElem? (i := 1) rfl) (fun h47 W48 K49 => ?_)
  have f50 := Fld.same W48 f45
  have f51 := Fld.other W48 f43 (Or.inr (slot_ne (Or.inr (hw _ (List.mem_of_getElem? (i := 14) rfl))) (Or.inr (hw _ (List.mem_of_getElem? (i := 20) rfl))) (by decide) (t := (.array .long)) (t' := .long) (by decide) (by decide)))
  have f52 := Fld.other W48 f44 (Or.inr (slot_ne (Or.inr (hw _ (List.mem_of_getElem? (i := 16) rfl))) (Or.inr (hw _ (List.mem_of_getElem? (i := 20) rfl))) (by decide) (t := (.array .long)) (t' := .long) (by decide) (by decide)))
  have f53 := Fld.other W48 f42 (Or.inr (slot_ne (Or.inr (hw _ (List.mem_of_getElem? (i := 18) rfl))) (Or.inr (hw _ (List.mem_of_getElem? (i := 20) rfl))) (by decide) (t := (.array .long)) (t' := .long) (by decide) (by decide)))
  have f54 := (f46.keep K49)
  have f55 := ((((f15.keep K25 (ninS (Nat.ne_of_gt (Nat.lt_of_lt_of_le E.lt (Nat.le_of_eq e3.symm))) nin0)).keep K33 (ninS (Nat.ne_of_gt (Nat.lt_of_lt_of_le E.lt (Nat.le_of_eq e3.symm))) nin0)).keep K41 (ninS (Nat.ne_of_gt (Nat.lt_of_lt_of_le E.lt (Nat.le_of_eq e3.symm))) nin0)).keep K49 (ninS (Nat.ne_of_gt (Nat.lt_of_lt_of_le E.lt (Nat.le_of_eq e3.symm))) nin0))
  exact g_retU C dC_167 ⟨rfl, a1, Nat.le_trans (Nat.le_refl _) (Nat.le_of_eq e3.symm), f54, f51, f52, f53, f50, f55⟩ (by decide) (by decide)
theorem dC_51 : decode prog_45_method_1_code 51 = .ok (.aload_n 1, 1) := by decide +kernel
theorem dC_52 : decode prog_45_method_1_code 52 = .ok (.iload 6, 2) := by decide +kernel
theorem dC_54 : decode prog_45_method_1_code 54 = .ok (.laload, 1) := by decide +kernel
theorem dC_55 : decode prog_45_method_1_code 55 = .ok (.aload_n 1, 1) := by decide +kernel
theorem dC_56 : decode prog_45_method_1_code 56 = .ok (.iload 6, 2) := by decide +kernel
theorem dC_58 : decode prog_45_method_1_code 58 = .ok (.iconst 1, 1) := by decide +kernel
theorem dC_59 : decode prog_45_method_1_code 59 = .ok (.isub, 1) := by decide +kernel
theorem dC_60 : decode prog_45_method_1_code 60 = .ok (.laload, 1) := by decide +kernel
theorem dC_61 : decode prog_45_method_1_code 61 = .ok (.aload_n 2, 1) := by decide +kernel
theorem dC_62 : decode prog_45_method_1_code 62 = .ok (.iload 6, 2) := by decide +kernel
theorem dC_64 : decode prog_45_method_1_code 64 = .ok (.iconst 1, 1) := by decide +kernel
theorem dC_65 : decode prog_45_method_1_code 65 = .ok (.isub, 1) := by decide +kernel
theorem dC_66 : decode prog_45_method_1_code 66 = .ok (.laload, 1) := by decide +kernel
theorem dC_67 : decode prog_45_method_1_code 67 = .ok (.ladd, 1) := by decide +kernel
theorem dC_68 : decode prog_45_method_1_code 68 = .ok (.lcmp, 1) := by decide +kernel
theorem dC_69 : decode prog_45_method_1_code 69 = .ok (.ifCond .le 7, 3) := by decide +kernel
set_option maxRecDepth 65536 in
set_option maxHeartbeats 40000000 in
theorem m_ctor2 (l : Launch) (Z : State) (a0 : Array Value) (hw : ∀ d ∈ tables_1, d.before a0 Z = true) (f0 f1 c0 c1 : Int64) (a f k : Addr) (h : Heap) (B : 0 ≤ f0.toInt ∧ f1.toInt < 4611686018427388404 ∧ 1 ≤ c0.toInt ∧ c0.toInt ≤ 16 ∧ 1 ≤ c1.toInt ∧ c1.toInt ≤ 16 ∧ f0.toInt + c0.toInt < f1.toInt) (E : Exa Z h a "com/example/keelstone/keelstone/store/Runs") (F1 : Fld Z h a "com/example/keelstone/keelstone/store/Runs" "firsts" "[J" .null) (F2 : Fld Z h a "com/example/keelstone/keelstone/store/Runs" "counts" "[J" .null) (F3 : Fld Z h a "com/example/keelstone/keelstone/store/Runs" "starts" "[J" .null) (F4 : Fld Z h a "com/example/keelstone/keelstone/store/Runs" "blocks" "J" (.long (0 : Int64))) (Af : Av Z h f .long [(.long f0), (.long f1)]) (Ak : Av Z h k .long [(.long c0), (.long c1)]) (nf : f ≠ a) (nk : k ≠ a) :
    MetW false l Z [] (⟨"com/example/keelstone/keelstone/store/Runs", "<init>", "([J[J)V"⟩ : MethodName) prog_45_method_1_code 8 none [] ({ frames := 1, cells := 1, slots := 2, locals := 14 } : Room) #[(.ref a), (.ref f), (.ref k)] [a] h (fun v h' => v = none ∧ ∃ t : Addr, h.size ≤ t ∧ Exa Z h' a "com/example/keelstone/keelstone/store/Runs" ∧ Fld Z h' a "com/example/keelstone/keelstone/store/Runs" "firsts" "[J" (.ref f) ∧ Fld Z h' a "com/example/keelstone/keelstone/store/Runs" "counts" "[J" (.ref k) ∧ Fld Z h' a "com/example/keelstone/keelstone/store/Runs" "starts" "[J" (.ref t) ∧ Fld Z h' a "com/example/keelstone/keelstone/store/Runs" "blocks" "J" (.long (((0 : Int64) + c0) + c1)) ∧ Av Z h' t .long [(.long (0 : Int64)), (.long ((0 : Int64) + c0))]) := by
  obtain ⟨b0, b1, p0, q0, p1, q1, r0⟩ := B
  have s0 : (f0 + c0).toInt = f0.toInt + c0.toInt := own_add (by omega) (by omega) (by omega) (by omega)
  have s1 : (f1 + c1).toInt = f1.toInt + c1.toInt := own_add (by omega) (by omega) (by omega) (by omega)
  have z0 : ¬ f0 < (0 : Int64) := by rw [Int64.lt_iff_toInt_lt, own_z64]; omega
  have g0 : (0 : Int64) < c0 := by rw [Int64.lt_iff_toInt_lt, own_z64]; omega
  have z1 : ¬ f1 < (0 : Int64) := by rw [Int64.lt_iff_toInt_lt, own_z64]; omega
  have g1 : (0 : Int64) < c1 := by rw [Int64.lt_iff_toInt_lt, own_z64]; omega
  have k0 : f0 + c0 < f1 := by rw [Int64.lt_iff_toInt_lt, s0]; omega
  refine MetW.of (Ls := #[.val (.ref a), .val (.ref f), .val (.ref k), .unset, .unset, .unset, .unset, .unset]) (a0 := a0) (by first | (simp [plainName, overriddenIn]; done) | decide +kernel) (fun m => by first | (simp [entryFrame, mkF, argsToLocals, Value.category]; done) | rfl) EW.nil (fun _ => rfl) (fun p e s m below meth c hs0 C => ?_)
  refine g_aloadN C dC_0 rfl rfl ?_
  refine g_objInit C dC_1 (hw _ (List.mem_of_getElem? (i := 10) rfl)) (hw _ (List.mem_of_getElem? (i := 11) rfl)) (hw _ (List.mem_of_getElem? (i := 12) rfl)) rfl (by decide) (Nat.le_of_ble_eq_true rfl) ?_
  refine g_aloadN C dC_4 rfl rfl ?_
  refine g_alen C dC_5 Af (z := (2 : Int32)) rfl ?_
  refine g_aloadN C dC_6 rfl rfl ?_
  refine g_alen C dC_7 Ak (z := (2 : Int32)) rfl ?_
  refine g_icmpT 28 C dC_8 (show (2 : Int32) = (2 : Int32) by decide) (by decide) (by decide) ?_
  refine g_aloadN C dC_28 rfl rfl ?_
  refine g_alen C dC_29 Af (z := (2 : Int32)) rfl ?_
  refine g_newarray_ (ad := "[J") 2 [(.long (0 : Int64)), (.long (0 : Int64))] C dC_30 (hw _ (List.mem_of_getElem? (i := 3) rfl)) (by decide) (by decide) (by decide) (by decide) (by decide) (by decide) (by decide) (fun a1 h2 e3 E4 l5 f6 f7 => ?_)
  have K8 := keep_ext E4
  refine g_astoreN #[.val (.ref a), .val (.ref f), .val (.ref k), .val (.ref a1), .unset, .unset, .unset, .unset] C dC_32 rfl rfl ?_
  refine g_lconst (0 : Int64) C dC_33 (by decide) ?_
  refine g_lstore #[.val (.ref a), .val (.ref f), .val (.ref k), .val (.ref a1), .val (.long (0 : Int64)), .second, .unset, .unset] C dC_34 rfl ?_
  refine g_iconst (0 : Int32) C dC_36 (by decide) ?_
  refine g_istore #[.val (.ref a), .val (.ref f), .val (.ref k), .val (.ref a1), .val (.long (0 : Int64)), .second, .val (.int (0 : Int32)), .unset] C dC_37 rfl ?_
  refine g_iload C dC_39 rfl ?_
  refine g_aloadN C dC_41 rfl rfl ?_
  have f9 := (Af.keep K8 nin0)
  refine g_alen C dC_42 f9 (z := (2 : Int32)) rfl ?_
  refine g_icmpF C dC_43 (show (0 : Int32) < (2 : Int32) by decide) ?_
  refine g_iload C dC_46 rfl ?_
  refine g_ifT 72 C dC_48 (show (0 : Int32) = (0 : Int32) by decide) (by decide) (by decide) ?_
  refine g_iconst (1 : Int32) C dC_72 (by decide) ?_
  refine g_goto 77 C dC_73 (by decide) (by decide) ?_
  refine g_istore #[.val (.ref a), .val (.ref f), .val (.ref k), .val (.ref a1), .val (.long (0 : Int64)), .second, .val (.int (0 : Int32)), .val (.int (1 : Int32))] C dC_77 rfl ?_
  refine g_aloadN C dC_79 rfl rfl ?_
  refine g_iload C dC_80 rfl ?_
  refine g_laload 0 C dC_82 f9 (by decide) (by decide) rfl ?_
  refine g_lconst (0 : Int64) C dC_83 (by decide) ?_
  refine g_lcmp C dC_84 ?_
  refine g_ifF C dC_85 (cl_lt_f z0) ?_
  refine g_aloadN C dC_88 rfl rfl ?_
  refine g_iload C dC_89 rfl ?_
  have f10 := (Ak.keep K8 nin0)
  refine g_laload 0 C dC_91 f10 (by decide) (by decide) rfl ?_
  refine g_lconst (0 : Int64) C dC_92 (by decide) ?_
  refine g_lcmp C dC_93 ?_
  refine g_ifF C dC_94 (cl_le_f g0) ?_
  refine g_iload C dC_97 rfl ?_
  refine g_ifT 125 C dC_99 (show ¬ (1 : Int32) = (0 : Int32) by decide) (by decide) (by decide) ?_
  refine g_aloadN C dC_125 rfl rfl ?_
  refine g_iload C dC_126 rfl ?_
  refine g_lload C dC_128 rfl ?_
  refine g_lastore 0 C dC_130 f7 (by decide) (by decide) (Nat.le_of_ble_eq_true rfl) (List.mem_of_getElem? (i := 0) rfl) (fun h11 K12 z13 f14 => ?_)
  have f15 : Av Z h11 a1 .long [(.long (0 : Int64)), (.long (0 : Int64))] := f14
  refine g_lload C dC_131 rfl ?_
  refine g_aloadN C dC_133 rfl rfl ?_
  refine g_iload C dC_134 rfl ?_
  have f16 := (f10.keep K12 (ninS (Nat.ne_of_lt (Nat.lt_of_lt_of_le Ak.lt (Nat.le_of_eq e3.symm))) nin0))
  refine g_laload 0 C dC_136 f16 (by decide) (by decide) rfl ?_
  refine g_ladd _ C dC_137 rfl ?_
  refine g_lstore #[.val (.ref a), .val (.ref f), .val (.ref k), .val (.ref a1), .val (.long ((0 : Int64) + c0)), .second, .val (.int (0 : Int32)), .val (.int (1 : Int32))] C dC_138 rfl ?_
  refine g_iinc (1 : Int32) #[.val (.ref a), .val (.ref f), .val (.ref k), .val (.ref a1), .val (.long ((0 : Int64) + c0)), .second, .val (.int (1 : Int32)), .val (.int (1 : Int32))] C dC_140 rfl (by decide) rfl ?_
  refine g_goto 39 C dC_143 (by decide) (by decide) ?_
  refine g_iload C dC_39 rfl ?_
  refine g_aloadN C dC_41 rfl rfl ?_
  have f17 := (f9.keep K12 (ninS (Nat.ne_of_lt (Nat.lt_of_lt_of_le Af.lt (Nat.le_of_eq e3.symm))) nin0))
  refine g_alen C dC_42 f17 (z := (2 : Int32)) rfl ?_
  refine g_icmpF C dC_43 (show (1 : Int32) < (2 : Int32) by decide) ?_
  refine g_iload C dC_46 rfl ?_
  refine g_ifF C dC_48 (show ¬ (1 : Int32) = (0 : Int32) by decide) ?_
  refine g_aloadN C dC_51 rfl rfl ?_
  refine g_iload C dC_52 rfl ?_
  refine g_laload 1 C dC_54 f17 (by decide) (by decide) rfl ?_
  refine g_aloadN C dC_55 rfl rfl ?_
  refine g_iload C dC_56 rfl ?_
  refine g_iconst (1 : Int32) C dC_58 (by decide) ?_
  refine g_isub (0 : Int32) C dC_59 (by decide) ?_
  refine g_laload 0 C dC_60 f17 (by decide) (by decide) rfl ?_
  refine g_aloadN C dC_61 rfl rfl ?_
  refine g_iload C dC_62 rfl ?_
  refine g_iconst (1 : Int32) C dC_64 (by decide) ?_
  refine g_isub (0 : Int32) C dC_65 (by decide) ?_
  refine g_laload 0 C dC_66 f16 (by decide) (by decide) rfl ?_
  refine g_ladd _ C dC_67 rfl ?_
  refine g_lcmp C dC_68 ?_
  refine g_ifF C dC_69 (cl_le_f k0) ?_
  refine g_iconst (1 : Int32) C dC_72 (by decide) ?_
  refine g_goto 77 C dC_73 (by decide) (by decide) ?_
  refine g_istore #[.val (.ref a), .val (.ref f), .val (.ref k), .val (.ref a1), .val (.long ((0 : Int64) + c0)), .second, .val (.int (1 : Int32)), .val (.int (1 : Int32))] C dC_77 rfl ?_
  refine g_aloadN C dC_79 rfl rfl ?_
  refine g_iload C dC_80 rfl ?_
  refine g_laload 1 C dC_82 f17 (by decide) (by decide) rfl ?_
  refine g_lconst (0 : Int64) C dC_83 (by decide) ?_
  refine g_lcmp C dC_84 ?_
  refine g_ifF C dC_85 (cl_lt_f z1) ?_
  refine g_aloadN C dC_88 rfl rfl ?_
  refine g_iload C dC_89 rfl ?_
  refine g_laload 1 C dC_91 f16 (by decide) (by decide) rfl ?_
  refine g_lconst (0 : Int64) C dC_92 (by decide) ?_
  refine g_lcmp C dC_93 ?_
  refine g_ifF C dC_94 (cl_le_f g1) ?_
  refine g_iload C dC_97 rfl ?_
  refine g_ifT 125 C dC_99 (show ¬ (1 : Int32) = (0 : Int32) by decide) (by decide) (by decide) ?_
  refine g_aloadN C dC_125 rfl rfl ?_
  refine g_iload C dC_126 rfl ?_
  refine g_lload C dC_128 rfl ?_
  refine g_lastore 1 C dC_130 f15 (by decide) (by decide) (Nat.le_of_ble_eq_true rfl) (List.mem_of_getElem? (i := 0) rfl) (fun h18 K19 z20 f21 => ?_)
  have f22 : Av Z h18 a1 .long [(.long (0 : Int64)), (.long ((0 : Int64) + c0))] := f21
  refine g_lload C dC_131 rfl ?_
  refine g_aloadN C dC_133 rfl rfl ?_
  refine g_iload C dC_134 rfl ?_
  have f23 := (f16.keep K19 (ninS (Nat.ne_of_lt (Nat.lt_of_lt_of_le Ak.lt (Nat.le_of_eq e3.symm))) nin0))
  refine g_laload 1 C dC_136 f23 (by decide) (by decide) rfl ?_
  refine g_ladd _ C dC_137 rfl ?_
  refine g_lstore #[.val (.ref a), .val (.ref f), .val (.ref k), .val (.ref a1), .val (.long (((0 : Int64) + c0) + c1)), .second, .val (.int (1 : Int32)), .val (.int (1 : Int32))] C dC_138 rfl ?_
  refine g_iinc (2 : Int32) #[.val (.ref a), .val (.ref f), .val (.ref k), .val (.ref a1), .val (.long (((0 : Int64) + c0) + c1)), .second, .val (.int (2 : Int32)), .val (.int (1 : Int32))] C dC_140 rfl (by decide) rfl ?_
  refine g_goto 39 C dC_143 (by decide) (by decide) ?_
  refine g_iload C dC_39 rfl ?_
  refine g_aloadN C dC_41 rfl rfl ?_
  have f24 := (f17.keep K19 (ninS (Nat.ne_of_lt (Nat.lt_of_lt_of_le Af.lt (Nat.le_of_eq e3.symm))) nin0))
  refine g_alen C dC_42 f24 (z := (2 : Int32)) rfl ?_
  refine g_icmpT 146 C dC_43 (show ¬ (2 : Int32) < (2 : Int32) by decide) (by decide) (by decide) ?_
  refine g_aloadN C dC_146 rfl rfl ?_
  refine g_aloadN C dC_147 rfl rfl ?_
  have f25 := (((F1.keep K8 nin0).keep K12 (ninS (Nat.ne_of_lt (Nat.lt_of_lt_of_le E.lt (Nat.le_of_eq e3.symm))) nin0)).keep K19 (ninS (Nat.ne_of_lt (Nat.lt_of_lt_of_le E.lt (Nat.le_of_eq e3.symm))) nin0))
  have f26 := (((E.keep K8).keep K12).keep K19)
  have f27 := (((F2.keep K8 nin0).keep K12 (ninS (Nat.ne_of_lt (Nat.lt_of_lt_of_le E.lt (Nat.le_of_eq e3.symm))) nin0)).keep K19 (ninS (Nat.ne_of_lt (Nat.lt_of_lt_of_le E.lt (Nat.le_of_eq e3.symm))) nin0))
  have f28 := (((F3.keep K8 nin0).keep K12 (ninS (Nat.ne_of_lt (Nat.lt_of_lt_of_le E.lt (Nat.le_of_eq e3.symm))) nin0)).keep K19 (ninS (Nat.ne_of_lt (Nat.lt_of_lt_of_le E.lt (Nat.le_of_eq e3.symm))) nin0))
  have f29 := (((F4.keep K8 nin0).keep K12 (ninS (Nat.ne_of_lt (Nat.lt_of_lt_of_le E.lt (Nat.le_of_eq e3.symm))) nin0)).keep K19 (ninS (Nat.ne_of_lt (Nat.lt_of_lt_of_le E.lt (Nat.le_of_eq e3.symm))) nin0))
  refine g_putfield (host := "") C dC_148 (Or.inl (hw _ (List.mem_of_getElem? (i := 13) rfl))) Via.refl f25 f26 (Or.inr ⟨(hw _ (List.mem_of_getElem? (i := 14) rfl)), rfl, rfl⟩) (hw _ (List.mem_of_getElem? (i := 5) rfl)) (ty := (.array .long)) (by decide) rfl rfl (List.mem_of_getElem? (i := 1) rfl) (fun h30 W31 K32 => ?_)
  have f33 := Fld.same W31 f25
  have f34 := Fld.other W31 f27 (Or.inr (slot_ne (Or.inr (hw _ (List.mem_of_getElem? (i := 16) rfl))) (Or.inr (hw _ (List.mem_of_getElem? (i := 14) rfl))) (by decide) (t := (.array .long)) (t' := (.array .long)) (by decide) (by decide)))
  have f35 := Fld.other W31 f28 (Or.inr (slot_ne (Or.inr (hw _ (List.mem_of_getElem? (i := 18) rfl))) (Or.inr (hw _ (List.mem_of_getElem? (i := 14) rfl))) (by decide) (t := (.array .long)) (t' := (.array .long)) (by decide) (by decide)))
  have f36 := Fld.other W31 f29 (Or.inr (slot_ne (Or.inr (hw _ (List.mem_of_getElem? (i := 20) rfl))) (Or.inr (hw _ (List.mem_of_getElem? (i := 14) rfl))) (by decide) (t := .long) (t' := (.array .long)) (by decide) (by decide)))
  refine g_aloadN C dC_151 rfl rfl ?_
  refine g_aloadN C dC_152 rfl rfl ?_
  have f37 := (f26.keep K32)
  refine g_putfield (host := "") C dC_153 (Or.inl (hw _ (List.mem_of_getElem? (i := 15) rfl))) Via.refl f34 f37 (Or.inr ⟨(hw _ (List.mem_of_getElem? (i := 16) rfl)), rfl, rfl⟩) (hw _ (List.mem_of_getElem? (i := 5) rfl)) (ty := (.array .long)) (by decide) rfl rfl (List.mem_of_getElem? (i := 1) rfl) (fun h38 W39 K40 => ?_)
  have f41 := Fld.same W39 f34
  have f42 := Fld.other W39 f33 (Or.inr (slot_ne (Or.inr (hw _ (List.mem_of_getElem? (i := 14) rfl))) (Or.inr (hw _ (List.mem_of_getElem? (i := 16) rfl))) (by decide) (t := (.array .long)) (t' := (.array .long)) (by decide) (by decide)))
  have f43 := Fld.other W39 f35 (Or.inr (slot_ne (Or.inr (hw _ (List.mem_of_getElem? (i := 18) rfl))) (Or.inr (hw _ (List.mem_of_getElem? (i := 16) rfl))) (by decide) (t := (.array .long)) (t' := (.array .long)) (by decide) (by decide)))
  have f44 := Fld.other W39 f36 (Or.inr (slot_ne (Or.inr (hw _ (List.mem_of_getElem? (i := 20) rfl))) (Or.inr (hw _ (List.mem_of_getElem? (i := 16) rfl))) (by decide) (t := .long) (t' := (.array .long)) (by decide) (by decide)))
  refine g_aloadN C dC_156 rfl rfl ?_
  refine g_aloadN C dC_157 rfl rfl ?_
  have f45 := (f37.keep K40)
  refine g_putfield (host := "") C dC_158 (Or.inl (hw _ (List.mem_of_getElem? (i := 17) rfl))) Via.refl f43 f45 (Or.inr ⟨(hw _ (List.mem_of_getElem? (i := 18) rfl)), rfl, rfl⟩) (hw _ (List.mem_of_getElem? (i := 5) rfl)) (ty := (.array .long)) (by decide) rfl rfl (List.mem_of_getElem? (i := 1) rfl) (fun h46 W47 K48 => ?_)
  have f49 := Fld.same W47 f43
  have f50 := Fld.other W47 f42 (Or.inr (slot_ne (Or.inr (hw _ (List.mem_of_getElem? (i := 14) rfl))) (Or.inr (hw _ (List.mem_of_getElem? (i := 18) rfl))) (by decide) (t := (.array .long)) (t' := (.array .long)) (by decide) (by decide)))
  have f51 := Fld.other W47 f41 (Or.inr (slot_ne (Or.inr (hw _ (List.mem_of_getElem? (i := 16) rfl))) (Or.inr (hw _ (List.mem_of_getElem? (i := 18) rfl))) (by decide) (t := (.array .long)) (t' := (.array .long)) (by decide) (by decide)))
  have f52 := Fld.other W47 f44 (Or.inr (slot_ne (Or.inr (hw _ (List.mem_of_getElem? (i := 20) rfl))) (Or.inr (hw _ (List.mem_of_getElem? (i := 18) rfl))) (by decide) (t := .long) (t' := (.array .long)) (by decide) (by decide)))
  refine g_aloadN C dC_161 rfl rfl ?_
  refine g_lload C dC_162 rfl ?_
  have f53 := (f45.keep K48)
  refine g_putfield (host := "") C dC_164 (Or.inl (hw _ (List.mem_of_getElem? (i := 19) rfl))) Via.refl f52 f53 (Or.inr ⟨(hw _ (List.mem_of_getElem? (i := 20) rfl)), rfl, rfl⟩) (hw _ (List.mem_of_getElem? (i := 5) rfl)) (ty := .long) (by decide) rfl rfl (List.mem_of_getElem? (i := 1) rfl) (fun h54 W55 K56 => ?_)
  have f57 := Fld.same W55 f52
  have f58 := Fld.other W55 f50 (Or.inr (slot_ne (Or.inr (hw _ (List.mem_of_getElem? (i := 14) rfl))) (Or.inr (hw _ (List.mem_of_getElem? (i := 20) rfl))) (by decide) (t := (.array .long)) (t' := .long) (by decide) (by decide)))
  have f59 := Fld.other W55 f51 (Or.inr (slot_ne (Or.inr (hw _ (List.mem_of_getElem? (i := 16) rfl))) (Or.inr (hw _ (List.mem_of_getElem? (i := 20) rfl))) (by decide) (t := (.array .long)) (t' := .long) (by decide) (by decide)))
  have f60 := Fld.other W55 f49 (Or.inr (slot_ne (Or.inr (hw _ (List.mem_of_getElem? (i := 18) rfl))) (Or.inr (hw _ (List.mem_of_getElem? (i := 20) rfl))) (by decide) (t := (.array .long)) (t' := .long) (by decide) (by decide)))
  have f61 := (f53.keep K56)
  have f62 := ((((f22.keep K32 (ninS (Nat.ne_of_gt (Nat.lt_of_lt_of_le E.lt (Nat.le_of_eq e3.symm))) nin0)).keep K40 (ninS (Nat.ne_of_gt (Nat.lt_of_lt_of_le E.lt (Nat.le_of_eq e3.symm))) nin0)).keep K48 (ninS (Nat.ne_of_gt (Nat.lt_of_lt_of_le E.lt (Nat.le_of_eq e3.symm))) nin0)).keep K56 (ninS (Nat.ne_of_gt (Nat.lt_of_lt_of_le E.lt (Nat.le_of_eq e3.symm))) nin0))
  exact g_retU C dC_167 ⟨rfl, a1, Nat.le_trans (Nat.le_refl _) (Nat.le_of_eq e3.symm), f61, f58, f59, f60, f57, f62⟩ (by decide) (by decide)
set_option maxRecDepth 65536 in
set_option maxHeartbeats 40000000 in
theorem m_ctor3 (l : Launch) (Z : State) (a0 : Array Value) (hw : ∀ d ∈ tables_1, d.before a0 Z = true) (f0 f1 f2 c0 c1 c2 : Int64) (a f k : Addr) (h : Heap) (B : 0 ≤ f0.toInt ∧ f2.toInt < 4611686018427388404 ∧ 1 ≤ c0.toInt ∧ c0.toInt ≤ 16 ∧ 1 ≤ c1.toInt ∧ c1.toInt ≤ 16 ∧ 1 ≤ c2.toInt ∧ c2.toInt ≤ 16 ∧ f0.toInt + c0.toInt < f1.toInt ∧ f1.toInt + c1.toInt < f2.toInt) (E : Exa Z h a "com/example/keelstone/keelstone/store/Runs") (F1 : Fld Z h a "com/example/keelstone/keelstone/store/Runs" "firsts" "[J" .null) (F2 : Fld Z h a "com/example/keelstone/keelstone/store/Runs" "counts" "[J" .null) (F3 : Fld Z h a "com/example/keelstone/keelstone/store/Runs" "starts" "[J" .null) (F4 : Fld Z h a "com/example/keelstone/keelstone/store/Runs" "blocks" "J" (.long (0 : Int64))) (Af : Av Z h f .long [(.long f0), (.long f1), (.long f2)]) (Ak : Av Z h k .long [(.long c0), (.long c1), (.long c2)]) (nf : f ≠ a) (nk : k ≠ a) :
    MetW false l Z [] (⟨"com/example/keelstone/keelstone/store/Runs", "<init>", "([J[J)V"⟩ : MethodName) prog_45_method_1_code 8 none [] ({ frames := 1, cells := 1, slots := 3, locals := 14 } : Room) #[(.ref a), (.ref f), (.ref k)] [a] h (fun v h' => v = none ∧ ∃ t : Addr, h.size ≤ t ∧ Exa Z h' a "com/example/keelstone/keelstone/store/Runs" ∧ Fld Z h' a "com/example/keelstone/keelstone/store/Runs" "firsts" "[J" (.ref f) ∧ Fld Z h' a "com/example/keelstone/keelstone/store/Runs" "counts" "[J" (.ref k) ∧ Fld Z h' a "com/example/keelstone/keelstone/store/Runs" "starts" "[J" (.ref t) ∧ Fld Z h' a "com/example/keelstone/keelstone/store/Runs" "blocks" "J" (.long ((((0 : Int64) + c0) + c1) + c2)) ∧ Av Z h' t .long [(.long (0 : Int64)), (.long ((0 : Int64) + c0)), (.long (((0 : Int64) + c0) + c1))]) := by
  obtain ⟨b0, b1, p0, q0, p1, q1, p2, q2, r0, r1⟩ := B
  have s0 : (f0 + c0).toInt = f0.toInt + c0.toInt := own_add (by omega) (by omega) (by omega) (by omega)
  have s1 : (f1 + c1).toInt = f1.toInt + c1.toInt := own_add (by omega) (by omega) (by omega) (by omega)
  have s2 : (f2 + c2).toInt = f2.toInt + c2.toInt := own_add (by omega) (by omega) (by omega) (by omega)
  have z0 : ¬ f0 < (0 : Int64) := by rw [Int64.lt_iff_toInt_lt, own_z64]; omega
  have g0 : (0 : Int64) < c0 := by rw [Int64.lt_iff_toInt_lt, own_z64]; omega
  have z1 : ¬ f1 < (0 : Int64) := by rw [Int64.lt_iff_toInt_lt, own_z64]; omega
  have g1 : (0 : Int64) < c1 := by rw [Int64.lt_iff_toInt_lt, own_z64]; omega
  have k0 : f0 + c0 < f1 := by rw [Int64.lt_iff_toInt_lt, s0]; omega
  have z2 : ¬ f2 < (0 : Int64) := by rw [Int64.lt_iff_toInt_lt, own_z64]; omega
  have g2 : (0 : Int64) < c2 := by rw [Int64.lt_iff_toInt_lt, own_z64]; omega
  have k1 : f1 + c1 < f2 := by rw [Int64.lt_iff_toInt_lt, s1]; omega
  refine MetW.of (Ls := #[.val (.ref a), .val (.ref f), .val (.ref k), .unset, .unset, .unset, .unset, .unset]) (a0 := a0) (by first | (simp [plainName, overriddenIn]; done) | decide +kernel) (fun m => by first | (simp [entryFrame, mkF, argsToLocals, Value.category]; done) | rfl) EW.nil (fun _ => rfl) (fun p e s m below meth c hs0 C => ?_)
  refine g_aloadN C dC_0 rfl rfl ?_
  refine g_objInit C dC_1 (hw _ (List.mem_of_getElem? (i := 10) rfl)) (hw _ (List.mem_of_getElem? (i := 11) rfl)) (hw _ (List.mem_of_getElem? (i := 12) rfl)) rfl (by decide) (Nat.le_of_ble_eq_true rfl) ?_
  refine g_aloadN C dC_4 rfl rfl ?_
  refine g_alen C dC_5 Af (z := (3 : Int32)) rfl ?_
  refine g_aloadN C dC_6 rfl rfl ?_
  refine g_alen C dC_7 Ak (z := (3 : Int32)) rfl ?_
  refine g_icmpT 28 C dC_8 (show (3 : Int32) = (3 : Int32) by decide) (by decide) (by decide) ?_
  refine g_aloadN C dC_28 rfl rfl ?_
  refine g_alen C dC_29 Af (z := (3 : Int32)) rfl ?_
  refine g_newarray_ (ad := "[J") 3 [(.long (0 : Int64)), (.long (0 : Int64)), (.long (0 : Int64))] C dC_30 (hw _ (List.mem_of_getElem? (i := 3) rfl)) (by decide) (by decide) (by decide) (by decide) (by decide) (by decide) (by decide) (fun a1 h2 e3 E4 l5 f6 f7 => ?_)
  have K8 := keep_ext E4
  refine g_astoreN #[.val (.ref a), .val (.ref f), .val (.ref k), .val (.ref a1), .unset, .unset, .unset, .unset] C dC_32 rfl rfl ?_
  refine g_lconst (0 : Int64) C dC_33 (by decide) ?_
  refine g_lstore #[.val (.ref a), .val (.ref f), .val (.ref k), .val (.ref a1), .val (.long (0 : Int64)), .second, .unset, .unset] C dC_34 rfl ?_
  refine g_iconst (0 : Int32) C dC_36 (by decide) ?_
  refine g_istore #[.val (.ref a), .val (.ref f), .val (.ref k), .val (.ref a1), .val (.long (0 : Int64)), .second, .val (.int (0 : Int32)), .unset] C dC_37 rfl ?_
  refine g_iload C dC_39 rfl ?_
  refine g_aloadN C dC_41 rfl rfl ?_
  have f9 := (Af.keep K8 nin0)
  refine g_alen C dC_42 f9 (z := (3 : Int32)) rfl ?_
  refine g_icmpF C dC_43 (show (0 : Int32) < (3 : Int32) by decide) ?_
  refine g_iload C dC_46 rfl ?_
  refine g_ifT 72 C dC_48 (show (0 : Int32) = (0 : Int32) by decide) (by decide) (by decide) ?_
  refine g_iconst (1 : Int32) C dC_72 (by decide) ?_
  refine g_goto 77 C dC_73 (by decide) (by decide) ?_
  refine g_istore #[.val (.ref a), .val (.ref f), .val (.ref k), .val (.ref a1), .val (.long (0 : Int64)), .second, .val (.int (0 : Int32)), .val (.int (1 : Int32))] C dC_77 rfl ?_
  refine g_aloadN C dC_79 rfl rfl ?_
  refine g_iload C dC_80 rfl ?_
  refine g_laload 0 C dC_82 f9 (by decide) (by decide) rfl ?_
  refine g_lconst (0 : Int64) C dC_83 (by decide) ?_
  refine g_lcmp C dC_84 ?_
  refine g_ifF C dC_85 (cl_lt_f z0) ?_
  refine g_aloadN C dC_88 rfl rfl ?_
  refine g_iload C dC_89 rfl ?_
  have f10 := (Ak.keep K8 nin0)
  refine g_laload 0 C dC_91 f10 (by decide) (by decide) rfl ?_
  refine g_lconst (0 : Int64) C dC_92 (by decide) ?_
  refine g_lcmp C dC_93 ?_
  refine g_ifF C dC_94 (cl_le_f g0) ?_
  refine g_iload C dC_97 rfl ?_
  refine g_ifT 125 C dC_99 (show ¬ (1 : Int32) = (0 : Int32) by decide) (by decide) (by decide) ?_
  refine g_aloadN C dC_125 rfl rfl ?_
  refine g_iload C dC_126 rfl ?_
  refine g_lload C dC_128 rfl ?_
  refine g_lastore 0 C dC_130 f7 (by decide) (by decide) (Nat.le_of_ble_eq_true rfl) (List.mem_of_getElem? (i := 0) rfl) (fun h11 K12 z13 f14 => ?_)
  have f15 : Av Z h11 a1 .long [(.long (0 : Int64)), (.long (0 : Int64)), (.long (0 : Int64))] := f14
  refine g_lload C dC_131 rfl ?_
  refine g_aloadN C dC_133 rfl rfl ?_
  refine g_iload C dC_134 rfl ?_
  have f16 := (f10.keep K12 (ninS (Nat.ne_of_lt (Nat.lt_of_lt_of_le Ak.lt (Nat.le_of_eq e3.symm))) nin0))
  refine g_laload 0 C dC_136 f16 (by decide) (by decide) rfl ?_
  refine g_ladd _ C dC_137 rfl ?_
  refine g_lstore #[.val (.ref a), .val (.ref f), .val (.ref k), .val (.ref a1), .val (.long ((0 : Int64) + c0)), .second, .val (.int (0 : Int32)), .val (.int (1 : Int32))] C dC_138 rfl ?_
  refine g_iinc (1 : Int32) #[.val (.ref a), .val (.ref f), .val (.ref k), .val (.ref a1), .val (.long ((0 : Int64) + c0)), .second, .val (.int (1 : Int32)), .val (.int (1 : Int32))] C dC_140 rfl (by decide) rfl ?_
  refine g_goto 39 C dC_143 (by decide) (by decide) ?_
  refine g_iload C dC_39 rfl ?_
  refine g_aloadN C dC_41 rfl rfl ?_
  have f17 := (f9.keep K12 (ninS (Nat.ne_of_lt (Nat.lt_of_lt_of_le Af.lt (Nat.le_of_eq e3.symm))) nin0))
  refine g_alen C dC_42 f17 (z := (3 : Int32)) rfl ?_
  refine g_icmpF C dC_43 (show (1 : Int32) < (3 : Int32) by decide) ?_
  refine g_iload C dC_46 rfl ?_
  refine g_ifF C dC_48 (show ¬ (1 : Int32) = (0 : Int32) by decide) ?_
  refine g_aloadN C dC_51 rfl rfl ?_
  refine g_iload C dC_52 rfl ?_
  refine g_laload 1 C dC_54 f17 (by decide) (by decide) rfl ?_
  refine g_aloadN C dC_55 rfl rfl ?_
  refine g_iload C dC_56 rfl ?_
  refine g_iconst (1 : Int32) C dC_58 (by decide) ?_
  refine g_isub (0 : Int32) C dC_59 (by decide) ?_
  refine g_laload 0 C dC_60 f17 (by decide) (by decide) rfl ?_
  refine g_aloadN C dC_61 rfl rfl ?_
  refine g_iload C dC_62 rfl ?_
  refine g_iconst (1 : Int32) C dC_64 (by decide) ?_
  refine g_isub (0 : Int32) C dC_65 (by decide) ?_
  refine g_laload 0 C dC_66 f16 (by decide) (by decide) rfl ?_
  refine g_ladd _ C dC_67 rfl ?_
  refine g_lcmp C dC_68 ?_
  refine g_ifF C dC_69 (cl_le_f k0) ?_
  refine g_iconst (1 : Int32) C dC_72 (by decide) ?_
  refine g_goto 77 C dC_73 (by decide) (by decide) ?_
  refine g_istore #[.val (.ref a), .val (.ref f), .val (.ref k), .val (.ref a1), .val (.long ((0 : Int64) + c0)), .second, .val (.int (1 : Int32)), .val (.int (1 : Int32))] C dC_77 rfl ?_
  refine g_aloadN C dC_79 rfl rfl ?_
  refine g_iload C dC_80 rfl ?_
  refine g_laload 1 C dC_82 f17 (by decide) (by decide) rfl ?_
  refine g_lconst (0 : Int64) C dC_83 (by decide) ?_
  refine g_lcmp C dC_84 ?_
  refine g_ifF C dC_85 (cl_lt_f z1) ?_
  refine g_aloadN C dC_88 rfl rfl ?_
  refine g_iload C dC_89 rfl ?_
  refine g_laload 1 C dC_91 f16 (by decide) (by decide) rfl ?_
  refine g_lconst (0 : Int64) C dC_92 (by decide) ?_
  refine g_lcmp C dC_93 ?_
  refine g_ifF C dC_94 (cl_le_f g1) ?_
  refine g_iload C dC_97 rfl ?_
  refine g_ifT 125 C dC_99 (show ¬ (1 : Int32) = (0 : Int32) by decide) (by decide) (by decide) ?_
  refine g_aloadN C dC_125 rfl rfl ?_
  refine g_iload C dC_126 rfl ?_
  refine g_lload C dC_128 rfl ?_
  refine g_lastore 1 C dC_130 f15 (by decide) (by decide) (Nat.le_of_ble_eq_true rfl) (List.mem_of_getElem? (i := 0) rfl) (fun h18 K19 z20 f21 => ?_)
  have f22 : Av Z h18 a1 .long [(.long (0 : Int64)), (.long ((0 : Int64) + c0)), (.long (0 : Int64))] := f21
  refine g_lload C dC_131 rfl ?_
  refine g_aloadN C dC_133 rfl rfl ?_
  refine g_iload C dC_134 rfl ?_
  have f23 := (f16.keep K19 (ninS (Nat.ne_of_lt (Nat.lt_of_lt_of_le Ak.lt (Nat.le_of_eq e3.symm))) nin0))
  refine g_laload 1 C dC_136 f23 (by decide) (by decide) rfl ?_
  refine g_ladd _ C dC_137 rfl ?_
  refine g_lstore #[.val (.ref a), .val (.ref f), .val (.ref k), .val (.ref a1), .val (.long (((0 : Int64) + c0) + c1)), .second, .val (.int (1 : Int32)), .val (.int (1 : Int32))] C dC_138 rfl ?_
  refine g_iinc (2 : Int32) #[.val (.ref a), .val (.ref f), .val (.ref k), .val (.ref a1), .val (.long (((0 : Int64) + c0) + c1)), .second, .val (.int (2 : Int32)), .val (.int (1 : Int32))] C dC_140 rfl (by decide) rfl ?_
  refine g_goto 39 C dC_143 (by decide) (by decide) ?_
  refine g_iload C dC_39 rfl ?_
  refine g_aloadN C dC_41 rfl rfl ?_
  have f24 := (f17.keep K19 (ninS (Nat.ne_of_lt (Nat.lt_of_lt_of_le Af.lt (Nat.le_of_eq e3.symm))) nin0))
  refine g_alen C dC_42 f24 (z := (3 : Int32)) rfl ?_
  refine g_icmpF C dC_43 (show (2 : Int32) < (3 : Int32) by decide) ?_
  refine g_iload C dC_46 rfl ?_
  refine g_ifF C dC_48 (show ¬ (2 : Int32) = (0 : Int32) by decide) ?_
  refine g_aloadN C dC_51 rfl rfl ?_
  refine g_iload C dC_52 rfl ?_
  refine g_laload 2 C dC_54 f24 (by decide) (by decide) rfl ?_
  refine g_aloadN C dC_55 rfl rfl ?_
  refine g_iload C dC_56 rfl ?_
  refine g_iconst (1 : Int32) C dC_58 (by decide) ?_
  refine g_isub (1 : Int32) C dC_59 (by decide) ?_
  refine g_laload 1 C dC_60 f24 (by decide) (by decide) rfl ?_
  refine g_aloadN C dC_61 rfl rfl ?_
  refine g_iload C dC_62 rfl ?_
  refine g_iconst (1 : Int32) C dC_64 (by decide) ?_
  refine g_isub (1 : Int32) C dC_65 (by decide) ?_
  refine g_laload 1 C dC_66 f23 (by decide) (by decide) rfl ?_
  refine g_ladd _ C dC_67 rfl ?_
  refine g_lcmp C dC_68 ?_
  refine g_ifF C dC_69 (cl_le_f k1) ?_
  refine g_iconst (1 : Int32) C dC_72 (by decide) ?_
  refine g_goto 77 C dC_73 (by decide) (by decide) ?_
  refine g_istore #[.val (.ref a), .val (.ref f), .val (.ref k), .val (.ref a1), .val (.long (((0 : Int64) + c0) + c1)), .second, .val (.int (2 : Int32)), .val (.int (1 : Int32))] C dC_77 rfl ?_
  refine g_aloadN C dC_79 rfl rfl ?_
  refine g_iload C dC_80 rfl ?_
  refine g_laload 2 C dC_82 f24 (by decide) (by decide) rfl ?_
  refine g_lconst (0 : Int64) C dC_83 (by decide) ?_
  refine g_lcmp C dC_84 ?_
  refine g_ifF C dC_85 (cl_lt_f z2) ?_
  refine g_aloadN C dC_88 rfl rfl ?_
  refine g_iload C dC_89 rfl ?_
  refine g_laload 2 C dC_91 f23 (by decide) (by decide) rfl ?_
  refine g_lconst (0 : Int64) C dC_92 (by decide) ?_
  refine g_lcmp C dC_93 ?_
  refine g_ifF C dC_94 (cl_le_f g2) ?_
  refine g_iload C dC_97 rfl ?_
  refine g_ifT 125 C dC_99 (show ¬ (1 : Int32) = (0 : Int32) by decide) (by decide) (by decide) ?_
  refine g_aloadN C dC_125 rfl rfl ?_
  refine g_iload C dC_126 rfl ?_
  refine g_lload C dC_128 rfl ?_
  refine g_lastore 2 C dC_130 f22 (by decide) (by decide) (Nat.le_of_ble_eq_true rfl) (List.mem_of_getElem? (i := 0) rfl) (fun h25 K26 z27 f28 => ?_)
  have f29 : Av Z h25 a1 .long [(.long (0 : Int64)), (.long ((0 : Int64) + c0)), (.long (((0 : Int64) + c0) + c1))] := f28
  refine g_lload C dC_131 rfl ?_
  refine g_aloadN C dC_133 rfl rfl ?_
  refine g_iload C dC_134 rfl ?_
  have f30 := (f23.keep K26 (ninS (Nat.ne_of_lt (Nat.lt_of_lt_of_le Ak.lt (Nat.le_of_eq e3.symm))) nin0))
  refine g_laload 2 C dC_136 f30 (by decide) (by decide) rfl ?_
  refine g_ladd _ C dC_137 rfl ?_
  refine g_lstore #[.val (.ref a), .val (.ref f), .val (.ref k), .val (.ref a1), .val (.long ((((0 : Int64) + c0) + c1) + c2)), .second, .val (.int (2 : Int32)), .val (.int (1 : Int32))] C dC_138 rfl ?_
  refine g_iinc (3 : Int32) #[.val (.ref a), .val (.ref f), .val (.ref k), .val (.ref a1), .val (.long ((((0 : Int64) + c0) + c1) + c2)), .second, .val (.int (3 : Int32)), .val (.int (1 : Int32))] C dC_140 rfl (by decide) rfl ?_
  refine g_goto 39 C dC_143 (by decide) (by decide) ?_
  refine g_iload C dC_39 rfl ?_
  refine g_aloadN C dC_41 rfl rfl ?_
  have f31 := (f24.keep K26 (ninS (Nat.ne_of_lt (Nat.lt_of_lt_of_le Af.lt (Nat.le_of_eq e3.symm))) nin0))
  refine g_alen C dC_42 f31 (z := (3 : Int32)) rfl ?_
  refine g_icmpT 146 C dC_43 (show ¬ (3 : Int32) < (3 : Int32) by decide) (by decide) (by decide) ?_
  refine g_aloadN C dC_146 rfl rfl ?_
  refine g_aloadN C dC_147 rfl rfl ?_
  have f32 := ((((F1.keep K8 nin0).keep K12 (ninS (Nat.ne_of_lt (Nat.lt_of_lt_of_le E.lt (Nat.le_of_eq e3.symm))) nin0)).keep K19 (ninS (Nat.ne_of_lt (Nat.lt_of_lt_of_le E.lt (Nat.le_of_eq e3.symm))) nin0)).keep K26 (ninS (Nat.ne_of_lt (Nat.lt_of_lt_of_le E.lt (Nat.le_of_eq e3.symm))) nin0))
  have f33 := ((((E.keep K8).keep K12).keep K19).keep K26)
  have f34 := ((((F2.keep K8 nin0).keep K12 (ninS (Nat.ne_of_lt (Nat.lt_of_lt_of_le E.lt (Nat.le_of_eq e3.symm))) nin0)).keep K19 (ninS (Nat.ne_of_lt (Nat.lt_of_lt_of_le E.lt (Nat.le_of_eq e3.symm))) nin0)).keep K26 (ninS (Nat.ne_of_lt (Nat.lt_of_lt_of_le E.lt (Nat.le_of_eq e3.symm))) nin0))
  have f35 := ((((F3.keep K8 nin0).keep K12 (ninS (Nat.ne_of_lt (Nat.lt_of_lt_of_le E.lt (Nat.le_of_eq e3.symm))) nin0)).keep K19 (ninS (Nat.ne_of_lt (Nat.lt_of_lt_of_le E.lt (Nat.le_of_eq e3.symm))) nin0)).keep K26 (ninS (Nat.ne_of_lt (Nat.lt_of_lt_of_le E.lt (Nat.le_of_eq e3.symm))) nin0))
  have f36 := ((((F4.keep K8 nin0).keep K12 (ninS (Nat.ne_of_lt (Nat.lt_of_lt_of_le E.lt (Nat.le_of_eq e3.symm))) nin0)).keep K19 (ninS (Nat.ne_of_lt (Nat.lt_of_lt_of_le E.lt (Nat.le_of_eq e3.symm))) nin0)).keep K26 (ninS (Nat.ne_of_lt (Nat.lt_of_lt_of_le E.lt (Nat.le_of_eq e3.symm))) nin0))
  refine g_putfield (host := "") C dC_148 (Or.inl (hw _ (List.mem_of_getElem? (i := 13) rfl))) Via.refl f32 f33 (Or.inr ⟨(hw _ (List.mem_of_getElem? (i := 14) rfl)), rfl, rfl⟩) (hw _ (List.mem_of_getElem? (i := 5) rfl)) (ty := (.array .long)) (by decide) rfl rfl (List.mem_of_getElem? (i := 1) rfl) (fun h37 W38 K39 => ?_)
  have f40 := Fld.same W38 f32
  have f41 := Fld.other W38 f34 (Or.inr (slot_ne (Or.inr (hw _ (List.mem_of_getElem? (i := 16) rfl))) (Or.inr (hw _ (List.mem_of_getElem? (i := 14) rfl))) (by decide) (t := (.array .long)) (t' := (.array .long)) (by decide) (by decide)))
  have f42 := Fld.other W38 f35 (Or.inr (slot_ne (Or.inr (hw _ (List.mem_of_getElem? (i := 18) rfl))) (Or.inr (hw _ (List.mem_of_getElem? (i := 14) rfl))) (by decide) (t := (.array .long)) (t' := (.array .long)) (by decide) (by decide)))
  have f43 := Fld.other W38 f36 (Or.inr (slot_ne (Or.inr (hw _ (List.mem_of_getElem? (i := 20) rfl))) (Or.inr (hw _ (List.mem_of_getElem? (i := 14) rfl))) (by decide) (t := .long) (t' := (.array .long)) (by decide) (by decide)))
  refine g_aloadN C dC_151 rfl rfl ?_
  refine g_aloadN C dC_152 rfl rfl ?_
  have f44 := (f33.keep K39)
  refine g_putfield (host := "") C dC_153 (Or.inl (hw _ (List.mem_of_getElem? (i := 15) rfl))) Via.refl f41 f44 (Or.inr ⟨(hw _ (List.mem_of_getElem? (i := 16) rfl)), rfl, rfl⟩) (hw _ (List.mem_of_getElem? (i := 5) rfl)) (ty := (.array .long)) (by decide) rfl rfl (List.mem_of_getElem? (i := 1) rfl) (fun h45 W46 K47 => ?_)
  have f48 := Fld.same W46 f41
  have f49 := Fld.other W46 f40 (Or.inr (slot_ne (Or.inr (hw _ (List.mem_of_getElem? (i := 14) rfl))) (Or.inr (hw _ (List.mem_of_getElem? (i := 16) rfl))) (by decide) (t := (.array .long)) (t' := (.array .long)) (by decide) (by decide)))
  have f50 := Fld.other W46 f42 (Or.inr (slot_ne (Or.inr (hw _ (List.mem_of_getElem? (i := 18) rfl))) (Or.inr (hw _ (List.mem_of_getElem? (i := 16) rfl))) (by decide) (t := (.array .long)) (t' := (.array .long)) (by decide) (by decide)))
  have f51 := Fld.other W46 f43 (Or.inr (slot_ne (Or.inr (hw _ (List.mem_of_getElem? (i := 20) rfl))) (Or.inr (hw _ (List.mem_of_getElem? (i := 16) rfl))) (by decide) (t := .long) (t' := (.array .long)) (by decide) (by decide)))
  refine g_aloadN C dC_156 rfl rfl ?_
  refine g_aloadN C dC_157 rfl rfl ?_
  have f52 := (f44.keep K47)
  refine g_putfield (host := "") C dC_158 (Or.inl (hw _ (List.mem_of_getElem? (i := 17) rfl))) Via.refl f50 f52 (Or.inr ⟨(hw _ (List.mem_of_getElem? (i := 18) rfl)), rfl, rfl⟩) (hw _ (List.mem_of_getElem? (i := 5) rfl)) (ty := (.array .long)) (by decide) rfl rfl (List.mem_of_getElem? (i := 1) rfl) (fun h53 W54 K55 => ?_)
  have f56 := Fld.same W54 f50
  have f57 := Fld.other W54 f49 (Or.inr (slot_ne (Or.inr (hw _ (List.mem_of_getElem? (i := 14) rfl))) (Or.inr (hw _ (List.mem_of_getElem? (i := 18) rfl))) (by decide) (t := (.array .long)) (t' := (.array .long)) (by decide) (by decide)))
  have f58 := Fld.other W54 f48 (Or.inr (slot_ne (Or.inr (hw _ (List.mem_of_getElem? (i := 16) rfl))) (Or.inr (hw _ (List.mem_of_getElem? (i := 18) rfl))) (by decide) (t := (.array .long)) (t' := (.array .long)) (by decide) (by decide)))
  have f59 := Fld.other W54 f51 (Or.inr (slot_ne (Or.inr (hw _ (List.mem_of_getElem? (i := 20) rfl))) (Or.inr (hw _ (List.mem_of_getElem? (i := 18) rfl))) (by decide) (t := .long) (t' := (.array .long)) (by decide) (by decide)))
  refine g_aloadN C dC_161 rfl rfl ?_
  refine g_lload C dC_162 rfl ?_
  have f60 := (f52.keep K55)
  refine g_putfield (host := "") C dC_164 (Or.inl (hw _ (List.mem_of_getElem? (i := 19) rfl))) Via.refl f59 f60 (Or.inr ⟨(hw _ (List.mem_of_getElem? (i := 20) rfl)), rfl, rfl⟩) (hw _ (List.mem_of_getElem? (i := 5) rfl)) (ty := .long) (by decide) rfl rfl (List.mem_of_getElem? (i := 1) rfl) (fun h61 W62 K63 => ?_)
  have f64 := Fld.same W62 f59
  have f65 := Fld.other W62 f57 (Or.inr (slot_ne (Or.inr (hw _ (List.mem_of_getElem? (i := 14) rfl))) (Or.inr (hw _ (List.mem_of_getElem? (i := 20) rfl))) (by decide) (t := (.array .long)) (t' := .long) (by decide) (by decide)))
  have f66 := Fld.other W62 f58 (Or.inr (slot_ne (Or.inr (hw _ (List.mem_of_getElem? (i := 16) rfl))) (Or.inr (hw _ (List.mem_of_getElem? (i := 20) rfl))) (by decide) (t := (.array .long)) (t' := .long) (by decide) (by decide)))
  have f67 := Fld.other W62 f56 (Or.inr (slot_ne (Or.inr (hw _ (List.mem_of_getElem? (i := 18) rfl))) (Or.inr (hw _ (List.mem_of_getElem? (i := 20) rfl))) (by decide) (t := (.array .long)) (t' := .long) (by decide) (by decide)))
  have f68 := (f60.keep K63)
  have f69 := ((((f29.keep K39 (ninS (Nat.ne_of_gt (Nat.lt_of_lt_of_le E.lt (Nat.le_of_eq e3.symm))) nin0)).keep K47 (ninS (Nat.ne_of_gt (Nat.lt_of_lt_of_le E.lt (Nat.le_of_eq e3.symm))) nin0)).keep K55 (ninS (Nat.ne_of_gt (Nat.lt_of_lt_of_le E.lt (Nat.le_of_eq e3.symm))) nin0)).keep K63 (ninS (Nat.ne_of_gt (Nat.lt_of_lt_of_le E.lt (Nat.le_of_eq e3.symm))) nin0))
  exact g_retU C dC_167 ⟨rfl, a1, Nat.le_trans (Nat.le_refl _) (Nat.le_of_eq e3.symm), f68, f65, f66, f67, f64, f69⟩ (by decide) (by decide)
theorem dB_0 : decode jdk_65_method_56_code 0 = .ok (.iload_n 1, 1) := by decide +kernel
theorem dB_1 : decode jdk_65_method_56_code 1 = .ok (.istore 5, 2) := by decide +kernel
theorem dB_3 : decode jdk_65_method_56_code 3 = .ok (.iload_n 2, 1) := by decide +kernel
theorem dB_4 : decode jdk_65_method_56_code 4 = .ok (.iconst 1, 1) := by decide +kernel
theorem dB_5 : decode jdk_65_method_56_code 5 = .ok (.isub, 1) := by decide +kernel
theorem dB_6 : decode jdk_65_method_56_code 6 = .ok (.istore 6, 2) := by decide +kernel
theorem dB_8 : decode jdk_65_method_56_code 8 = .ok (.iload 5, 2) := by decide +kernel
theorem dB_10 : decode jdk_65_method_56_code 10 = .ok (.iload 6, 2) := by decide +kernel
theorem dB_12 : decode jdk_65_method_56_code 12 = .ok (.if_icmp .gt 56, 3) := by decide +kernel
theorem dB_68 : decode jdk_65_method_56_code 68 = .ok (.iload 5, 2) := by decide +kernel
theorem dB_70 : decode jdk_65_method_56_code 70 = .ok (.iconst 1, 1) := by decide +kernel
theorem dB_71 : decode jdk_65_method_56_code 71 = .ok (.iadd, 1) := by decide +kernel
theorem dB_72 : decode jdk_65_method_56_code 72 = .ok (.ineg, 1) := by decide +kernel
theorem dB_73 : decode jdk_65_method_56_code 73 = .ok (.ireturn, 1) := by decide +kernel
set_option maxRecDepth 65536 in
set_option maxHeartbeats 40000000 in
theorem m_bs0_0 (l : Launch) (Z : State) (a0 : Array Value) (hw : ∀ d ∈ tables_1, d.before a0 Z = true) (key : Int64) (f : Addr) (h : Heap) (Af : Av Z h f .long []) :
    MetW false l Z [] (⟨"java/util/Arrays", "binarySearch0", "([JIIJ)I"⟩ : MethodName) jdk_65_method_56_code 10 (Option.some Jvm.ClassFile.FieldType.int) [] ({ frames := 0, cells := 0, slots := 0, locals := 0 } : Room) #[(.ref f), (.int (0 : Int32)), (.int (0 : Int32)), (.long key)] [] h (fun v h' => ∃ r : Int32, v = some (.int r) ∧ ((r = (-1 : Int32)))) := by
  refine MetW.of (Ls := #[.val (.ref f), .val (.int (0 : Int32)), .val (.int (0 : Int32)), .val (.long key), .second, .unset, .unset, .unset, .unset, .unset]) (a0 := a0) (by first | (simp [plainName, overriddenIn]; done) | decide +kernel) (fun m => by first | (simp [entryFrame, mkF, argsToLocals, Value.category]; done) | rfl) EW.nil (fun _ => rfl) (fun p e s m below meth c hs0 C => ?_)
  refine g_iloadN C dB_0 rfl ?_
  refine g_istore #[.val (.ref f), .val (.int (0 : Int32)), .val (.int (0 : Int32)), .val (.long key), .second, .val (.int (0 : Int32)), .unset, .unset, .unset, .unset] C dB_1 rfl ?_
  refine g_iloadN C dB_3 rfl ?_
  refine g_iconst (1 : Int32) C dB_4 (by decide) ?_
  refine g_isub (-1 : Int32) C dB_5 (by decide) ?_
  refine g_istore #[.val (.ref f), .val (.int (0 : Int32)), .val (.int (0 : Int32)), .val (.long key), .second, .val (.int (0 : Int32)), .val (.int (-1 : Int32)), .unset, .unset, .unset] C dB_6 rfl ?_
  refine g_iload C dB_8 rfl ?_
  refine g_iload C dB_10 rfl ?_
  refine g_icmpT 68 C dB_12 (show (-1 : Int32) < (0 : Int32) by decide) (by decide) (by decide) ?_
  refine g_iload C dB_68 rfl ?_
  refine g_iconst (1 : Int32) C dB_70 (by decide) ?_
  refine g_iadd (1 : Int32) C dB_71 (by decide) ?_
  refine g_ineg (-1 : Int32) C dB_72 (by decide) ?_
  exact g_retI C dB_73 ⟨_, rfl, rfl⟩ (by decide) (by decide)
theorem dA_0 : decode jdk_65_method_54_code 0 = .ok (.aload_n 0, 1) := by decide +kernel
theorem dA_1 : decode jdk_65_method_54_code 1 = .ok (.iconst 0, 1) := by decide +kernel
theorem dA_2 : decode jdk_65_method_54_code 2 = .ok (.aload_n 0, 1) := by decide +kernel
theorem dA_3 : decode jdk_65_method_54_code 3 = .ok (.arraylength, 1) := by decide +kernel
theorem dA_4 : decode jdk_65_method_54_code 4 = .ok (.lload_n 1, 1) := by decide +kernel
theorem dA_5 : decode jdk_65_method_54_code 5 = .ok (.invokestatic 205, 3) := by decide +kernel
theorem dA_8 : decode jdk_65_method_54_code 8 = .ok (.ireturn, 1) := by decide +kernel
set_option maxRecDepth 65536 in
set_option maxHeartbeats 40000000 in
theorem m_bs_0 (l : Launch) (Z : State) (a0 : Array Value) (hw : ∀ d ∈ tables_1, d.before a0 Z = true) (key : Int64) (f : Addr) (h : Heap) (Af : Av Z h f .long []) :
    MetW false l Z [] (⟨"java/util/Arrays", "binarySearch", "([JJ)I"⟩ : MethodName) jdk_65_method_54_code 3 (Option.some Jvm.ClassFile.FieldType.int) [] ({ frames := 1, cells := 0, slots := 0, locals := 21 } : Room) #[(.ref f), (.long key)] [] h (fun v h' => ∃ r : Int32, v = some (.int r) ∧ ((r = (-1 : Int32)))) := by
  refine MetW.of (Ls := #[.val (.ref f), .val (.long key), .second]) (a0 := a0) (by first | (simp [plainName, overriddenIn]; done) | decide +kernel) (fun m => by first | (simp [entryFrame, mkF, argsToLocals, Value.category]; done) | rfl) EW.nil (fun _ => rfl) (fun p e s m below meth c hs0 C => ?_)
  refine g_aloadN C dA_0 rfl rfl ?_
  refine g_iconst (0 : Int32) C dA_1 (by decide) ?_
  refine g_aloadN C dA_2 rfl rfl ?_
  refine g_alen C dA_3 Af (z := (0 : Int32)) rfl ?_
  refine g_lloadN C dA_4 rfl ?_
  refine g_invokestatic [(.ref f), (.int (0 : Int32)), (.int (0 : Int32)), (.long key)] [] 0 C dA_5 (hw _ (List.mem_of_getElem? (i := 35) rfl)) (hw _ (List.mem_of_getElem? (i := 36) rfl)) (hw _ (List.mem_of_getElem? (i := 33) rfl)) (hw _ (List.mem_of_getElem? (i := 37) rfl)) (by decide) (m_bs0_0 l Z a0 hw  key f _ Af) (lenOf pd0 rfl) rfl rfl (Nat.le_of_ble_eq_true rfl) (by decide) (by decide) (by decide) (by decide) all0 (fun v1 h2 L3 q4 K5 => ?_)
  obtain ⟨r, rfl, hr⟩ := q4
  show Go _ _ _ _ _ _ _ _ _ _ _ _ _ _ _ _ _ _ _ _ _ _ (mkF _ 8 #[.val (.ref f), .val (.long key), .second] [(.int r)])
  exact g_retI C dA_8 ⟨r, rfl, hr⟩ (by decide) (by decide)
theorem dB_15 : decode jdk_65_method_56_code 15 = .ok (.iload 5, 2) := by decide +kernel
theorem dB_17 : decode jdk_65_method_56_code 17 = .ok (.iload 6, 2) := by decide +kernel
theorem dB_19 : decode jdk_65_method_56_code 19 = .ok (.iadd, 1) := by decide +kernel
theorem dB_20 : decode jdk_65_method_56_code 20 = .ok (.iconst 1, 1) := by decide +kernel
theorem dB_21 : decode jdk_65_method_56_code 21 = .ok (.iushr, 1) := by decide +kernel
theorem dB_22 : decode jdk_65_method_56_code 22 = .ok (.istore 7, 2) := by decide +kernel
theorem dB_24 : decode jdk_65_method_56_code 24 = .ok (.aload_n 0, 1) := by decide +kernel
theorem dB_25 : decode jdk_65_method_56_code 25 = .ok (.iload 7, 2) := by decide +kernel
theorem dB_27 : decode jdk_65_method_56_code 27 = .ok (.laload, 1) := by decide +kernel
theorem dB_28 : decode jdk_65_method_56_code 28 = .ok (.lstore 8, 2) := by decide +kernel
theorem dB_30 : decode jdk_65_method_56_code 30 = .ok (.lload 8, 2) := by decide +kernel
theorem dB_32 : decode jdk_65_method_56_code 32 = .ok (.lload_n 3, 1) := by decide +kernel
theorem dB_33 : decode jdk_65_method_56_code 33 = .ok (.lcmp, 1) := by decide +kernel
theorem dB_34 : decode jdk_65_method_56_code 34 = .ok (.ifCond .ge 12, 3) := by decide +kernel
theorem dB_37 : decode jdk_65_method_56_code 37 = .ok (.iload 7, 2) := by decide +kernel
theorem dB_39 : decode jdk_65_method_56_code 39 = .ok (.iconst 1, 1) := by decide +kernel
theorem dB_40 : decode jdk_65_method_56_code 40 = .ok (.iadd, 1) := by decide +kernel
theorem dB_41 : decode jdk_65_method_56_code 41 = .ok (.istore 5, 2) := by decide +kernel
theorem dB_43 : decode jdk_65_method_56_code 43 = .ok (.goto 22, 3) := by decide +kernel
theorem dB_46 : decode jdk_65_method_56_code 46 = .ok (.lload 8, 2) := by decide +kernel
theorem dB_48 : decode jdk_65_method_56_code 48 = .ok (.lload_n 3, 1) := by decide +kernel
theorem dB_49 : decode jdk_65_method_56_code 49 = .ok (.lcmp, 1) := by decide +kernel
theorem dB_50 : decode jdk_65_method_56_code 50 = .ok (.ifCond .le 12, 3) := by decide +kernel
theorem dB_53 : decode jdk_65_method_56_code 53 = .ok (.iload 7, 2) := by decide +kernel
theorem dB_55 : decode jdk_65_method_56_code 55 = .ok (.iconst 1, 1) := by decide +kernel
theorem dB_56 : decode jdk_65_method_56_code 56 = .ok (.isub, 1) := by decide +kernel
theorem dB_57 : decode jdk_65_method_56_code 57 = .ok (.istore 6, 2) := by decide +kernel
theorem dB_59 : decode jdk_65_method_56_code 59 = .ok (.goto 6, 3) := by decide +kernel
theorem dB_62 : decode jdk_65_method_56_code 62 = .ok (.iload 7, 2) := by decide +kernel
theorem dB_64 : decode jdk_65_method_56_code 64 = .ok (.ireturn, 1) := by decide +kernel
theorem dB_65 : decode jdk_65_method_56_code 65 = .ok (.goto (-57), 3) := by decide +kernel
set_option maxRecDepth 65536 in
set_option maxHeartbeats 40000000 in
theorem m_bs0_1 (l : Launch) (Z : State) (a0 : Array Value) (hw : ∀ d ∈ tables_1, d.before a0 Z = true) (f0 : Int64) (key : Int64) (f : Addr) (h : Heap) (Af : Av Z h f .long [(.long f0)]) :
    MetW false l Z [] (⟨"java/util/Arrays", "binarySearch0", "([JIIJ)I"⟩ : MethodName) jdk_65_method_56_code 10 (Option.some Jvm.ClassFile.FieldType.int) [] ({ frames := 0, cells := 0, slots := 0, locals := 0 } : Room) #[(.ref f), (.int (0 : Int32)), (.int (1 : Int32)), (.long key)] [] h (fun v h' => ∃ r : Int32, v = some (.int r) ∧ ((f0 < key ∧ r = (-2 : Int32)) ∨ (¬ f0 < key ∧ key < f0 ∧ r = (-1 : Int32)) ∨ (¬ f0 < key ∧ ¬ key < f0 ∧ r = (0 : Int32)))) := by
  refine MetW.of (Ls := #[.val (.ref f), .val (.int (0 : Int32)), .val (.int (1 : Int32)), .val (.long key), .second, .unset, .unset, .unset, .unset, .unset]) (a0 := a0) (by first | (simp [plainName, overriddenIn]; done) | decide +kernel) (fun m => by first | (simp [entryFrame, mkF, argsToLocals, Value.category]; done) | rfl) EW.nil (fun _ => rfl) (fun p e s m below meth c hs0 C => ?_)
  refine g_iloadN C dB_0 rfl ?_
  refine g_istore #[.val (.ref f), .val (.int (0 : Int32)), .val (.int (1 : Int32)), .val (.long key), .second, .val (.int (0 : Int32)), .unset, .unset, .unset, .unset] C dB_1 rfl ?_
  refine g_iloadN C dB_3 rfl ?_
  refine g_iconst (1 : Int32) C dB_4 (by decide) ?_
  refine g_isub (0 : Int32) C dB_5 (by decide) ?_
  refine g_istore #[.val (.ref f), .val (.int (0 : Int32)), .val (.int (1 : Int32)), .val (.long key), .second, .val (.int (0 : Int32)), .val (.int (0 : Int32)), .unset, .unset, .unset] C dB_6 rfl ?_
  refine g_iload C dB_8 rfl ?_
  refine g_iload C dB_10 rfl ?_
  refine g_icmpF C dB_12 (show ¬ (0 : Int32) < (0 : Int32) by decide) ?_
  refine g_iload C dB_15 rfl ?_
  refine g_iload C dB_17 rfl ?_
  refine g_iadd (0 : Int32) C dB_19 (by decide) ?_
  refine g_iconst (1 : Int32) C dB_20 (by decide) ?_
  refine g_iushr (0 : Int32) C dB_21 (by decide) ?_
  refine g_istore #[.val (.ref f), .val (.int (0 : Int32)), .val (.int (1 : Int32)), .val (.long key), .second, .val (.int (0 : Int32)), .val (.int (0 : Int32)), .val (.int (0 : Int32)), .unset, .unset] C dB_22 rfl ?_
  refine g_aloadN C dB_24 rfl rfl ?_
  refine g_iload C dB_25 rfl ?_
  refine g_laload 0 C dB_27 Af (by decide) (by decide) rfl ?_
  refine g_lstore #[.val (.ref f), .val (.int (0 : Int32)), .val (.int (1 : Int32)), .val (.long key), .second, .val (.int (0 : Int32)), .val (.int (0 : Int32)), .val (.int (0 : Int32)), .val (.long f0), .second] C dB_28 rfl ?_
  refine g_lload C dB_30 rfl ?_
  refine g_lloadN C dB_32 rfl ?_
  refine g_lcmp C dB_33 ?_
  by_cases c1 : f0 < key
  · skip
    refine g_ifF C dB_34 (cl_ge_f c1) ?_
    refine g_iload C dB_37 rfl ?_
    refine g_iconst (1 : Int32) C dB_39 (by decide) ?_
    refine g_iadd (1 : Int32) C dB_40 (by decide) ?_
    refine g_istore #[.val (.ref f), .val (.int (0 : Int32)), .val (.int (1 : Int32)), .val (.long key), .second, .val (.int (1 : Int32)), .val (.int (0 : Int32)), .val (.int (0 : Int32)), .val (.long f0), .second] C dB_41 rfl ?_
    refine g_goto 65 C dB_43 (by decide) (by decide) ?_
    refine g_goto 8 C dB_65 (by decide) (by decide) ?_
    refine g_iload C dB_8 rfl ?_
    refine g_iload C dB_10 rfl ?_
    refine g_icmpT 68 C dB_12 (show (0 : Int32) < (1 : Int32) by decide) (by decide) (by decide) ?_
    refine g_iload C dB_68 rfl ?_
    refine g_iconst (1 : Int32) C dB_70 (by decide) ?_
    refine g_iadd (2 : Int32) C dB_71 (by decide) ?_
    refine g_ineg (-2 : Int32) C dB_72 (by decide) ?_
    exact g_retI C dB_73 ⟨_, rfl, (Or.inl ⟨c1, rfl⟩)⟩ (by decide) (by decide)
  · skip
    refine g_ifT 46 C dB_34 (cl_ge_t c1) (by decide) (by decide) ?_
    refine g_lload C dB_46 rfl ?_
    refine g_lloadN C dB_48 rfl ?_
    refine g_lcmp C dB_49 ?_
    by_cases c2 : key < f0
    · skip
      refine g_ifF C dB_50 (cl_le_f c2) ?_
      refine g_iload C dB_53 rfl ?_
      refine g_iconst (1 : Int32) C dB_55 (by decide) ?_
      refine g_isub (-1 : Int32) C dB_56 (by decide) ?_
      refine g_istore #[.val (.ref f), .val (.int (0 : Int32)), .val (.int (1 : Int32)), .val (.long key), .second, .val (.int (0 : Int32)), .val (.int (-1 : Int32)), .val (.int (0 : Int32)), .val (.long f0), .second] C dB_57 rfl ?_
      refine g_goto 65 C dB_59 (by decide) (by decide) ?_
      refine g_goto 8 C dB_65 (by decide) (by decide) ?_
      refine g_iload C dB_8 rfl ?_
      refine g_iload C dB_10 rfl ?_
      refine g_icmpT 68 C dB_12 (show (-1 : Int32) < (0 : Int32) by decide) (by decide) (by decide) ?_
      refine g_iload C dB_68 rfl ?_
      refine g_iconst (1 : Int32) C dB_70 (by decide) ?_
      refine g_iadd (1 : Int32) C dB_71 (by decide) ?_
      refine g_ineg (-1 : Int32) C dB_72 (by decide) ?_
      exact g_retI C dB_73 ⟨_, rfl, (Or.inr (Or.inl ⟨c1, c2, rfl⟩))⟩ (by decide) (by decide)
    · skip
      refine g_ifT 62 C dB_50 (cl_le_t c2) (by decide) (by decide) ?_
      refine g_iload C dB_62 rfl ?_
      exact g_retI C dB_64 ⟨_, rfl, (Or.inr (Or.inr ⟨c1, c2, rfl⟩))⟩ (by decide) (by decide)
set_option maxRecDepth 65536 in
set_option maxHeartbeats 40000000 in
theorem m_bs_1 (l : Launch) (Z : State) (a0 : Array Value) (hw : ∀ d ∈ tables_1, d.before a0 Z = true) (f0 : Int64) (key : Int64) (f : Addr) (h : Heap) (Af : Av Z h f .long [(.long f0)]) :
    MetW false l Z [] (⟨"java/util/Arrays", "binarySearch", "([JJ)I"⟩ : MethodName) jdk_65_method_54_code 3 (Option.some Jvm.ClassFile.FieldType.int) [] ({ frames := 1, cells := 0, slots := 0, locals := 21 } : Room) #[(.ref f), (.long key)] [] h (fun v h' => ∃ r : Int32, v = some (.int r) ∧ ((f0 < key ∧ r = (-2 : Int32)) ∨ (¬ f0 < key ∧ key < f0 ∧ r = (-1 : Int32)) ∨ (¬ f0 < key ∧ ¬ key < f0 ∧ r = (0 : Int32)))) := by
  refine MetW.of (Ls := #[.val (.ref f), .val (.long key), .second]) (a0 := a0) (by first | (simp [plainName, overriddenIn]; done) | decide +kernel) (fun m => by first | (simp [entryFrame, mkF, argsToLocals, Value.category]; done) | rfl) EW.nil (fun _ => rfl) (fun p e s m below meth c hs0 C => ?_)
  refine g_aloadN C dA_0 rfl rfl ?_
  refine g_iconst (0 : Int32) C dA_1 (by decide) ?_
  refine g_aloadN C dA_2 rfl rfl ?_
  refine g_alen C dA_3 Af (z := (1 : Int32)) rfl ?_
  refine g_lloadN C dA_4 rfl ?_
  refine g_invokestatic [(.ref f), (.int (0 : Int32)), (.int (1 : Int32)), (.long key)] [] 0 C dA_5 (hw _ (List.mem_of_getElem? (i := 35) rfl)) (hw _ (List.mem_of_getElem? (i := 36) rfl)) (hw _ (List.mem_of_getElem? (i := 33) rfl)) (hw _ (List.mem_of_getElem? (i := 37) rfl)) (by decide) (m_bs0_1 l Z a0 hw f0 key f _ Af) (lenOf pd0 rfl) rfl rfl (Nat.le_of_ble_eq_true rfl) (by decide) (by decide) (by decide) (by decide) all0 (fun v1 h2 L3 q4 K5 => ?_)
  obtain ⟨r, rfl, hr⟩ := q4
  show Go _ _ _ _ _ _ _ _ _ _ _ _ _ _ _ _ _ _ _ _ _ _ (mkF _ 8 #[.val (.ref f), .val (.long key), .second] [(.int r)])
  exact g_retI C dA_8 ⟨r, rfl, hr⟩ (by decide) (by decide)
set_option maxRecDepth 65536 in
set_option maxHeartbeats 40000000 in
theorem m_bs0_2 (l : Launch) (Z : State) (a0 : Array Value) (hw : ∀ d ∈ tables_1, d.before a0 Z = true) (f0 f1 : Int64) (key : Int64) (f : Addr) (h : Heap) (Af : Av Z h f .long [(.long f0), (.long f1)]) :
    MetW false l Z [] (⟨"java/util/Arrays", "binarySearch0", "([JIIJ)I"⟩ : MethodName) jdk_65_method_56_code 10 (Option.some Jvm.ClassFile.FieldType.int) [] ({ frames := 0, cells := 0, slots := 0, locals := 0 } : Room) #[(.ref f), (.int (0 : Int32)), (.int (2 : Int32)), (.long key)] [] h (fun v h' => ∃ r : Int32, v = some (.int r) ∧ ((f0 < key ∧ f1 < key ∧ r = (-3 : Int32)) ∨ (f0 < key ∧ ¬ f1 < key ∧ key < f1 ∧ r = (-2 : Int32)) ∨ (f0 < key ∧ ¬ f1 < key ∧ ¬ key < f1 ∧ r = (1 : Int32)) ∨ (¬ f0 < key ∧ key < f0 ∧ r = (-1 : Int32)) ∨ (¬ f0 < key ∧ ¬ key < f0 ∧ r = (0 : Int32)))) := by
  refine MetW.of (Ls := #[.val (.ref f), .val (.int (0 : Int32)), .val (.int (2 : Int32)), .val (.long key), .second, .unset, .unset, .unset, .unset, .unset]) (a0 := a0) (by first | (simp [plainName, overriddenIn]; done) | decide +kernel) (fun m => by first | (simp [entryFrame, mkF, argsToLocals, Value.category]; done) | rfl) EW.nil (fun _ => rfl) (fun p e s m below meth c hs0 C => ?_)
  refine g_iloadN C dB_0 rfl ?_
  refine g_istore #[.val (.ref f), .val (.int (0 : Int32)), .val (.int (2 : Int32)), .val (.long key), .second, .val (.int (0 : Int32)), .unset, .unset, .unset, .unset] C dB_1 rfl ?_
  refine g_iloadN C dB_3 rfl ?_
  refine g_iconst (1 : Int32) C dB_4 (by decide) ?_
  refine g_isub (1 : Int32) C dB_5 (by decide) ?_
  refine g_istore #[.val (.ref f), .val (.int (0 : Int32)), .val (.int (2 : Int32)), .val (.long key), .second, .val (.int (0 : Int32)), .val (.int (1 : Int32)), .unset, .unset, .unset] C dB_6 rfl ?_
  refine g_iload C dB_8 rfl ?_
  refine g_iload C dB_10 rfl ?_
  refine g_icmpF C dB_12 (show ¬ (1 : Int32) < (0 : Int32) by decide) ?_
  refine g_iload C dB_15 rfl ?_
  refine g_iload C dB_17 rfl ?_
  refine g_iadd (1 : Int32) C dB_19 (by decide) ?_
  refine g_iconst (1 : Int32) C dB_20 (by decide) ?_
  refine g_iushr (0 : Int32) C dB_21 (by decide) ?_
  refine g_istore #[.val (.ref f), .val (.int (0 : Int32)), .val (.int (2 : Int32)), .val (.long key), .second, .val (.int (0 : Int32)), .val (.int (1 : Int32)), .val (.int (0 : Int32)), .unset, .unset] C dB_22 rfl ?_
  refine g_aloadN C dB_24 rfl rfl ?_
  refine g_iload C dB_25 rfl ?_
  refine g_laload 0 C dB_27 Af (by decide) (by decide) rfl ?_
  refine g_lstore #[.val (.ref f), .val (.int (0 : Int32)), .val (.int (2 : Int32)), .val (.long key), .second, .val (.int (0 : Int32)), .val (.int (1 : Int32)), .val (.int (0 : Int32)), .val (.long f0), .second] C dB_28 rfl ?_
  refine g_lload C dB_30 rfl ?_
  refine g_lloadN C dB_32 rfl ?_
  refine g_lcmp C dB_33 ?_
  by_cases c1 : f0 < key
  · skip
    refine g_ifF C dB_34 (cl_ge_f c1) ?_
    refine g_iload C dB_37 rfl ?_
    refine g_iconst (1 : Int32) C dB_39 (by decide) ?_
    refine g_iadd (1 : Int32) C dB_40 (by decide) ?_
    refine g_istore #[.val (.ref f), .val (.int (0 : Int32)), .val (.int (2 : Int32)), .val (.long key), .second, .val (.int (1 : Int32)), .val (.int (1 : Int32)), .val (.int (0 : Int32)), .val (.long f0), .second] C dB_41 rfl ?_
    refine g_goto 65 C dB_43 (by decide) (by decide) ?_
    refine g_goto 8 C dB_65 (by decide) (by decide) ?_
    refine g_iload C dB_8 rfl ?_
    refine g_iload C dB_10 rfl ?_
    refine g_icmpF C dB_12 (show ¬ (1 : Int32) < (1 : Int32) by decide) ?_
    refine g_iload C dB_15 rfl ?_
    refine g_iload C dB_17 rfl ?_
    refine g_iadd (2 : Int32) C dB_19 (by decide) ?_
    refine g_iconst (1 : Int32) C dB_20 (by decide) ?_
    refine g_iushr (1 : Int32) C dB_21 (by decide) ?_
    refine g_istore #[.val (.ref f), .val (.int (0 : Int32)), .val (.int (2 : Int32)), .val (.long key), .second, .val (.int (1 : Int32)), .val (.int (1 : Int32)), .val (.int (1 : Int32)), .val (.long f0), .second] C dB_22 rfl ?_
    refine g_aloadN C dB_24 rfl rfl ?_
    refine g_iload C dB_25 rfl ?_
    refine g_laload 1 C dB_27 Af (by decide) (by decide) rfl ?_
    refine g_lstore #[.val (.ref f), .val (.int (0 : Int32)), .val (.int (2 : Int32)), .val (.long key), .second, .val (.int (1 : Int32)), .val (.int (1 : Int32)), .val (.int (1 : Int32)), .val (.long f1), .second] C dB_28 rfl ?_
    refine g_lload C dB_30 rfl ?_
    refine g_lloadN C dB_32 rfl ?_
    refine g_lcmp C dB_33 ?_
    by_cases c2 : f1 < key
    · skip
      refine g_ifF C dB_34 (cl_ge_f c2) ?_
      refine g_iload C dB_37 rfl ?_
      refine g_iconst (1 : Int32) C dB_39 (by decide) ?_
      refine g_iadd (2 : Int32) C dB_40 (by decide) ?_
      refine g_istore #[.val (.ref f), .val (.int (0 : Int32)), .val (.int (2 : Int32)), .val (.long key), .second, .val (.int (2 : Int32)), .val (.int (1 : Int32)), .val (.int (1 : Int32)), .val (.long f1), .second] C dB_41 rfl ?_
      refine g_goto 65 C dB_43 (by decide) (by decide) ?_
      refine g_goto 8 C dB_65 (by decide) (by decide) ?_
      refine g_iload C dB_8 rfl ?_
      refine g_iload C dB_10 rfl ?_
      refine g_icmpT 68 C dB_12 (show (1 : Int32) < (2 : Int32) by decide) (by decide) (by decide) ?_
      refine g_iload C dB_68 rfl ?_
      refine g_iconst (1 : Int32) C dB_70 (by decide) ?_
      refine g_iadd (3 : Int32) C dB_71 (by decide) ?_
      refine g_ineg (-3 : Int32) C dB_72 (by decide) ?_
      exact g_retI C dB_73 ⟨_, rfl, (Or.inl ⟨c1, c2, rfl⟩)⟩ (by decide) (by decide)
    · skip
      refine g_ifT 46 C dB_34 (cl_ge_t c2) (by decide) (by decide) ?_
      refine g_lload C dB_46 rfl ?_
      refine g_lloadN C dB_48 rfl ?_
      refine g_lcmp C dB_49 ?_
      by_cases c3 : key < f1
      · skip
        refine g_ifF C dB_50 (cl_le_f c3) ?_
        refine g_iload C dB_53 rfl ?_
        refine g_iconst (1 : Int32) C dB_55 (by decide) ?_
        refine g_isub (0 : Int32) C dB_56 (by decide) ?_
        refine g_istore #[.val (.ref f), .val (.int (0 : Int32)), .val (.int (2 : Int32)), .val (.long key), .second, .val (.int (1 : Int32)), .val (.int (0 : Int32)), .val (.int (1 : Int32)), .val (.long f1), .second] C dB_57 rfl ?_
        refine g_goto 65 C dB_59 (by decide) (by decide) ?_
        refine g_goto 8 C dB_65 (by decide) (by decide) ?_
        refine g_iload C dB_8 rfl ?_
        refine g_iload C dB_10 rfl ?_
        refine g_icmpT 68 C dB_12 (show (0 : Int32) < (1 : Int32) by decide) (by decide) (by decide) ?_
        refine g_iload C dB_68 rfl ?_
        refine g_iconst (1 : Int32) C dB_70 (by decide) ?_
        refine g_iadd (2 : Int32) C dB_71 (by decide) ?_
        refine g_ineg (-2 : Int32) C dB_72 (by decide) ?_
        exact g_retI C dB_73 ⟨_, rfl, (Or.inr (Or.inl ⟨c1, c2, c3, rfl⟩))⟩ (by decide) (by decide)
      · skip
        refine g_ifT 62 C dB_50 (cl_le_t c3) (by decide) (by decide) ?_
        refine g_iload C dB_62 rfl ?_
        exact g_retI C dB_64 ⟨_, rfl, (Or.inr (Or.inr (Or.inl ⟨c1, c2, c3, rfl⟩)))⟩ (by decide) (by decide)
  · skip
    refine g_ifT 46 C dB_34 (cl_ge_t c1) (by decide) (by decide) ?_
    refine g_lload C dB_46 rfl ?_
    refine g_lloadN C dB_48 rfl ?_
    refine g_lcmp C dB_49 ?_
    by_cases c4 : key < f0
    · skip
      refine g_ifF C dB_50 (cl_le_f c4) ?_
      refine g_iload C dB_53 rfl ?_
      refine g_iconst (1 : Int32) C dB_55 (by decide) ?_
      refine g_isub (-1 : Int32) C dB_56 (by decide) ?_
      refine g_istore #[.val (.ref f), .val (.int (0 : Int32)), .val (.int (2 : Int32)), .val (.long key), .second, .val (.int (0 : Int32)), .val (.int (-1 : Int32)), .val (.int (0 : Int32)), .val (.long f0), .second] C dB_57 rfl ?_
      refine g_goto 65 C dB_59 (by decide) (by decide) ?_
      refine g_goto 8 C dB_65 (by decide) (by decide) ?_
      refine g_iload C dB_8 rfl ?_
      refine g_iload C dB_10 rfl ?_
      refine g_icmpT 68 C dB_12 (show (-1 : Int32) < (0 : Int32) by decide) (by decide) (by decide) ?_
      refine g_iload C dB_68 rfl ?_
      refine g_iconst (1 : Int32) C dB_70 (by decide) ?_
      refine g_iadd (1 : Int32) C dB_71 (by decide) ?_
      refine g_ineg (-1 : Int32) C dB_72 (by decide) ?_
      exact g_retI C dB_73 ⟨_, rfl, (Or.inr (Or.inr (Or.inr (Or.inl ⟨c1, c4, rfl⟩))))⟩ (by decide) (by decide)
    · skip
      refine g_ifT 62 C dB_50 (cl_le_t c4) (by decide) (by decide) ?_
      refine g_iload C dB_62 rfl ?_
      exact g_retI C dB_64 ⟨_, rfl, (Or.inr (Or.inr (Or.inr (Or.inr ⟨c1, c4, rfl⟩))))⟩ (by decide) (by decide)
set_option maxRecDepth 65536 in
set_option maxHeartbeats 40000000 in
theorem m_bs_2 (l : Launch) (Z : State) (a0 : Array Value) (hw : ∀ d ∈ tables_1, d.before a0 Z = true) (f0 f1 : Int64) (key : Int64) (f : Addr) (h : Heap) (Af : Av Z h f .long [(.long f0), (.long f1)]) :
    MetW false l Z [] (⟨"java/util/Arrays", "binarySearch", "([JJ)I"⟩ : MethodName) jdk_65_method_54_code 3 (Option.some Jvm.ClassFile.FieldType.int) [] ({ frames := 1, cells := 0, slots := 0, locals := 21 } : Room) #[(.ref f), (.long key)] [] h (fun v h' => ∃ r : Int32, v = some (.int r) ∧ ((f0 < key ∧ f1 < key ∧ r = (-3 : Int32)) ∨ (f0 < key ∧ ¬ f1 < key ∧ key < f1 ∧ r = (-2 : Int32)) ∨ (f0 < key ∧ ¬ f1 < key ∧ ¬ key < f1 ∧ r = (1 : Int32)) ∨ (¬ f0 < key ∧ key < f0 ∧ r = (-1 : Int32)) ∨ (¬ f0 < key ∧ ¬ key < f0 ∧ r = (0 : Int32)))) := by
  refine MetW.of (Ls := #[.val (.ref f), .val (.long key), .second]) (a0 := a0) (by first | (simp [plainName, overriddenIn]; done) | decide +kernel) (fun m => by first | (simp [entryFrame, mkF, argsToLocals, Value.category]; done) | rfl) EW.nil (fun _ => rfl) (fun p e s m below meth c hs0 C => ?_)
  refine g_aloadN C dA_0 rfl rfl ?_
  refine g_iconst (0 : Int32) C dA_1 (by decide) ?_
  refine g_aloadN C dA_2 rfl rfl ?_
  refine g_alen C dA_3 Af (z := (2 : Int32)) rfl ?_
  refine g_lloadN C dA_4 rfl ?_
  refine g_invokestatic [(.ref f), (.int (0 : Int32)), (.int (2 : Int32)), (.long key)] [] 0 C dA_5 (hw _ (List.mem_of_getElem? (i := 35) rfl)) (hw _ (List.mem_of_getElem? (i := 36) rfl)) (hw _ (List.mem_of_getElem? (i := 33) rfl)) (hw _ (List.mem_of_getElem? (i := 37) rfl)) (by decide) (m_bs0_2 l Z a0 hw f0 f1 key f _ Af) (lenOf pd0 rfl) rfl rfl (Nat.le_of_ble_eq_true rfl) (by decide) (by decide) (by decide) (by decide) all0 (fun v1 h2 L3 q4 K5 => ?_)
  obtain ⟨r, rfl, hr⟩ := q4
  show Go _ _ _ _ _ _ _ _ _ _ _ _ _ _ _ _ _ _ _ _ _ _ (mkF _ 8 #[.val (.ref f), .val (.long key), .second] [(.int r)])
  exact g_retI C dA_8 ⟨r, rfl, hr⟩ (by decide) (by decide)
set_option maxRecDepth 65536 in
set_option maxHeartbeats 40000000 in
theorem m_bs0_3 (l : Launch) (Z : State) (a0 : Array Value) (hw : ∀ d ∈ tables_1, d.before a0 Z = true) (f0 f1 f2 : Int64) (key : Int64) (f : Addr) (h : Heap) (Af : Av Z h f .long [(.long f0), (.long f1), (.long f2)]) :
    MetW false l Z [] (⟨"java/util/Arrays", "binarySearch0", "([JIIJ)I"⟩ : MethodName) jdk_65_method_56_code 10 (Option.some Jvm.ClassFile.FieldType.int) [] ({ frames := 0, cells := 0, slots := 0, locals := 0 } : Room) #[(.ref f), (.int (0 : Int32)), (.int (3 : Int32)), (.long key)] [] h (fun v h' => ∃ r : Int32, v = some (.int r) ∧ ((f1 < key ∧ f2 < key ∧ r = (-4 : Int32)) ∨ (f1 < key ∧ ¬ f2 < key ∧ key < f2 ∧ r = (-3 : Int32)) ∨ (f1 < key ∧ ¬ f2 < key ∧ ¬ key < f2 ∧ r = (2 : Int32)) ∨ (¬ f1 < key ∧ key < f1 ∧ f0 < key ∧ r = (-2 : Int32)) ∨ (¬ f1 < key ∧ key < f1 ∧ ¬ f0 < key ∧ key < f0 ∧ r = (-1 : Int32)) ∨ (¬ f1 < key ∧ key < f1 ∧ ¬ f0 < key ∧ ¬ key < f0 ∧ r = (0 : Int32)) ∨ (¬ f1 < key ∧ ¬ key < f1 ∧ r = (1 : Int32)))) := by
  refine MetW.of (Ls := #[.val (.ref f), .val (.int (0 : Int32)), .val (.int (3 : Int32)), .val (.long key), .second, .unset, .unset, .unset, .unset, .unset]) (a0 := a0) (by first | (simp [plainName, overriddenIn]; done) | decide +kernel) (fun m => by first | (simp [entryFrame, mkF, argsToLocals, Value.category]; done) | rfl) EW.nil (fun _ => rfl) (fun p e s m below meth c hs0 C => ?_)
  refine g_iloadN C dB_0 rfl ?_
  refine g_istore #[.val (.ref f), .val (.int (0 : Int32)), .val (.int (3 : Int32)), .val (.long key), .second, .val (.int (0 : Int32)), .unset, .unset, .unset, .unset] C dB_1 rfl ?_
  refine g_iloadN C dB_3 rfl ?_
  refine g_iconst (1 : Int32) C dB_4 (by decide) ?_
  refine g_isub (2 : Int32) C dB_5 (by decide) ?_
  refine g_istore #[.val (.ref f), .val (.int (0 : Int32)), .val (.int (3 : Int32)), .val (.long key), .second, .val (.int (0 : Int32)), .val (.int (2 : Int32)), .unset, .unset, .unset] C dB_6 rfl ?_
  refine g_iload C dB_8 rfl ?_
  refine g_iload C dB_10 rfl ?_
  refine g_icmpF C dB_12 (show ¬ (2 : Int32) < (0 : Int32) by decide) ?_
  refine g_iload C dB_15 rfl ?_
  refine g_iload C dB_17 rfl ?_
  refine g_iadd (2 : Int32) C dB_19 (by decide) ?_
  refine g_iconst (1 : Int32) C dB_20 (by decide) ?_
  refine g_iushr (1 : Int32) C dB_21 (by decide) ?_
  refine g_istore #[.val (.ref f), .val (.int (0 : Int32)), .val (.int (3 : Int32)), .val (.long key), .second, .val (.int (0 : Int32)), .val (.int (2 : Int32)), .val (.int (1 : Int32)), .unset, .unset] C dB_22 rfl ?_
  refine g_aloadN C dB_24 rfl rfl ?_
  refine g_iload C dB_25 rfl ?_
  refine g_laload 1 C dB_27 Af (by decide) (by decide) rfl ?_
  refine g_lstore #[.val (.ref f), .val (.int (0 : Int32)), .val (.int (3 : Int32)), .val (.long key), .second, .val (.int (0 : Int32)), .val (.int (2 : Int32)), .val (.int (1 : Int32)), .val (.long f1), .second] C dB_28 rfl ?_
  refine g_lload C dB_30 rfl ?_
  refine g_lloadN C dB_32 rfl ?_
  refine g_lcmp C dB_33 ?_
  by_cases c1 : f1 < key
  · skip
    refine g_ifF C dB_34 (cl_ge_f c1) ?_
    refine g_iload C dB_37 rfl ?_
    refine g_iconst (1 : Int32) C dB_39 (by decide) ?_
    refine g_iadd (2 : Int32) C dB_40 (by decide) ?_
    refine g_istore #[.val (.ref f), .val (.int (0 : Int32)), .val (.int (3 : Int32)), .val (.long key), .second, .val (.int (2 : Int32)), .val (.int (2 : Int32)), .val (.int (1 : Int32)), .val (.long f1), .second] C dB_41 rfl ?_
    refine g_goto 65 C dB_43 (by decide) (by decide) ?_
    refine g_goto 8 C dB_65 (by decide) (by decide) ?_
    refine g_iload C dB_8 rfl ?_
    refine g_iload C dB_10 rfl ?_
    refine g_icmpF C dB_12 (show ¬ (2 : Int32) < (2 : Int32) by decide) ?_
    refine g_iload C dB_15 rfl ?_
    refine g_iload C dB_17 rfl ?_
    refine g_iadd (4 : Int32) C dB_19 (by decide) ?_
    refine g_iconst (1 : Int32) C dB_20 (by decide) ?_
    refine g_iushr (2 : Int32) C dB_21 (by decide) ?_
    refine g_istore #[.val (.ref f), .val (.int (0 : Int32)), .val (.int (3 : Int32)), .val (.long key), .second, .val (.int (2 : Int32)), .val (.int (2 : Int32)), .val (.int (2 : Int32)), .val (.long f1), .second] C dB_22 rfl ?_
    refine g_aloadN C dB_24 rfl rfl ?_
    refine g_iload C dB_25 rfl ?_
    refine g_laload 2 C dB_27 Af (by decide) (by decide) rfl ?_
    refine g_lstore #[.val (.ref f), .val (.int (0 : Int32)), .val (.int (3 : Int32)), .val (.long key), .second, .val (.int (2 : Int32)), .val (.int (2 : Int32)), .val (.int (2 : Int32)), .val (.long f2), .second] C dB_28 rfl ?_
    refine g_lload C dB_30 rfl ?_
    refine g_lloadN C dB_32 rfl ?_
    refine g_lcmp C dB_33 ?_
    by_cases c2 : f2 < key
    · skip
      refine g_ifF C dB_34 (cl_ge_f c2) ?_
      refine g_iload C dB_37 rfl ?_
      refine g_iconst (1 : Int32) C dB_39 (by decide) ?_
      refine g_iadd (3 : Int32) C dB_40 (by decide) ?_
      refine g_istore #[.val (.ref f), .val (.int (0 : Int32)), .val (.int (3 : Int32)), .val (.long key), .second, .val (.int (3 : Int32)), .val (.int (2 : Int32)), .val (.int (2 : Int32)), .val (.long f2), .second] C dB_41 rfl ?_
      refine g_goto 65 C dB_43 (by decide) (by decide) ?_
      refine g_goto 8 C dB_65 (by decide) (by decide) ?_
      refine g_iload C dB_8 rfl ?_
      refine g_iload C dB_10 rfl ?_
      refine g_icmpT 68 C dB_12 (show (2 : Int32) < (3 : Int32) by decide) (by decide) (by decide) ?_
      refine g_iload C dB_68 rfl ?_
      refine g_iconst (1 : Int32) C dB_70 (by decide) ?_
      refine g_iadd (4 : Int32) C dB_71 (by decide) ?_
      refine g_ineg (-4 : Int32) C dB_72 (by decide) ?_
      exact g_retI C dB_73 ⟨_, rfl, (Or.inl ⟨c1, c2, rfl⟩)⟩ (by decide) (by decide)
    · skip
      refine g_ifT 46 C dB_34 (cl_ge_t c2) (by decide) (by decide) ?_
      refine g_lload C dB_46 rfl ?_
      refine g_lloadN C dB_48 rfl ?_
      refine g_lcmp C dB_49 ?_
      by_cases c3 : key < f2
      · skip
        refine g_ifF C dB_50 (cl_le_f c3) ?_
        refine g_iload C dB_53 rfl ?_
        refine g_iconst (1 : Int32) C dB_55 (by decide) ?_
        refine g_isub (1 : Int32) C dB_56 (by decide) ?_
        refine g_istore #[.val (.ref f), .val (.int (0 : Int32)), .val (.int (3 : Int32)), .val (.long key), .second, .val (.int (2 : Int32)), .val (.int (1 : Int32)), .val (.int (2 : Int32)), .val (.long f2), .second] C dB_57 rfl ?_
        refine g_goto 65 C dB_59 (by decide) (by decide) ?_
        refine g_goto 8 C dB_65 (by decide) (by decide) ?_
        refine g_iload C dB_8 rfl ?_
        refine g_iload C dB_10 rfl ?_
        refine g_icmpT 68 C dB_12 (show (1 : Int32) < (2 : Int32) by decide) (by decide) (by decide) ?_
        refine g_iload C dB_68 rfl ?_
        refine g_iconst (1 : Int32) C dB_70 (by decide) ?_
        refine g_iadd (3 : Int32) C dB_71 (by decide) ?_
        refine g_ineg (-3 : Int32) C dB_72 (by decide) ?_
        exact g_retI C dB_73 ⟨_, rfl, (Or.inr (Or.inl ⟨c1, c2, c3, rfl⟩))⟩ (by decide) (by decide)
      · skip
        refine g_ifT 62 C dB_50 (cl_le_t c3) (by decide) (by decide) ?_
        refine g_iload C dB_62 rfl ?_
        exact g_retI C dB_64 ⟨_, rfl, (Or.inr (Or.inr (Or.inl ⟨c1, c2, c3, rfl⟩)))⟩ (by decide) (by decide)
  · skip
    refine g_ifT 46 C dB_34 (cl_ge_t c1) (by decide) (by decide) ?_
    refine g_lload C dB_46 rfl ?_
    refine g_lloadN C dB_48 rfl ?_
    refine g_lcmp C dB_49 ?_
    by_cases c4 : key < f1
    · skip
      refine g_ifF C dB_50 (cl_le_f c4) ?_
      refine g_iload C dB_53 rfl ?_
      refine g_iconst (1 : Int32) C dB_55 (by decide) ?_
      refine g_isub (0 : Int32) C dB_56 (by decide) ?_
      refine g_istore #[.val (.ref f), .val (.int (0 : Int32)), .val (.int (3 : Int32)), .val (.long key), .second, .val (.int (0 : Int32)), .val (.int (0 : Int32)), .val (.int (1 : Int32)), .val (.long f1), .second] C dB_57 rfl ?_
      refine g_goto 65 C dB_59 (by decide) (by decide) ?_
      refine g_goto 8 C dB_65 (by decide) (by decide) ?_
      refine g_iload C dB_8 rfl ?_
      refine g_iload C dB_10 rfl ?_
      refine g_icmpF C dB_12 (show ¬ (0 : Int32) < (0 : Int32) by decide) ?_
      refine g_iload C dB_15 rfl ?_
      refine g_iload C dB_17 rfl ?_
      refine g_iadd (0 : Int32) C dB_19 (by decide) ?_
      refine g_iconst (1 : Int32) C dB_20 (by decide) ?_
      refine g_iushr (0 : Int32) C dB_21 (by decide) ?_
      refine g_istore #[.val (.ref f), .val (.int (0 : Int32)), .val (.int (3 : Int32)), .val (.long key), .second, .val (.int (0 : Int32)), .val (.int (0 : Int32)), .val (.int (0 : Int32)), .val (.long f1), .second] C dB_22 rfl ?_
      refine g_aloadN C dB_24 rfl rfl ?_
      refine g_iload C dB_25 rfl ?_
      refine g_laload 0 C dB_27 Af (by decide) (by decide) rfl ?_
      refine g_lstore #[.val (.ref f), .val (.int (0 : Int32)), .val (.int (3 : Int32)), .val (.long key), .second, .val (.int (0 : Int32)), .val (.int (0 : Int32)), .val (.int (0 : Int32)), .val (.long f0), .second] C dB_28 rfl ?_
      refine g_lload C dB_30 rfl ?_
      refine g_lloadN C dB_32 rfl ?_
      refine g_lcmp C dB_33 ?_
      by_cases c5 : f0 < key
      · skip
        refine g_ifF C dB_34 (cl_ge_f c5) ?_
        refine g_iload C dB_37 rfl ?_
        refine g_iconst (1 : Int32) C dB_39 (by decide) ?_
        refine g_iadd (1 : Int32) C dB_40 (by decide) ?_
        refine g_istore #[.val (.ref f), .val (.int (0 : Int32)), .val (.int (3 : Int32)), .val (.long key), .second, .val (.int (1 : Int32)), .val (.int (0 : Int32)), .val (.int (0 : Int32)), .val (.long f0), .second] C dB_41 rfl ?_
        refine g_goto 65 C dB_43 (by decide) (by decide) ?_
        refine g_goto 8 C dB_65 (by decide) (by decide) ?_
        refine g_iload C dB_8 rfl ?_
        refine g_iload C dB_10 rfl ?_
        refine g_icmpT 68 C dB_12 (show (0 : Int32) < (1 : Int32) by decide) (by decide) (by decide) ?_
        refine g_iload C dB_68 rfl ?_
        refine g_iconst (1 : Int32) C dB_70 (by decide) ?_
        refine g_iadd (2 : Int32) C dB_71 (by decide) ?_
        refine g_ineg (-2 : Int32) C dB_72 (by decide) ?_
        exact g_retI C dB_73 ⟨_, rfl, (Or.inr (Or.inr (Or.inr (Or.inl ⟨c1, c4, c5, rfl⟩))))⟩ (by decide) (by decide)
      · skip
        refine g_ifT 46 C dB_34 (cl_ge_t c5) (by decide) (by decide) ?_
        refine g_lload C dB_46 rfl ?_
        refine g_lloadN C dB_48 rfl ?_
        refine g_lcmp C dB_49 ?_
        by_cases c6 : key < f0
        · skip
          refine g_ifF C dB_50 (cl_le_f c6) ?_
          refine g_iload C dB_53 rfl ?_
          refine g_iconst (1 : Int32) C dB_55 (by decide) ?_
          refine g_isub (-1 : Int32) C dB_56 (by decide) ?_
          refine g_istore #[.val (.ref f), .val (.int (0 : Int32)), .val (.int (3 : Int32)), .val (.long key), .second, .val (.int (0 : Int32)), .val (.int (-1 : Int32)), .val (.int (0 : Int32)), .val (.long f0), .second] C dB_57 rfl ?_
          refine g_goto 65 C dB_59 (by decide) (by decide) ?_
          refine g_goto 8 C dB_65 (by decide) (by decide) ?_
          refine g_iload C dB_8 rfl ?_
          refine g_iload C dB_10 rfl ?_
          refine g_icmpT 68 C dB_12 (show (-1 : Int32) < (0 : Int32) by decide) (by decide) (by decide) ?_
          refine g_iload C dB_68 rfl ?_
          refine g_iconst (1 : Int32) C dB_70 (by decide) ?_
          refine g_iadd (1 : Int32) C dB_71 (by decide) ?_
          refine g_ineg (-1 : Int32) C dB_72 (by decide) ?_
          exact g_retI C dB_73 ⟨_, rfl, (Or.inr (Or.inr (Or.inr (Or.inr (Or.inl ⟨c1, c4, c5, c6, rfl⟩)))))⟩ (by decide) (by decide)
        · skip
          refine g_ifT 62 C dB_50 (cl_le_t c6) (by decide) (by decide) ?_
          refine g_iload C dB_62 rfl ?_
          exact g_retI C dB_64 ⟨_, rfl, (Or.inr (Or.inr (Or.inr (Or.inr (Or.inr (Or.inl ⟨c1, c4, c5, c6, rfl⟩))))))⟩ (by decide) (by decide)
    · skip
      refine g_ifT 62 C dB_50 (cl_le_t c4) (by decide) (by decide) ?_
      refine g_iload C dB_62 rfl ?_
      exact g_retI C dB_64 ⟨_, rfl, (Or.inr (Or.inr (Or.inr (Or.inr (Or.inr (Or.inr ⟨c1, c4, rfl⟩))))))⟩ (by decide) (by decide)
set_option maxRecDepth 65536 in
set_option maxHeartbeats 40000000 in
theorem m_bs_3 (l : Launch) (Z : State) (a0 : Array Value) (hw : ∀ d ∈ tables_1, d.before a0 Z = true) (f0 f1 f2 : Int64) (key : Int64) (f : Addr) (h : Heap) (Af : Av Z h f .long [(.long f0), (.long f1), (.long f2)]) :
    MetW false l Z [] (⟨"java/util/Arrays", "binarySearch", "([JJ)I"⟩ : MethodName) jdk_65_method_54_code 3 (Option.some Jvm.ClassFile.FieldType.int) [] ({ frames := 1, cells := 0, slots := 0, locals := 21 } : Room) #[(.ref f), (.long key)] [] h (fun v h' => ∃ r : Int32, v = some (.int r) ∧ ((f1 < key ∧ f2 < key ∧ r = (-4 : Int32)) ∨ (f1 < key ∧ ¬ f2 < key ∧ key < f2 ∧ r = (-3 : Int32)) ∨ (f1 < key ∧ ¬ f2 < key ∧ ¬ key < f2 ∧ r = (2 : Int32)) ∨ (¬ f1 < key ∧ key < f1 ∧ f0 < key ∧ r = (-2 : Int32)) ∨ (¬ f1 < key ∧ key < f1 ∧ ¬ f0 < key ∧ key < f0 ∧ r = (-1 : Int32)) ∨ (¬ f1 < key ∧ key < f1 ∧ ¬ f0 < key ∧ ¬ key < f0 ∧ r = (0 : Int32)) ∨ (¬ f1 < key ∧ ¬ key < f1 ∧ r = (1 : Int32)))) := by
  refine MetW.of (Ls := #[.val (.ref f), .val (.long key), .second]) (a0 := a0) (by first | (simp [plainName, overriddenIn]; done) | decide +kernel) (fun m => by first | (simp [entryFrame, mkF, argsToLocals, Value.category]; done) | rfl) EW.nil (fun _ => rfl) (fun p e s m below meth c hs0 C => ?_)
  refine g_aloadN C dA_0 rfl rfl ?_
  refine g_iconst (0 : Int32) C dA_1 (by decide) ?_
  refine g_aloadN C dA_2 rfl rfl ?_
  refine g_alen C dA_3 Af (z := (3 : Int32)) rfl ?_
  refine g_lloadN C dA_4 rfl ?_
  refine g_invokestatic [(.ref f), (.int (0 : Int32)), (.int (3 : Int32)), (.long key)] [] 0 C dA_5 (hw _ (List.mem_of_getElem? (i := 35) rfl)) (hw _ (List.mem_of_getElem? (i := 36) rfl)) (hw _ (List.mem_of_getElem? (i := 33) rfl)) (hw _ (List.mem_of_getElem? (i := 37) rfl)) (by decide) (m_bs0_3 l Z a0 hw f0 f1 f2 key f _ Af) (lenOf pd0 rfl) rfl rfl (Nat.le_of_ble_eq_true rfl) (by decide) (by decide) (by decide) (by decide) all0 (fun v1 h2 L3 q4 K5 => ?_)
  obtain ⟨r, rfl, hr⟩ := q4
  show Go _ _ _ _ _ _ _ _ _ _ _ _ _ _ _ _ _ _ _ _ _ _ (mkF _ 8 #[.val (.ref f), .val (.long key), .second] [(.int r)])
  exact g_retI C dA_8 ⟨r, rfl, hr⟩ (by decide) (by decide)
def rf0 (key : Int64) : Int32 := (0 : Int32)
def rf1 (f0 c0 : Int64) (key : Int64) : Int32 := (if key < f0 + c0 then (0 : Int32) else (1 : Int32))
def rf2 (f0 f1 c0 c1 : Int64) (key : Int64) : Int32 := (if key < f0 + c0 then (0 : Int32) else (if key < f1 + c1 then (1 : Int32) else (2 : Int32)))
def rf3 (f0 f1 f2 c0 c1 c2 : Int64) (key : Int64) : Int32 := (if key < f0 + c0 then (0 : Int32) else (if key < f1 + c1 then (1 : Int32) else (if key < f2 + c2 then (2 : Int32) else (3 : Int32))))
theorem dR_0 : decode prog_45_method_8_code 0 = .ok (.aload_n 0, 1) := by decide +kernel
theorem dR_1 : decode prog_45_method_8_code 1 = .ok (.getfield 19, 3) := by decide +kernel
theorem dR_4 : decode prog_45_method_8_code 4 = .ok (.lload_n 1, 1) := by decide +kernel
theorem dR_5 : decode prog_45_method_8_code 5 = .ok (.invokestatic 41, 3) := by decide +kernel
theorem dR_8 : decode prog_45_method_8_code 8 = .ok (.istore_n 3, 1) := by decide +kernel
theorem dR_9 : decode prog_45_method_8_code 9 = .ok (.iload_n 3, 1) := by decide +kernel
theorem dR_10 : decode prog_45_method_8_code 10 = .ok (.ifCond .lt 7, 3) := by decide +kernel
theorem dR_17 : decode prog_45_method_8_code 17 = .ok (.iload_n 3, 1) := by decide +kernel
theorem dR_18 : decode prog_45_method_8_code 18 = .ok (.ineg, 1) := by decide +kernel
theorem dR_19 : decode prog_45_method_8_code 19 = .ok (.iconst 2, 1) := by decide +kernel
theorem dR_20 : decode prog_45_method_8_code 20 = .ok (.isub, 1) := by decide +kernel
theorem dR_21 : decode prog_45_method_8_code 21 = .ok (.istore 4, 2) := by decide +kernel
theorem dR_23 : decode prog_45_method_8_code 23 = .ok (.iload 4, 2) := by decide +kernel
theorem dR_25 : decode prog_45_method_8_code 25 = .ok (.ifCond .lt 23, 3) := by decide +kernel
theorem dR_48 : decode prog_45_method_8_code 48 = .ok (.iinc 4 1, 3) := by decide +kernel
theorem dR_51 : decode prog_45_method_8_code 51 = .ok (.iload 4, 2) := by decide +kernel
theorem dR_53 : decode prog_45_method_8_code 53 = .ok (.ireturn, 1) := by decide +kernel
set_option maxRecDepth 65536 in
set_option maxHeartbeats 40000000 in
theorem m_rf_0 (l : Launch) (Z : State) (a0 : Array Value) (hw : ∀ d ∈ tables_1, d.before a0 Z = true) (key : Int64) (a f k : Addr) (h : Heap)  (F1 : Fld Z h a "com/example/keelstone/keelstone/store/Runs" "firsts" "[J" (.ref f)) (F2 : Fld Z h a "com/example/keelstone/keelstone/store/Runs" "counts" "[J" (.ref k)) (Af : Av Z h f .long []) (Ak : Av Z h k .long []) :
    MetW false l Z [] (⟨"com/example/keelstone/keelstone/store/Runs", "runFrom", "(J)I"⟩ : MethodName) prog_45_method_8_code 5 (Option.some Jvm.ClassFile.FieldType.int) [] ({ frames := 2, cells := 0, slots := 0, locals := 41 } : Room) #[(.ref a), (.long key)] [] h (fun v h' => v = some (.int (rf0  key))) := by
  refine MetW.of (Ls := #[.val (.ref a), .val (.long key), .second, .unset, .unset]) (a0 := a0) (by first | (simp [plainName, overriddenIn]; done) | decide +kernel) (fun m => by first | (simp [entryFrame, mkF, argsToLocals, Value.category]; done) | rfl) EW.nil (fun _ => rfl) (fun p e s m below meth c hs0 C => ?_)
  refine g_aloadN C dR_0 rfl rfl ?_
  refine g_getfield (host := "") C dR_1 (Or.inl (hw _ (List.mem_of_getElem? (i := 13) rfl))) Via.refl F1 ?_
  refine g_lloadN C dR_4 rfl ?_
  refine g_invokestatic [(.ref f), (.long key)] [] 0 C dR_5 (hw _ (List.mem_of_getElem? (i := 31) rfl)) (hw _ (List.mem_of_getElem? (i := 32) rfl)) (hw _ (List.mem_of_getElem? (i := 33) rfl)) (hw _ (List.mem_of_getElem? (i := 34) rfl)) (by decide) (m_bs_0 l Z a0 hw  key f _ Af) (lenOf pd1 rfl) rfl rfl (Nat.le_of_ble_eq_true rfl) (by decide) (by decide) (by decide) (by decide) all0 (fun v1 h2 L3 q4 K5 => ?_)
  obtain ⟨r, rfl, hr⟩ := q4
  obtain rfl := hr
  show Go _ _ _ _ _ _ _ _ _ _ _ _ _ _ _ _ _ _ _ _ _ _ (mkF _ 8 #[.val (.ref a), .val (.long key), .second, .unset, .unset] [(.int (-1 : Int32))])
  refine g_istoreN #[.val (.ref a), .val (.long key), .second, .val (.int (-1 : Int32)), .unset] C dR_8 rfl ?_
  refine g_iloadN C dR_9 rfl ?_
  refine g_ifT 17 C dR_10 (show (-1 : Int32) < (0 : Int32) by decide) (by decide) (by decide) ?_
  refine g_iloadN C dR_17 rfl ?_
  refine g_ineg (1 : Int32) C dR_18 (by decide) ?_
  refine g_iconst (2 : Int32) C dR_19 (by decide) ?_
  refine g_isub (-1 : Int32) C dR_20 (by decide) ?_
  refine g_istore #[.val (.ref a), .val (.long key), .second, .val (.int (-1 : Int32)), .val (.int (-1 : Int32))] C dR_21 rfl ?_
  refine g_iload C dR_23 rfl ?_
  refine g_ifT 48 C dR_25 (show (-1 : Int32) < (0 : Int32) by decide) (by decide) (by decide) ?_
  refine g_iinc (0 : Int32) #[.val (.ref a), .val (.long key), .second, .val (.int (-1 : Int32)), .val (.int (0 : Int32))] C dR_48 rfl (by decide) rfl ?_
  refine g_iload C dR_51 rfl ?_
  have hq : (0 : Int32) = rf0  key := by
    rfl
  exact g_retI C dR_53 (by rw [hq]) (by decide) (by decide)
theorem dR_13 : decode prog_45_method_8_code 13 = .ok (.iload_n 3, 1) := by decide +kernel
theorem dR_14 : decode prog_45_method_8_code 14 = .ok (.goto 7, 3) := by decide +kernel
theorem dR_28 : decode prog_45_method_8_code 28 = .ok (.lload_n 1, 1) := by decide +kernel
theorem dR_29 : decode prog_45_method_8_code 29 = .ok (.aload_n 0, 1) := by decide +kernel
theorem dR_30 : decode prog_45_method_8_code 30 = .ok (.getfield 19, 3) := by decide +kernel
theorem dR_33 : decode prog_45_method_8_code 33 = .ok (.iload 4, 2) := by decide +kernel
theorem dR_35 : decode prog_45_method_8_code 35 = .ok (.laload, 1) := by decide +kernel
theorem dR_36 : decode prog_45_method_8_code 36 = .ok (.aload_n 0, 1) := by decide +kernel
theorem dR_37 : decode prog_45_method_8_code 37 = .ok (.getfield 25, 3) := by decide +kernel
theorem dR_40 : decode prog_45_method_8_code 40 = .ok (.iload 4, 2) := by decide +kernel
theorem dR_42 : decode prog_45_method_8_code 42 = .ok (.laload, 1) := by decide +kernel
theorem dR_43 : decode prog_45_method_8_code 43 = .ok (.ladd, 1) := by decide +kernel
theorem dR_44 : decode prog_45_method_8_code 44 = .ok (.lcmp, 1) := by decide +kernel
theorem dR_45 : decode prog_45_method_8_code 45 = .ok (.ifCond .lt 6, 3) := by decide +kernel
set_option maxRecDepth 65536 in
set_option maxHeartbeats 40000000 in
theorem m_rf_1 (l : Launch) (Z : State) (a0 : Array Value) (hw : ∀ d ∈ tables_1, d.before a0 Z = true) (f0 c0 : Int64) (key : Int64) (a f k : Addr) (h : Heap) (B : 0 ≤ f0.toInt ∧ f0.toInt < 4611686018427388404 ∧ 1 ≤ c0.toInt ∧ c0.toInt ≤ 16) (F1 : Fld Z h a "com/example/keelstone/keelstone/store/Runs" "firsts" "[J" (.ref f)) (F2 : Fld Z h a "com/example/keelstone/keelstone/store/Runs" "counts" "[J" (.ref k)) (Af : Av Z h f .long [(.long f0)]) (Ak : Av Z h k .long [(.long c0)]) :
    MetW false l Z [] (⟨"com/example/keelstone/keelstone/store/Runs", "runFrom", "(J)I"⟩ : MethodName) prog_45_method_8_code 5 (Option.some Jvm.ClassFile.FieldType.int) [] ({ frames := 2, cells := 0, slots := 0, locals := 41 } : Room) #[(.ref a), (.long key)] [] h (fun v h' => v = some (.int (rf1 f0 c0 key))) := by
  obtain ⟨b0, b1, p0, q0⟩ := B
  have s0 : (f0 + c0).toInt = f0.toInt + c0.toInt := own_add (by omega) (by omega) (by omega) (by omega)
  refine MetW.of (Ls := #[.val (.ref a), .val (.long key), .second, .unset, .unset]) (a0 := a0) (by first | (simp [plainName, overriddenIn]; done) | decide +kernel) (fun m => by first | (simp [entryFrame, mkF, argsToLocals, Value.category]; done) | rfl) EW.nil (fun _ => rfl) (fun p e s m below meth c hs0 C => ?_)
  refine g_aloadN C dR_0 rfl rfl ?_
  refine g_getfield (host := "") C dR_1 (Or.inl (hw _ (List.mem_of_getElem? (i := 13) rfl))) Via.refl F1 ?_
  refine g_lloadN C dR_4 rfl ?_
  refine g_invokestatic [(.ref f), (.long key)] [] 0 C dR_5 (hw _ (List.mem_of_getElem? (i := 31) rfl)) (hw _ (List.mem_of_getElem? (i := 32) rfl)) (hw _ (List.mem_of_getElem? (i := 33) rfl)) (hw _ (List.mem_of_getElem? (i := 34) rfl)) (by decide) (m_bs_1 l Z a0 hw f0 key f _ Af) (lenOf pd1 rfl) rfl rfl (Nat.le_of_ble_eq_true rfl) (by decide) (by decide) (by decide) (by decide) all0 (fun v1 h2 L3 q4 K5 => ?_)
  obtain ⟨r, rfl, hr⟩ := q4
  rcases hr with ⟨y6, rfl⟩ | ⟨y7, y8, rfl⟩ | ⟨y9, y10, rfl⟩
  · skip
    show Go _ _ _ _ _ _ _ _ _ _ _ _ _ _ _ _ _ _ _ _ _ _ (mkF _ 8 #[.val (.ref a), .val (.long key), .second, .unset, .unset] [(.int (-2 : Int32))])
    refine g_istoreN #[.val (.ref a), .val (.long key), .second, .val (.int (-2 : Int32)), .unset] C dR_8 rfl ?_
    refine g_iloadN C dR_9 rfl ?_
    refine g_ifT 17 C dR_10 (show (-2 : Int32) < (0 : Int32) by decide) (by decide) (by decide) ?_
    refine g_iloadN C dR_17 rfl ?_
    refine g_ineg (2 : Int32) C dR_18 (by decide) ?_
    refine g_iconst (2 : Int32) C dR_19 (by decide) ?_
    refine g_isub (0 : Int32) C dR_20 (by decide) ?_
    refine g_istore #[.val (.ref a), .val (.long key), .second, .val (.int (-2 : Int32)), .val (.int (0 : Int32))] C dR_21 rfl ?_
    refine g_iload C dR_23 rfl ?_
    refine g_ifF C dR_25 (show ¬ (0 : Int32) < (0 : Int32) by decide) ?_
    refine g_lloadN C dR_28 rfl ?_
    refine g_aloadN C dR_29 rfl rfl ?_
    have f11 := (F1.keep K5 nin0)
    refine g_getfield (host := "") C dR_30 (Or.inl (hw _ (List.mem_of_getElem? (i := 13) rfl))) Via.refl f11 ?_
    refine g_iload C dR_33 rfl ?_
    have f12 := (Af.keep K5 nin0)
    refine g_laload 0 C dR_35 f12 (by decide) (by decide) rfl ?_
    refine g_aloadN C dR_36 rfl rfl ?_
    have f13 := (F2.keep K5 nin0)
    refine g_getfield (host := "") C dR_37 (Or.inl (hw _ (List.mem_of_getElem? (i := 15) rfl))) Via.refl f13 ?_
    refine g_iload C dR_40 rfl ?_
    have f14 := (Ak.keep K5 nin0)
    refine g_laload 0 C dR_42 f14 (by decide) (by decide) rfl ?_
    refine g_ladd _ C dR_43 rfl ?_
    refine g_lcmp C dR_44 ?_
    by_cases c15 : key < (f0 + c0)
    · skip
      refine g_ifT 51 C dR_45 (cl_lt_t c15) (by decide) (by decide) ?_
      refine g_iload C dR_51 rfl ?_
      have hq : (0 : Int32) = rf1 f0 c0 key := by
        simp only [Int64.lt_iff_toInt_lt, s0] at y6 c15
        simp only [rf1, Int64.lt_iff_toInt_lt, s0]
        repeat' split
        all_goals first | rfl | (exfalso; omega)
      exact g_retI C dR_53 (by rw [hq]) (by decide) (by decide)
    · skip
      refine g_ifF C dR_45 (cl_lt_f c15) ?_
      refine g_iinc (1 : Int32) #[.val (.ref a), .val (.long key), .second, .val (.int (-2 : Int32)), .val (.int (1 : Int32))] C dR_48 rfl (by decide) rfl ?_
      refine g_iload C dR_51 rfl ?_
      have hq : (1 : Int32) = rf1 f0 c0 key := by
        simp only [Int64.lt_iff_toInt_lt, s0] at y6 c15
        simp only [rf1, Int64.lt_iff_toInt_lt, s0]
        repeat' split
        all_goals first | rfl | (exfalso; omega)
      exact g_retI C dR_53 (by rw [hq]) (by decide) (by decide)
  · skip
    show Go _ _ _ _ _ _ _ _ _ _ _ _ _ _ _ _ _ _ _ _ _ _ (mkF _ 8 #[.val (.ref a), .val (.long key), .second, .unset, .unset] [(.int (-1 : Int32))])
    refine g_istoreN #[.val (.ref a), .val (.long key), .second, .val (.int (-1 : Int32)), .unset] C dR_8 rfl ?_
    refine g_iloadN C dR_9 rfl ?_
    refine g_ifT 17 C dR_10 (show (-1 : Int32) < (0 : Int32) by decide) (by decide) (by decide) ?_
    refine g_iloadN C dR_17 rfl ?_
    refine g_ineg (1 : Int32) C dR_18 (by decide) ?_
    refine g_iconst (2 : Int32) C dR_19 (by decide) ?_
    refine g_isub (-1 : Int32) C dR_20 (by decide) ?_
    refine g_istore #[.val (.ref a), .val (.long key), .second, .val (.int (-1 : Int32)), .val (.int (-1 : Int32))] C dR_21 rfl ?_
    refine g_iload C dR_23 rfl ?_
    refine g_ifT 48 C dR_25 (show (-1 : Int32) < (0 : Int32) by decide) (by decide) (by decide) ?_
    refine g_iinc (0 : Int32) #[.val (.ref a), .val (.long key), .second, .val (.int (-1 : Int32)), .val (.int (0 : Int32))] C dR_48 rfl (by decide) rfl ?_
    refine g_iload C dR_51 rfl ?_
    have hq : (0 : Int32) = rf1 f0 c0 key := by
      simp only [Int64.lt_iff_toInt_lt, s0] at y7 y8
      simp only [rf1, Int64.lt_iff_toInt_lt, s0]
      repeat' split
      all_goals first | rfl | (exfalso; omega)
    exact g_retI C dR_53 (by rw [hq]) (by decide) (by decide)
  · skip
    show Go _ _ _ _ _ _ _ _ _ _ _ _ _ _ _ _ _ _ _ _ _ _ (mkF _ 8 #[.val (.ref a), .val (.long key), .second, .unset, .unset] [(.int (0 : Int32))])
    refine g_istoreN #[.val (.ref a), .val (.long key), .second, .val (.int (0 : Int32)), .unset] C dR_8 rfl ?_
    refine g_iloadN C dR_9 rfl ?_
    refine g_ifF C dR_10 (show ¬ (0 : Int32) < (0 : Int32) by decide) ?_
    refine g_iloadN C dR_13 rfl ?_
    refine g_goto 21 C dR_14 (by decide) (by decide) ?_
    refine g_istore #[.val (.ref a), .val (.long key), .second, .val (.int (0 : Int32)), .val (.int (0 : Int32))] C dR_21 rfl ?_
    refine g_iload C dR_23 rfl ?_
    refine g_ifF C dR_25 (show ¬ (0 : Int32) < (0 : Int32) by decide) ?_
    refine g_lloadN C dR_28 rfl ?_
    refine g_aloadN C dR_29 rfl rfl ?_
    have f16 := (F1.keep K5 nin0)
    refine g_getfield (host := "") C dR_30 (Or.inl (hw _ (List.mem_of_getElem? (i := 13) rfl))) Via.refl f16 ?_
    refine g_iload C dR_33 rfl ?_
    have f17 := (Af.keep K5 nin0)
    refine g_laload 0 C dR_35 f17 (by decide) (by decide) rfl ?_
    refine g_aloadN C dR_36 rfl rfl ?_
    have f18 := (F2.keep K5 nin0)
    refine g_getfield (host := "") C dR_37 (Or.inl (hw _ (List.mem_of_getElem? (i := 15) rfl))) Via.refl f18 ?_
    refine g_iload C dR_40 rfl ?_
    have f19 := (Ak.keep K5 nin0)
    refine g_laload 0 C dR_42 f19 (by decide) (by decide) rfl ?_
    refine g_ladd _ C dR_43 rfl ?_
    refine g_lcmp C dR_44 ?_
    by_cases c20 : key < (f0 + c0)
    · skip
      refine g_ifT 51 C dR_45 (cl_lt_t c20) (by decide) (by decide) ?_
      refine g_iload C dR_51 rfl ?_
      have hq : (0 : Int32) = rf1 f0 c0 key := by
        simp only [Int64.lt_iff_toInt_lt, s0] at y9 y10 c20
        simp only [rf1, Int64.lt_iff_toInt_lt, s0]
        repeat' split
        all_goals first | rfl | (exfalso; omega)
      exact g_retI C dR_53 (by rw [hq]) (by decide) (by decide)
    · skip
      refine g_ifF C dR_45 (cl_lt_f c20) ?_
      refine g_iinc (1 : Int32) #[.val (.ref a), .val (.long key), .second, .val (.int (0 : Int32)), .val (.int (1 : Int32))] C dR_48 rfl (by decide) rfl ?_
      refine g_iload C dR_51 rfl ?_
      have hq : (1 : Int32) = rf1 f0 c0 key := by
        simp only [Int64.lt_iff_toInt_lt, s0] at y9 y10 c20
        simp only [rf1, Int64.lt_iff_toInt_lt, s0]
        repeat' split
        all_goals first | rfl | (exfalso; omega)
      exact g_retI C dR_53 (by rw [hq]) (by decide) (by decide)
set_option maxRecDepth 65536 in
set_option maxHeartbeats 40000000 in
theorem m_rf_2 (l : Launch) (Z : State) (a0 : Array Value) (hw : ∀ d ∈ tables_1, d.before a0 Z = true) (f0 f1 c0 c1 : Int64) (key : Int64) (a f k : Addr) (h : Heap) (B : 0 ≤ f0.toInt ∧ f1.toInt < 4611686018427388404 ∧ 1 ≤ c0.toInt ∧ c0.toInt ≤ 16 ∧ 1 ≤ c1.toInt ∧ c1.toInt ≤ 16 ∧ f0.toInt + c0.toInt < f1.toInt) (F1 : Fld Z h a "com/example/keelstone/keelstone/store/Runs" "firsts" "[J" (.ref f)) (F2 : Fld Z h a "com/example/keelstone/keelstone/store/Runs" "counts" "[J" (.ref k)) (Af : Av Z h f .long [(.long f0), (.long f1)]) (Ak : Av Z h k .long [(.long c0), (.long c1)]) :
    MetW false l Z [] (⟨"com/example/keelstone/keelstone/store/Runs", "runFrom", "(J)I"⟩ : MethodName) prog_45_method_8_code 5 (Option.some Jvm.ClassFile.FieldType.int) [] ({ frames := 2, cells := 0, slots := 0, locals := 41 } : Room) #[(.ref a), (.long key)] [] h (fun v h' => v = some (.int (rf2 f0 f1 c0 c1 key))) := by
  obtain ⟨b0, b1, p0, q0, p1, q1, r0⟩ := B
  have s0 : (f0 + c0).toInt = f0.toInt + c0.toInt := own_add (by omega) (by omega) (by omega) (by omega)
  have s1 : (f1 + c1).toInt = f1.toInt + c1.toInt := own_add (by omega) (by omega) (by omega) (by omega)
  refine MetW.of (Ls := #[.val (.ref a), .val (.long key), .second, .unset, .unset]) (a0 := a0) (by first | (simp [plainName, overriddenIn]; done) | decide +kernel) (fun m => by first | (simp [entryFrame, mkF, argsToLocals, Value.category]; done) | rfl) EW.nil (fun _ => rfl) (fun p e s m below meth c hs0 C => ?_)
  refine g_aloadN C dR_0 rfl rfl ?_
  refine g_getfield (host := "") C dR_1 (Or.inl (hw _ (List.mem_of_getElem? (i := 13) rfl))) Via.refl F1 ?_
  refine g_lloadN C dR_4 rfl ?_
  refine g_invokestatic [(.ref f), (.long key)] [] 0 C dR_5 (hw _ (List.mem_of_getElem? (i := 31) rfl)) (hw _ (List.mem_of_getElem? (i := 32) rfl)) (hw _ (List.mem_of_getElem? (i := 33) rfl)) (hw _ (List.mem_of_getElem? (i := 34) rfl)) (by decide) (m_bs_2 l Z a0 hw f0 f1 key f _ Af) (lenOf pd1 rfl) rfl rfl (Nat.le_of_ble_eq_true rfl) (by decide) (by decide) (by decide) (by decide) all0 (fun v1 h2 L3 q4 K5 => ?_)
  obtain ⟨r, rfl, hr⟩ := q4
  rcases hr with ⟨y6, y7, rfl⟩ | ⟨y8, y9, y10, rfl⟩ | ⟨y11, y12, y13, rfl⟩ | ⟨y14, y15, rfl⟩ | ⟨y16, y17, rfl⟩
  · skip
    show Go _ _ _ _ _ _ _ _ _ _ _ _ _ _ _ _ _ _ _ _ _ _ (mkF _ 8 #[.val (.ref a), .val (.long key), .second, .unset, .unset] [(.int (-3 : Int32))])
    refine g_istoreN #[.val (.ref a), .val (.long key), .second, .val (.int (-3 : Int32)), .unset] C dR_8 rfl ?_
    refine g_iloadN C dR_9 rfl ?_
    refine g_ifT 17 C dR_10 (show (-3 : Int32) < (0 : Int32) by decide) (by decide) (by decide) ?_
    refine g_iloadN C dR_17 rfl ?_
    refine g_ineg (3 : Int32) C dR_18 (by decide) ?_
    refine g_iconst (2 : Int32) C dR_19 (by decide) ?_
    refine g_isub (1 : Int32) C dR_20 (by decide) ?_
    refine g_istore #[.val (.ref a), .val (.long key), .second, .val (.int (-3 : Int32)), .val (.int (1 : Int32))] C dR_21 rfl ?_
    refine g_iload C dR_23 rfl ?_
    refine g_ifF C dR_25 (show ¬ (1 : Int32) < (0 : Int32) by decide) ?_
    refine g_lloadN C dR_28 rfl ?_
    refine g_aloadN C dR_29 rfl rfl ?_
    have f18 := (F1.keep K5 nin0)
    refine g_getfield (host := "") C dR_30 (Or.inl (hw _ (List.mem_of_getElem? (i := 13) rfl))) Via.refl f18 ?_
    refine g_iload C dR_33 rfl ?_
    have f19 := (Af.keep K5 nin0)
    refine g_laload 1 C dR_35 f19 (by decide) (by decide) rfl ?_
    refine g_aloadN C dR_36 rfl rfl ?_
    have f20 := (F2.keep K5 nin0)
    refine g_getfield (host := "") C dR_37 (Or.inl (hw _ (List.mem_of_getElem? (i := 15) rfl))) Via.refl f20 ?_
    refine g_iload C dR_40 rfl ?_
    have f21 := (Ak.keep K5 nin0)
    refine g_laload 1 C dR_42 f21 (by decide) (by decide) rfl ?_
    refine g_ladd _ C dR_43 rfl ?_
    refine g_lcmp C dR_44 ?_
    by_cases c22 : key < (f1 + c1)
    · skip
      refine g_ifT 51 C dR_45 (cl_lt_t c22) (by decide) (by decide) ?_
      refine g_iload C dR_51 rfl ?_
      have hq : (1 : Int32) = rf2 f0 f1 c0 c1 key := by
        simp only [Int64.lt_iff_toInt_lt, s0, s1] at y6 y7 c22
        simp only [rf2, Int64.lt_iff_toInt_lt, s0, s1]
        repeat' split
        all_goals first | rfl | (exfalso; omega)
      exact g_retI C dR_53 (by rw [hq]) (by decide) (by decide)
    · skip
      refine g_ifF C dR_45 (cl_lt_f c22) ?_
      refine g_iinc (2 : Int32) #[.val (.ref a), .val (.long key), .second, .val (.int (-3 : Int32)), .val (.int (2 : Int32))] C dR_48 rfl (by decide) rfl ?_
      refine g_iload C dR_51 rfl ?_
      have hq : (2 : Int32) = rf2 f0 f1 c0 c1 key := by
        simp only [Int64.lt_iff_toInt_lt, s0, s1] at y6 y7 c22
        simp only [rf2, Int64.lt_iff_toInt_lt, s0, s1]
        repeat' split
        all_goals first | rfl | (exfalso; omega)
      exact g_retI C dR_53 (by rw [hq]) (by decide) (by decide)
  · skip
    show Go _ _ _ _ _ _ _ _ _ _ _ _ _ _ _ _ _ _ _ _ _ _ (mkF _ 8 #[.val (.ref a), .val (.long key), .second, .unset, .unset] [(.int (-2 : Int32))])
    refine g_istoreN #[.val (.ref a), .val (.long key), .second, .val (.int (-2 : Int32)), .unset] C dR_8 rfl ?_
    refine g_iloadN C dR_9 rfl ?_
    refine g_ifT 17 C dR_10 (show (-2 : Int32) < (0 : Int32) by decide) (by decide) (by decide) ?_
    refine g_iloadN C dR_17 rfl ?_
    refine g_ineg (2 : Int32) C dR_18 (by decide) ?_
    refine g_iconst (2 : Int32) C dR_19 (by decide) ?_
    refine g_isub (0 : Int32) C dR_20 (by decide) ?_
    refine g_istore #[.val (.ref a), .val (.long key), .second, .val (.int (-2 : Int32)), .val (.int (0 : Int32))] C dR_21 rfl ?_
    refine g_iload C dR_23 rfl ?_
    refine g_ifF C dR_25 (show ¬ (0 : Int32) < (0 : Int32) by decide) ?_
    refine g_lloadN C dR_28 rfl ?_
    refine g_aloadN C dR_29 rfl rfl ?_
    have f23 := (F1.keep K5 nin0)
    refine g_getfield (host := "") C dR_30 (Or.inl (hw _ (List.mem_of_getElem? (i := 13) rfl))) Via.refl f23 ?_
    refine g_iload C dR_33 rfl ?_
    have f24 := (Af.keep K5 nin0)
    refine g_laload 0 C dR_35 f24 (by decide) (by decide) rfl ?_
    refine g_aloadN C dR_36 rfl rfl ?_
    have f25 := (F2.keep K5 nin0)
    refine g_getfield (host := "") C dR_37 (Or.inl (hw _ (List.mem_of_getElem? (i := 15) rfl))) Via.refl f25 ?_
    refine g_iload C dR_40 rfl ?_
    have f26 := (Ak.keep K5 nin0)
    refine g_laload 0 C dR_42 f26 (by decide) (by decide) rfl ?_
    refine g_ladd _ C dR_43 rfl ?_
    refine g_lcmp C dR_44 ?_
    by_cases c27 : key < (f0 + c0)
    · skip
      refine g_ifT 51 C dR_45 (cl_lt_t c27) (by decide) (by decide) ?_
      refine g_iload C dR_51 rfl ?_
      have hq : (0 : Int32) = rf2 f0 f1 c0 c1 key := by
        simp only [Int64.lt_iff_toInt_lt, s0, s1] at y8 y9 y10 c27
        simp only [rf2, Int64.lt_iff_toInt_lt, s0, s1]
        repeat' split
        all_goals first | rfl | (exfalso; omega)
      exact g_retI C dR_53 (by rw [hq]) (by decide) (by decide)
    · skip
      refine g_ifF C dR_45 (cl_lt_f c27) ?_
      refine g_iinc (1 : Int32) #[.val (.ref a), .val (.long key), .second, .val (.int (-2 : Int32)), .val (.int (1 : Int32))] C dR_48 rfl (by decide) rfl ?_
      refine g_iload C dR_51 rfl ?_
      have hq : (1 : Int32) = rf2 f0 f1 c0 c1 key := by
        simp only [Int64.lt_iff_toInt_lt, s0, s1] at y8 y9 y10 c27
        simp only [rf2, Int64.lt_iff_toInt_lt, s0, s1]
        repeat' split
        all_goals first | rfl | (exfalso; omega)
      exact g_retI C dR_53 (by rw [hq]) (by decide) (by decide)
  · skip
    show Go _ _ _ _ _ _ _ _ _ _ _ _ _ _ _ _ _ _ _ _ _ _ (mkF _ 8 #[.val (.ref a), .val (.long key), .second, .unset, .unset] [(.int (1 : Int32))])
    refine g_istoreN #[.val (.ref a), .val (.long key), .second, .val (.int (1 : Int32)), .unset] C dR_8 rfl ?_
    refine g_iloadN C dR_9 rfl ?_
    refine g_ifF C dR_10 (show ¬ (1 : Int32) < (0 : Int32) by decide) ?_
    refine g_iloadN C dR_13 rfl ?_
    refine g_goto 21 C dR_14 (by decide) (by decide) ?_
    refine g_istore #[.val (.ref a), .val (.long key), .second, .val (.int (1 : Int32)), .val (.int (1 : Int32))] C dR_21 rfl ?_
    refine g_iload C dR_23 rfl ?_
    refine g_ifF C dR_25 (show ¬ (1 : Int32) < (0 : Int32) by decide) ?_
    refine g_lloadN C dR_28 rfl ?_
    refine g_aloadN C dR_29 rfl rfl ?_
    have f28 := (F1.keep K5 nin0)
    refine g_getfield (host := "") C dR_30 (Or.inl (hw _ (List.mem_of_getElem? (i := 13) rfl))) Via.refl f28 ?_
    refine g_iload C dR_33 rfl ?_
    have f29 := (Af.keep K5 nin0)
    refine g_laload 1 C dR_35 f29 (by decide) (by decide) rfl ?_
    refine g_aloadN C dR_36 rfl rfl ?_
    have f30 := (F2.keep K5 nin0)
    refine g_getfield (host := "") C dR_37 (Or.inl (hw _ (List.mem_of_getElem? (i := 15) rfl))) Via.refl f30 ?_
    refine g_iload C dR_40 rfl ?_
    have f31 := (Ak.keep K5 nin0)
    refine g_laload 1 C dR_42 f31 (by decide) (by decide) rfl ?_
    refine g_ladd _ C dR_43 rfl ?_
    refine g_lcmp C dR_44 ?_
    by_cases c32 : key < (f1 + c1)
    · skip
      refine g_ifT 51 C dR_45 (cl_lt_t c32) (by decide) (by decide) ?_
      refine g_iload C dR_51 rfl ?_
      have hq : (1 : Int32) = rf2 f0 f1 c0 c1 key := by
        simp only [Int64.lt_iff_toInt_lt, s0, s1] at y11 y12 y13 c32
        simp only [rf2, Int64.lt_iff_toInt_lt, s0, s1]
        repeat' split
        all_goals first | rfl | (exfalso; omega)
      exact g_retI C dR_53 (by rw [hq]) (by decide) (by decide)
    · skip
      refine g_ifF C dR_45 (cl_lt_f c32) ?_
      refine g_iinc (2 : Int32) #[.val (.ref a), .val (.long key), .second, .val (.int (1 : Int32)), .val (.int (2 : Int32))] C dR_48 rfl (by decide) rfl ?_
      refine g_iload C dR_51 rfl ?_
      have hq : (2 : Int32) = rf2 f0 f1 c0 c1 key := by
        simp only [Int64.lt_iff_toInt_lt, s0, s1] at y11 y12 y13 c32
        simp only [rf2, Int64.lt_iff_toInt_lt, s0, s1]
        repeat' split
        all_goals first | rfl | (exfalso; omega)
      exact g_retI C dR_53 (by rw [hq]) (by decide) (by decide)
  · skip
    show Go _ _ _ _ _ _ _ _ _ _ _ _ _ _ _ _ _ _ _ _ _ _ (mkF _ 8 #[.val (.ref a), .val (.long key), .second, .unset, .unset] [(.int (-1 : Int32))])
    refine g_istoreN #[.val (.ref a), .val (.long key), .second, .val (.int (-1 : Int32)), .unset] C dR_8 rfl ?_
    refine g_iloadN C dR_9 rfl ?_
    refine g_ifT 17 C dR_10 (show (-1 : Int32) < (0 : Int32) by decide) (by decide) (by decide) ?_
    refine g_iloadN C dR_17 rfl ?_
    refine g_ineg (1 : Int32) C dR_18 (by decide) ?_
    refine g_iconst (2 : Int32) C dR_19 (by decide) ?_
    refine g_isub (-1 : Int32) C dR_20 (by decide) ?_
    refine g_istore #[.val (.ref a), .val (.long key), .second, .val (.int (-1 : Int32)), .val (.int (-1 : Int32))] C dR_21 rfl ?_
    refine g_iload C dR_23 rfl ?_
    refine g_ifT 48 C dR_25 (show (-1 : Int32) < (0 : Int32) by decide) (by decide) (by decide) ?_
    refine g_iinc (0 : Int32) #[.val (.ref a), .val (.long key), .second, .val (.int (-1 : Int32)), .val (.int (0 : Int32))] C dR_48 rfl (by decide) rfl ?_
    refine g_iload C dR_51 rfl ?_
    have hq : (0 : Int32) = rf2 f0 f1 c0 c1 key := by
      simp only [Int64.lt_iff_toInt_lt, s0, s1] at y14 y15
      simp only [rf2, Int64.lt_iff_toInt_lt, s0, s1]
      repeat' split
      all_goals first | rfl | (exfalso; omega)
    exact g_retI C dR_53 (by rw [hq]) (by decide) (by decide)
  · skip
    show Go _ _ _ _ _ _ _ _ _ _ _ _ _ _ _ _ _ _ _ _ _ _ (mkF _ 8 #[.val (.ref a), .val (.long key), .second, .unset, .unset] [(.int (0 : Int32))])
    refine g_istoreN #[.val (.ref a), .val (.long key), .second, .val (.int (0 : Int32)), .unset] C dR_8 rfl ?_
    refine g_iloadN C dR_9 rfl ?_
    refine g_ifF C dR_10 (show ¬ (0 : Int32) < (0 : Int32) by decide) ?_
    refine g_iloadN C dR_13 rfl ?_
    refine g_goto 21 C dR_14 (by decide) (by decide) ?_
    refine g_istore #[.val (.ref a), .val (.long key), .second, .val (.int (0 : Int32)), .val (.int (0 : Int32))] C dR_21 rfl ?_
    refine g_iload C dR_23 rfl ?_
    refine g_ifF C dR_25 (show ¬ (0 : Int32) < (0 : Int32) by decide) ?_
    refine g_lloadN C dR_28 rfl ?_
    refine g_aloadN C dR_29 rfl rfl ?_
    have f33 := (F1.keep K5 nin0)
    refine g_getfield (host := "") C dR_30 (Or.inl (hw _ (List.mem_of_getElem? (i := 13) rfl))) Via.refl f33 ?_
    refine g_iload C dR_33 rfl ?_
    have f34 := (Af.keep K5 nin0)
    refine g_laload 0 C dR_35 f34 (by decide) (by decide) rfl ?_
    refine g_aloadN C dR_36 rfl rfl ?_
    have f35 := (F2.keep K5 nin0)
    refine g_getfield (host := "") C dR_37 (Or.inl (hw _ (List.mem_of_getElem? (i := 15) rfl))) Via.refl f35 ?_
    refine g_iload C dR_40 rfl ?_
    have f36 := (Ak.keep K5 nin0)
    refine g_laload 0 C dR_42 f36 (by decide) (by decide) rfl ?_
    refine g_ladd _ C dR_43 rfl ?_
    refine g_lcmp C dR_44 ?_
    by_cases c37 : key < (f0 + c0)
    · skip
      refine g_ifT 51 C dR_45 (cl_lt_t c37) (by decide) (by decide) ?_
      refine g_iload C dR_51 rfl ?_
      have hq : (0 : Int32) = rf2 f0 f1 c0 c1 key := by
        simp only [Int64.lt_iff_toInt_lt, s0, s1] at y16 y17 c37
        simp only [rf2, Int64.lt_iff_toInt_lt, s0, s1]
        repeat' split
        all_goals first | rfl | (exfalso; omega)
      exact g_retI C dR_53 (by rw [hq]) (by decide) (by decide)
    · skip
      refine g_ifF C dR_45 (cl_lt_f c37) ?_
      refine g_iinc (1 : Int32) #[.val (.ref a), .val (.long key), .second, .val (.int (0 : Int32)), .val (.int (1 : Int32))] C dR_48 rfl (by decide) rfl ?_
      refine g_iload C dR_51 rfl ?_
      have hq : (1 : Int32) = rf2 f0 f1 c0 c1 key := by
        simp only [Int64.lt_iff_toInt_lt, s0, s1] at y16 y17 c37
        simp only [rf2, Int64.lt_iff_toInt_lt, s0, s1]
        repeat' split
        all_goals first | rfl | (exfalso; omega)
      exact g_retI C dR_53 (by rw [hq]) (by decide) (by decide)
set_option maxRecDepth 65536 in
set_option maxHeartbeats 40000000 in
theorem m_rf_3 (l : Launch) (Z : State) (a0 : Array Value) (hw : ∀ d ∈ tables_1, d.before a0 Z = true) (f0 f1 f2 c0 c1 c2 : Int64) (key : Int64) (a f k : Addr) (h : Heap) (B : 0 ≤ f0.toInt ∧ f2.toInt < 4611686018427388404 ∧ 1 ≤ c0.toInt ∧ c0.toInt ≤ 16 ∧ 1 ≤ c1.toInt ∧ c1.toInt ≤ 16 ∧ 1 ≤ c2.toInt ∧ c2.toInt ≤ 16 ∧ f0.toInt + c0.toInt < f1.toInt ∧ f1.toInt + c1.toInt < f2.toInt) (F1 : Fld Z h a "com/example/keelstone/keelstone/store/Runs" "firsts" "[J" (.ref f)) (F2 : Fld Z h a "com/example/keelstone/keelstone/store/Runs" "counts" "[J" (.ref k)) (Af : Av Z h f .long [(.long f0), (.long f1), (.long f2)]) (Ak : Av Z h k .long [(.long c0), (.long c1), (.long c2)]) :
    MetW false l Z [] (⟨"com/example/keelstone/keelstone/store/Runs", "runFrom", "(J)I"⟩ : MethodName) prog_45_method_8_code 5 (Option.some Jvm.ClassFile.FieldType.int) [] ({ frames := 2, cells := 0, slots := 0, locals := 41 } : Room) #[(.ref a), (.long key)] [] h (fun v h' => v = some (.int (rf3 f0 f1 f2 c0 c1 c2 key))) := by
  obtain ⟨b0, b1, p0, q0, p1, q1, p2, q2, r0, r1⟩ := B
  have s0 : (f0 + c0).toInt = f0.toInt + c0.toInt := own_add (by omega) (by omega) (by omega) (by omega)
  have s1 : (f1 + c1).toInt = f1.toInt + c1.toInt := own_add (by omega) (by omega) (by omega) (by omega)
  have s2 : (f2 + c2).toInt = f2.toInt + c2.toInt := own_add (by omega) (by omega) (by omega) (by omega)
  refine MetW.of (Ls := #[.val (.ref a), .val (.long key), .second, .unset, .unset]) (a0 := a0) (by first | (simp [plainName, overriddenIn]; done) | decide +kernel) (fun m => by first | (simp [entryFrame, mkF, argsToLocals, Value.category]; done) | rfl) EW.nil (fun _ => rfl) (fun p e s m below meth c hs0 C => ?_)
  refine g_aloadN C dR_0 rfl rfl ?_
  refine g_getfield (host := "") C dR_1 (Or.inl (hw _ (List.mem_of_getElem? (i := 13) rfl))) Via.refl F1 ?_
  refine g_lloadN C dR_4 rfl ?_
  refine g_invokestatic [(.ref f), (.long key)] [] 0 C dR_5 (hw _ (List.mem_of_getElem? (i := 31) rfl)) (hw _ (List.mem_of_getElem? (i := 32) rfl)) (hw _ (List.mem_of_getElem? (i := 33) rfl)) (hw _ (List.mem_of_getElem? (i := 34) rfl)) (by decide) (m_bs_3 l Z a0 hw f0 f1 f2 key f _ Af) (lenOf pd1 rfl) rfl rfl (Nat.le_of_ble_eq_true rfl) (by decide) (by decide) (by decide) (by decide) all0 (fun v1 h2 L3 q4 K5 => ?_)
  obtain ⟨r, rfl, hr⟩ := q4
  rcases hr with ⟨y6, y7, rfl⟩ | ⟨y8, y9, y10, rfl⟩ | ⟨y11, y12, y13, rfl⟩ | ⟨y14, y15, y16, rfl⟩ | ⟨y17, y18, y19, y20, rfl⟩ | ⟨y21, y22, y23, y24, rfl⟩ | ⟨y25, y26, rfl⟩
  · skip
    show Go _ _ _ _ _ _ _ _ _ _ _ _ _ _ _ _ _ _ _ _ _ _ (mkF _ 8 #[.val (.ref a), .val (.long key), .second, .unset, .unset] [(.int (-4 : Int32))])
    refine g_istoreN #[.val (.ref a), .val (.long key), .second, .val (.int (-4 : Int32)), .unset] C dR_8 rfl ?_
    refine g_iloadN C dR_9 rfl ?_
    refine g_ifT 17 C dR_10 (show (-4 : Int32) < (0 : Int32) by decide) (by decide) (by decide) ?_
    refine g_iloadN C dR_17 rfl ?_
    refine g_ineg (4 : Int32) C dR_18 (by decide) ?_
    refine g_iconst (2 : Int32) C dR_19 (by decide) ?_
    refine g_isub (2 : Int32) C dR_20 (by decide) ?_
    refine g_istore #[.val (.ref a), .val (.long key), .second, .val (.int (-4 : Int32)), .val (.int (2 : Int32))] C dR_21 rfl ?_
    refine g_iload C dR_23 rfl ?_
    refine g_ifF C dR_25 (show ¬ (2 : Int32) < (0 : Int32) by decide) ?_
    refine g_lloadN C dR_28 rfl ?_
    refine g_aloadN C dR_29 rfl rfl ?_
    have f27 := (F1.keep K5 nin0)
    refine g_getfield (host := "") C dR_30 (Or.inl (hw _ (List.mem_of_getElem? (i := 13) rfl))) Via.refl f27 ?_
    refine g_iload C dR_33 rfl ?_
    have f28 := (Af.keep K5 nin0)
    refine g_laload 2 C dR_35 f28 (by decide) (by decide) rfl ?_
    refine g_aloadN C dR_36 rfl rfl ?_
    have f29 := (F2.keep K5 nin0)
    refine g_getfield (host := "") C dR_37 (Or.inl (hw _ (List.mem_of_getElem? (i := 15) rfl))) Via.refl f29 ?_
    refine g_iload C dR_40 rfl ?_
    have f30 := (Ak.keep K5 nin0)
    refine g_laload 2 C dR_42 f30 (by decide) (by decide) rfl ?_
    refine g_ladd _ C dR_43 rfl ?_
    refine g_lcmp C dR_44 ?_
    by_cases c31 : key < (f2 + c2)
    · skip
      refine g_ifT 51 C dR_45 (cl_lt_t c31) (by decide) (by decide) ?_
      refine g_iload C dR_51 rfl ?_
      have hq : (2 : Int32) = rf3 f0 f1 f2 c0 c1 c2 key := by
        simp only [Int64.lt_iff_toInt_lt, s0, s1, s2] at y6 y7 c31
        simp only [rf3, Int64.lt_iff_toInt_lt, s0, s1, s2]
        repeat' split
        all_goals first | rfl | (exfalso; omega)
      exact g_retI C dR_53 (by rw [hq]) (by decide) (by decide)
    · skip
      refine g_ifF C dR_45 (cl_lt_f c31) ?_
      refine g_iinc (3 : Int32) #[.val (.ref a), .val (.long key), .second, .val (.int (-4 : Int32)), .val (.int (3 : Int32))] C dR_48 rfl (by decide) rfl ?_
      refine g_iload C dR_51 rfl ?_
      have hq : (3 : Int32) = rf3 f0 f1 f2 c0 c1 c2 key := by
        simp only [Int64.lt_iff_toInt_lt, s0, s1, s2] at y6 y7 c31
        simp only [rf3, Int64.lt_iff_toInt_lt, s0, s1, s2]
        repeat' split
        all_goals first | rfl | (exfalso; omega)
      exact g_retI C dR_53 (by rw [hq]) (by decide) (by decide)
  · skip
    show Go _ _ _ _ _ _ _ _ _ _ _ _ _ _ _ _ _ _ _ _ _ _ (mkF _ 8 #[.val (.ref a), .val (.long key), .second, .unset, .unset] [(.int (-3 : Int32))])
    refine g_istoreN #[.val (.ref a), .val (.long key), .second, .val (.int (-3 : Int32)), .unset] C dR_8 rfl ?_
    refine g_iloadN C dR_9 rfl ?_
    refine g_ifT 17 C dR_10 (show (-3 : Int32) < (0 : Int32) by decide) (by decide) (by decide) ?_
    refine g_iloadN C dR_17 rfl ?_
    refine g_ineg (3 : Int32) C dR_18 (by decide) ?_
    refine g_iconst (2 : Int32) C dR_19 (by decide) ?_
    refine g_isub (1 : Int32) C dR_20 (by decide) ?_
    refine g_istore #[.val (.ref a), .val (.long key), .second, .val (.int (-3 : Int32)), .val (.int (1 : Int32))] C dR_21 rfl ?_
    refine g_iload C dR_23 rfl ?_
    refine g_ifF C dR_25 (show ¬ (1 : Int32) < (0 : Int32) by decide) ?_
    refine g_lloadN C dR_28 rfl ?_
    refine g_aloadN C dR_29 rfl rfl ?_
    have f32 := (F1.keep K5 nin0)
    refine g_getfield (host := "") C dR_30 (Or.inl (hw _ (List.mem_of_getElem? (i := 13) rfl))) Via.refl f32 ?_
    refine g_iload C dR_33 rfl ?_
    have f33 := (Af.keep K5 nin0)
    refine g_laload 1 C dR_35 f33 (by decide) (by decide) rfl ?_
    refine g_aloadN C dR_36 rfl rfl ?_
    have f34 := (F2.keep K5 nin0)
    refine g_getfield (host := "") C dR_37 (Or.inl (hw _ (List.mem_of_getElem? (i := 15) rfl))) Via.refl f34 ?_
    refine g_iload C dR_40 rfl ?_
    have f35 := (Ak.keep K5 nin0)
    refine g_laload 1 C dR_42 f35 (by decide) (by decide) rfl ?_
    refine g_ladd _ C dR_43 rfl ?_
    refine g_lcmp C dR_44 ?_
    by_cases c36 : key < (f1 + c1)
    · skip
      refine g_ifT 51 C dR_45 (cl_lt_t c36) (by decide) (by decide) ?_
      refine g_iload C dR_51 rfl ?_
      have hq : (1 : Int32) = rf3 f0 f1 f2 c0 c1 c2 key := by
        simp only [Int64.lt_iff_toInt_lt, s0, s1, s2] at y8 y9 y10 c36
        simp only [rf3, Int64.lt_iff_toInt_lt, s0, s1, s2]
        repeat' split
        all_goals first | rfl | (exfalso; omega)
      exact g_retI C dR_53 (by rw [hq]) (by decide) (by decide)
    · skip
      refine g_ifF C dR_45 (cl_lt_f c36) ?_
      refine g_iinc (2 : Int32) #[.val (.ref a), .val (.long key), .second, .val (.int (-3 : Int32)), .val (.int (2 : Int32))] C dR_48 rfl (by decide) rfl ?_
      refine g_iload C dR_51 rfl ?_
      have hq : (2 : Int32) = rf3 f0 f1 f2 c0 c1 c2 key := by
        simp only [Int64.lt_iff_toInt_lt, s0, s1, s2] at y8 y9 y10 c36
        simp only [rf3, Int64.lt_iff_toInt_lt, s0, s1, s2]
        repeat' split
        all_goals first | rfl | (exfalso; omega)
      exact g_retI C dR_53 (by rw [hq]) (by decide) (by decide)
  · skip
    show Go _ _ _ _ _ _ _ _ _ _ _ _ _ _ _ _ _ _ _ _ _ _ (mkF _ 8 #[.val (.ref a), .val (.long key), .second, .unset, .unset] [(.int (2 : Int32))])
    refine g_istoreN #[.val (.ref a), .val (.long key), .second, .val (.int (2 : Int32)), .unset] C dR_8 rfl ?_
    refine g_iloadN C dR_9 rfl ?_
    refine g_ifF C dR_10 (show ¬ (2 : Int32) < (0 : Int32) by decide) ?_
    refine g_iloadN C dR_13 rfl ?_
    refine g_goto 21 C dR_14 (by decide) (by decide) ?_
    refine g_istore #[.val (.ref a), .val (.long key), .second, .val (.int (2 : Int32)), .val (.int (2 : Int32))] C dR_21 rfl ?_
    refine g_iload C dR_23 rfl ?_
    refine g_ifF C dR_25 (show ¬ (2 : Int32) < (0 : Int32) by decide) ?_
    refine g_lloadN C dR_28 rfl ?_
    refine g_aloadN C dR_29 rfl rfl ?_
    have f37 := (F1.keep K5 nin0)
    refine g_getfield (host := "") C dR_30 (Or.inl (hw _ (List.mem_of_getElem? (i := 13) rfl))) Via.refl f37 ?_
    refine g_iload C dR_33 rfl ?_
    have f38 := (Af.keep K5 nin0)
    refine g_laload 2 C dR_35 f38 (by decide) (by decide) rfl ?_
    refine g_aloadN C dR_36 rfl rfl ?_
    have f39 := (F2.keep K5 nin0)
    refine g_getfield (host := "") C dR_37 (Or.inl (hw _ (List.mem_of_getElem? (i := 15) rfl))) Via.refl f39 ?_
    refine g_iload C dR_40 rfl ?_
    have f40 := (Ak.keep K5 nin0)
    refine g_laload 2 C dR_42 f40 (by decide) (by decide) rfl ?_
    refine g_ladd _ C dR_43 rfl ?_
    refine g_lcmp C dR_44 ?_
    by_cases c41 : key < (f2 + c2)
    · skip
      refine g_ifT 51 C dR_45 (cl_lt_t c41) (by decide) (by decide) ?_
      refine g_iload C dR_51 rfl ?_
      have hq : (2 : Int32) = rf3 f0 f1 f2 c0 c1 c2 key := by
        simp only [Int64.lt_iff_toInt_lt, s0, s1, s2] at y11 y12 y13 c41
        simp only [rf3, Int64.lt_iff_toInt_lt, s0, s1, s2]
        repeat' split
        all_goals first | rfl | (exfalso; omega)
      exact g_retI C dR_53 (by rw [hq]) (by decide) (by decide)
    · skip
      refine g_ifF C dR_45 (cl_lt_f c41) ?_
      refine g_iinc (3 : Int32) #[.val (.ref a), .val (.long key), .second, .val (.int (2 : Int32)), .val (.int (3 : Int32))] C dR_48 rfl (by decide) rfl ?_
      refine g_iload C dR_51 rfl ?_
      have hq : (3 : Int32) = rf3 f0 f1 f2 c0 c1 c2 key := by
        simp only [Int64.lt_iff_toInt_lt, s0, s1, s2] at y11 y12 y13 c41
        simp only [rf3, Int64.lt_iff_toInt_lt, s0, s1, s2]
        repeat' split
        all_goals first | rfl | (exfalso; omega)
      exact g_retI C dR_53 (by rw [hq]) (by decide) (by decide)
  · skip
    show Go _ _ _ _ _ _ _ _ _ _ _ _ _ _ _ _ _ _ _ _ _ _ (mkF _ 8 #[.val (.ref a), .val (.long key), .second, .unset, .unset] [(.int (-2 : Int32))])
    refine g_istoreN #[.val (.ref a), .val (.long key), .second, .val (.int (-2 : Int32)), .unset] C dR_8 rfl ?_
    refine g_iloadN C dR_9 rfl ?_
    refine g_ifT 17 C dR_10 (show (-2 : Int32) < (0 : Int32) by decide) (by decide) (by decide) ?_
    refine g_iloadN C dR_17 rfl ?_
    refine g_ineg (2 : Int32) C dR_18 (by decide) ?_
    refine g_iconst (2 : Int32) C dR_19 (by decide) ?_
    refine g_isub (0 : Int32) C dR_20 (by decide) ?_
    refine g_istore #[.val (.ref a), .val (.long key), .second, .val (.int (-2 : Int32)), .val (.int (0 : Int32))] C dR_21 rfl ?_
    refine g_iload C dR_23 rfl ?_
    refine g_ifF C dR_25 (show ¬ (0 : Int32) < (0 : Int32) by decide) ?_
    refine g_lloadN C dR_28 rfl ?_
    refine g_aloadN C dR_29 rfl rfl ?_
    have f42 := (F1.keep K5 nin0)
    refine g_getfield (host := "") C dR_30 (Or.inl (hw _ (List.mem_of_getElem? (i := 13) rfl))) Via.refl f42 ?_
    refine g_iload C dR_33 rfl ?_
    have f43 := (Af.keep K5 nin0)
    refine g_laload 0 C dR_35 f43 (by decide) (by decide) rfl ?_
    refine g_aloadN C dR_36 rfl rfl ?_
    have f44 := (F2.keep K5 nin0)
    refine g_getfield (host := "") C dR_37 (Or.inl (hw _ (List.mem_of_getElem? (i := 15) rfl))) Via.refl f44 ?_
    refine g_iload C dR_40 rfl ?_
    have f45 := (Ak.keep K5 nin0)
    refine g_laload 0 C dR_42 f45 (by decide) (by decide) rfl ?_
    refine g_ladd _ C dR_43 rfl ?_
    refine g_lcmp C dR_44 ?_
    by_cases c46 : key < (f0 + c0)
    · skip
      refine g_ifT 51 C dR_45 (cl_lt_t c46) (by decide) (by decide) ?_
      refine g_iload C dR_51 rfl ?_
      have hq : (0 : Int32) = rf3 f0 f1 f2 c0 c1 c2 key := by
        simp only [Int64.lt_iff_toInt_lt, s0, s1, s2] at y14 y15 y16 c46
        simp only [rf3, Int64.lt_iff_toInt_lt, s0, s1, s2]
        repeat' split
        all_goals first | rfl | (exfalso; omega)
      exact g_retI C dR_53 (by rw [hq]) (by decide) (by decide)
    · skip
      refine g_ifF C dR_45 (cl_lt_f c46) ?_
      refine g_iinc (1 : Int32) #[.val (.ref a), .val (.long key), .second, .val (.int (-2 : Int32)), .val (.int (1 : Int32))] C dR_48 rfl (by decide) rfl ?_
      refine g_iload C dR_51 rfl ?_
      have hq : (1 : Int32) = rf3 f0 f1 f2 c0 c1 c2 key := by
        simp only [Int64.lt_iff_toInt_lt, s0, s1, s2] at y14 y15 y16 c46
        simp only [rf3, Int64.lt_iff_toInt_lt, s0, s1, s2]
        repeat' split
        all_goals first | rfl | (exfalso; omega)
      exact g_retI C dR_53 (by rw [hq]) (by decide) (by decide)
  · skip
    show Go _ _ _ _ _ _ _ _ _ _ _ _ _ _ _ _ _ _ _ _ _ _ (mkF _ 8 #[.val (.ref a), .val (.long key), .second, .unset, .unset] [(.int (-1 : Int32))])
    refine g_istoreN #[.val (.ref a), .val (.long key), .second, .val (.int (-1 : Int32)), .unset] C dR_8 rfl ?_
    refine g_iloadN C dR_9 rfl ?_
    refine g_ifT 17 C dR_10 (show (-1 : Int32) < (0 : Int32) by decide) (by decide) (by decide) ?_
    refine g_iloadN C dR_17 rfl ?_
    refine g_ineg (1 : Int32) C dR_18 (by decide) ?_
    refine g_iconst (2 : Int32) C dR_19 (by decide) ?_
    refine g_isub (-1 : Int32) C dR_20 (by decide) ?_
    refine g_istore #[.val (.ref a), .val (.long key), .second, .val (.int (-1 : Int32)), .val (.int (-1 : Int32))] C dR_21 rfl ?_
    refine g_iload C dR_23 rfl ?_
    refine g_ifT 48 C dR_25 (show (-1 : Int32) < (0 : Int32) by decide) (by decide) (by decide) ?_
    refine g_iinc (0 : Int32) #[.val (.ref a), .val (.long key), .second, .val (.int (-1 : Int32)), .val (.int (0 : Int32))] C dR_48 rfl (by decide) rfl ?_
    refine g_iload C dR_51 rfl ?_
    have hq : (0 : Int32) = rf3 f0 f1 f2 c0 c1 c2 key := by
      simp only [Int64.lt_iff_toInt_lt, s0, s1, s2] at y17 y18 y19 y20
      simp only [rf3, Int64.lt_iff_toInt_lt, s0, s1, s2]
      repeat' split
      all_goals first | rfl | (exfalso; omega)
    exact g_retI C dR_53 (by rw [hq]) (by decide) (by decide)
  · skip
    show Go _ _ _ _ _ _ _ _ _ _ _ _ _ _ _ _ _ _ _ _ _ _ (mkF _ 8 #[.val (.ref a), .val (.long key), .second, .unset, .unset] [(.int (0 : Int32))])
    refine g_istoreN #[.val (.ref a), .val (.long key), .second, .val (.int (0 : Int32)), .unset] C dR_8 rfl ?_
    refine g_iloadN C dR_9 rfl ?_
    refine g_ifF C dR_10 (show ¬ (0 : Int32) < (0 : Int32) by decide) ?_
    refine g_iloadN C dR_13 rfl ?_
    refine g_goto 21 C dR_14 (by decide) (by decide) ?_
    refine g_istore #[.val (.ref a), .val (.long key), .second, .val (.int (0 : Int32)), .val (.int (0 : Int32))] C dR_21 rfl ?_
    refine g_iload C dR_23 rfl ?_
    refine g_ifF C dR_25 (show ¬ (0 : Int32) < (0 : Int32) by decide) ?_
    refine g_lloadN C dR_28 rfl ?_
    refine g_aloadN C dR_29 rfl rfl ?_
    have f47 := (F1.keep K5 nin0)
    refine g_getfield (host := "") C dR_30 (Or.inl (hw _ (List.mem_of_getElem? (i := 13) rfl))) Via.refl f47 ?_
    refine g_iload C dR_33 rfl ?_
    have f48 := (Af.keep K5 nin0)
    refine g_laload 0 C dR_35 f48 (by decide) (by decide) rfl ?_
    refine g_aloadN C dR_36 rfl rfl ?_
    have f49 := (F2.keep K5 nin0)
    refine g_getfield (host := "") C dR_37 (Or.inl (hw _ (List.mem_of_getElem? (i := 15) rfl))) Via.refl f49 ?_
    refine g_iload C dR_40 rfl ?_
    have f50 := (Ak.keep K5 nin0)
    refine g_laload 0 C dR_42 f50 (by decide) (by decide) rfl ?_
    refine g_ladd _ C dR_43 rfl ?_
    refine g_lcmp C dR_44 ?_
    by_cases c51 : key < (f0 + c0)
    · skip
      refine g_ifT 51 C dR_45 (cl_lt_t c51) (by decide) (by decide) ?_
      refine g_iload C dR_51 rfl ?_
      have hq : (0 : Int32) = rf3 f0 f1 f2 c0 c1 c2 key := by
        simp only [Int64.lt_iff_toInt_lt, s0, s1, s2] at y21 y22 y23 y24 c51
        simp only [rf3, Int64.lt_iff_toInt_lt, s0, s1, s2]
        repeat' split
        all_goals first | rfl | (exfalso; omega)
      exact g_retI C dR_53 (by rw [hq]) (by decide) (by decide)
    · skip
      refine g_ifF C dR_45 (cl_lt_f c51) ?_
      refine g_iinc (1 : Int32) #[.val (.ref a), .val (.long key), .second, .val (.int (0 : Int32)), .val (.int (1 : Int32))] C dR_48 rfl (by decide) rfl ?_
      refine g_iload C dR_51 rfl ?_
      have hq : (1 : Int32) = rf3 f0 f1 f2 c0 c1 c2 key := by
        simp only [Int64.lt_iff_toInt_lt, s0, s1, s2] at y21 y22 y23 y24 c51
        simp only [rf3, Int64.lt_iff_toInt_lt, s0, s1, s2]
        repeat' split
        all_goals first | rfl | (exfalso; omega)
      exact g_retI C dR_53 (by rw [hq]) (by decide) (by decide)
  · skip
    show Go _ _ _ _ _ _ _ _ _ _ _ _ _ _ _ _ _ _ _ _ _ _ (mkF _ 8 #[.val (.ref a), .val (.long key), .second, .unset, .unset] [(.int (1 : Int32))])
    refine g_istoreN #[.val (.ref a), .val (.long key), .second, .val (.int (1 : Int32)), .unset] C dR_8 rfl ?_
    refine g_iloadN C dR_9 rfl ?_
    refine g_ifF C dR_10 (show ¬ (1 : Int32) < (0 : Int32) by decide) ?_
    refine g_iloadN C dR_13 rfl ?_
    refine g_goto 21 C dR_14 (by decide) (by decide) ?_
    refine g_istore #[.val (.ref a), .val (.long key), .second, .val (.int (1 : Int32)), .val (.int (1 : Int32))] C dR_21 rfl ?_
    refine g_iload C dR_23 rfl ?_
    refine g_ifF C dR_25 (show ¬ (1 : Int32) < (0 : Int32) by decide) ?_
    refine g_lloadN C dR_28 rfl ?_
    refine g_aloadN C dR_29 rfl rfl ?_
    have f52 := (F1.keep K5 nin0)
    refine g_getfield (host := "") C dR_30 (Or.inl (hw _ (List.mem_of_getElem? (i := 13) rfl))) Via.refl f52 ?_
    refine g_iload C dR_33 rfl ?_
    have f53 := (Af.keep K5 nin0)
    refine g_laload 1 C dR_35 f53 (by decide) (by decide) rfl ?_
    refine g_aloadN C dR_36 rfl rfl ?_
    have f54 := (F2.keep K5 nin0)
    refine g_getfield (host := "") C dR_37 (Or.inl (hw _ (List.mem_of_getElem? (i := 15) rfl))) Via.refl f54 ?_
    refine g_iload C dR_40 rfl ?_
    have f55 := (Ak.keep K5 nin0)
    refine g_laload 1 C dR_42 f55 (by decide) (by decide) rfl ?_
    refine g_ladd _ C dR_43 rfl ?_
    refine g_lcmp C dR_44 ?_
    by_cases c56 : key < (f1 + c1)
    · skip
      refine g_ifT 51 C dR_45 (cl_lt_t c56) (by decide) (by decide) ?_
      refine g_iload C dR_51 rfl ?_
      have hq : (1 : Int32) = rf3 f0 f1 f2 c0 c1 c2 key := by
        simp only [Int64.lt_iff_toInt_lt, s0, s1, s2] at y25 y26 c56
        simp only [rf3, Int64.lt_iff_toInt_lt, s0, s1, s2]
        repeat' split
        all_goals first | rfl | (exfalso; omega)
      exact g_retI C dR_53 (by rw [hq]) (by decide) (by decide)
    · skip
      refine g_ifF C dR_45 (cl_lt_f c56) ?_
      refine g_iinc (2 : Int32) #[.val (.ref a), .val (.long key), .second, .val (.int (1 : Int32)), .val (.int (2 : Int32))] C dR_48 rfl (by decide) rfl ?_
      refine g_iload C dR_51 rfl ?_
      have hq : (2 : Int32) = rf3 f0 f1 f2 c0 c1 c2 key := by
        simp only [Int64.lt_iff_toInt_lt, s0, s1, s2] at y25 y26 c56
        simp only [rf3, Int64.lt_iff_toInt_lt, s0, s1, s2]
        repeat' split
        all_goals first | rfl | (exfalso; omega)
      exact g_retI C dR_53 (by rw [hq]) (by decide) (by decide)
theorem own_and3L (x : Int64) : (x &&& 3).toInt32 = 0 ∨ (x &&& 3).toInt32 = 1 ∨ (x &&& 3).toInt32 = 2 ∨ (x &&& 3).toInt32 = 3 := by
  have h := c_maskL x 3 2 (by decide) (by decide)
  have h2 := c_l2i (x &&& 3)
  have h3 := rng32 (x &&& 3).toInt32
  have k : (x &&& 3).toInt32.toInt = 0 ∨ (x &&& 3).toInt32.toInt = 1 ∨ (x &&& 3).toInt32.toInt = 2 ∨ (x &&& 3).toInt32.toInt = 3 := by omega
  rcases k with k | k | k | k
  · exact Or.inl (Int32.toInt_inj.mp k)
  · exact Or.inr (Or.inl (Int32.toInt_inj.mp k))
  · exact Or.inr (Or.inr (Or.inl (Int32.toInt_inj.mp k)))
  · exact Or.inr (Or.inr (Or.inr (Int32.toInt_inj.mp k)))
theorem own_one15 (x : Int64) : 1 ≤ ((x &&& (15 : Int64)) + (1 : Int64)).toInt ∧ ((x &&& (15 : Int64)) + (1 : Int64)).toInt ≤ 16 := by
  have h := c_maskL x 15 4 (by decide) (by decide)
  have e1 : (1 : Int64).toInt = 1 := by decide
  rw [XT.add64 (x := x &&& 15) (y := 1) (by unfold XT.fits64; omega)]
  omega
def ix0 (key : Int64) : Int64 := (-1 : Int64)
def ix1 (f0 c0 : Int64) (key : Int64) : Int64 := (if ¬ key < f0 ∧ key < f0 + c0 then (key - f0) else (-1 : Int64))
def ix2 (f0 f1 c0 c1 : Int64) (key : Int64) : Int64 := (if ¬ key < f1 ∧ key < f1 + c1 then (c0 + (key - f1)) else (if ¬ key < f0 ∧ key < f0 + c0 then (key - f0) else (-1 : Int64)))
def ix3 (f0 f1 f2 c0 c1 c2 : Int64) (key : Int64) : Int64 := (if ¬ key < f2 ∧ key < f2 + c2 then ((c0 + c1) + (key - f2)) else (if ¬ key < f1 ∧ key < f1 + c1 then (c0 + (key - f1)) else (if ¬ key < f0 ∧ key < f0 + c0 then (key - f0) else (-1 : Int64))))
theorem dI_0 : decode prog_45_method_7_code 0 = .ok (.aload_n 0, 1) := by decide +kernel
theorem dI_1 : decode prog_45_method_7_code 1 = .ok (.lload_n 1, 1) := by decide +kernel
theorem dI_2 : decode prog_45_method_7_code 2 = .ok (.invokevirtual 35, 3) := by decide +kernel
theorem dI_5 : decode prog_45_method_7_code 5 = .ok (.istore_n 3, 1) := by decide +kernel
theorem dI_6 : decode prog_45_method_7_code 6 = .ok (.ldc2_w 39, 3) := by decide +kernel
theorem dI_9 : decode prog_45_method_7_code 9 = .ok (.lstore 4, 2) := by decide +kernel
theorem dI_11 : decode prog_45_method_7_code 11 = .ok (.iload_n 3, 1) := by decide +kernel
theorem dI_12 : decode prog_45_method_7_code 12 = .ok (.aload_n 0, 1) := by decide +kernel
theorem dI_13 : decode prog_45_method_7_code 13 = .ok (.getfield 19, 3) := by decide +kernel
theorem dI_16 : decode prog_45_method_7_code 16 = .ok (.arraylength, 1) := by decide +kernel
theorem dI_17 : decode prog_45_method_7_code 17 = .ok (.if_icmp .ge 31, 3) := by decide +kernel
theorem dI_48 : decode prog_45_method_7_code 48 = .ok (.lload 4, 2) := by decide +kernel
theorem dI_50 : decode prog_45_method_7_code 50 = .ok (.lreturn, 1) := by decide +kernel
set_option maxRecDepth 65536 in
set_option maxHeartbeats 40000000 in
theorem m_ix_0 (l : Launch) (Z : State) (a0 : Array Value) (hw : ∀ d ∈ tables_1, d.before a0 Z = true) (key : Int64) (a f k t : Addr) (h : Heap)  (E : Exa Z h a "com/example/keelstone/keelstone/store/Runs") (F1 : Fld Z h a "com/example/keelstone/keelstone/store/Runs" "firsts" "[J" (.ref f)) (F2 : Fld Z h a "com/example/keelstone/keelstone/store/Runs" "counts" "[J" (.ref k)) (F3 : Fld Z h a "com/example/keelstone/keelstone/store/Runs" "starts" "[J" (.ref t)) (Af : Av Z h f .long []) (Ak : Av Z h k .long []) (At : Av Z h t .long []) :
    MetW false l Z [] (⟨"com/example/keelstone/keelstone/store/Runs", "indexOf", "(J)J"⟩ : MethodName) prog_45_method_7_code 6 (Option.some Jvm.ClassFile.FieldType.long) [] ({ frames := 3, cells := 0, slots := 0, locals := 57 } : Room) #[(.ref a), (.long key)] [] h (fun v h' => v = some (.long (ix0  key))) := by
  refine MetW.of (Ls := #[.val (.ref a), .val (.long key), .second, .unset, .unset, .unset]) (a0 := a0) (by first | (simp [plainName, overriddenIn]; done) | decide +kernel) (fun m => by first | (simp [entryFrame, mkF, argsToLocals, Value.category]; done) | rfl) EW.nil (fun _ => rfl) (fun p e s m below meth c hs0 C => ?_)
  refine g_aloadN C dI_0 rfl rfl ?_
  refine g_lloadN C dI_1 rfl ?_
  refine g_invokevirtual [(.long key)] [] 0 C dI_2 (hw _ (List.mem_of_getElem? (i := 26) rfl)) (hw _ (List.mem_of_getElem? (i := 27) rfl)) (hw _ (List.mem_of_getElem? (i := 29) rfl)) (hw _ (List.mem_of_getElem? (i := 28) rfl)) (hw _ (List.mem_of_getElem? (i := 6) rfl)) (hw _ (List.mem_of_getElem? (i := 30) rfl)) (fun _ hZ => notFace_of_selects (args := #[]) (mvT hZ (hw _ (List.mem_of_getElem? (i := 29) rfl)))) (by decide) E (m_rf_0 l Z a0 hw  key a f k _ F1 F2 Af Ak) (lenOf pd2 rfl) rfl rfl (Nat.le_of_ble_eq_true rfl) (by decide) (by decide) (by decide) (by decide) all0 (fun v1 h2 L3 q4 K5 => ?_)
  obtain rfl := q4
  obtain ⟨r, hr⟩ : ∃ r, r = rf0  key := ⟨_, rfl⟩
  rw [← hr]
  have hcs : (r = (0 : Int32)) := by
    rw [hr]; unfold rf0
    rfl
  obtain rfl := hcs
  show Go _ _ _ _ _ _ _ _ _ _ _ _ _ _ _ _ _ _ _ _ _ _ (mkF _ 5 #[.val (.ref a), .val (.long key), .second, .unset, .unset, .unset] [(.int (0 : Int32))])
  refine g_istoreN #[.val (.ref a), .val (.long key), .second, .val (.int (0 : Int32)), .unset, .unset] C dI_5 rfl ?_
  refine g_ldc2w (-1 : Int64) C dI_6 (hw _ (List.mem_of_getElem? (i := 38) rfl)) ?_
  refine g_lstore #[.val (.ref a), .val (.long key), .second, .val (.int (0 : Int32)), .val (.long (-1 : Int64)), .second] C dI_9 rfl ?_
  refine g_iloadN C dI_11 rfl ?_
  refine g_aloadN C dI_12 rfl rfl ?_
  have f6 := (F1.keep K5 nin0)
  refine g_getfield (host := "") C dI_13 (Or.inl (hw _ (List.mem_of_getElem? (i := 13) rfl))) Via.refl f6 ?_
  have f7 := (Af.keep K5 nin0)
  refine g_alen C dI_16 f7 (z := (0 : Int32)) rfl ?_
  refine g_icmpT 48 C dI_17 (show ¬ (0 : Int32) < (0 : Int32) by decide) (by decide) (by decide) ?_
  refine g_lload C dI_48 rfl ?_
  have hq : (-1 : Int64) = ix0  key := by
    rfl
  exact g_retJ C dI_50 (by rw [hq]) (by decide) (by decide)
theorem dI_20 : decode prog_45_method_7_code 20 = .ok (.aload_n 0, 1) := by decide +kernel
theorem dI_21 : decode prog_45_method_7_code 21 = .ok (.getfield 19, 3) := by decide +kernel
theorem dI_24 : decode prog_45_method_7_code 24 = .ok (.iload_n 3, 1) := by decide +kernel
theorem dI_25 : decode prog_45_method_7_code 25 = .ok (.laload, 1) := by decide +kernel
theorem dI_26 : decode prog_45_method_7_code 26 = .ok (.lload_n 1, 1) := by decide +kernel
theorem dI_27 : decode prog_45_method_7_code 27 = .ok (.lcmp, 1) := by decide +kernel
theorem dI_28 : decode prog_45_method_7_code 28 = .ok (.ifCond .gt 20, 3) := by decide +kernel
theorem dI_31 : decode prog_45_method_7_code 31 = .ok (.aload_n 0, 1) := by decide +kernel
theorem dI_32 : decode prog_45_method_7_code 32 = .ok (.getfield 28, 3) := by decide +kernel
theorem dI_35 : decode prog_45_method_7_code 35 = .ok (.iload_n 3, 1) := by decide +kernel
theorem dI_36 : decode prog_45_method_7_code 36 = .ok (.laload, 1) := by decide +kernel
theorem dI_37 : decode prog_45_method_7_code 37 = .ok (.lload_n 1, 1) := by decide +kernel
theorem dI_38 : decode prog_45_method_7_code 38 = .ok (.ladd, 1) := by decide +kernel
theorem dI_39 : decode prog_45_method_7_code 39 = .ok (.aload_n 0, 1) := by decide +kernel
theorem dI_40 : decode prog_45_method_7_code 40 = .ok (.getfield 19, 3) := by decide +kernel
theorem dI_43 : decode prog_45_method_7_code 43 = .ok (.iload_n 3, 1) := by decide +kernel
theorem dI_44 : decode prog_45_method_7_code 44 = .ok (.laload, 1) := by decide +kernel
theorem dI_45 : decode prog_45_method_7_code 45 = .ok (.lsub, 1) := by decide +kernel
theorem dI_46 : decode prog_45_method_7_code 46 = .ok (.lstore 4, 2) := by decide +kernel
set_option maxRecDepth 65536 in
set_option maxHeartbeats 40000000 in
theorem m_ix_1 (l : Launch) (Z : State) (a0 : Array Value) (hw : ∀ d ∈ tables_1, d.before a0 Z = true) (f0 c0 : Int64) (key : Int64) (a f k t : Addr) (h : Heap) (B : 0 ≤ f0.toInt ∧ f0.toInt < 4611686018427388404 ∧ 1 ≤ c0.toInt ∧ c0.toInt ≤ 16) (E : Exa Z h a "com/example/keelstone/keelstone/store/Runs") (F1 : Fld Z h a "com/example/keelstone/keelstone/store/Runs" "firsts" "[J" (.ref f)) (F2 : Fld Z h a "com/example/keelstone/keelstone/store/Runs" "counts" "[J" (.ref k)) (F3 : Fld Z h a "com/example/keelstone/keelstone/store/Runs" "starts" "[J" (.ref t)) (Af : Av Z h f .long [(.long f0)]) (Ak : Av Z h k .long [(.long c0)]) (At : Av Z h t .long [(.long (0 : Int64))]) :
    MetW false l Z [] (⟨"com/example/keelstone/keelstone/store/Runs", "indexOf", "(J)J"⟩ : MethodName) prog_45_method_7_code 6 (Option.some Jvm.ClassFile.FieldType.long) [] ({ frames := 3, cells := 0, slots := 0, locals := 57 } : Room) #[(.ref a), (.long key)] [] h (fun v h' => v = some (.long (ix1 f0 c0 key))) := by
  obtain ⟨b0, b1, p0, q0⟩ := B
  have s0 : (f0 + c0).toInt = f0.toInt + c0.toInt := own_add (by omega) (by omega) (by omega) (by omega)
  refine MetW.of (Ls := #[.val (.ref a), .val (.long key), .second, .unset, .unset, .unset]) (a0 := a0) (by first | (simp [plainName, overriddenIn]; done) | decide +kernel) (fun m => by first | (simp [entryFrame, mkF, argsToLocals, Value.category]; done) | rfl) EW.nil (fun _ => rfl) (fun p e s m below meth c hs0 C => ?_)
  refine g_aloadN C dI_0 rfl rfl ?_
  refine g_lloadN C dI_1 rfl ?_
  refine g_invokevirtual [(.long key)] [] 0 C dI_2 (hw _ (List.mem_of_getElem? (i := 26) rfl)) (hw _ (List.mem_of_getElem? (i := 27) rfl)) (hw _ (List.mem_of_getElem? (i := 29) rfl)) (hw _ (List.mem_of_getElem? (i := 28) rfl)) (hw _ (List.mem_of_getElem? (i := 6) rfl)) (hw _ (List.mem_of_getElem? (i := 30) rfl)) (fun _ hZ => notFace_of_selects (args := #[]) (mvT hZ (hw _ (List.mem_of_getElem? (i := 29) rfl)))) (by decide) E (m_rf_1 l Z a0 hw f0 c0 key a f k _ ⟨b0, b1, p0, q0⟩ F1 F2 Af Ak) (lenOf pd2 rfl) rfl rfl (Nat.le_of_ble_eq_true rfl) (by decide) (by decide) (by decide) (by decide) all0 (fun v1 h2 L3 q4 K5 => ?_)
  obtain rfl := q4
  obtain ⟨r, hr⟩ : ∃ r, r = rf1 f0 c0 key := ⟨_, rfl⟩
  rw [← hr]
  have hcs : (key < f0 + c0 ∧ r = (0 : Int32)) ∨ (¬ key < f0 + c0 ∧ r = (1 : Int32)) := by
    rw [hr]; unfold rf1
    repeat' split
    all_goals simp_all
  rcases hcs with ⟨y6, rfl⟩ | ⟨y7, rfl⟩
  · skip
    show Go _ _ _ _ _ _ _ _ _ _ _ _ _ _ _ _ _ _ _ _ _ _ (mkF _ 5 #[.val (.ref a), .val (.long key), .second, .unset, .unset, .unset] [(.int (0 : Int32))])
    refine g_istoreN #[.val (.ref a), .val (.long key), .second, .val (.int (0 : Int32)), .unset, .unset] C dI_5 rfl ?_
    refine g_ldc2w (-1 : Int64) C dI_6 (hw _ (List.mem_of_getElem? (i := 38) rfl)) ?_
    refine g_lstore #[.val (.ref a), .val (.long key), .second, .val (.int (0 : Int32)), .val (.long (-1 : Int64)), .second] C dI_9 rfl ?_
    refine g_iloadN C dI_11 rfl ?_
    refine g_aloadN C dI_12 rfl rfl ?_
    have f8 := (F1.keep K5 nin0)
    refine g_getfield (host := "") C dI_13 (Or.inl (hw _ (List.mem_of_getElem? (i := 13) rfl))) Via.refl f8 ?_
    have f9 := (Af.keep K5 nin0)
    refine g_alen C dI_16 f9 (z := (1 : Int32)) rfl ?_
    refine g_icmpF C dI_17 (show (0 : Int32) < (1 : Int32) by decide) ?_
    refine g_aloadN C dI_20 rfl rfl ?_
    refine g_getfield (host := "") C dI_21 (Or.inl (hw _ (List.mem_of_getElem? (i := 13) rfl))) Via.refl f8 ?_
    refine g_iloadN C dI_24 rfl ?_
    refine g_laload 0 C dI_25 f9 (by decide) (by decide) rfl ?_
    refine g_lloadN C dI_26 rfl ?_
    refine g_lcmp C dI_27 ?_
    by_cases c10 : key < f0
    · skip
      refine g_ifT 48 C dI_28 (cl_gt_t c10) (by decide) (by decide) ?_
      refine g_lload C dI_48 rfl ?_
      have hq : (-1 : Int64) = ix1 f0 c0 key := by
        simp only [Int64.lt_iff_toInt_lt, s0] at y6 c10
        simp only [ix1, Int64.lt_iff_toInt_lt, s0]
        repeat' split
        all_goals first | rfl | (exfalso; omega)
      exact g_retJ C dI_50 (by rw [hq]) (by decide) (by decide)
    · skip
      refine g_ifF C dI_28 (cl_gt_f c10) ?_
      refine g_aloadN C dI_31 rfl rfl ?_
      have f11 := (F3.keep K5 nin0)
      refine g_getfield (host := "") C dI_32 (Or.inl (hw _ (List.mem_of_getElem? (i := 17) rfl))) Via.refl f11 ?_
      refine g_iloadN C dI_35 rfl ?_
      have f12 := (At.keep K5 nin0)
      refine g_laload 0 C dI_36 f12 (by decide) (by decide) rfl ?_
      refine g_lloadN C dI_37 rfl ?_
      refine g_ladd _ C dI_38 rfl ?_
      refine g_aloadN C dI_39 rfl rfl ?_
      refine g_getfield (host := "") C dI_40 (Or.inl (hw _ (List.mem_of_getElem? (i := 13) rfl))) Via.refl f8 ?_
      refine g_iloadN C dI_43 rfl ?_
      refine g_laload 0 C dI_44 f9 (by decide) (by decide) rfl ?_
      refine g_lsub _ C dI_45 rfl ?_
      refine g_lstore #[.val (.ref a), .val (.long key), .second, .val (.int (0 : Int32)), .val (.long (((0 : Int64) + key) - f0)), .second] C dI_46 rfl ?_
      refine g_lload C dI_48 rfl ?_
      have hq : (((0 : Int64) + key) - f0) = ix1 f0 c0 key := by
        have hv : (((0 : Int64) + key) - f0) = (key - f0) := by simp only [Int64.zero_add, Int64.sub_eq_add_neg, Int64.add_assoc]
        rw [hv]
        simp only [Int64.lt_iff_toInt_lt, s0] at y6 c10
        simp only [ix1, Int64.lt_iff_toInt_lt, s0]
        repeat' split
        all_goals first | rfl | (exfalso; omega)
      exact g_retJ C dI_50 (by rw [hq]) (by decide) (by decide)
  · skip
    show Go _ _ _ _ _ _ _ _ _ _ _ _ _ _ _ _ _ _ _ _ _ _ (mkF _ 5 #[.val (.ref a), .val (.long key), .second, .unset, .unset, .unset] [(.int (1 : Int32))])
    refine g_istoreN #[.val (.ref a), .val (.long key), .second, .val (.int (1 : Int32)), .unset, .unset] C dI_5 rfl ?_
    refine g_ldc2w (-1 : Int64) C dI_6 (hw _ (List.mem_of_getElem? (i := 38) rfl)) ?_
    refine g_lstore #[.val (.ref a), .val (.long key), .second, .val (.int (1 : Int32)), .val (.long (-1 : Int64)), .second] C dI_9 rfl ?_
    refine g_iloadN C dI_11 rfl ?_
    refine g_aloadN C dI_12 rfl rfl ?_
    have f13 := (F1.keep K5 nin0)
    refine g_getfield (host := "") C dI_13 (Or.inl (hw _ (List.mem_of_getElem? (i := 13) rfl))) Via.refl f13 ?_
    have f14 := (Af.keep K5 nin0)
    refine g_alen C dI_16 f14 (z := (1 : Int32)) rfl ?_
    refine g_icmpT 48 C dI_17 (show ¬ (1 : Int32) < (1 : Int32) by decide) (by decide) (by decide) ?_
    refine g_lload C dI_48 rfl ?_
    have hq : (-1 : Int64) = ix1 f0 c0 key := by
      simp only [Int64.lt_iff_toInt_lt, s0] at y7
      simp only [ix1, Int64.lt_iff_toInt_lt, s0]
      repeat' split
      all_goals first | rfl | (exfalso; omega)
    exact g_retJ C dI_50 (by rw [hq]) (by decide) (by decide)
set_option maxRecDepth 65536 in
set_option maxHeartbeats 40000000 in
theorem m_ix_2 (l : Launch) (Z : State) (a0 : Array Value) (hw : ∀ d ∈ tables_1, d.before a0 Z = true) (f0 f1 c0 c1 : Int64) (key : Int64) (a f k t : Addr) (h : Heap) (B : 0 ≤ f0.toInt ∧ f1.toInt < 4611686018427388404 ∧ 1 ≤ c0.toInt ∧ c0.toInt ≤ 16 ∧ 1 ≤ c1.toInt ∧ c1.toInt ≤ 16 ∧ f0.toInt + c0.toInt < f1.toInt) (E : Exa Z h a "com/example/keelstone/keelstone/store/Runs") (F1 : Fld Z h a "com/example/keelstone/keelstone/store/Runs" "firsts" "[J" (.ref f)) (F2 : Fld Z h a "com/example/keelstone/keelstone/store/Runs" "counts" "[J" (.ref k)) (F3 : Fld Z h a "com/example/keelstone/keelstone/store/Runs" "starts" "[J" (.ref t)) (Af : Av Z h f .long [(.long f0), (.long f1)]) (Ak : Av Z h k .long [(.long c0), (.long c1)]) (At : Av Z h t .long [(.long (0 : Int64)), (.long ((0 : Int64) + c0))]) :
    MetW false l Z [] (⟨"com/example/keelstone/keelstone/store/Runs", "indexOf", "(J)J"⟩ : MethodName) prog_45_method_7_code 6 (Option.some Jvm.ClassFile.FieldType.long) [] ({ frames := 3, cells := 0, slots := 0, locals := 57 } : Room) #[(.ref a), (.long key)] [] h (fun v h' => v = some (.long (ix2 f0 f1 c0 c1 key))) := by
  obtain ⟨b0, b1, p0, q0, p1, q1, r0⟩ := B
  have s0 : (f0 + c0).toInt = f0.toInt + c0.toInt := own_add (by omega) (by omega) (by omega) (by omega)
  have s1 : (f1 + c1).toInt = f1.toInt + c1.toInt := own_add (by omega) (by omega) (by omega) (by omega)
  refine MetW.of (Ls := #[.val (.ref a), .val (.long key), .second, .unset, .unset, .unset]) (a0 := a0) (by first | (simp [plainName, overriddenIn]; done) | decide +kernel) (fun m => by first | (simp [entryFrame, mkF, argsToLocals, Value.category]; done) | rfl) EW.nil (fun _ => rfl) (fun p e s m below meth c hs0 C => ?_)
  refine g_aloadN C dI_0 rfl rfl ?_
  refine g_lloadN C dI_1 rfl ?_
  refine g_invokevirtual [(.long key)] [] 0 C dI_2 (hw _ (List.mem_of_getElem? (i := 26) rfl)) (hw _ (List.mem_of_getElem? (i := 27) rfl)) (hw _ (List.mem_of_getElem? (i := 29) rfl)) (hw _ (List.mem_of_getElem? (i := 28) rfl)) (hw _ (List.mem_of_getElem? (i := 6) rfl)) (hw _ (List.mem_of_getElem? (i := 30) rfl)) (fun _ hZ => notFace_of_selects (args := #[]) (mvT hZ (hw _ (List.mem_of_getElem? (i := 29) rfl)))) (by decide) E (m_rf_2 l Z a0 hw f0 f1 c0 c1 key a f k _ ⟨b0, b1, p0, q0, p1, q1, r0⟩ F1 F2 Af Ak) (lenOf pd2 rfl) rfl rfl (Nat.le_of_ble_eq_true rfl) (by decide) (by decide) (by decide) (by decide) all0 (fun v1 h2 L3 q4 K5 => ?_)
  obtain rfl := q4
  obtain ⟨r, hr⟩ : ∃ r, r = rf2 f0 f1 c0 c1 key := ⟨_, rfl⟩
  rw [← hr]
  have hcs : (key < f0 + c0 ∧ r = (0 : Int32)) ∨ (¬ key < f0 + c0 ∧ key < f1 + c1 ∧ r = (1 : Int32)) ∨ (¬ key < f0 + c0 ∧ ¬ key < f1 + c1 ∧ r = (2 : Int32)) := by
    rw [hr]; unfold rf2
    repeat' split
    all_goals simp_all
  rcases hcs with ⟨y6, rfl⟩ | ⟨y7, y8, rfl⟩ | ⟨y9, y10, rfl⟩
  · skip
    show Go _ _ _ _ _ _ _ _ _ _ _ _ _ _ _ _ _ _ _ _ _ _ (mkF _ 5 #[.val (.ref a), .val (.long key), .second, .unset, .unset, .unset] [(.int (0 : Int32))])
    refine g_istoreN #[.val (.ref a), .val (.long key), .second, .val (.int (0 : Int32)), .unset, .unset] C dI_5 rfl ?_
    refine g_ldc2w (-1 : Int64) C dI_6 (hw _ (List.mem_of_getElem? (i := 38) rfl)) ?_
    refine g_lstore #[.val (.ref a), .val (.long key), .second, .val (.int (0 : Int32)), .val (.long (-1 : Int64)), .second] C dI_9 rfl ?_
    refine g_iloadN C dI_11 rfl ?_
    refine g_aloadN C dI_12 rfl rfl ?_
    have f11 := (F1.keep K5 nin0)
    refine g_getfield (host := "") C dI_13 (Or.inl (hw _ (List.mem_of_getElem? (i := 13) rfl))) Via.refl f11 ?_
    have f12 := (Af.keep K5 nin0)
    refine g_alen C dI_16 f12 (z := (2 : Int32)) rfl ?_
    refine g_icmpF C dI_17 (show (0 : Int32) < (2 : Int32) by decide) ?_
    refine g_aloadN C dI_20 rfl rfl ?_
    refine g_getfield (host := "") C dI_21 (Or.inl (hw _ (List.mem_of_getElem? (i := 13) rfl))) Via.refl f11 ?_
    refine g_iloadN C dI_24 rfl ?_
    refine g_laload 0 C dI_25 f12 (by decide) (by decide) rfl ?_
    refine g_lloadN C dI_26 rfl ?_
    refine g_lcmp C dI_27 ?_
    by_cases c13 : key < f0
    · skip
      refine g_ifT 48 C dI_28 (cl_gt_t c13) (by decide) (by decide) ?_
      refine g_lload C dI_48 rfl ?_
      have hq : (-1 : Int64) = ix2 f0 f1 c0 c1 key := by
        simp only [Int64.lt_iff_toInt_lt, s0, s1] at y6 c13
        simp only [ix2, Int64.lt_iff_toInt_lt, s0, s1]
        repeat' split
        all_goals first | rfl | (exfalso; omega)
      exact g_retJ C dI_50 (by rw [hq]) (by decide) (by decide)
    · skip
      refine g_ifF C dI_28 (cl_gt_f c13) ?_
      refine g_aloadN C dI_31 rfl rfl ?_
      have f14 := (F3.keep K5 nin0)
      refine g_getfield (host := "") C dI_32 (Or.inl (hw _ (List.mem_of_getElem? (i := 17) rfl))) Via.refl f14 ?_
      refine g_iloadN C dI_35 rfl ?_
      have f15 := (At.keep K5 nin0)
      refine g_laload 0 C dI_36 f15 (by decide) (by decide) rfl ?_
      refine g_lloadN C dI_37 rfl ?_
      refine g_ladd _ C dI_38 rfl ?_
      refine g_aloadN C dI_39 rfl rfl ?_
      refine g_getfield (host := "") C dI_40 (Or.inl (hw _ (List.mem_of_getElem? (i := 13) rfl))) Via.refl f11 ?_
      refine g_iloadN C dI_43 rfl ?_
      refine g_laload 0 C dI_44 f12 (by decide) (by decide) rfl ?_
      refine g_lsub _ C dI_45 rfl ?_
      refine g_lstore #[.val (.ref a), .val (.long key), .second, .val (.int (0 : Int32)), .val (.long (((0 : Int64) + key) - f0)), .second] C dI_46 rfl ?_
      refine g_lload C dI_48 rfl ?_
      have hq : (((0 : Int64) + key) - f0) = ix2 f0 f1 c0 c1 key := by
        have hv : (((0 : Int64) + key) - f0) = (key - f0) := by simp only [Int64.zero_add, Int64.sub_eq_add_neg, Int64.add_assoc]
        rw [hv]
        simp only [Int64.lt_iff_toInt_lt, s0, s1] at y6 c13
        simp only [ix2, Int64.lt_iff_toInt_lt, s0, s1]
        repeat' split
        all_goals first | rfl | (exfalso; omega)
      exact g_retJ C dI_50 (by rw [hq]) (by decide) (by decide)
  · skip
    show Go _ _ _ _ _ _ _ _ _ _ _ _ _ _ _ _ _ _ _ _ _ _ (mkF _ 5 #[.val (.ref a), .val (.long key), .second, .unset, .unset, .unset] [(.int (1 : Int32))])
    refine g_istoreN #[.val (.ref a), .val (.long key), .second, .val (.int (1 : Int32)), .unset, .unset] C dI_5 rfl ?_
    refine g_ldc2w (-1 : Int64) C dI_6 (hw _ (List.mem_of_getElem? (i := 38) rfl)) ?_
    refine g_lstore #[.val (.ref a), .val (.long key), .second, .val (.int (1 : Int32)), .val (.long (-1 : Int64)), .second] C dI_9 rfl ?_
    refine g_iloadN C dI_11 rfl ?_
    refine g_aloadN C dI_12 rfl rfl ?_
    have f16 := (F1.keep K5 nin0)
    refine g_getfield (host := "") C dI_13 (Or.inl (hw _ (List.mem_of_getElem? (i := 13) rfl))) Via.refl f16 ?_
    have f17 := (Af.keep K5 nin0)
    refine g_alen C dI_16 f17 (z := (2 : Int32)) rfl ?_
    refine g_icmpF C dI_17 (show (1 : Int32) < (2 : Int32) by decide) ?_
    refine g_aloadN C dI_20 rfl rfl ?_
    refine g_getfield (host := "") C dI_21 (Or.inl (hw _ (List.mem_of_getElem? (i := 13) rfl))) Via.refl f16 ?_
    refine g_iloadN C dI_24 rfl ?_
    refine g_laload 1 C dI_25 f17 (by decide) (by decide) rfl ?_
    refine g_lloadN C dI_26 rfl ?_
    refine g_lcmp C dI_27 ?_
    by_cases c18 : key < f1
    · skip
      refine g_ifT 48 C dI_28 (cl_gt_t c18) (by decide) (by decide) ?_
      refine g_lload C dI_48 rfl ?_
      have hq : (-1 : Int64) = ix2 f0 f1 c0 c1 key := by
        simp only [Int64.lt_iff_toInt_lt, s0, s1] at y7 y8 c18
        simp only [ix2, Int64.lt_iff_toInt_lt, s0, s1]
        repeat' split
        all_goals first | rfl | (exfalso; omega)
      exact g_retJ C dI_50 (by rw [hq]) (by decide) (by decide)
    · skip
      refine g_ifF C dI_28 (cl_gt_f c18) ?_
      refine g_aloadN C dI_31 rfl rfl ?_
      have f19 := (F3.keep K5 nin0)
      refine g_getfield (host := "") C dI_32 (Or.inl (hw _ (List.mem_of_getElem? (i := 17) rfl))) Via.refl f19 ?_
      refine g_iloadN C dI_35 rfl ?_
      have f20 := (At.keep K5 nin0)
      refine g_laload 1 C dI_36 f20 (by decide) (by decide) rfl ?_
      refine g_lloadN C dI_37 rfl ?_
      refine g_ladd _ C dI_38 rfl ?_
      refine g_aloadN C dI_39 rfl rfl ?_
      refine g_getfield (host := "") C dI_40 (Or.inl (hw _ (List.mem_of_getElem? (i := 13) rfl))) Via.refl f16 ?_
      refine g_iloadN C dI_43 rfl ?_
      refine g_laload 1 C dI_44 f17 (by decide) (by decide) rfl ?_
      refine g_lsub _ C dI_45 rfl ?_
      refine g_lstore #[.val (.ref a), .val (.long key), .second, .val (.int (1 : Int32)), .val (.long ((((0 : Int64) + c0) + key) - f1)), .second] C dI_46 rfl ?_
      refine g_lload C dI_48 rfl ?_
      have hq : ((((0 : Int64) + c0) + key) - f1) = ix2 f0 f1 c0 c1 key := by
        have hv : ((((0 : Int64) + c0) + key) - f1) = (c0 + (key - f1)) := by simp only [Int64.zero_add, Int64.sub_eq_add_neg, Int64.add_assoc]
        rw [hv]
        simp only [Int64.lt_iff_toInt_lt, s0, s1] at y7 y8 c18
        simp only [ix2, Int64.lt_iff_toInt_lt, s0, s1]
        repeat' split
        all_goals first | rfl | (exfalso; omega)
      exact g_retJ C dI_50 (by rw [hq]) (by decide) (by decide)
  · skip
    show Go _ _ _ _ _ _ _ _ _ _ _ _ _ _ _ _ _ _ _ _ _ _ (mkF _ 5 #[.val (.ref a), .val (.long key), .second, .unset, .unset, .unset] [(.int (2 : Int32))])
    refine g_istoreN #[.val (.ref a), .val (.long key), .second, .val (.int (2 : Int32)), .unset, .unset] C dI_5 rfl ?_
    refine g_ldc2w (-1 : Int64) C dI_6 (hw _ (List.mem_of_getElem? (i := 38) rfl)) ?_
    refine g_lstore #[.val (.ref a), .val (.long key), .second, .val (.int (2 : Int32)), .val (.long (-1 : Int64)), .second] C dI_9 rfl ?_
    refine g_iloadN C dI_11 rfl ?_
    refine g_aloadN C dI_12 rfl rfl ?_
    have f21 := (F1.keep K5 nin0)
    refine g_getfield (host := "") C dI_13 (Or.inl (hw _ (List.mem_of_getElem? (i := 13) rfl))) Via.refl f21 ?_
    have f22 := (Af.keep K5 nin0)
    refine g_alen C dI_16 f22 (z := (2 : Int32)) rfl ?_
    refine g_icmpT 48 C dI_17 (show ¬ (2 : Int32) < (2 : Int32) by decide) (by decide) (by decide) ?_
    refine g_lload C dI_48 rfl ?_
    have hq : (-1 : Int64) = ix2 f0 f1 c0 c1 key := by
      simp only [Int64.lt_iff_toInt_lt, s0, s1] at y9 y10
      simp only [ix2, Int64.lt_iff_toInt_lt, s0, s1]
      repeat' split
      all_goals first | rfl | (exfalso; omega)
    exact g_retJ C dI_50 (by rw [hq]) (by decide) (by decide)
set_option maxRecDepth 65536 in
set_option maxHeartbeats 40000000 in
theorem m_ix_3 (l : Launch) (Z : State) (a0 : Array Value) (hw : ∀ d ∈ tables_1, d.before a0 Z = true) (f0 f1 f2 c0 c1 c2 : Int64) (key : Int64) (a f k t : Addr) (h : Heap) (B : 0 ≤ f0.toInt ∧ f2.toInt < 4611686018427388404 ∧ 1 ≤ c0.toInt ∧ c0.toInt ≤ 16 ∧ 1 ≤ c1.toInt ∧ c1.toInt ≤ 16 ∧ 1 ≤ c2.toInt ∧ c2.toInt ≤ 16 ∧ f0.toInt + c0.toInt < f1.toInt ∧ f1.toInt + c1.toInt < f2.toInt) (E : Exa Z h a "com/example/keelstone/keelstone/store/Runs") (F1 : Fld Z h a "com/example/keelstone/keelstone/store/Runs" "firsts" "[J" (.ref f)) (F2 : Fld Z h a "com/example/keelstone/keelstone/store/Runs" "counts" "[J" (.ref k)) (F3 : Fld Z h a "com/example/keelstone/keelstone/store/Runs" "starts" "[J" (.ref t)) (Af : Av Z h f .long [(.long f0), (.long f1), (.long f2)]) (Ak : Av Z h k .long [(.long c0), (.long c1), (.long c2)]) (At : Av Z h t .long [(.long (0 : Int64)), (.long ((0 : Int64) + c0)), (.long (((0 : Int64) + c0) + c1))]) :
    MetW false l Z [] (⟨"com/example/keelstone/keelstone/store/Runs", "indexOf", "(J)J"⟩ : MethodName) prog_45_method_7_code 6 (Option.some Jvm.ClassFile.FieldType.long) [] ({ frames := 3, cells := 0, slots := 0, locals := 57 } : Room) #[(.ref a), (.long key)] [] h (fun v h' => v = some (.long (ix3 f0 f1 f2 c0 c1 c2 key))) := by
  obtain ⟨b0, b1, p0, q0, p1, q1, p2, q2, r0, r1⟩ := B
  have s0 : (f0 + c0).toInt = f0.toInt + c0.toInt := own_add (by omega) (by omega) (by omega) (by omega)
  have s1 : (f1 + c1).toInt = f1.toInt + c1.toInt := own_add (by omega) (by omega) (by omega) (by omega)
  have s2 : (f2 + c2).toInt = f2.toInt + c2.toInt := own_add (by omega) (by omega) (by omega) (by omega)
  refine MetW.of (Ls := #[.val (.ref a), .val (.long key), .second, .unset, .unset, .unset]) (a0 := a0) (by first | (simp [plainName, overriddenIn]; done) | decide +kernel) (fun m => by first | (simp [entryFrame, mkF, argsToLocals, Value.category]; done) | rfl) EW.nil (fun _ => rfl) (fun p e s m below meth c hs0 C => ?_)
  refine g_aloadN C dI_0 rfl rfl ?_
  refine g_lloadN C dI_1 rfl ?_
  refine g_invokevirtual [(.long key)] [] 0 C dI_2 (hw _ (List.mem_of_getElem? (i := 26) rfl)) (hw _ (List.mem_of_getElem? (i := 27) rfl)) (hw _ (List.mem_of_getElem? (i := 29) rfl)) (hw _ (List.mem_of_getElem? (i := 28) rfl)) (hw _ (List.mem_of_getElem? (i := 6) rfl)) (hw _ (List.mem_of_getElem? (i := 30) rfl)) (fun _ hZ => notFace_of_selects (args := #[]) (mvT hZ (hw _ (List.mem_of_getElem? (i := 29) rfl)))) (by decide) E (m_rf_3 l Z a0 hw f0 f1 f2 c0 c1 c2 key a f k _ ⟨b0, b1, p0, q0, p1, q1, p2, q2, r0, r1⟩ F1 F2 Af Ak) (lenOf pd2 rfl) rfl rfl (Nat.le_of_ble_eq_true rfl) (by decide) (by decide) (by decide) (by decide) all0 (fun v1 h2 L3 q4 K5 => ?_)
  obtain rfl := q4
  obtain ⟨r, hr⟩ : ∃ r, r = rf3 f0 f1 f2 c0 c1 c2 key := ⟨_, rfl⟩
  rw [← hr]
  have hcs : (key < f0 + c0 ∧ r = (0 : Int32)) ∨ (¬ key < f0 + c0 ∧ key < f1 + c1 ∧ r = (1 : Int32)) ∨ (¬ key < f0 + c0 ∧ ¬ key < f1 + c1 ∧ key < f2 + c2 ∧ r = (2 : Int32)) ∨ (¬ key < f0 + c0 ∧ ¬ key < f1 + c1 ∧ ¬ key < f2 + c2 ∧ r = (3 : Int32)) := by
    rw [hr]; unfold rf3
    repeat' split
    all_goals simp_all
  rcases hcs with ⟨y6, rfl⟩ | ⟨y7, y8, rfl⟩ | ⟨y9, y10, y11, rfl⟩ | ⟨y12, y13, y14, rfl⟩
  · skip
    show Go _ _ _ _ _ _ _ _ _ _ _ _ _ _ _ _ _ _ _ _ _ _ (mkF _ 5 #[.val (.ref a), .val (.long key), .second, .unset, .unset, .unset] [(.int (0 : Int32))])
    refine g_istoreN #[.val (.ref a), .val (.long key), .second, .val (.int (0 : Int32)), .unset, .unset] C dI_5 rfl ?_
    refine g_ldc2w (-1 : Int64) C dI_6 (hw _ (List.mem_of_getElem? (i := 38) rfl)) ?_
    refine g_lstore #[.val (.ref a), .val (.long key), .second, .val (.int (0 : Int32)), .val (.long (-1 : Int64)), .second] C dI_9 rfl ?_
    refine g_iloadN C dI_11 rfl ?_
    refine g_aloadN C dI_12 rfl rfl ?_
    have f15 := (F1.keep K5 nin0)
    refine g_getfield (host := "") C dI_13 (Or.inl (hw _ (List.mem_of_getElem? (i := 13) rfl))) Via.refl f15 ?_
    have f16 := (Af.keep K5 nin0)
    refine g_alen C dI_16 f16 (z := (3 : Int32)) rfl ?_
    refine g_icmpF C dI_17 (show (0 : Int32) < (3 : Int32) by decide) ?_
    refine g_aloadN C dI_20 rfl rfl ?_
    refine g_getfield (host := "") C dI_21 (Or.inl (hw _ (List.mem_of_getElem? (i := 13) rfl))) Via.refl f15 ?_
    refine g_iloadN C dI_24 rfl ?_
    refine g_laload 0 C dI_25 f16 (by decide) (by decide) rfl ?_
    refine g_lloadN C dI_26 rfl ?_
    refine g_lcmp C dI_27 ?_
    by_cases c17 : key < f0
    · skip
      refine g_ifT 48 C dI_28 (cl_gt_t c17) (by decide) (by decide) ?_
      refine g_lload C dI_48 rfl ?_
      have hq : (-1 : Int64) = ix3 f0 f1 f2 c0 c1 c2 key := by
        simp only [Int64.lt_iff_toInt_lt, s0, s1, s2] at y6 c17
        simp only [ix3, Int64.lt_iff_toInt_lt, s0, s1, s2]
        repeat' split
        all_goals first | rfl | (exfalso; omega)
      exact g_retJ C dI_50 (by rw [hq]) (by decide) (by decide)
    · skip
      refine g_ifF C dI_28 (cl_gt_f c17) ?_
      refine g_aloadN C dI_31 rfl rfl ?_
      have f18 := (F3.keep K5 nin0)
      refine g_getfield (host := "") C dI_32 (Or.inl (hw _ (List.mem_of_getElem? (i := 17) rfl))) Via.refl f18 ?_
      refine g_iloadN C dI_35 rfl ?_
      have f19 := (At.keep K5 nin0)
      refine g_laload 0 C dI_36 f19 (by decide) (by decide) rfl ?_
      refine g_lloadN C dI_37 rfl ?_
      refine g_ladd _ C dI_38 rfl ?_
      refine g_aloadN C dI_39 rfl rfl ?_
      refine g_getfield (host := "") C dI_40 (Or.inl (hw _ (List.mem_of_getElem? (i := 13) rfl))) Via.refl f15 ?_
      refine g_iloadN C dI_43 rfl ?_
      refine g_laload 0 C dI_44 f16 (by decide) (by decide) rfl ?_
      refine g_lsub _ C dI_45 rfl ?_
      refine g_lstore #[.val (.ref a), .val (.long key), .second, .val (.int (0 : Int32)), .val (.long (((0 : Int64) + key) - f0)), .second] C dI_46 rfl ?_
      refine g_lload C dI_48 rfl ?_
      have hq : (((0 : Int64) + key) - f0) = ix3 f0 f1 f2 c0 c1 c2 key := by
        have hv : (((0 : Int64) + key) - f0) = (key - f0) := by simp only [Int64.zero_add, Int64.sub_eq_add_neg, Int64.add_assoc]
        rw [hv]
        simp only [Int64.lt_iff_toInt_lt, s0, s1, s2] at y6 c17
        simp only [ix3, Int64.lt_iff_toInt_lt, s0, s1, s2]
        repeat' split
        all_goals first | rfl | (exfalso; omega)
      exact g_retJ C dI_50 (by rw [hq]) (by decide) (by decide)
  · skip
    show Go _ _ _ _ _ _ _ _ _ _ _ _ _ _ _ _ _ _ _ _ _ _ (mkF _ 5 #[.val (.ref a), .val (.long key), .second, .unset, .unset, .unset] [(.int (1 : Int32))])
    refine g_istoreN #[.val (.ref a), .val (.long key), .second, .val (.int (1 : Int32)), .unset, .unset] C dI_5 rfl ?_
    refine g_ldc2w (-1 : Int64) C dI_6 (hw _ (List.mem_of_getElem? (i := 38) rfl)) ?_
    refine g_lstore #[.val (.ref a), .val (.long key), .second, .val (.int (1 : Int32)), .val (.long (-1 : Int64)), .second] C dI_9 rfl ?_
    refine g_iloadN C dI_11 rfl ?_
    refine g_aloadN C dI_12 rfl rfl ?_
    have f20 := (F1.keep K5 nin0)
    refine g_getfield (host := "") C dI_13 (Or.inl (hw _ (List.mem_of_getElem? (i := 13) rfl))) Via.refl f20 ?_
    have f21 := (Af.keep K5 nin0)
    refine g_alen C dI_16 f21 (z := (3 : Int32)) rfl ?_
    refine g_icmpF C dI_17 (show (1 : Int32) < (3 : Int32) by decide) ?_
    refine g_aloadN C dI_20 rfl rfl ?_
    refine g_getfield (host := "") C dI_21 (Or.inl (hw _ (List.mem_of_getElem? (i := 13) rfl))) Via.refl f20 ?_
    refine g_iloadN C dI_24 rfl ?_
    refine g_laload 1 C dI_25 f21 (by decide) (by decide) rfl ?_
    refine g_lloadN C dI_26 rfl ?_
    refine g_lcmp C dI_27 ?_
    by_cases c22 : key < f1
    · skip
      refine g_ifT 48 C dI_28 (cl_gt_t c22) (by decide) (by decide) ?_
      refine g_lload C dI_48 rfl ?_
      have hq : (-1 : Int64) = ix3 f0 f1 f2 c0 c1 c2 key := by
        simp only [Int64.lt_iff_toInt_lt, s0, s1, s2] at y7 y8 c22
        simp only [ix3, Int64.lt_iff_toInt_lt, s0, s1, s2]
        repeat' split
        all_goals first | rfl | (exfalso; omega)
      exact g_retJ C dI_50 (by rw [hq]) (by decide) (by decide)
    · skip
      refine g_ifF C dI_28 (cl_gt_f c22) ?_
      refine g_aloadN C dI_31 rfl rfl ?_
      have f23 := (F3.keep K5 nin0)
      refine g_getfield (host := "") C dI_32 (Or.inl (hw _ (List.mem_of_getElem? (i := 17) rfl))) Via.refl f23 ?_
      refine g_iloadN C dI_35 rfl ?_
      have f24 := (At.keep K5 nin0)
      refine g_laload 1 C dI_36 f24 (by decide) (by decide) rfl ?_
      refine g_lloadN C dI_37 rfl ?_
      refine g_ladd _ C dI_38 rfl ?_
      refine g_aloadN C dI_39 rfl rfl ?_
      refine g_getfield (host := "") C dI_40 (Or.inl (hw _ (List.mem_of_getElem? (i := 13) rfl))) Via.refl f20 ?_
      refine g_iloadN C dI_43 rfl ?_
      refine g_laload 1 C dI_44 f21 (by decide) (by decide) rfl ?_
      refine g_lsub _ C dI_45 rfl ?_
      refine g_lstore #[.val (.ref a), .val (.long key), .second, .val (.int (1 : Int32)), .val (.long ((((0 : Int64) + c0) + key) - f1)), .second] C dI_46 rfl ?_
      refine g_lload C dI_48 rfl ?_
      have hq : ((((0 : Int64) + c0) + key) - f1) = ix3 f0 f1 f2 c0 c1 c2 key := by
        have hv : ((((0 : Int64) + c0) + key) - f1) = (c0 + (key - f1)) := by simp only [Int64.zero_add, Int64.sub_eq_add_neg, Int64.add_assoc]
        rw [hv]
        simp only [Int64.lt_iff_toInt_lt, s0, s1, s2] at y7 y8 c22
        simp only [ix3, Int64.lt_iff_toInt_lt, s0, s1, s2]
        repeat' split
        all_goals first | rfl | (exfalso; omega)
      exact g_retJ C dI_50 (by rw [hq]) (by decide) (by decide)
  · skip
    show Go _ _ _ _ _ _ _ _ _ _ _ _ _ _ _ _ _ _ _ _ _ _ (mkF _ 5 #[.val (.ref a), .val (.long key), .second, .unset, .unset, .unset] [(.int (2 : Int32))])
    refine g_istoreN #[.val (.ref a), .val (.long key), .second, .val (.int (2 : Int32)), .unset, .unset] C dI_5 rfl ?_
    refine g_ldc2w (-1 : Int64) C dI_6 (hw _ (List.mem_of_getElem? (i := 38) rfl)) ?_
    refine g_lstore #[.val (.ref a), .val (.long key), .second, .val (.int (2 : Int32)), .val (.long (-1 : Int64)), .second] C dI_9 rfl ?_
    refine g_iloadN C dI_11 rfl ?_
    refine g_aloadN C dI_12 rfl rfl ?_
    have f25 := (F1.keep K5 nin0)
    refine g_getfield (host := "") C dI_13 (Or.inl (hw _ (List.mem_of_getElem? (i := 13) rfl))) Via.refl f25 ?_
    have f26 := (Af.keep K5 nin0)
    refine g_alen C dI_16 f26 (z := (3 : Int32)) rfl ?_
    refine g_icmpF C dI_17 (show (2 : Int32) < (3 : Int32) by decide) ?_
    refine g_aloadN C dI_20 rfl rfl ?_
    refine g_getfield (host := "") C dI_21 (Or.inl (hw _ (List.mem_of_getElem? (i := 13) rfl))) Via.refl f25 ?_
    refine g_iloadN C dI_24 rfl ?_
    refine g_laload 2 C dI_25 f26 (by decide) (by decide) rfl ?_
    refine g_lloadN C dI_26 rfl ?_
    refine g_lcmp C dI_27 ?_
    by_cases c27 : key < f2
    · skip
      refine g_ifT 48 C dI_28 (cl_gt_t c27) (by decide) (by decide) ?_
      refine g_lload C dI_48 rfl ?_
      have hq : (-1 : Int64) = ix3 f0 f1 f2 c0 c1 c2 key := by
        simp only [Int64.lt_iff_toInt_lt, s0, s1, s2] at y9 y10 y11 c27
        simp only [ix3, Int64.lt_iff_toInt_lt, s0, s1, s2]
        repeat' split
        all_goals first | rfl | (exfalso; omega)
      exact g_retJ C dI_50 (by rw [hq]) (by decide) (by decide)
    · skip
      refine g_ifF C dI_28 (cl_gt_f c27) ?_
      refine g_aloadN C dI_31 rfl rfl ?_
      have f28 := (F3.keep K5 nin0)
      refine g_getfield (host := "") C dI_32 (Or.inl (hw _ (List.mem_of_getElem? (i := 17) rfl))) Via.refl f28 ?_
      refine g_iloadN C dI_35 rfl ?_
      have f29 := (At.keep K5 nin0)
      refine g_laload 2 C dI_36 f29 (by decide) (by decide) rfl ?_
      refine g_lloadN C dI_37 rfl ?_
      refine g_ladd _ C dI_38 rfl ?_
      refine g_aloadN C dI_39 rfl rfl ?_
      refine g_getfield (host := "") C dI_40 (Or.inl (hw _ (List.mem_of_getElem? (i := 13) rfl))) Via.refl f25 ?_
      refine g_iloadN C dI_43 rfl ?_
      refine g_laload 2 C dI_44 f26 (by decide) (by decide) rfl ?_
      refine g_lsub _ C dI_45 rfl ?_
      refine g_lstore #[.val (.ref a), .val (.long key), .second, .val (.int (2 : Int32)), .val (.long (((((0 : Int64) + c0) + c1) + key) - f2)), .second] C dI_46 rfl ?_
      refine g_lload C dI_48 rfl ?_
      have hq : (((((0 : Int64) + c0) + c1) + key) - f2) = ix3 f0 f1 f2 c0 c1 c2 key := by
        have hv : (((((0 : Int64) + c0) + c1) + key) - f2) = ((c0 + c1) + (key - f2)) := by simp only [Int64.zero_add, Int64.sub_eq_add_neg, Int64.add_assoc]
        rw [hv]
        simp only [Int64.lt_iff_toInt_lt, s0, s1, s2] at y9 y10 y11 c27
        simp only [ix3, Int64.lt_iff_toInt_lt, s0, s1, s2]
        repeat' split
        all_goals first | rfl | (exfalso; omega)
      exact g_retJ C dI_50 (by rw [hq]) (by decide) (by decide)
  · skip
    show Go _ _ _ _ _ _ _ _ _ _ _ _ _ _ _ _ _ _ _ _ _ _ (mkF _ 5 #[.val (.ref a), .val (.long key), .second, .unset, .unset, .unset] [(.int (3 : Int32))])
    refine g_istoreN #[.val (.ref a), .val (.long key), .second, .val (.int (3 : Int32)), .unset, .unset] C dI_5 rfl ?_
    refine g_ldc2w (-1 : Int64) C dI_6 (hw _ (List.mem_of_getElem? (i := 38) rfl)) ?_
    refine g_lstore #[.val (.ref a), .val (.long key), .second, .val (.int (3 : Int32)), .val (.long (-1 : Int64)), .second] C dI_9 rfl ?_
    refine g_iloadN C dI_11 rfl ?_
    refine g_aloadN C dI_12 rfl rfl ?_
    have f30 := (F1.keep K5 nin0)
    refine g_getfield (host := "") C dI_13 (Or.inl (hw _ (List.mem_of_getElem? (i := 13) rfl))) Via.refl f30 ?_
    have f31 := (Af.keep K5 nin0)
    refine g_alen C dI_16 f31 (z := (3 : Int32)) rfl ?_
    refine g_icmpT 48 C dI_17 (show ¬ (3 : Int32) < (3 : Int32) by decide) (by decide) (by decide) ?_
    refine g_lload C dI_48 rfl ?_
    have hq : (-1 : Int64) = ix3 f0 f1 f2 c0 c1 c2 key := by
      simp only [Int64.lt_iff_toInt_lt, s0, s1, s2] at y12 y13 y14
      simp only [ix3, Int64.lt_iff_toInt_lt, s0, s1, s2]
      repeat' split
      all_goals first | rfl | (exfalso; omega)
    exact g_retJ C dI_50 (by rw [hq]) (by decide) (by decide)
set_option maxRecDepth 65536 in
set_option maxHeartbeats 80000000 in
theorem m_law (l : Launch) (Z : State) (a0 : Array Value) (hw : ∀ d ∈ tables_1, d.before a0 Z = true) (q0 q2 q4 : Int64) (p6 : Int32) (h : Heap) :
    MetW false l Z [] x code maxLocals ret tables_1 room_1 #[.long q0, .long q2, .long q4, .int p6] [] h (fun v _ => v = some (.int (1 : Int32))) := by
  refine MetW.of (y := x) (Ls := #[.val (.long q0), .second, .val (.long q2), .second, .val (.long q4), .second, .val (.int p6), .unset, .unset, .unset, .unset, .unset, .unset, .unset, .unset, .unset, .unset, .unset, .unset, .unset, .unset, .unset, .unset, .unset, .unset, .unset, .unset, .unset, .unset, .unset, .unset, .unset, .unset]) (a0 := a0) (by first | (simp [x, plainName, overriddenIn]; done) | decide +kernel) (fun m => by first | (simp [entryFrame, mkF, argsToLocals, Value.category, maxLocals]; done) | rfl) EW.nil (fun _ => rfl) (fun p e s m below meth c hs0 C => ?_)
  refine g_lloadN C at_0 rfl ?_
  refine g_ldc2w (4611686018427387903 : Int64) C at_1 (hw _ (List.mem_of_getElem? (i := 0) rfl)) ?_
  refine g_land _ C at_4 rfl ?_
  obtain ⟨v7_1, hv7_1⟩ : ∃ z : Int64, z = (q0 &&& (4611686018427387903 : Int64)) := ⟨_, rfl⟩
  rw [← hv7_1]
  refine g_lstore #[.val (.long q0), .second, .val (.long q2), .second, .val (.long q4), .second, .val (.int p6), .val (.long v7_1), .second, .unset, .unset, .unset, .unset, .unset, .unset, .unset, .unset, .unset, .unset, .unset, .unset, .unset, .unset, .unset, .unset, .unset, .unset, .unset, .unset, .unset, .unset, .unset, .unset] C at_5 rfl ?_
  refine g_lloadN C at_7 rfl ?_
  refine g_ldc2w (15 : Int64) C at_8 (hw _ (List.mem_of_getElem? (i := 1) rfl)) ?_
  refine g_land _ C at_11 rfl ?_
  refine g_lconst (1 : Int64) C at_12 (by decide) ?_
  refine g_ladd _ C at_13 rfl ?_
  obtain ⟨v9_2, hv9_2⟩ : ∃ z : Int64, z = ((q2 &&& (15 : Int64)) + (1 : Int64)) := ⟨_, rfl⟩
  rw [← hv9_2]
  refine g_lstore #[.val (.long q0), .second, .val (.long q2), .second, .val (.long q4), .second, .val (.int p6), .val (.long v7_1), .second, .val (.long v9_2), .second, .unset, .unset, .unset, .unset, .unset, .unset, .unset, .unset, .unset, .unset, .unset, .unset, .unset, .unset, .unset, .unset, .unset, .unset, .unset, .unset, .unset, .unset] C at_14 rfl ?_
  refine g_lloadN C at_16 rfl ?_
  refine g_iconst (4 : Int32) C at_17 (by decide) ?_
  refine g_lushr _ C at_18 rfl ?_
  refine g_ldc2w (15 : Int64) C at_19 (hw _ (List.mem_of_getElem? (i := 1) rfl)) ?_
  refine g_land _ C at_22 rfl ?_
  refine g_lconst (1 : Int64) C at_23 (by decide) ?_
  refine g_ladd _ C at_24 rfl ?_
  obtain ⟨v11_3, hv11_3⟩ : ∃ z : Int64, z = (((XT.ushrL q2 (4 : Int32)) &&& (15 : Int64)) + (1 : Int64)) := ⟨_, rfl⟩
  rw [← hv11_3]
  refine g_lstore #[.val (.long q0), .second, .val (.long q2), .second, .val (.long q4), .second, .val (.int p6), .val (.long v7_1), .second, .val (.long v9_2), .second, .val (.long v11_3), .second, .unset, .unset, .unset, .unset, .unset, .unset, .unset, .unset, .unset, .unset, .unset, .unset, .unset, .unset, .unset, .unset, .unset, .unset, .unset, .unset] C at_25 rfl ?_
  refine g_lloadN C at_27 rfl ?_
  refine g_bipush (8 : Int32) C at_28 (by decide) ?_
  refine g_lushr _ C at_30 rfl ?_
  refine g_ldc2w (15 : Int64) C at_31 (hw _ (List.mem_of_getElem? (i := 1) rfl)) ?_
  refine g_land _ C at_34 rfl ?_
  refine g_lconst (1 : Int64) C at_35 (by decide) ?_
  refine g_ladd _ C at_36 rfl ?_
  obtain ⟨v13_4, hv13_4⟩ : ∃ z : Int64, z = (((XT.ushrL q2 (8 : Int32)) &&& (15 : Int64)) + (1 : Int64)) := ⟨_, rfl⟩
  rw [← hv13_4]
  refine g_lstore #[.val (.long q0), .second, .val (.long q2), .second, .val (.long q4), .second, .val (.int p6), .val (.long v7_1), .second, .val (.long v9_2), .second, .val (.long v11_3), .second, .val (.long v13_4), .second, .unset, .unset, .unset, .unset, .unset, .unset, .unset, .unset, .unset, .unset, .unset, .unset, .unset, .unset, .unset, .unset, .unset, .unset] C at_37 rfl ?_
  refine g_lloadN C at_39 rfl ?_
  refine g_bipush (12 : Int32) C at_40 (by decide) ?_
  refine g_lushr _ C at_42 rfl ?_
  refine g_ldc2w (15 : Int64) C at_43 (hw _ (List.mem_of_getElem? (i := 1) rfl)) ?_
  refine g_land _ C at_46 rfl ?_
  refine g_lconst (1 : Int64) C at_47 (by decide) ?_
  refine g_ladd _ C at_48 rfl ?_
  obtain ⟨v15_5, hv15_5⟩ : ∃ z : Int64, z = (((XT.ushrL q2 (12 : Int32)) &&& (15 : Int64)) + (1 : Int64)) := ⟨_, rfl⟩
  rw [← hv15_5]
  refine g_lstore #[.val (.long q0), .second, .val (.long q2), .second, .val (.long q4), .second, .val (.int p6), .val (.long v7_1), .second, .val (.long v9_2), .second, .val (.long v11_3), .second, .val (.long v13_4), .second, .val (.long v15_5), .second, .unset, .unset, .unset, .unset, .unset, .unset, .unset, .unset, .unset, .unset, .unset, .unset, .unset, .unset, .unset, .unset] C at_49 rfl ?_
  refine g_lloadN C at_51 rfl ?_
  refine g_bipush (16 : Int32) C at_52 (by decide) ?_
  refine g_lushr _ C at_54 rfl ?_
  refine g_ldc2w (15 : Int64) C at_55 (hw _ (List.mem_of_getElem? (i := 1) rfl)) ?_
  refine g_land _ C at_58 rfl ?_
  refine g_lconst (1 : Int64) C at_59 (by decide) ?_
  refine g_ladd _ C at_60 rfl ?_
  obtain ⟨v17_6, hv17_6⟩ : ∃ z : Int64, z = (((XT.ushrL q2 (16 : Int32)) &&& (15 : Int64)) + (1 : Int64)) := ⟨_, rfl⟩
  rw [← hv17_6]
  refine g_lstore #[.val (.long q0), .second, .val (.long q2), .second, .val (.long q4), .second, .val (.int p6), .val (.long v7_1), .second, .val (.long v9_2), .second, .val (.long v11_3), .second, .val (.long v13_4), .second, .val (.long v15_5), .second, .val (.long v17_6), .second, .unset, .unset, .unset, .unset, .unset, .unset, .unset, .unset, .unset, .unset, .unset, .unset, .unset, .unset] C at_61 rfl ?_
  refine g_lloadN C at_63 rfl ?_
  refine g_bipush (20 : Int32) C at_64 (by decide) ?_
  refine g_lushr _ C at_66 rfl ?_
  refine g_ldc2w (3 : Int64) C at_67 (hw _ (List.mem_of_getElem? (i := 2) rfl)) ?_
  refine g_land _ C at_70 rfl ?_
  refine g_l2i _ C at_71 rfl ?_
  obtain ⟨v19_7, hv19_7⟩ : ∃ z : Int32, z = (((XT.ushrL q2 (20 : Int32)) &&& (3 : Int64)).toInt32) := ⟨_, rfl⟩
  rw [← hv19_7]
  refine g_istore #[.val (.long q0), .second, .val (.long q2), .second, .val (.long q4), .second, .val (.int p6), .val (.long v7_1), .second, .val (.long v9_2), .second, .val (.long v11_3), .second, .val (.long v13_4), .second, .val (.long v15_5), .second, .val (.long v17_6), .second, .val (.int v19_7), .unset, .unset, .unset, .unset, .unset, .unset, .unset, .unset, .unset, .unset, .unset, .unset, .unset] C at_72 rfl ?_
  refine g_lload C at_74 rfl ?_
  refine g_lload C at_76 rfl ?_
  refine g_ladd _ C at_78 rfl ?_
  refine g_lload C at_79 rfl ?_
  refine g_ladd _ C at_81 rfl ?_
  obtain ⟨v20_8, hv20_8⟩ : ∃ z : Int64, z = ((v7_1 + v9_2) + v15_5) := ⟨_, rfl⟩
  rw [← hv20_8]
  refine g_lstore #[.val (.long q0), .second, .val (.long q2), .second, .val (.long q4), .second, .val (.int p6), .val (.long v7_1), .second, .val (.long v9_2), .second, .val (.long v11_3), .second, .val (.long v13_4), .second, .val (.long v15_5), .second, .val (.long v17_6), .second, .val (.int v19_7), .val (.long v20_8), .second, .unset, .unset, .unset, .unset, .unset, .unset, .unset, .unset, .unset, .unset, .unset] C at_82 rfl ?_
  refine g_lload C at_84 rfl ?_
  refine g_lload C at_86 rfl ?_
  refine g_ladd _ C at_88 rfl ?_
  refine g_lload C at_89 rfl ?_
  refine g_ladd _ C at_91 rfl ?_
  obtain ⟨v22_9, hv22_9⟩ : ∃ z : Int64, z = ((v20_8 + v11_3) + v17_6) := ⟨_, rfl⟩
  rw [← hv22_9]
  refine g_lstore #[.val (.long q0), .second, .val (.long q2), .second, .val (.long q4), .second, .val (.int p6), .val (.long v7_1), .second, .val (.long v9_2), .second, .val (.long v11_3), .second, .val (.long v13_4), .second, .val (.long v15_5), .second, .val (.long v17_6), .second, .val (.int v19_7), .val (.long v20_8), .second, .val (.long v22_9), .second, .unset, .unset, .unset, .unset, .unset, .unset, .unset, .unset, .unset] C at_92 rfl ?_
  have t8 : 0 ≤ v7_1.toInt ∧ v7_1.toInt < 4611686018427387904 := by rw [hv7_1]; exact own_f0 _
  have t_v9_2 : 1 ≤ v9_2.toInt ∧ v9_2.toInt ≤ 16 := by rw [hv9_2]; exact own_one15 _
  have t_v11_3 : 1 ≤ v11_3.toInt ∧ v11_3.toInt ≤ 16 := by rw [hv11_3]; exact own_one15 _
  have t_v13_4 : 1 ≤ v13_4.toInt ∧ v13_4.toInt ≤ 16 := by rw [hv13_4]; exact own_one15 _
  have t_v15_5 : 1 ≤ v15_5.toInt ∧ v15_5.toInt ≤ 16 := by rw [hv15_5]; exact own_one15 _
  have t_v17_6 : 1 ≤ v17_6.toInt ∧ v17_6.toInt ≤ 16 := by rw [hv17_6]; exact own_one15 _
  have u_v20_8 : (v7_1 + v9_2).toInt = v7_1.toInt + v9_2.toInt := own_add (by omega) (by omega) (by omega) (by omega)
  have t_v20_8 : v20_8.toInt = v7_1.toInt + v9_2.toInt + v15_5.toInt := by rw [hv20_8, own_add (by omega) (by omega) (by omega) (by omega), u_v20_8]
  have u_v22_9 : (v20_8 + v11_3).toInt = v20_8.toInt + v11_3.toInt := own_add (by omega) (by omega) (by omega) (by omega)
  have t_v22_9 : v22_9.toInt = v20_8.toInt + v11_3.toInt + v17_6.toInt := by rw [hv22_9, own_add (by omega) (by omega) (by omega) (by omega), u_v22_9]
  rcases own_and3L (XT.ushrL q2 (20 : Int32)) with q | q | q | q
  · rw [q] at hv19_7
    subst hv19_7
    refine g_iload C at_94 rfl ?_
    refine g_newarray_ (ad := "[J") 0 [] C at_96 (hw _ (List.mem_of_getElem? (i := 3) rfl)) (by decide) (by decide) (by decide) (by decide) (by decide) (by decide) (by decide) (fun a10 h11 e12 E13 l14 f15 f16 => ?_)
    have K17 := keep_ext E13
    refine g_astore #[.val (.long q0), .second, .val (.long q2), .second, .val (.long q4), .second, .val (.int p6), .val (.long v7_1), .second, .val (.long v9_2), .second, .val (.long v11_3), .second, .val (.long v13_4), .second, .val (.long v15_5), .second, .val (.long v17_6), .second, .val (.int (0 : Int32)), .val (.long v20_8), .second, .val (.long v22_9), .second, .val (.ref a10), .unset, .unset, .unset, .unset, .unset, .unset, .unset, .unset] C at_98 rfl rfl ?_
    refine g_iload C at_100 rfl ?_
    refine g_newarray_ (ad := "[J") 0 [] C at_102 (hw _ (List.mem_of_getElem? (i := 3) rfl)) (by decide) (by decide) (by decide) (by decide) (by decide) (by decide) (by decide) (fun a18 h19 e20 E21 l22 f23 f24 => ?_)
    have K25 := keep_ext E21
    refine g_astore #[.val (.long q0), .second, .val (.long q2), .second, .val (.long q4), .second, .val (.int p6), .val (.long v7_1), .second, .val (.long v9_2), .second, .val (.long v11_3), .second, .val (.long v13_4), .second, .val (.long v15_5), .second, .val (.long v17_6), .second, .val (.int (0 : Int32)), .val (.long v20_8), .second, .val (.long v22_9), .second, .val (.ref a10), .val (.ref a18), .unset, .unset, .unset, .unset, .unset, .unset, .unset] C at_104 rfl rfl ?_
    refine g_iload C at_106 rfl ?_
    refine g_ifT 123 C at_108 (show ¬ (0 : Int32) < (0 : Int32) by decide) (by decide) (by decide) ?_
    refine g_iload C at_123 rfl ?_
    refine g_iconst (1 : Int32) C at_125 (by decide) ?_
    refine g_icmpT 141 C at_126 (show ¬ (1 : Int32) < (0 : Int32) by decide) (by decide) (by decide) ?_
    refine g_iload C at_141 rfl ?_
    refine g_iconst (2 : Int32) C at_143 (by decide) ?_
    refine g_icmpT 159 C at_144 (show ¬ (2 : Int32) < (0 : Int32) by decide) (by decide) (by decide) ?_
    refine Go.join (α := Int64) (P := fun bl => mkF m 184 #[.val (.long q0), .second, .val (.long q2), .second, .val (.long q4), .second, .val (.int p6), .val (.long v7_1), .second, .val (.long v9_2), .second, .val (.long v11_3), .second, .val (.long v13_4), .second, .val (.long v15_5), .second, .val (.long v17_6), .second, .val (.int (0 : Int32)), .val (.long v20_8), .second, .val (.long v22_9), .second, .val (.ref a10), .val (.ref a18), .unset, .unset, .unset, .unset, .unset, .unset, .unset] [.long bl]) (fun bl => ?_) (fun J => ?_)
    · skip
      refine g_lstore #[.val (.long q0), .second, .val (.long q2), .second, .val (.long q4), .second, .val (.int p6), .val (.long v7_1), .second, .val (.long v9_2), .second, .val (.long v11_3), .second, .val (.long v13_4), .second, .val (.long v15_5), .second, .val (.long v17_6), .second, .val (.int (0 : Int32)), .val (.long v20_8), .second, .val (.long v22_9), .second, .val (.ref a10), .val (.ref a18), .val (.long bl), .second, .unset, .unset, .unset, .unset, .unset] C at_184 rfl ?_
      refine g_new_ C at_186 (hw _ (List.mem_of_getElem? (i := 4) rfl)) (hw _ (List.mem_of_getElem? (i := 5) rfl)) (hw _ (List.mem_of_getElem? (i := 6) rfl)) (by decide) (by decide) (fun a26 h27 e28 E29 l30 f31 D32 => ?_)
      have K33 := keep_ext E29
      have f34 : Fld Z h27 a26 "com/example/keelstone/keelstone/store/Runs" "firsts" "[J" .null := D32 (Or.inr (hw _ (List.mem_of_getElem? (i := 14) rfl))) (ty := (.array .long)) (by decide)
      have f35 : Fld Z h27 a26 "com/example/keelstone/keelstone/store/Runs" "counts" "[J" .null := D32 (Or.inr (hw _ (List.mem_of_getElem? (i := 16) rfl))) (ty := (.array .long)) (by decide)
      have f36 : Fld Z h27 a26 "com/example/keelstone/keelstone/store/Runs" "starts" "[J" .null := D32 (Or.inr (hw _ (List.mem_of_getElem? (i := 18) rfl))) (ty := (.array .long)) (by decide)
      have f37 : Fld Z h27 a26 "com/example/keelstone/keelstone/store/Runs" "blocks" "J" (.long (0 : Int64)) := D32 (Or.inr (hw _ (List.mem_of_getElem? (i := 20) rfl))) (ty := .long) (by decide)
      refine g_dup C at_189 rfl ?_
      refine g_aload C at_190 rfl rfl ?_
      refine g_aload C at_192 rfl rfl ?_
      have f46 := ((f16.keep K25 nin0).keep K33 nin0)
      have f47 := (f24.keep K33 nin0)
      refine g_invokespecial [(.ref a10), (.ref a18)] [(.ref a26)] 1 C at_194 rfl (hw _ (List.mem_of_getElem? (i := 7) rfl)) (hw _ (List.mem_of_getElem? (i := 8) rfl)) (hw _ (List.mem_of_getElem? (i := 6) rfl)) (hw _ (List.mem_of_getElem? (i := 9) rfl)) (by decide) (m_ctor0 l Z a0 hw  a26 a10 a18 _ f31 f34 f35 f36 f37 f46 f47 (Nat.ne_of_lt (Nat.lt_of_lt_of_le (Nat.lt_of_lt_of_le l14 K25.1) (Nat.le_of_eq e28.symm))) (Nat.ne_of_lt (Nat.lt_of_lt_of_le l22 (Nat.le_of_eq e28.symm)))) (lenOf pd3 rfl) rfl rfl (Nat.le_of_ble_eq_true rfl) (by decide) (by decide) (by decide) (by decide) (allS (List.mem_of_getElem? (i := 0) rfl) all0) (fun v48 h49 L50 q51 K52 => ?_)
      obtain ⟨rfl, t38, g39, f40, f41, f42, f43, f44, f45⟩ := q51
      show Go _ _ _ _ _ _ _ _ _ _ _ _ _ _ _ _ _ _ _ _ _ _ (mkF _ 197 #[.val (.long q0), .second, .val (.long q2), .second, .val (.long q4), .second, .val (.int p6), .val (.long v7_1), .second, .val (.long v9_2), .second, .val (.long v11_3), .second, .val (.long v13_4), .second, .val (.long v15_5), .second, .val (.long v17_6), .second, .val (.int (0 : Int32)), .val (.long v20_8), .second, .val (.long v22_9), .second, .val (.ref a10), .val (.ref a18), .val (.long bl), .second, .unset, .unset, .unset, .unset, .unset] [(.ref a26)])
      refine g_astore #[.val (.long q0), .second, .val (.long q2), .second, .val (.long q4), .second, .val (.int p6), .val (.long v7_1), .second, .val (.long v9_2), .second, .val (.long v11_3), .second, .val (.long v13_4), .second, .val (.long v15_5), .second, .val (.long v17_6), .second, .val (.int (0 : Int32)), .val (.long v20_8), .second, .val (.long v22_9), .second, .val (.ref a10), .val (.ref a18), .val (.long bl), .second, .val (.ref a26), .unset, .unset, .unset, .unset] C at_197 rfl rfl ?_
      refine g_aload C at_199 rfl rfl ?_
      refine g_lload C at_201 rfl ?_
      have f53 := (f46.keep K52 (ninS (Nat.ne_of_lt (Nat.lt_of_lt_of_le (Nat.lt_of_lt_of_le l14 K25.1) (Nat.le_of_eq e28.symm))) nin0))
      have f54 := (f47.keep K52 (ninS (Nat.ne_of_lt (Nat.lt_of_lt_of_le l22 (Nat.le_of_eq e28.symm))) nin0))
      refine g_invokevirtual [(.long bl)] [] 0 C at_203 (hw _ (List.mem_of_getElem? (i := 21) rfl)) (hw _ (List.mem_of_getElem? (i := 22) rfl)) (hw _ (List.mem_of_getElem? (i := 24) rfl)) (hw _ (List.mem_of_getElem? (i := 23) rfl)) (hw _ (List.mem_of_getElem? (i := 6) rfl)) (hw _ (List.mem_of_getElem? (i := 25) rfl)) (fun _ hZ => notFace_of_selects (args := #[]) (mvT hZ (hw _ (List.mem_of_getElem? (i := 24) rfl)))) (by decide) f40 (m_ix_0 l Z a0 hw  bl _ _ _ _ _ f40 f41 f42 f43 f53 f54 f45) (lenOf pd4 rfl) rfl rfl (Nat.le_of_ble_eq_true rfl) (by decide) (by decide) (by decide) (by decide) all0 (fun v55 h56 L57 q58 K59 => ?_)
      obtain rfl := q58
      show Go _ _ _ _ _ _ _ _ _ _ _ _ _ _ _ _ _ _ _ _ _ _ (mkF _ 206 #[.val (.long q0), .second, .val (.long q2), .second, .val (.long q4), .second, .val (.int p6), .val (.long v7_1), .second, .val (.long v9_2), .second, .val (.long v11_3), .second, .val (.long v13_4), .second, .val (.long v15_5), .second, .val (.long v17_6), .second, .val (.int (0 : Int32)), .val (.long v20_8), .second, .val (.long v22_9), .second, .val (.ref a10), .val (.ref a18), .val (.long bl), .second, .val (.ref a26), .unset, .unset, .unset, .unset] [(.long (ix0  bl))])
      obtain ⟨v29_60, hv29_60⟩ : ∃ z : Int64, z = (ix0  bl) := ⟨_, rfl⟩
      rw [← hv29_60]
      refine g_lstore #[.val (.long q0), .second, .val (.long q2), .second, .val (.long q4), .second, .val (.int p6), .val (.long v7_1), .second, .val (.long v9_2), .second, .val (.long v11_3), .second, .val (.long v13_4), .second, .val (.long v15_5), .second, .val (.long v17_6), .second, .val (.int (0 : Int32)), .val (.long v20_8), .second, .val (.long v22_9), .second, .val (.ref a10), .val (.ref a18), .val (.long bl), .second, .val (.ref a26), .val (.long v29_60), .second, .unset, .unset] C at_206 rfl ?_
      refine g_ldc2w (-1 : Int64) C at_208 (hw _ (List.mem_of_getElem? (i := 39) rfl)) ?_
      refine g_lstore #[.val (.long q0), .second, .val (.long q2), .second, .val (.long q4), .second, .val (.int p6), .val (.long v7_1), .second, .val (.long v9_2), .second, .val (.long v11_3), .second, .val (.long v13_4), .second, .val (.long v15_5), .second, .val (.long v17_6), .second, .val (.int (0 : Int32)), .val (.long v20_8), .second, .val (.long v22_9), .second, .val (.ref a10), .val (.ref a18), .val (.long bl), .second, .val (.ref a26), .val (.long v29_60), .second, .val (.long (-1 : Int64)), .second] C at_211 rfl ?_
      refine g_iload C at_213 rfl ?_
      refine g_ifT 244 C at_215 (show ¬ (0 : Int32) < (0 : Int32) by decide) (by decide) (by decide) ?_
      refine g_iload C at_244 rfl ?_
      refine g_iconst (1 : Int32) C at_246 (by decide) ?_
      refine g_icmpT 279 C at_247 (show ¬ (1 : Int32) < (0 : Int32) by decide) (by decide) (by decide) ?_
      refine g_iload C at_279 rfl ?_
      refine g_iconst (2 : Int32) C at_281 (by decide) ?_
      refine g_icmpT 317 C at_282 (show ¬ (2 : Int32) < (0 : Int32) by decide) (by decide) (by decide) ?_
      refine g_lload C at_317 rfl ?_
      refine g_lload C at_319 rfl ?_
      refine g_lcmp C at_321 ?_
      refine g_ifF C at_322 (cl_ne_f (by rw [hv29_60]; simp [ix0])) ?_
      refine g_iconst (1 : Int32) C at_325 (by decide) ?_
      refine g_goto 330 C at_326 (by decide) (by decide) ?_
      exact g_retN C at_330 (by simp) rfl (by decide) (by decide)
    · skip
      refine g_iload C at_159 rfl ?_
      refine g_iconst (1 : Int32) C at_161 (by decide) ?_
      refine g_iand _ C at_162 rfl ?_
      by_cases c61 : (p6 &&& (1 : Int32)) = (0 : Int32)
      · skip
        refine g_ifF C at_163 (show (p6 &&& (1 : Int32)) = (0 : Int32) from c61) ?_
        refine g_lload C at_166 rfl ?_
        refine g_goto 184 C at_168 (by decide) (by decide) ?_
        exact J _
      · skip
        refine g_ifT 171 C at_163 (show ¬ (p6 &&& (1 : Int32)) = (0 : Int32) from c61) (by decide) (by decide) ?_
        refine g_lload C at_171 rfl ?_
        refine g_ldc2w (3 : Int64) C at_173 (hw _ (List.mem_of_getElem? (i := 2) rfl)) ?_
        refine g_lsub _ C at_176 rfl ?_
        refine g_lload C at_177 rfl ?_
        refine g_ldc2w (127 : Int64) C at_179 (hw _ (List.mem_of_getElem? (i := 40) rfl)) ?_
        refine g_land _ C at_182 rfl ?_
        refine g_ladd _ C at_183 rfl ?_
        exact J _
  · rw [q] at hv19_7
    subst hv19_7
    refine g_iload C at_94 rfl ?_
    refine g_newarray_ (ad := "[J") 1 [(.long (0 : Int64))] C at_96 (hw _ (List.mem_of_getElem? (i := 3) rfl)) (by decide) (by decide) (by decide) (by decide) (by decide) (by decide) (by decide) (fun a62 h63 e64 E65 l66 f67 f68 => ?_)
    have K69 := keep_ext E65
    refine g_astore #[.val (.long q0), .second, .val (.long q2), .second, .val (.long q4), .second, .val (.int p6), .val (.long v7_1), .second, .val (.long v9_2), .second, .val (.long v11_3), .second, .val (.long v13_4), .second, .val (.long v15_5), .second, .val (.long v17_6), .second, .val (.int (1 : Int32)), .val (.long v20_8), .second, .val (.long v22_9), .second, .val (.ref a62), .unset, .unset, .unset, .unset, .unset, .unset, .unset, .unset] C at_98 rfl rfl ?_
    refine g_iload C at_100 rfl ?_
    refine g_newarray_ (ad := "[J") 1 [(.long (0 : Int64))] C at_102 (hw _ (List.mem_of_getElem? (i := 3) rfl)) (by decide) (by decide) (by decide) (by decide) (by decide) (by decide) (by decide) (fun a70 h71 e72 E73 l74 f75 f76 => ?_)
    have K77 := keep_ext E73
    refine g_astore #[.val (.long q0), .second, .val (.long q2), .second, .val (.long q4), .second, .val (.int p6), .val (.long v7_1), .second, .val (.long v9_2), .second, .val (.long v11_3), .second, .val (.long v13_4), .second, .val (.long v15_5), .second, .val (.long v17_6), .second, .val (.int (1 : Int32)), .val (.long v20_8), .second, .val (.long v22_9), .second, .val (.ref a62), .val (.ref a70), .unset, .unset, .unset, .unset, .unset, .unset, .unset] C at_104 rfl rfl ?_
    refine g_iload C at_106 rfl ?_
    refine g_ifF C at_108 (show (0 : Int32) < (1 : Int32) by decide) ?_
    refine g_aload C at_111 rfl rfl ?_
    refine g_iconst (0 : Int32) C at_113 (by decide) ?_
    refine g_lload C at_114 rfl ?_
    have f78 := (f68.keep K77 nin0)
    refine g_lastore 0 C at_116 f78 (by decide) (by decide) (Nat.le_of_ble_eq_true rfl) (List.mem_of_getElem? (i := 1) rfl) (fun h79 K80 z81 f82 => ?_)
    have f83 : Av Z h79 a62 .long [(.long v7_1)] := f82
    refine g_aload C at_117 rfl rfl ?_
    refine g_iconst (0 : Int32) C at_119 (by decide) ?_
    refine g_lload C at_120 rfl ?_
    have f84 := (f76.keep K80 (ninS (Nat.ne_of_gt (Nat.lt_of_lt_of_le l66 (Nat.le_of_eq e72.symm))) nin0))
    refine g_lastore 0 C at_122 f84 (by decide) (by decide) (Nat.le_of_ble_eq_true rfl) (List.mem_of_getElem? (i := 0) rfl) (fun h85 K86 z87 f88 => ?_)
    have f89 : Av Z h85 a70 .long [(.long v9_2)] := f88
    refine g_iload C at_123 rfl ?_
    refine g_iconst (1 : Int32) C at_125 (by decide) ?_
    refine g_icmpT 141 C at_126 (show ¬ (1 : Int32) < (1 : Int32) by decide) (by decide) (by decide) ?_
    refine g_iload C at_141 rfl ?_
    refine g_iconst (2 : Int32) C at_143 (by decide) ?_
    refine g_icmpT 159 C at_144 (show ¬ (2 : Int32) < (1 : Int32) by decide) (by decide) (by decide) ?_
    refine Go.join (α := Int64) (P := fun bl => mkF m 184 #[.val (.long q0), .second, .val (.long q2), .second, .val (.long q4), .second, .val (.int p6), .val (.long v7_1), .second, .val (.long v9_2), .second, .val (.long v11_3), .second, .val (.long v13_4), .second, .val (.long v15_5), .second, .val (.long v17_6), .second, .val (.int (1 : Int32)), .val (.long v20_8), .second, .val (.long v22_9), .second, .val (.ref a62), .val (.ref a70), .unset, .unset, .unset, .unset, .unset, .unset, .unset] [.long bl]) (fun bl => ?_) (fun J => ?_)
    · skip
      refine g_lstore #[.val (.long q0), .second, .val (.long q2), .second, .val (.long q4), .second, .val (.int p6), .val (.long v7_1), .second, .val (.long v9_2), .second, .val (.long v11_3), .second, .val (.long v13_4), .second, .val (.long v15_5), .second, .val (.long v17_6), .second, .val (.int (1 : Int32)), .val (.long v20_8), .second, .val (.long v22_9), .second, .val (.ref a62), .val (.ref a70), .val (.long bl), .second, .unset, .unset, .unset, .unset, .unset] C at_184 rfl ?_
      refine g_new_ C at_186 (hw _ (List.mem_of_getElem? (i := 4) rfl)) (hw _ (List.mem_of_getElem? (i := 5) rfl)) (hw _ (List.mem_of_getElem? (i := 6) rfl)) (by decide) (by decide) (fun a90 h91 e92 E93 l94 f95 D96 => ?_)
      have K97 := keep_ext E93
      have f98 : Fld Z h91 a90 "com/example/keelstone/keelstone/store/Runs" "firsts" "[J" .null := D96 (Or.inr (hw _ (List.mem_of_getElem? (i := 14) rfl))) (ty := (.array .long)) (by decide)
      have f99 : Fld Z h91 a90 "com/example/keelstone/keelstone/store/Runs" "counts" "[J" .null := D96 (Or.inr (hw _ (List.mem_of_getElem? (i := 16) rfl))) (ty := (.array .long)) (by decide)
      have f100 : Fld Z h91 a90 "com/example/keelstone/keelstone/store/Runs" "starts" "[J" .null := D96 (Or.inr (hw _ (List.mem_of_getElem? (i := 18) rfl))) (ty := (.array .long)) (by decide)
      have f101 : Fld Z h91 a90 "com/example/keelstone/keelstone/store/Runs" "blocks" "J" (.long (0 : Int64)) := D96 (Or.inr (hw _ (List.mem_of_getElem? (i := 20) rfl))) (ty := .long) (by decide)
      refine g_dup C at_189 rfl ?_
      refine g_aload C at_190 rfl rfl ?_
      refine g_aload C at_192 rfl rfl ?_
      have hB : 0 ≤ v7_1.toInt ∧ v7_1.toInt < 4611686018427388404 ∧ 1 ≤ v9_2.toInt ∧ v9_2.toInt ≤ 16 := by omega
      have f110 := ((f83.keep K86 (ninS (Nat.ne_of_lt (Nat.lt_of_lt_of_le l66 (Nat.le_of_eq e72.symm))) nin0)).keep K97 nin0)
      have f111 := (f89.keep K97 nin0)
      refine g_invokespecial [(.ref a62), (.ref a70)] [(.ref a90)] 1 C at_194 rfl (hw _ (List.mem_of_getElem? (i := 7) rfl)) (hw _ (List.mem_of_getElem? (i := 8) rfl)) (hw _ (List.mem_of_getElem? (i := 6) rfl)) (hw _ (List.mem_of_getElem? (i := 9) rfl)) (by decide) (m_ctor1 l Z a0 hw v7_1 v9_2 a90 a62 a70 _ hB f95 f98 f99 f100 f101 f110 f111 (Nat.ne_of_lt (Nat.lt_of_lt_of_le (Nat.lt_of_lt_of_le l66 (Nat.le_trans (Nat.le_trans K77.1 K80.1) K86.1)) (Nat.le_of_eq e92.symm))) (Nat.ne_of_lt (Nat.lt_of_lt_of_le (Nat.lt_of_lt_of_le l74 (Nat.le_trans K80.1 K86.1)) (Nat.le_of_eq e92.symm)))) (lenOf pd3 rfl) rfl rfl (Nat.le_of_ble_eq_true rfl) (by decide) (by decide) (by decide) (by decide) (allS (List.mem_of_getElem? (i := 0) rfl) all0) (fun v112 h113 L114 q115 K116 => ?_)
      obtain ⟨rfl, t102, g103, f104, f105, f106, f107, f108, f109⟩ := q115
      show Go _ _ _ _ _ _ _ _ _ _ _ _ _ _ _ _ _ _ _ _ _ _ (mkF _ 197 #[.val (.long q0), .second, .val (.long q2), .second, .val (.long q4), .second, .val (.int p6), .val (.long v7_1), .second, .val (.long v9_2), .second, .val (.long v11_3), .second, .val (.long v13_4), .second, .val (.long v15_5), .second, .val (.long v17_6), .second, .val (.int (1 : Int32)), .val (.long v20_8), .second, .val (.long v22_9), .second, .val (.ref a62), .val (.ref a70), .val (.long bl), .second, .unset, .unset, .unset, .unset, .unset] [(.ref a90)])
      refine g_astore #[.val (.long q0), .second, .val (.long q2), .second, .val (.long q4), .second, .val (.int p6), .val (.long v7_1), .second, .val (.long v9_2), .second, .val (.long v11_3), .second, .val (.long v13_4), .second, .val (.long v15_5), .second, .val (.long v17_6), .second, .val (.int (1 : Int32)), .val (.long v20_8), .second, .val (.long v22_9), .second, .val (.ref a62), .val (.ref a70), .val (.long bl), .second, .val (.ref a90), .unset, .unset, .unset, .unset] C at_197 rfl rfl ?_
      refine g_aload C at_199 rfl rfl ?_
      refine g_lload C at_201 rfl ?_
      have f117 := (f110.keep K116 (ninS (Nat.ne_of_lt (Nat.lt_of_lt_of_le (Nat.lt_of_lt_of_le l66 (Nat.le_trans (Nat.le_trans K77.1 K80.1) K86.1)) (Nat.le_of_eq e92.symm))) nin0))
      have f118 := (f111.keep K116 (ninS (Nat.ne_of_lt (Nat.lt_of_lt_of_le (Nat.lt_of_lt_of_le l74 (Nat.le_trans K80.1 K86.1)) (Nat.le_of_eq e92.symm))) nin0))
      refine g_invokevirtual [(.long bl)] [] 0 C at_203 (hw _ (List.mem_of_getElem? (i := 21) rfl)) (hw _ (List.mem_of_getElem? (i := 22) rfl)) (hw _ (List.mem_of_getElem? (i := 24) rfl)) (hw _ (List.mem_of_getElem? (i := 23) rfl)) (hw _ (List.mem_of_getElem? (i := 6) rfl)) (hw _ (List.mem_of_getElem? (i := 25) rfl)) (fun _ hZ => notFace_of_selects (args := #[]) (mvT hZ (hw _ (List.mem_of_getElem? (i := 24) rfl)))) (by decide) f104 (m_ix_1 l Z a0 hw v7_1 v9_2 bl _ _ _ _ _ hB f104 f105 f106 f107 f117 f118 f109) (lenOf pd4 rfl) rfl rfl (Nat.le_of_ble_eq_true rfl) (by decide) (by decide) (by decide) (by decide) all0 (fun v119 h120 L121 q122 K123 => ?_)
      obtain rfl := q122
      show Go _ _ _ _ _ _ _ _ _ _ _ _ _ _ _ _ _ _ _ _ _ _ (mkF _ 206 #[.val (.long q0), .second, .val (.long q2), .second, .val (.long q4), .second, .val (.int p6), .val (.long v7_1), .second, .val (.long v9_2), .second, .val (.long v11_3), .second, .val (.long v13_4), .second, .val (.long v15_5), .second, .val (.long v17_6), .second, .val (.int (1 : Int32)), .val (.long v20_8), .second, .val (.long v22_9), .second, .val (.ref a62), .val (.ref a70), .val (.long bl), .second, .val (.ref a90), .unset, .unset, .unset, .unset] [(.long (ix1 v7_1 v9_2 bl))])
      obtain ⟨v29_124, hv29_124⟩ : ∃ z : Int64, z = (ix1 v7_1 v9_2 bl) := ⟨_, rfl⟩
      rw [← hv29_124]
      refine g_lstore #[.val (.long q0), .second, .val (.long q2), .second, .val (.long q4), .second, .val (.int p6), .val (.long v7_1), .second, .val (.long v9_2), .second, .val (.long v11_3), .second, .val (.long v13_4), .second, .val (.long v15_5), .second, .val (.long v17_6), .second, .val (.int (1 : Int32)), .val (.long v20_8), .second, .val (.long v22_9), .second, .val (.ref a62), .val (.ref a70), .val (.long bl), .second, .val (.ref a90), .val (.long v29_124), .second, .unset, .unset] C at_206 rfl ?_
      refine g_ldc2w (-1 : Int64) C at_208 (hw _ (List.mem_of_getElem? (i := 39) rfl)) ?_
      refine g_lstore #[.val (.long q0), .second, .val (.long q2), .second, .val (.long q4), .second, .val (.int p6), .val (.long v7_1), .second, .val (.long v9_2), .second, .val (.long v11_3), .second, .val (.long v13_4), .second, .val (.long v15_5), .second, .val (.long v17_6), .second, .val (.int (1 : Int32)), .val (.long v20_8), .second, .val (.long v22_9), .second, .val (.ref a62), .val (.ref a70), .val (.long bl), .second, .val (.ref a90), .val (.long v29_124), .second, .val (.long (-1 : Int64)), .second] C at_211 rfl ?_
      refine g_iload C at_213 rfl ?_
      refine g_ifF C at_215 (show (0 : Int32) < (1 : Int32) by decide) ?_
      refine g_lload C at_218 rfl ?_
      refine g_lload C at_220 rfl ?_
      refine g_lcmp C at_222 ?_
      by_cases c125 : bl < v7_1
      · skip
        refine g_ifT 244 C at_223 (cl_lt_t c125) (by decide) (by decide) ?_
        refine g_iload C at_244 rfl ?_
        refine g_iconst (1 : Int32) C at_246 (by decide) ?_
        refine g_icmpT 279 C at_247 (show ¬ (1 : Int32) < (1 : Int32) by decide) (by decide) (by decide) ?_
        refine g_iload C at_279 rfl ?_
        refine g_iconst (2 : Int32) C at_281 (by decide) ?_
        refine g_icmpT 317 C at_282 (show ¬ (2 : Int32) < (1 : Int32) by decide) (by decide) (by decide) ?_
        refine g_lload C at_317 rfl ?_
        refine g_lload C at_319 rfl ?_
        refine g_lcmp C at_321 ?_
        refine g_ifF C at_322 (cl_ne_f (by rw [hv29_124]; simp [ix1, c125])) ?_
        refine g_iconst (1 : Int32) C at_325 (by decide) ?_
        refine g_goto 330 C at_326 (by decide) (by decide) ?_
        exact g_retN C at_330 (by simp) rfl (by decide) (by decide)
      · skip
        refine g_ifF C at_223 (cl_lt_f c125) ?_
        refine g_lload C at_226 rfl ?_
        refine g_lload C at_228 rfl ?_
        refine g_lload C at_230 rfl ?_
        refine g_ladd _ C at_232 rfl ?_
        refine g_lcmp C at_233 ?_
        by_cases c126 : bl < (v7_1 + v9_2)
        · skip
          refine g_ifF C at_234 (cl_ge_f c126) ?_
          refine g_lload C at_237 rfl ?_
          refine g_lload C at_239 rfl ?_
          refine g_lsub _ C at_241 rfl ?_
          obtain ⟨v31_127, hv31_127⟩ : ∃ z : Int64, z = (bl - v7_1) := ⟨_, rfl⟩
          rw [← hv31_127]
          refine g_lstore #[.val (.long q0), .second, .val (.long q2), .second, .val (.long q4), .second, .val (.int p6), .val (.long v7_1), .second, .val (.long v9_2), .second, .val (.long v11_3), .second, .val (.long v13_4), .second, .val (.long v15_5), .second, .val (.long v17_6), .second, .val (.int (1 : Int32)), .val (.long v20_8), .second, .val (.long v22_9), .second, .val (.ref a62), .val (.ref a70), .val (.long bl), .second, .val (.ref a90), .val (.long v29_124), .second, .val (.long v31_127), .second] C at_242 rfl ?_
          refine g_iload C at_244 rfl ?_
          refine g_iconst (1 : Int32) C at_246 (by decide) ?_
          refine g_icmpT 279 C at_247 (show ¬ (1 : Int32) < (1 : Int32) by decide) (by decide) (by decide) ?_
          refine g_iload C at_279 rfl ?_
          refine g_iconst (2 : Int32) C at_281 (by decide) ?_
          refine g_icmpT 317 C at_282 (show ¬ (2 : Int32) < (1 : Int32) by decide) (by decide) (by decide) ?_
          refine g_lload C at_317 rfl ?_
          refine g_lload C at_319 rfl ?_
          refine g_lcmp C at_321 ?_
          refine g_ifF C at_322 (cl_ne_f (by rw [hv29_124, hv31_127]; simp [ix1, c125, c126])) ?_
          refine g_iconst (1 : Int32) C at_325 (by decide) ?_
          refine g_goto 330 C at_326 (by decide) (by decide) ?_
          exact g_retN C at_330 (by simp) rfl (by decide) (by decide)
        · skip
          refine g_ifT 244 C at_234 (cl_ge_t c126) (by decide) (by decide) ?_
          refine g_iload C at_244 rfl ?_
          refine g_iconst (1 : Int32) C at_246 (by decide) ?_
          refine g_icmpT 279 C at_247 (show ¬ (1 : Int32) < (1 : Int32) by decide) (by decide) (by decide) ?_
          refine g_iload C at_279 rfl ?_
          refine g_iconst (2 : Int32) C at_281 (by decide) ?_
          refine g_icmpT 317 C at_282 (show ¬ (2 : Int32) < (1 : Int32) by decide) (by decide) (by decide) ?_
          refine g_lload C at_317 rfl ?_
          refine g_lload C at_319 rfl ?_
          refine g_lcmp C at_321 ?_
          refine g_ifF C at_322 (cl_ne_f (by rw [hv29_124]; simp [ix1, c125, c126])) ?_
          refine g_iconst (1 : Int32) C at_325 (by decide) ?_
          refine g_goto 330 C at_326 (by decide) (by decide) ?_
          exact g_retN C at_330 (by simp) rfl (by decide) (by decide)
    · skip
      refine g_iload C at_159 rfl ?_
      refine g_iconst (1 : Int32) C at_161 (by decide) ?_
      refine g_iand _ C at_162 rfl ?_
      by_cases c128 : (p6 &&& (1 : Int32)) = (0 : Int32)
      · skip
        refine g_ifF C at_163 (show (p6 &&& (1 : Int32)) = (0 : Int32) from c128) ?_
        refine g_lload C at_166 rfl ?_
        refine g_goto 184 C at_168 (by decide) (by decide) ?_
        exact J _
      · skip
        refine g_ifT 171 C at_163 (show ¬ (p6 &&& (1 : Int32)) = (0 : Int32) from c128) (by decide) (by decide) ?_
        refine g_lload C at_171 rfl ?_
        refine g_ldc2w (3 : Int64) C at_173 (hw _ (List.mem_of_getElem? (i := 2) rfl)) ?_
        refine g_lsub _ C at_176 rfl ?_
        refine g_lload C at_177 rfl ?_
        refine g_ldc2w (127 : Int64) C at_179 (hw _ (List.mem_of_getElem? (i := 40) rfl)) ?_
        refine g_land _ C at_182 rfl ?_
        refine g_ladd _ C at_183 rfl ?_
        exact J _
  · rw [q] at hv19_7
    subst hv19_7
    refine g_iload C at_94 rfl ?_
    refine g_newarray_ (ad := "[J") 2 [(.long (0 : Int64)), (.long (0 : Int64))] C at_96 (hw _ (List.mem_of_getElem? (i := 3) rfl)) (by decide) (by decide) (by decide) (by decide) (by decide) (by decide) (by decide) (fun a129 h130 e131 E132 l133 f134 f135 => ?_)
    have K136 := keep_ext E132
    refine g_astore #[.val (.long q0), .second, .val (.long q2), .second, .val (.long q4), .second, .val (.int p6), .val (.long v7_1), .second, .val (.long v9_2), .second, .val (.long v11_3), .second, .val (.long v13_4), .second, .val (.long v15_5), .second, .val (.long v17_6), .second, .val (.int (2 : Int32)), .val (.long v20_8), .second, .val (.long v22_9), .second, .val (.ref a129), .unset, .unset, .unset, .unset, .unset, .unset, .unset, .unset] C at_98 rfl rfl ?_
    refine g_iload C at_100 rfl ?_
    refine g_newarray_ (ad := "[J") 2 [(.long (0 : Int64)), (.long (0 : Int64))] C at_102 (hw _ (List.mem_of_getElem? (i := 3) rfl)) (by decide) (by decide) (by decide) (by decide) (by decide) (by decide) (by decide) (fun a137 h138 e139 E140 l141 f142 f143 => ?_)
    have K144 := keep_ext E140
    refine g_astore #[.val (.long q0), .second, .val (.long q2), .second, .val (.long q4), .second, .val (.int p6), .val (.long v7_1), .second, .val (.long v9_2), .second, .val (.long v11_3), .second, .val (.long v13_4), .second, .val (.long v15_5), .second, .val (.long v17_6), .second, .val (.int (2 : Int32)), .val (.long v20_8), .second, .val (.long v22_9), .second, .val (.ref a129), .val (.ref a137), .unset, .unset, .unset, .unset, .unset, .unset, .unset] C at_104 rfl rfl ?_
    refine g_iload C at_106 rfl ?_
    refine g_ifF C at_108 (show (0 : Int32) < (2 : Int32) by decide) ?_
    refine g_aload C at_111 rfl rfl ?_
    refine g_iconst (0 : Int32) C at_113 (by decide) ?_
    refine g_lload C at_114 rfl ?_
    have f145 := (f135.keep K144 nin0)
    refine g_lastore 0 C at_116 f145 (by decide) (by decide) (Nat.le_of_ble_eq_true rfl) (List.mem_of_getElem? (i := 1) rfl) (fun h146 K147 z148 f149 => ?_)
    have f150 : Av Z h146 a129 .long [(.long v7_1), (.long (0 : Int64))] := f149
    refine g_aload C at_117 rfl rfl ?_
    refine g_iconst (0 : Int32) C at_119 (by decide) ?_
    refine g_lload C at_120 rfl ?_
    have f151 := (f143.keep K147 (ninS (Nat.ne_of_gt (Nat.lt_of_lt_of_le l133 (Nat.le_of_eq e139.symm))) nin0))
    refine g_lastore 0 C at_122 f151 (by decide) (by decide) (Nat.le_of_ble_eq_true rfl) (List.mem_of_getElem? (i := 0) rfl) (fun h152 K153 z154 f155 => ?_)
    have f156 : Av Z h152 a137 .long [(.long v9_2), (.long (0 : Int64))] := f155
    refine g_iload C at_123 rfl ?_
    refine g_iconst (1 : Int32) C at_125 (by decide) ?_
    refine g_icmpF C at_126 (show (1 : Int32) < (2 : Int32) by decide) ?_
    refine g_aload C at_129 rfl rfl ?_
    refine g_iconst (1 : Int32) C at_131 (by decide) ?_
    refine g_lload C at_132 rfl ?_
    have f157 := (f150.keep K153 (ninS (Nat.ne_of_lt (Nat.lt_of_lt_of_le l133 (Nat.le_of_eq e139.symm))) nin0))
    refine g_lastore 1 C at_134 f157 (by decide) (by decide) (Nat.le_of_ble_eq_true rfl) (List.mem_of_getElem? (i := 1) rfl) (fun h158 K159 z160 f161 => ?_)
    have f162 : Av Z h158 a129 .long [(.long v7_1), (.long v20_8)] := f161
    refine g_aload C at_135 rfl rfl ?_
    refine g_iconst (1 : Int32) C at_137 (by decide) ?_
    refine g_lload C at_138 rfl ?_
    have f163 := (f156.keep K159 (ninS (Nat.ne_of_gt (Nat.lt_of_lt_of_le l133 (Nat.le_of_eq e139.symm))) nin0))
    refine g_lastore 1 C at_140 f163 (by decide) (by decide) (Nat.le_of_ble_eq_true rfl) (List.mem_of_getElem? (i := 0) rfl) (fun h164 K165 z166 f167 => ?_)
    have f168 : Av Z h164 a137 .long [(.long v9_2), (.long v11_3)] := f167
    refine g_iload C at_141 rfl ?_
    refine g_iconst (2 : Int32) C at_143 (by decide) ?_
    refine g_icmpT 159 C at_144 (show ¬ (2 : Int32) < (2 : Int32) by decide) (by decide) (by decide) ?_
    refine Go.join (α := Int64) (P := fun bl => mkF m 184 #[.val (.long q0), .second, .val (.long q2), .second, .val (.long q4), .second, .val (.int p6), .val (.long v7_1), .second, .val (.long v9_2), .second, .val (.long v11_3), .second, .val (.long v13_4), .second, .val (.long v15_5), .second, .val (.long v17_6), .second, .val (.int (2 : Int32)), .val (.long v20_8), .second, .val (.long v22_9), .second, .val (.ref a129), .val (.ref a137), .unset, .unset, .unset, .unset, .unset, .unset, .unset] [.long bl]) (fun bl => ?_) (fun J => ?_)
    · skip
      refine g_lstore #[.val (.long q0), .second, .val (.long q2), .second, .val (.long q4), .second, .val (.int p6), .val (.long v7_1), .second, .val (.long v9_2), .second, .val (.long v11_3), .second, .val (.long v13_4), .second, .val (.long v15_5), .second, .val (.long v17_6), .second, .val (.int (2 : Int32)), .val (.long v20_8), .second, .val (.long v22_9), .second, .val (.ref a129), .val (.ref a137), .val (.long bl), .second, .unset, .unset, .unset, .unset, .unset] C at_184 rfl ?_
      refine g_new_ C at_186 (hw _ (List.mem_of_getElem? (i := 4) rfl)) (hw _ (List.mem_of_getElem? (i := 5) rfl)) (hw _ (List.mem_of_getElem? (i := 6) rfl)) (by decide) (by decide) (fun a169 h170 e171 E172 l173 f174 D175 => ?_)
      have K176 := keep_ext E172
      have f177 : Fld Z h170 a169 "com/example/keelstone/keelstone/store/Runs" "firsts" "[J" .null := D175 (Or.inr (hw _ (List.mem_of_getElem? (i := 14) rfl))) (ty := (.array .long)) (by decide)
      have f178 : Fld Z h170 a169 "com/example/keelstone/keelstone/store/Runs" "counts" "[J" .null := D175 (Or.inr (hw _ (List.mem_of_getElem? (i := 16) rfl))) (ty := (.array .long)) (by decide)
      have f179 : Fld Z h170 a169 "com/example/keelstone/keelstone/store/Runs" "starts" "[J" .null := D175 (Or.inr (hw _ (List.mem_of_getElem? (i := 18) rfl))) (ty := (.array .long)) (by decide)
      have f180 : Fld Z h170 a169 "com/example/keelstone/keelstone/store/Runs" "blocks" "J" (.long (0 : Int64)) := D175 (Or.inr (hw _ (List.mem_of_getElem? (i := 20) rfl))) (ty := .long) (by decide)
      refine g_dup C at_189 rfl ?_
      refine g_aload C at_190 rfl rfl ?_
      refine g_aload C at_192 rfl rfl ?_
      have hB : 0 ≤ v7_1.toInt ∧ v20_8.toInt < 4611686018427388404 ∧ 1 ≤ v9_2.toInt ∧ v9_2.toInt ≤ 16 ∧ 1 ≤ v11_3.toInt ∧ v11_3.toInt ≤ 16 ∧ v7_1.toInt + v9_2.toInt < v20_8.toInt := by omega
      have f189 := ((f162.keep K165 (ninS (Nat.ne_of_lt (Nat.lt_of_lt_of_le l133 (Nat.le_of_eq e139.symm))) nin0)).keep K176 nin0)
      have f190 := (f168.keep K176 nin0)
      refine g_invokespecial [(.ref a129), (.ref a137)] [(.ref a169)] 1 C at_194 rfl (hw _ (List.mem_of_getElem? (i := 7) rfl)) (hw _ (List.mem_of_getElem? (i := 8) rfl)) (hw _ (List.mem_of_getElem? (i := 6) rfl)) (hw _ (List.mem_of_getElem? (i := 9) rfl)) (by decide) (m_ctor2 l Z a0 hw v7_1 v20_8 v9_2 v11_3 a169 a129 a137 _ hB f174 f177 f178 f179 f180 f189 f190 (Nat.ne_of_lt (Nat.lt_of_lt_of_le (Nat.lt_of_lt_of_le l133 (Nat.le_trans (Nat.le_trans (Nat.le_trans (Nat.le_trans K144.1 K147.1) K153.1) K159.1) K165.1)) (Nat.le_of_eq e171.symm))) (Nat.ne_of_lt (Nat.lt_of_lt_of_le (Nat.lt_of_lt_of_le l141 (Nat.le_trans (Nat.le_trans (Nat.le_trans K147.1 K153.1) K159.1) K165.1)) (Nat.le_of_eq e171.symm)))) (lenOf pd3 rfl) rfl rfl (Nat.le_of_ble_eq_true rfl) (by decide) (by decide) (by decide) (by decide) (allS (List.mem_of_getElem? (i := 0) rfl) all0) (fun v191 h192 L193 q194 K195 => ?_)
      obtain ⟨rfl, t181, g182, f183, f184, f185, f186, f187, f188⟩ := q194
      show Go _ _ _ _ _ _ _ _ _ _ _ _ _ _ _ _ _ _ _ _ _ _ (mkF _ 197 #[.val (.long q0), .second, .val (.long q2), .second, .val (.long q4), .second, .val (.int p6), .val (.long v7_1), .second, .val (.long v9_2), .second, .val (.long v11_3), .second, .val (.long v13_4), .second, .val (.long v15_5), .second, .val (.long v17_6), .second, .val (.int (2 : Int32)), .val (.long v20_8), .second, .val (.long v22_9), .second, .val (.ref a129), .val (.ref a137), .val (.long bl), .second, .unset, .unset, .unset, .unset, .unset] [(.ref a169)])
      refine g_astore #[.val (.long q0), .second, .val (.long q2), .second, .val (.long q4), .second, .val (.int p6), .val (.long v7_1), .second, .val (.long v9_2), .second, .val (.long v11_3), .second, .val (.long v13_4), .second, .val (.long v15_5), .second, .val (.long v17_6), .second, .val (.int (2 : Int32)), .val (.long v20_8), .second, .val (.long v22_9), .second, .val (.ref a129), .val (.ref a137), .val (.long bl), .second, .val (.ref a169), .unset, .unset, .unset, .unset] C at_197 rfl rfl ?_
      refine g_aload C at_199 rfl rfl ?_
      refine g_lload C at_201 rfl ?_
      have f196 := (f189.keep K195 (ninS (Nat.ne_of_lt (Nat.lt_of_lt_of_le (Nat.lt_of_lt_of_le l133 (Nat.le_trans (Nat.le_trans (Nat.le_trans (Nat.le_trans K144.1 K147.1) K153.1) K159.1) K165.1)) (Nat.le_of_eq e171.symm))) nin0))
      have f197 := (f190.keep K195 (ninS (Nat.ne_of_lt (Nat.lt_of_lt_of_le (Nat.lt_of_lt_of_le l141 (Nat.le_trans (Nat.le_trans (Nat.le_trans K147.1 K153.1) K159.1) K165.1)) (Nat.le_of_eq e171.symm))) nin0))
      refine g_invokevirtual [(.long bl)] [] 0 C at_203 (hw _ (List.mem_of_getElem? (i := 21) rfl)) (hw _ (List.mem_of_getElem? (i := 22) rfl)) (hw _ (List.mem_of_getElem? (i := 24) rfl)) (hw _ (List.mem_of_getElem? (i := 23) rfl)) (hw _ (List.mem_of_getElem? (i := 6) rfl)) (hw _ (List.mem_of_getElem? (i := 25) rfl)) (fun _ hZ => notFace_of_selects (args := #[]) (mvT hZ (hw _ (List.mem_of_getElem? (i := 24) rfl)))) (by decide) f183 (m_ix_2 l Z a0 hw v7_1 v20_8 v9_2 v11_3 bl _ _ _ _ _ hB f183 f184 f185 f186 f196 f197 f188) (lenOf pd4 rfl) rfl rfl (Nat.le_of_ble_eq_true rfl) (by decide) (by decide) (by decide) (by decide) all0 (fun v198 h199 L200 q201 K202 => ?_)
      obtain rfl := q201
      show Go _ _ _ _ _ _ _ _ _ _ _ _ _ _ _ _ _ _ _ _ _ _ (mkF _ 206 #[.val (.long q0), .second, .val (.long q2), .second, .val (.long q4), .second, .val (.int p6), .val (.long v7_1), .second, .val (.long v9_2), .second, .val (.long v11_3), .second, .val (.long v13_4), .second, .val (.long v15_5), .second, .val (.long v17_6), .second, .val (.int (2 : Int32)), .val (.long v20_8), .second, .val (.long v22_9), .second, .val (.ref a129), .val (.ref a137), .val (.long bl), .second, .val (.ref a169), .unset, .unset, .unset, .unset] [(.long (ix2 v7_1 v20_8 v9_2 v11_3 bl))])
      obtain ⟨v29_203, hv29_203⟩ : ∃ z : Int64, z = (ix2 v7_1 v20_8 v9_2 v11_3 bl) := ⟨_, rfl⟩
      rw [← hv29_203]
      refine g_lstore #[.val (.long q0), .second, .val (.long q2), .second, .val (.long q4), .second, .val (.int p6), .val (.long v7_1), .second, .val (.long v9_2), .second, .val (.long v11_3), .second, .val (.long v13_4), .second, .val (.long v15_5), .second, .val (.long v17_6), .second, .val (.int (2 : Int32)), .val (.long v20_8), .second, .val (.long v22_9), .second, .val (.ref a129), .val (.ref a137), .val (.long bl), .second, .val (.ref a169), .val (.long v29_203), .second, .unset, .unset] C at_206 rfl ?_
      refine g_ldc2w (-1 : Int64) C at_208 (hw _ (List.mem_of_getElem? (i := 39) rfl)) ?_
      refine g_lstore #[.val (.long q0), .second, .val (.long q2), .second, .val (.long q4), .second, .val (.int p6), .val (.long v7_1), .second, .val (.long v9_2), .second, .val (.long v11_3), .second, .val (.long v13_4), .second, .val (.long v15_5), .second, .val (.long v17_6), .second, .val (.int (2 : Int32)), .val (.long v20_8), .second, .val (.long v22_9), .second, .val (.ref a129), .val (.ref a137), .val (.long bl), .second, .val (.ref a169), .val (.long v29_203), .second, .val (.long (-1 : Int64)), .second] C at_211 rfl ?_
      refine g_iload C at_213 rfl ?_
      refine g_ifF C at_215 (show (0 : Int32) < (2 : Int32) by decide) ?_
      refine g_lload C at_218 rfl ?_
      refine g_lload C at_220 rfl ?_
      refine g_lcmp C at_222 ?_
      by_cases c204 : bl < v7_1
      · skip
        refine g_ifT 244 C at_223 (cl_lt_t c204) (by decide) (by decide) ?_
        refine g_iload C at_244 rfl ?_
        refine g_iconst (1 : Int32) C at_246 (by decide) ?_
        refine g_icmpF C at_247 (show (1 : Int32) < (2 : Int32) by decide) ?_
        refine g_lload C at_250 rfl ?_
        refine g_lload C at_252 rfl ?_
        refine g_lcmp C at_254 ?_
        by_cases c205 : bl < v20_8
        · skip
          refine g_ifT 279 C at_255 (cl_lt_t c205) (by decide) (by decide) ?_
          refine g_iload C at_279 rfl ?_
          refine g_iconst (2 : Int32) C at_281 (by decide) ?_
          refine g_icmpT 317 C at_282 (show ¬ (2 : Int32) < (2 : Int32) by decide) (by decide) (by decide) ?_
          refine g_lload C at_317 rfl ?_
          refine g_lload C at_319 rfl ?_
          refine g_lcmp C at_321 ?_
          refine g_ifF C at_322 (cl_ne_f (by rw [hv29_203]; simp [ix2, c204, c205])) ?_
          refine g_iconst (1 : Int32) C at_325 (by decide) ?_
          refine g_goto 330 C at_326 (by decide) (by decide) ?_
          exact g_retN C at_330 (by simp) rfl (by decide) (by decide)
        · skip
          refine g_ifF C at_255 (cl_lt_f c205) ?_
          refine g_lload C at_258 rfl ?_
          refine g_lload C at_260 rfl ?_
          refine g_lload C at_262 rfl ?_
          refine g_ladd _ C at_264 rfl ?_
          refine g_lcmp C at_265 ?_
          by_cases c206 : bl < (v20_8 + v11_3)
          · skip
            refine g_ifF C at_266 (cl_ge_f c206) ?_
            refine g_lload C at_269 rfl ?_
            refine g_lload C at_271 rfl ?_
            refine g_lload C at_273 rfl ?_
            refine g_lsub _ C at_275 rfl ?_
            refine g_ladd _ C at_276 rfl ?_
            obtain ⟨v31_207, hv31_207⟩ : ∃ z : Int64, z = (v9_2 + (bl - v20_8)) := ⟨_, rfl⟩
            rw [← hv31_207]
            refine g_lstore #[.val (.long q0), .second, .val (.long q2), .second, .val (.long q4), .second, .val (.int p6), .val (.long v7_1), .second, .val (.long v9_2), .second, .val (.long v11_3), .second, .val (.long v13_4), .second, .val (.long v15_5), .second, .val (.long v17_6), .second, .val (.int (2 : Int32)), .val (.long v20_8), .second, .val (.long v22_9), .second, .val (.ref a129), .val (.ref a137), .val (.long bl), .second, .val (.ref a169), .val (.long v29_203), .second, .val (.long v31_207), .second] C at_277 rfl ?_
            refine g_iload C at_279 rfl ?_
            refine g_iconst (2 : Int32) C at_281 (by decide) ?_
            refine g_icmpT 317 C at_282 (show ¬ (2 : Int32) < (2 : Int32) by decide) (by decide) (by decide) ?_
            refine g_lload C at_317 rfl ?_
            refine g_lload C at_319 rfl ?_
            refine g_lcmp C at_321 ?_
            refine g_ifF C at_322 (cl_ne_f (by rw [hv29_203, hv31_207]; simp [ix2, c204, c205, c206])) ?_
            refine g_iconst (1 : Int32) C at_325 (by decide) ?_
            refine g_goto 330 C at_326 (by decide) (by decide) ?_
            exact g_retN C at_330 (by simp) rfl (by decide) (by decide)
          · skip
            refine g_ifT 279 C at_266 (cl_ge_t c206) (by decide) (by decide) ?_
            refine g_iload C at_279 rfl ?_
            refine g_iconst (2 : Int32) C at_281 (by decide) ?_
            refine g_icmpT 317 C at_282 (show ¬ (2 : Int32) < (2 : Int32) by decide) (by decide) (by decide) ?_
            refine g_lload C at_317 rfl ?_
            refine g_lload C at_319 rfl ?_
            refine g_lcmp C at_321 ?_
            refine g_ifF C at_322 (cl_ne_f (by rw [hv29_203]; simp [ix2, c204, c205, c206])) ?_
            refine g_iconst (1 : Int32) C at_325 (by decide) ?_
            refine g_goto 330 C at_326 (by decide) (by decide) ?_
            exact g_retN C at_330 (by simp) rfl (by decide) (by decide)
      · skip
        refine g_ifF C at_223 (cl_lt_f c204) ?_
        refine g_lload C at_226 rfl ?_
        refine g_lload C at_228 rfl ?_
        refine g_lload C at_230 rfl ?_
        refine g_ladd _ C at_232 rfl ?_
        refine g_lcmp C at_233 ?_
        by_cases c208 : bl < (v7_1 + v9_2)
        · skip
          refine g_ifF C at_234 (cl_ge_f c208) ?_
          refine g_lload C at_237 rfl ?_
          refine g_lload C at_239 rfl ?_
          refine g_lsub _ C at_241 rfl ?_
          obtain ⟨v31_209, hv31_209⟩ : ∃ z : Int64, z = (bl - v7_1) := ⟨_, rfl⟩
          rw [← hv31_209]
          refine g_lstore #[.val (.long q0), .second, .val (.long q2), .second, .val (.long q4), .second, .val (.int p6), .val (.long v7_1), .second, .val (.long v9_2), .second, .val (.long v11_3), .second, .val (.long v13_4), .second, .val (.long v15_5), .second, .val (.long v17_6), .second, .val (.int (2 : Int32)), .val (.long v20_8), .second, .val (.long v22_9), .second, .val (.ref a129), .val (.ref a137), .val (.long bl), .second, .val (.ref a169), .val (.long v29_203), .second, .val (.long v31_209), .second] C at_242 rfl ?_
          refine g_iload C at_244 rfl ?_
          refine g_iconst (1 : Int32) C at_246 (by decide) ?_
          refine g_icmpF C at_247 (show (1 : Int32) < (2 : Int32) by decide) ?_
          refine g_lload C at_250 rfl ?_
          refine g_lload C at_252 rfl ?_
          refine g_lcmp C at_254 ?_
          by_cases c210 : bl < v20_8
          · skip
            refine g_ifT 279 C at_255 (cl_lt_t c210) (by decide) (by decide) ?_
            refine g_iload C at_279 rfl ?_
            refine g_iconst (2 : Int32) C at_281 (by decide) ?_
            refine g_icmpT 317 C at_282 (show ¬ (2 : Int32) < (2 : Int32) by decide) (by decide) (by decide) ?_
            refine g_lload C at_317 rfl ?_
            refine g_lload C at_319 rfl ?_
            refine g_lcmp C at_321 ?_
            refine g_ifF C at_322 (cl_ne_f (by rw [hv29_203, hv31_209]; simp [ix2, c204, c208, c210])) ?_
            refine g_iconst (1 : Int32) C at_325 (by decide) ?_
            refine g_goto 330 C at_326 (by decide) (by decide) ?_
            exact g_retN C at_330 (by simp) rfl (by decide) (by decide)
          · skip
            refine g_ifF C at_255 (cl_lt_f c210) ?_
            refine g_lload C at_258 rfl ?_
            refine g_lload C at_260 rfl ?_
            refine g_lload C at_262 rfl ?_
            refine g_ladd _ C at_264 rfl ?_
            refine g_lcmp C at_265 ?_
            by_cases c211 : bl < (v20_8 + v11_3)
            · skip
              refine g_ifF C at_266 (cl_ge_f c211) ?_
              refine g_lload C at_269 rfl ?_
              refine g_lload C at_271 rfl ?_
              refine g_lload C at_273 rfl ?_
              refine g_lsub _ C at_275 rfl ?_
              refine g_ladd _ C at_276 rfl ?_
              obtain ⟨v31_212, hv31_212⟩ : ∃ z : Int64, z = (v9_2 + (bl - v20_8)) := ⟨_, rfl⟩
              rw [← hv31_212]
              refine g_lstore #[.val (.long q0), .second, .val (.long q2), .second, .val (.long q4), .second, .val (.int p6), .val (.long v7_1), .second, .val (.long v9_2), .second, .val (.long v11_3), .second, .val (.long v13_4), .second, .val (.long v15_5), .second, .val (.long v17_6), .second, .val (.int (2 : Int32)), .val (.long v20_8), .second, .val (.long v22_9), .second, .val (.ref a129), .val (.ref a137), .val (.long bl), .second, .val (.ref a169), .val (.long v29_203), .second, .val (.long v31_212), .second] C at_277 rfl ?_
              refine g_iload C at_279 rfl ?_
              refine g_iconst (2 : Int32) C at_281 (by decide) ?_
              refine g_icmpT 317 C at_282 (show ¬ (2 : Int32) < (2 : Int32) by decide) (by decide) (by decide) ?_
              refine g_lload C at_317 rfl ?_
              refine g_lload C at_319 rfl ?_
              refine g_lcmp C at_321 ?_
              refine g_ifF C at_322 (cl_ne_f (by rw [hv29_203, hv31_212]; simp [ix2, c204, c208, c210, c211])) ?_
              refine g_iconst (1 : Int32) C at_325 (by decide) ?_
              refine g_goto 330 C at_326 (by decide) (by decide) ?_
              exact g_retN C at_330 (by simp) rfl (by decide) (by decide)
            · skip
              refine g_ifT 279 C at_266 (cl_ge_t c211) (by decide) (by decide) ?_
              refine g_iload C at_279 rfl ?_
              refine g_iconst (2 : Int32) C at_281 (by decide) ?_
              refine g_icmpT 317 C at_282 (show ¬ (2 : Int32) < (2 : Int32) by decide) (by decide) (by decide) ?_
              refine g_lload C at_317 rfl ?_
              refine g_lload C at_319 rfl ?_
              refine g_lcmp C at_321 ?_
              refine g_ifF C at_322 (cl_ne_f (by rw [hv29_203, hv31_209]; simp [ix2, c204, c208, c210, c211])) ?_
              refine g_iconst (1 : Int32) C at_325 (by decide) ?_
              refine g_goto 330 C at_326 (by decide) (by decide) ?_
              exact g_retN C at_330 (by simp) rfl (by decide) (by decide)
        · skip
          refine g_ifT 244 C at_234 (cl_ge_t c208) (by decide) (by decide) ?_
          refine g_iload C at_244 rfl ?_
          refine g_iconst (1 : Int32) C at_246 (by decide) ?_
          refine g_icmpF C at_247 (show (1 : Int32) < (2 : Int32) by decide) ?_
          refine g_lload C at_250 rfl ?_
          refine g_lload C at_252 rfl ?_
          refine g_lcmp C at_254 ?_
          by_cases c213 : bl < v20_8
          · skip
            refine g_ifT 279 C at_255 (cl_lt_t c213) (by decide) (by decide) ?_
            refine g_iload C at_279 rfl ?_
            refine g_iconst (2 : Int32) C at_281 (by decide) ?_
            refine g_icmpT 317 C at_282 (show ¬ (2 : Int32) < (2 : Int32) by decide) (by decide) (by decide) ?_
            refine g_lload C at_317 rfl ?_
            refine g_lload C at_319 rfl ?_
            refine g_lcmp C at_321 ?_
            refine g_ifF C at_322 (cl_ne_f (by rw [hv29_203]; simp [ix2, c204, c208, c213])) ?_
            refine g_iconst (1 : Int32) C at_325 (by decide) ?_
            refine g_goto 330 C at_326 (by decide) (by decide) ?_
            exact g_retN C at_330 (by simp) rfl (by decide) (by decide)
          · skip
            refine g_ifF C at_255 (cl_lt_f c213) ?_
            refine g_lload C at_258 rfl ?_
            refine g_lload C at_260 rfl ?_
            refine g_lload C at_262 rfl ?_
            refine g_ladd _ C at_264 rfl ?_
            refine g_lcmp C at_265 ?_
            by_cases c214 : bl < (v20_8 + v11_3)
            · skip
              refine g_ifF C at_266 (cl_ge_f c214) ?_
              refine g_lload C at_269 rfl ?_
              refine g_lload C at_271 rfl ?_
              refine g_lload C at_273 rfl ?_
              refine g_lsub _ C at_275 rfl ?_
              refine g_ladd _ C at_276 rfl ?_
              obtain ⟨v31_215, hv31_215⟩ : ∃ z : Int64, z = (v9_2 + (bl - v20_8)) := ⟨_, rfl⟩
              rw [← hv31_215]
              refine g_lstore #[.val (.long q0), .second, .val (.long q2), .second, .val (.long q4), .second, .val (.int p6), .val (.long v7_1), .second, .val (.long v9_2), .second, .val (.long v11_3), .second, .val (.long v13_4), .second, .val (.long v15_5), .second, .val (.long v17_6), .second, .val (.int (2 : Int32)), .val (.long v20_8), .second, .val (.long v22_9), .second, .val (.ref a129), .val (.ref a137), .val (.long bl), .second, .val (.ref a169), .val (.long v29_203), .second, .val (.long v31_215), .second] C at_277 rfl ?_
              refine g_iload C at_279 rfl ?_
              refine g_iconst (2 : Int32) C at_281 (by decide) ?_
              refine g_icmpT 317 C at_282 (show ¬ (2 : Int32) < (2 : Int32) by decide) (by decide) (by decide) ?_
              refine g_lload C at_317 rfl ?_
              refine g_lload C at_319 rfl ?_
              refine g_lcmp C at_321 ?_
              refine g_ifF C at_322 (cl_ne_f (by rw [hv29_203, hv31_215]; simp [ix2, c204, c208, c213, c214])) ?_
              refine g_iconst (1 : Int32) C at_325 (by decide) ?_
              refine g_goto 330 C at_326 (by decide) (by decide) ?_
              exact g_retN C at_330 (by simp) rfl (by decide) (by decide)
            · skip
              refine g_ifT 279 C at_266 (cl_ge_t c214) (by decide) (by decide) ?_
              refine g_iload C at_279 rfl ?_
              refine g_iconst (2 : Int32) C at_281 (by decide) ?_
              refine g_icmpT 317 C at_282 (show ¬ (2 : Int32) < (2 : Int32) by decide) (by decide) (by decide) ?_
              refine g_lload C at_317 rfl ?_
              refine g_lload C at_319 rfl ?_
              refine g_lcmp C at_321 ?_
              refine g_ifF C at_322 (cl_ne_f (by rw [hv29_203]; simp [ix2, c204, c208, c213, c214])) ?_
              refine g_iconst (1 : Int32) C at_325 (by decide) ?_
              refine g_goto 330 C at_326 (by decide) (by decide) ?_
              exact g_retN C at_330 (by simp) rfl (by decide) (by decide)
    · skip
      refine g_iload C at_159 rfl ?_
      refine g_iconst (1 : Int32) C at_161 (by decide) ?_
      refine g_iand _ C at_162 rfl ?_
      by_cases c216 : (p6 &&& (1 : Int32)) = (0 : Int32)
      · skip
        refine g_ifF C at_163 (show (p6 &&& (1 : Int32)) = (0 : Int32) from c216) ?_
        refine g_lload C at_166 rfl ?_
        refine g_goto 184 C at_168 (by decide) (by decide) ?_
        exact J _
      · skip
        refine g_ifT 171 C at_163 (show ¬ (p6 &&& (1 : Int32)) = (0 : Int32) from c216) (by decide) (by decide) ?_
        refine g_lload C at_171 rfl ?_
        refine g_ldc2w (3 : Int64) C at_173 (hw _ (List.mem_of_getElem? (i := 2) rfl)) ?_
        refine g_lsub _ C at_176 rfl ?_
        refine g_lload C at_177 rfl ?_
        refine g_ldc2w (127 : Int64) C at_179 (hw _ (List.mem_of_getElem? (i := 40) rfl)) ?_
        refine g_land _ C at_182 rfl ?_
        refine g_ladd _ C at_183 rfl ?_
        exact J _
  · rw [q] at hv19_7
    subst hv19_7
    refine g_iload C at_94 rfl ?_
    refine g_newarray_ (ad := "[J") 3 [(.long (0 : Int64)), (.long (0 : Int64)), (.long (0 : Int64))] C at_96 (hw _ (List.mem_of_getElem? (i := 3) rfl)) (by decide) (by decide) (by decide) (by decide) (by decide) (by decide) (by decide) (fun a217 h218 e219 E220 l221 f222 f223 => ?_)
    have K224 := keep_ext E220
    refine g_astore #[.val (.long q0), .second, .val (.long q2), .second, .val (.long q4), .second, .val (.int p6), .val (.long v7_1), .second, .val (.long v9_2), .second, .val (.long v11_3), .second, .val (.long v13_4), .second, .val (.long v15_5), .second, .val (.long v17_6), .second, .val (.int (3 : Int32)), .val (.long v20_8), .second, .val (.long v22_9), .second, .val (.ref a217), .unset, .unset, .unset, .unset, .unset, .unset, .unset, .unset] C at_98 rfl rfl ?_
    refine g_iload C at_100 rfl ?_
    refine g_newarray_ (ad := "[J") 3 [(.long (0 : Int64)), (.long (0 : Int64)), (.long (0 : Int64))] C at_102 (hw _ (List.mem_of_getElem? (i := 3) rfl)) (by decide) (by decide) (by decide) (by decide) (by decide) (by decide) (by decide) (fun a225 h226 e227 E228 l229 f230 f231 => ?_)
    have K232 := keep_ext E228
    refine g_astore #[.val (.long q0), .second, .val (.long q2), .second, .val (.long q4), .second, .val (.int p6), .val (.long v7_1), .second, .val (.long v9_2), .second, .val (.long v11_3), .second, .val (.long v13_4), .second, .val (.long v15_5), .second, .val (.long v17_6), .second, .val (.int (3 : Int32)), .val (.long v20_8), .second, .val (.long v22_9), .second, .val (.ref a217), .val (.ref a225), .unset, .unset, .unset, .unset, .unset, .unset, .unset] C at_104 rfl rfl ?_
    refine g_iload C at_106 rfl ?_
    refine g_ifF C at_108 (show (0 : Int32) < (3 : Int32) by decide) ?_
    refine g_aload C at_111 rfl rfl ?_
    refine g_iconst (0 : Int32) C at_113 (by decide) ?_
    refine g_lload C at_114 rfl ?_
    have f233 := (f223.keep K232 nin0)
    refine g_lastore 0 C at_116 f233 (by decide) (by decide) (Nat.le_of_ble_eq_true rfl) (List.mem_of_getElem? (i := 1) rfl) (fun h234 K235 z236 f237 => ?_)
    have f238 : Av Z h234 a217 .long [(.long v7_1), (.long (0 : Int64)), (.long (0 : Int64))] := f237
    refine g_aload C at_117 rfl rfl ?_
    refine g_iconst (0 : Int32) C at_119 (by decide) ?_
    refine g_lload C at_120 rfl ?_
    have f239 := (f231.keep K235 (ninS (Nat.ne_of_gt (Nat.lt_of_lt_of_le l221 (Nat.le_of_eq e227.symm))) nin0))
    refine g_lastore 0 C at_122 f239 (by decide) (by decide) (Nat.le_of_ble_eq_true rfl) (List.mem_of_getElem? (i := 0) rfl) (fun h240 K241 z242 f243 => ?_)
    have f244 : Av Z h240 a225 .long [(.long v9_2), (.long (0 : Int64)), (.long (0 : Int64))] := f243
    refine g_iload C at_123 rfl ?_
    refine g_iconst (1 : Int32) C at_125 (by decide) ?_
    refine g_icmpF C at_126 (show (1 : Int32) < (3 : Int32) by decide) ?_
    refine g_aload C at_129 rfl rfl ?_
    refine g_iconst (1 : Int32) C at_131 (by decide) ?_
    refine g_lload C at_132 rfl ?_
    have f245 := (f238.keep K241 (ninS (Nat.ne_of_lt (Nat.lt_of_lt_of_le l221 (Nat.le_of_eq e227.symm))) nin0))
    refine g_lastore 1 C at_134 f245 (by decide) (by decide) (Nat.le_of_ble_eq_true rfl) (List.mem_of_getElem? (i := 1) rfl) (fun h246 K247 z248 f249 => ?_)
    have f250 : Av Z h246 a217 .long [(.long v7_1), (.long v20_8), (.long (0 : Int64))] := f249
    refine g_aload C at_135 rfl rfl ?_
    refine g_iconst (1 : Int32) C at_137 (by decide) ?_
    refine g_lload C at_138 rfl ?_
    have f251 := (f244.keep K247 (ninS (Nat.ne_of_gt (Nat.lt_of_lt_of_le l221 (Nat.le_of_eq e227.symm))) nin0))
    refine g_lastore 1 C at_140 f251 (by decide) (by decide) (Nat.le_of_ble_eq_true rfl) (List.mem_of_getElem? (i := 0) rfl) (fun h252 K253 z254 f255 => ?_)
    have f256 : Av Z h252 a225 .long [(.long v9_2), (.long v11_3), (.long (0 : Int64))] := f255
    refine g_iload C at_141 rfl ?_
    refine g_iconst (2 : Int32) C at_143 (by decide) ?_
    refine g_icmpF C at_144 (show (2 : Int32) < (3 : Int32) by decide) ?_
    refine g_aload C at_147 rfl rfl ?_
    refine g_iconst (2 : Int32) C at_149 (by decide) ?_
    refine g_lload C at_150 rfl ?_
    have f257 := (f250.keep K253 (ninS (Nat.ne_of_lt (Nat.lt_of_lt_of_le l221 (Nat.le_of_eq e227.symm))) nin0))
    refine g_lastore 2 C at_152 f257 (by decide) (by decide) (Nat.le_of_ble_eq_true rfl) (List.mem_of_getElem? (i := 1) rfl) (fun h258 K259 z260 f261 => ?_)
    have f262 : Av Z h258 a217 .long [(.long v7_1), (.long v20_8), (.long v22_9)] := f261
    refine g_aload C at_153 rfl rfl ?_
    refine g_iconst (2 : Int32) C at_155 (by decide) ?_
    refine g_lload C at_156 rfl ?_
    have f263 := (f256.keep K259 (ninS (Nat.ne_of_gt (Nat.lt_of_lt_of_le l221 (Nat.le_of_eq e227.symm))) nin0))
    refine g_lastore 2 C at_158 f263 (by decide) (by decide) (Nat.le_of_ble_eq_true rfl) (List.mem_of_getElem? (i := 0) rfl) (fun h264 K265 z266 f267 => ?_)
    have f268 : Av Z h264 a225 .long [(.long v9_2), (.long v11_3), (.long v13_4)] := f267
    refine Go.join (α := Int64) (P := fun bl => mkF m 184 #[.val (.long q0), .second, .val (.long q2), .second, .val (.long q4), .second, .val (.int p6), .val (.long v7_1), .second, .val (.long v9_2), .second, .val (.long v11_3), .second, .val (.long v13_4), .second, .val (.long v15_5), .second, .val (.long v17_6), .second, .val (.int (3 : Int32)), .val (.long v20_8), .second, .val (.long v22_9), .second, .val (.ref a217), .val (.ref a225), .unset, .unset, .unset, .unset, .unset, .unset, .unset] [.long bl]) (fun bl => ?_) (fun J => ?_)
    · skip
      refine g_lstore #[.val (.long q0), .second, .val (.long q2), .second, .val (.long q4), .second, .val (.int p6), .val (.long v7_1), .second, .val (.long v9_2), .second, .val (.long v11_3), .second, .val (.long v13_4), .second, .val (.long v15_5), .second, .val (.long v17_6), .second, .val (.int (3 : Int32)), .val (.long v20_8), .second, .val (.long v22_9), .second, .val (.ref a217), .val (.ref a225), .val (.long bl), .second, .unset, .unset, .unset, .unset, .unset] C at_184 rfl ?_
      refine g_new_ C at_186 (hw _ (List.mem_of_getElem? (i := 4) rfl)) (hw _ (List.mem_of_getElem? (i := 5) rfl)) (hw _ (List.mem_of_getElem? (i := 6) rfl)) (by decide) (by decide) (fun a269 h270 e271 E272 l273 f274 D275 => ?_)
      have K276 := keep_ext E272
      have f277 : Fld Z h270 a269 "com/example/keelstone/keelstone/store/Runs" "firsts" "[J" .null := D275 (Or.inr (hw _ (List.mem_of_getElem? (i := 14) rfl))) (ty := (.array .long)) (by decide)
      have f278 : Fld Z h270 a269 "com/example/keelstone/keelstone/store/Runs" "counts" "[J" .null := D275 (Or.inr (hw _ (List.mem_of_getElem? (i := 16) rfl))) (ty := (.array .long)) (by decide)
      have f279 : Fld Z h270 a269 "com/example/keelstone/keelstone/store/Runs" "starts" "[J" .null := D275 (Or.inr (hw _ (List.mem_of_getElem? (i := 18) rfl))) (ty := (.array .long)) (by decide)
      have f280 : Fld Z h270 a269 "com/example/keelstone/keelstone/store/Runs" "blocks" "J" (.long (0 : Int64)) := D275 (Or.inr (hw _ (List.mem_of_getElem? (i := 20) rfl))) (ty := .long) (by decide)
      refine g_dup C at_189 rfl ?_
      refine g_aload C at_190 rfl rfl ?_
      refine g_aload C at_192 rfl rfl ?_
      have hB : 0 ≤ v7_1.toInt ∧ v22_9.toInt < 4611686018427388404 ∧ 1 ≤ v9_2.toInt ∧ v9_2.toInt ≤ 16 ∧ 1 ≤ v11_3.toInt ∧ v11_3.toInt ≤ 16 ∧ 1 ≤ v13_4.toInt ∧ v13_4.toInt ≤ 16 ∧ v7_1.toInt + v9_2.toInt < v20_8.toInt ∧ v20_8.toInt + v11_3.toInt < v22_9.toInt := by omega
      have f289 := ((f262.keep K265 (ninS (Nat.ne_of_lt (Nat.lt_of_lt_of_le l221 (Nat.le_of_eq e227.symm))) nin0)).keep K276 nin0)
      have f290 := (f268.keep K276 nin0)
      refine g_invokespecial [(.ref a217), (.ref a225)] [(.ref a269)] 1 C at_194 rfl (hw _ (List.mem_of_getElem? (i := 7) rfl)) (hw _ (List.mem_of_getElem? (i := 8) rfl)) (hw _ (List.mem_of_getElem? (i := 6) rfl)) (hw _ (List.mem_of_getElem? (i := 9) rfl)) (by decide) (m_ctor3 l Z a0 hw v7_1 v20_8 v22_9 v9_2 v11_3 v13_4 a269 a217 a225 _ hB f274 f277 f278 f279 f280 f289 f290 (Nat.ne_of_lt (Nat.lt_of_lt_of_le (Nat.lt_of_lt_of_le l221 (Nat.le_trans (Nat.le_trans (Nat.le_trans (Nat.le_trans (Nat.le_trans (Nat.le_trans K232.1 K235.1) K241.1) K247.1) K253.1) K259.1) K265.1)) (Nat.le_of_eq e271.symm))) (Nat.ne_of_lt (Nat.lt_of_lt_of_le (Nat.lt_of_lt_of_le l229 (Nat.le_trans (Nat.le_trans (Nat.le_trans (Nat.le_trans (Nat.le_trans K235.1 K241.1) K247.1) K253.1) K259.1) K265.1)) (Nat.le_of_eq e271.symm)))) (lenOf pd3 rfl) rfl rfl (Nat.le_of_ble_eq_true rfl) (by decide) (by decide) (by decide) (by decide) (allS (List.mem_of_getElem? (i := 0) rfl) all0) (fun v291 h292 L293 q294 K295 => ?_)
      obtain ⟨rfl, t281, g282, f283, f284, f285, f286, f287, f288⟩ := q294
      show Go _ _ _ _ _ _ _ _ _ _ _ _ _ _ _ _ _ _ _ _ _ _ (mkF _ 197 #[.val (.long q0), .second, .val (.long q2), .second, .val (.long q4), .second, .val (.int p6), .val (.long v7_1), .second, .val (.long v9_2), .second, .val (.long v11_3), .second, .val (.long v13_4), .second, .val (.long v15_5), .second, .val (.long v17_6), .second, .val (.int (3 : Int32)), .val (.long v20_8), .second, .val (.long v22_9), .second, .val (.ref a217), .val (.ref a225), .val (.long bl), .second, .unset, .unset, .unset, .unset, .unset] [(.ref a269)])
      refine g_astore #[.val (.long q0), .second, .val (.long q2), .second, .val (.long q4), .second, .val (.int p6), .val (.long v7_1), .second, .val (.long v9_2), .second, .val (.long v11_3), .second, .val (.long v13_4), .second, .val (.long v15_5), .second, .val (.long v17_6), .second, .val (.int (3 : Int32)), .val (.long v20_8), .second, .val (.long v22_9), .second, .val (.ref a217), .val (.ref a225), .val (.long bl), .second, .val (.ref a269), .unset, .unset, .unset, .unset] C at_197 rfl rfl ?_
      refine g_aload C at_199 rfl rfl ?_
      refine g_lload C at_201 rfl ?_
      have f296 := (f289.keep K295 (ninS (Nat.ne_of_lt (Nat.lt_of_lt_of_le (Nat.lt_of_lt_of_le l221 (Nat.le_trans (Nat.le_trans (Nat.le_trans (Nat.le_trans (Nat.le_trans (Nat.le_trans K232.1 K235.1) K241.1) K247.1) K253.1) K259.1) K265.1)) (Nat.le_of_eq e271.symm))) nin0))
      have f297 := (f290.keep K295 (ninS (Nat.ne_of_lt (Nat.lt_of_lt_of_le (Nat.lt_of_lt_of_le l229 (Nat.le_trans (Nat.le_trans (Nat.le_trans (Nat.le_trans (Nat.le_trans K235.1 K241.1) K247.1) K253.1) K259.1) K265.1)) (Nat.le_of_eq e271.symm))) nin0))
      refine g_invokevirtual [(.long bl)] [] 0 C at_203 (hw _ (List.mem_of_getElem? (i := 21) rfl)) (hw _ (List.mem_of_getElem? (i := 22) rfl)) (hw _ (List.mem_of_getElem? (i := 24) rfl)) (hw _ (List.mem_of_getElem? (i := 23) rfl)) (hw _ (List.mem_of_getElem? (i := 6) rfl)) (hw _ (List.mem_of_getElem? (i := 25) rfl)) (fun _ hZ => notFace_of_selects (args := #[]) (mvT hZ (hw _ (List.mem_of_getElem? (i := 24) rfl)))) (by decide) f283 (m_ix_3 l Z a0 hw v7_1 v20_8 v22_9 v9_2 v11_3 v13_4 bl _ _ _ _ _ hB f283 f284 f285 f286 f296 f297 f288) (lenOf pd4 rfl) rfl rfl (Nat.le_of_ble_eq_true rfl) (by decide) (by decide) (by decide) (by decide) all0 (fun v298 h299 L300 q301 K302 => ?_)
      obtain rfl := q301
      show Go _ _ _ _ _ _ _ _ _ _ _ _ _ _ _ _ _ _ _ _ _ _ (mkF _ 206 #[.val (.long q0), .second, .val (.long q2), .second, .val (.long q4), .second, .val (.int p6), .val (.long v7_1), .second, .val (.long v9_2), .second, .val (.long v11_3), .second, .val (.long v13_4), .second, .val (.long v15_5), .second, .val (.long v17_6), .second, .val (.int (3 : Int32)), .val (.long v20_8), .second, .val (.long v22_9), .second, .val (.ref a217), .val (.ref a225), .val (.long bl), .second, .val (.ref a269), .unset, .unset, .unset, .unset] [(.long (ix3 v7_1 v20_8 v22_9 v9_2 v11_3 v13_4 bl))])
      obtain ⟨v29_303, hv29_303⟩ : ∃ z : Int64, z = (ix3 v7_1 v20_8 v22_9 v9_2 v11_3 v13_4 bl) := ⟨_, rfl⟩
      rw [← hv29_303]
      refine g_lstore #[.val (.long q0), .second, .val (.long q2), .second, .val (.long q4), .second, .val (.int p6), .val (.long v7_1), .second, .val (.long v9_2), .second, .val (.long v11_3), .second, .val (.long v13_4), .second, .val (.long v15_5), .second, .val (.long v17_6), .second, .val (.int (3 : Int32)), .val (.long v20_8), .second, .val (.long v22_9), .second, .val (.ref a217), .val (.ref a225), .val (.long bl), .second, .val (.ref a269), .val (.long v29_303), .second, .unset, .unset] C at_206 rfl ?_
      refine g_ldc2w (-1 : Int64) C at_208 (hw _ (List.mem_of_getElem? (i := 39) rfl)) ?_
      refine g_lstore #[.val (.long q0), .second, .val (.long q2), .second, .val (.long q4), .second, .val (.int p6), .val (.long v7_1), .second, .val (.long v9_2), .second, .val (.long v11_3), .second, .val (.long v13_4), .second, .val (.long v15_5), .second, .val (.long v17_6), .second, .val (.int (3 : Int32)), .val (.long v20_8), .second, .val (.long v22_9), .second, .val (.ref a217), .val (.ref a225), .val (.long bl), .second, .val (.ref a269), .val (.long v29_303), .second, .val (.long (-1 : Int64)), .second] C at_211 rfl ?_
      refine g_iload C at_213 rfl ?_
      refine g_ifF C at_215 (show (0 : Int32) < (3 : Int32) by decide) ?_
      refine g_lload C at_218 rfl ?_
      refine g_lload C at_220 rfl ?_
      refine g_lcmp C at_222 ?_
      by_cases c304 : bl < v7_1
      · skip
        refine g_ifT 244 C at_223 (cl_lt_t c304) (by decide) (by decide) ?_
        refine g_iload C at_244 rfl ?_
        refine g_iconst (1 : Int32) C at_246 (by decide) ?_
        refine g_icmpF C at_247 (show (1 : Int32) < (3 : Int32) by decide) ?_
        refine g_lload C at_250 rfl ?_
        refine g_lload C at_252 rfl ?_
        refine g_lcmp C at_254 ?_
        by_cases c305 : bl < v20_8
        · skip
          refine g_ifT 279 C at_255 (cl_lt_t c305) (by decide) (by decide) ?_
          refine g_iload C at_279 rfl ?_
          refine g_iconst (2 : Int32) C at_281 (by decide) ?_
          refine g_icmpF C at_282 (show (2 : Int32) < (3 : Int32) by decide) ?_
          refine g_lload C at_285 rfl ?_
          refine g_lload C at_287 rfl ?_
          refine g_lcmp C at_289 ?_
          by_cases c306 : bl < v22_9
          · skip
            refine g_ifT 317 C at_290 (cl_lt_t c306) (by decide) (by decide) ?_
            refine g_lload C at_317 rfl ?_
            refine g_lload C at_319 rfl ?_
            refine g_lcmp C at_321 ?_
            refine g_ifF C at_322 (cl_ne_f (by rw [hv29_303]; simp [ix3, c304, c305, c306])) ?_
            refine g_iconst (1 : Int32) C at_325 (by decide) ?_
            refine g_goto 330 C at_326 (by decide) (by decide) ?_
            exact g_retN C at_330 (by simp) rfl (by decide) (by decide)
          · skip
            refine g_ifF C at_290 (cl_lt_f c306) ?_
            refine g_lload C at_293 rfl ?_
            refine g_lload C at_295 rfl ?_
            refine g_lload C at_297 rfl ?_
            refine g_ladd _ C at_299 rfl ?_
            refine g_lcmp C at_300 ?_
            by_cases c307 : bl < (v22_9 + v13_4)
            · skip
              refine g_ifF C at_301 (cl_ge_f c307) ?_
              refine g_lload C at_304 rfl ?_
              refine g_lload C at_306 rfl ?_
              refine g_ladd _ C at_308 rfl ?_
              refine g_lload C at_309 rfl ?_
              refine g_lload C at_311 rfl ?_
              refine g_lsub _ C at_313 rfl ?_
              refine g_ladd _ C at_314 rfl ?_
              obtain ⟨v31_308, hv31_308⟩ : ∃ z : Int64, z = ((v9_2 + v11_3) + (bl - v22_9)) := ⟨_, rfl⟩
              rw [← hv31_308]
              refine g_lstore #[.val (.long q0), .second, .val (.long q2), .second, .val (.long q4), .second, .val (.int p6), .val (.long v7_1), .second, .val (.long v9_2), .second, .val (.long v11_3), .second, .val (.long v13_4), .second, .val (.long v15_5), .second, .val (.long v17_6), .second, .val (.int (3 : Int32)), .val (.long v20_8), .second, .val (.long v22_9), .second, .val (.ref a217), .val (.ref a225), .val (.long bl), .second, .val (.ref a269), .val (.long v29_303), .second, .val (.long v31_308), .second] C at_315 rfl ?_
              refine g_lload C at_317 rfl ?_
              refine g_lload C at_319 rfl ?_
              refine g_lcmp C at_321 ?_
              refine g_ifF C at_322 (cl_ne_f (by rw [hv29_303, hv31_308]; simp [ix3, c304, c305, c306, c307])) ?_
              refine g_iconst (1 : Int32) C at_325 (by decide) ?_
              refine g_goto 330 C at_326 (by decide) (by decide) ?_
              exact g_retN C at_330 (by simp) rfl (by decide) (by decide)
            · skip
              refine g_ifT 317 C at_301 (cl_ge_t c307) (by decide) (by decide) ?_
              refine g_lload C at_317 rfl ?_
              refine g_lload C at_319 rfl ?_
              refine g_lcmp C at_321 ?_
              refine g_ifF C at_322 (cl_ne_f (by rw [hv29_303]; simp [ix3, c304, c305, c306, c307])) ?_
              refine g_iconst (1 : Int32) C at_325 (by decide) ?_
              refine g_goto 330 C at_326 (by decide) (by decide) ?_
              exact g_retN C at_330 (by simp) rfl (by decide) (by decide)
        · skip
          refine g_ifF C at_255 (cl_lt_f c305) ?_
          refine g_lload C at_258 rfl ?_
          refine g_lload C at_260 rfl ?_
          refine g_lload C at_262 rfl ?_
          refine g_ladd _ C at_264 rfl ?_
          refine g_lcmp C at_265 ?_
          by_cases c309 : bl < (v20_8 + v11_3)
          · skip
            refine g_ifF C at_266 (cl_ge_f c309) ?_
            refine g_lload C at_269 rfl ?_
            refine g_lload C at_271 rfl ?_
            refine g_lload C at_273 rfl ?_
            refine g_lsub _ C at_275 rfl ?_
            refine g_ladd _ C at_276 rfl ?_
            obtain ⟨v31_310, hv31_310⟩ : ∃ z : Int64, z = (v9_2 + (bl - v20_8)) := ⟨_, rfl⟩
            rw [← hv31_310]
            refine g_lstore #[.val (.long q0), .second, .val (.long q2), .second, .val (.long q4), .second, .val (.int p6), .val (.long v7_1), .second, .val (.long v9_2), .second, .val (.long v11_3), .second, .val (.long v13_4), .second, .val (.long v15_5), .second, .val (.long v17_6), .second, .val (.int (3 : Int32)), .val (.long v20_8), .second, .val (.long v22_9), .second, .val (.ref a217), .val (.ref a225), .val (.long bl), .second, .val (.ref a269), .val (.long v29_303), .second, .val (.long v31_310), .second] C at_277 rfl ?_
            refine g_iload C at_279 rfl ?_
            refine g_iconst (2 : Int32) C at_281 (by decide) ?_
            refine g_icmpF C at_282 (show (2 : Int32) < (3 : Int32) by decide) ?_
            refine g_lload C at_285 rfl ?_
            refine g_lload C at_287 rfl ?_
            refine g_lcmp C at_289 ?_
            by_cases c311 : bl < v22_9
            · skip
              refine g_ifT 317 C at_290 (cl_lt_t c311) (by decide) (by decide) ?_
              refine g_lload C at_317 rfl ?_
              refine g_lload C at_319 rfl ?_
              refine g_lcmp C at_321 ?_
              refine g_ifF C at_322 (cl_ne_f (by rw [hv29_303, hv31_310]; simp [ix3, c304, c305, c309, c311])) ?_
              refine g_iconst (1 : Int32) C at_325 (by decide) ?_
              refine g_goto 330 C at_326 (by decide) (by decide) ?_
              exact g_retN C at_330 (by simp) rfl (by decide) (by decide)
            · skip
              refine g_ifF C at_290 (cl_lt_f c311) ?_
              refine g_lload C at_293 rfl ?_
              refine g_lload C at_295 rfl ?_
              refine g_lload C at_297 rfl ?_
              refine g_ladd _ C at_299 rfl ?_
              refine g_lcmp C at_300 ?_
              by_cases c312 : bl < (v22_9 + v13_4)
              · skip
                refine g_ifF C at_301 (cl_ge_f c312) ?_
                refine g_lload C at_304 rfl ?_
                refine g_lload C at_306 rfl ?_
                refine g_ladd _ C at_308 rfl ?_
                refine g_lload C at_309 rfl ?_
                refine g_lload C at_311 rfl ?_
                refine g_lsub _ C at_313 rfl ?_
                refine g_ladd _ C at_314 rfl ?_
                obtain ⟨v31_313, hv31_313⟩ : ∃ z : Int64, z = ((v9_2 + v11_3) + (bl - v22_9)) := ⟨_, rfl⟩
                rw [← hv31_313]
                refine g_lstore #[.val (.long q0), .second, .val (.long q2), .second, .val (.long q4), .second, .val (.int p6), .val (.long v7_1), .second, .val (.long v9_2), .second, .val (.long v11_3), .second, .val (.long v13_4), .second, .val (.long v15_5), .second, .val (.long v17_6), .second, .val (.int (3 : Int32)), .val (.long v20_8), .second, .val (.long v22_9), .second, .val (.ref a217), .val (.ref a225), .val (.long bl), .second, .val (.ref a269), .val (.long v29_303), .second, .val (.long v31_313), .second] C at_315 rfl ?_
                refine g_lload C at_317 rfl ?_
                refine g_lload C at_319 rfl ?_
                refine g_lcmp C at_321 ?_
                refine g_ifF C at_322 (cl_ne_f (by rw [hv29_303, hv31_313]; simp [ix3, c304, c305, c309, c311, c312])) ?_
                refine g_iconst (1 : Int32) C at_325 (by decide) ?_
                refine g_goto 330 C at_326 (by decide) (by decide) ?_
                exact g_retN C at_330 (by simp) rfl (by decide) (by decide)
              · skip
                refine g_ifT 317 C at_301 (cl_ge_t c312) (by decide) (by decide) ?_
                refine g_lload C at_317 rfl ?_
                refine g_lload C at_319 rfl ?_
                refine g_lcmp C at_321 ?_
                refine g_ifF C at_322 (cl_ne_f (by rw [hv29_303, hv31_310]; simp [ix3, c304, c305, c309, c311, c312])) ?_
                refine g_iconst (1 : Int32) C at_325 (by decide) ?_
                refine g_goto 330 C at_326 (by decide) (by decide) ?_
                exact g_retN C at_330 (by simp) rfl (by decide) (by decide)
          · skip
            refine g_ifT 279 C at_266 (cl_ge_t c309) (by decide) (by decide) ?_
            refine g_iload C at_279 rfl ?_
            refine g_iconst (2 : Int32) C at_281 (by decide) ?_
            refine g_icmpF C at_282 (show (2 : Int32) < (3 : Int32) by decide) ?_
            refine g_lload C at_285 rfl ?_
            refine g_lload C at_287 rfl ?_
            refine g_lcmp C at_289 ?_
            by_cases c314 : bl < v22_9
            · skip
              refine g_ifT 317 C at_290 (cl_lt_t c314) (by decide) (by decide) ?_
              refine g_lload C at_317 rfl ?_
              refine g_lload C at_319 rfl ?_
              refine g_lcmp C at_321 ?_
              refine g_ifF C at_322 (cl_ne_f (by rw [hv29_303]; simp [ix3, c304, c305, c309, c314])) ?_
              refine g_iconst (1 : Int32) C at_325 (by decide) ?_
              refine g_goto 330 C at_326 (by decide) (by decide) ?_
              exact g_retN C at_330 (by simp) rfl (by decide) (by decide)
            · skip
              refine g_ifF C at_290 (cl_lt_f c314) ?_
              refine g_lload C at_293 rfl ?_
              refine g_lload C at_295 rfl ?_
              refine g_lload C at_297 rfl ?_
              refine g_ladd _ C at_299 rfl ?_
              refine g_lcmp C at_300 ?_
              by_cases c315 : bl < (v22_9 + v13_4)
              · skip
                refine g_ifF C at_301 (cl_ge_f c315) ?_
                refine g_lload C at_304 rfl ?_
                refine g_lload C at_306 rfl ?_
                refine g_ladd _ C at_308 rfl ?_
                refine g_lload C at_309 rfl ?_
                refine g_lload C at_311 rfl ?_
                refine g_lsub _ C at_313 rfl ?_
                refine g_ladd _ C at_314 rfl ?_
                obtain ⟨v31_316, hv31_316⟩ : ∃ z : Int64, z = ((v9_2 + v11_3) + (bl - v22_9)) := ⟨_, rfl⟩
                rw [← hv31_316]
                refine g_lstore #[.val (.long q0), .second, .val (.long q2), .second, .val (.long q4), .second, .val (.int p6), .val (.long v7_1), .second, .val (.long v9_2), .second, .val (.long v11_3), .second, .val (.long v13_4), .second, .val (.long v15_5), .second, .val (.long v17_6), .second, .val (.int (3 : Int32)), .val (.long v20_8), .second, .val (.long v22_9), .second, .val (.ref a217), .val (.ref a225), .val (.long bl), .second, .val (.ref a269), .val (.long v29_303), .second, .val (.long v31_316), .second] C at_315 rfl ?_
                refine g_lload C at_317 rfl ?_
                refine g_lload C at_319 rfl ?_
                refine g_lcmp C at_321 ?_
                refine g_ifF C at_322 (cl_ne_f (by rw [hv29_303, hv31_316]; simp [ix3, c304, c305, c309, c314, c315])) ?_
                refine g_iconst (1 : Int32) C at_325 (by decide) ?_
                refine g_goto 330 C at_326 (by decide) (by decide) ?_
                exact g_retN C at_330 (by simp) rfl (by decide) (by decide)
              · skip
                refine g_ifT 317 C at_301 (cl_ge_t c315) (by decide) (by decide) ?_
                refine g_lload C at_317 rfl ?_
                refine g_lload C at_319 rfl ?_
                refine g_lcmp C at_321 ?_
                refine g_ifF C at_322 (cl_ne_f (by rw [hv29_303]; simp [ix3, c304, c305, c309, c314, c315])) ?_
                refine g_iconst (1 : Int32) C at_325 (by decide) ?_
                refine g_goto 330 C at_326 (by decide) (by decide) ?_
                exact g_retN C at_330 (by simp) rfl (by decide) (by decide)
      · skip
        refine g_ifF C at_223 (cl_lt_f c304) ?_
        refine g_lload C at_226 rfl ?_
        refine g_lload C at_228 rfl ?_
        refine g_lload C at_230 rfl ?_
        refine g_ladd _ C at_232 rfl ?_
        refine g_lcmp C at_233 ?_
        by_cases c317 : bl < (v7_1 + v9_2)
        · skip
          refine g_ifF C at_234 (cl_ge_f c317) ?_
          refine g_lload C at_237 rfl ?_
          refine g_lload C at_239 rfl ?_
          refine g_lsub _ C at_241 rfl ?_
          obtain ⟨v31_318, hv31_318⟩ : ∃ z : Int64, z = (bl - v7_1) := ⟨_, rfl⟩
          rw [← hv31_318]
          refine g_lstore #[.val (.long q0), .second, .val (.long q2), .second, .val (.long q4), .second, .val (.int p6), .val (.long v7_1), .second, .val (.long v9_2), .second, .val (.long v11_3), .second, .val (.long v13_4), .second, .val (.long v15_5), .second, .val (.long v17_6), .second, .val (.int (3 : Int32)), .val (.long v20_8), .second, .val (.long v22_9), .second, .val (.ref a217), .val (.ref a225), .val (.long bl), .second, .val (.ref a269), .val (.long v29_303), .second, .val (.long v31_318), .second] C at_242 rfl ?_
          refine g_iload C at_244 rfl ?_
          refine g_iconst (1 : Int32) C at_246 (by decide) ?_
          refine g_icmpF C at_247 (show (1 : Int32) < (3 : Int32) by decide) ?_
          refine g_lload C at_250 rfl ?_
          refine g_lload C at_252 rfl ?_
          refine g_lcmp C at_254 ?_
          by_cases c319 : bl < v20_8
          · skip
            refine g_ifT 279 C at_255 (cl_lt_t c319) (by decide) (by decide) ?_
            refine g_iload C at_279 rfl ?_
            refine g_iconst (2 : Int32) C at_281 (by decide) ?_
            refine g_icmpF C at_282 (show (2 : Int32) < (3 : Int32) by decide) ?_
            refine g_lload C at_285 rfl ?_
            refine g_lload C at_287 rfl ?_
            refine g_lcmp C at_289 ?_
            by_cases c320 : bl < v22_9
            · skip
              refine g_ifT 317 C at_290 (cl_lt_t c320) (by decide) (by decide) ?_
              refine g_lload C at_317 rfl ?_
              refine g_lload C at_319 rfl ?_
              refine g_lcmp C at_321 ?_
              refine g_ifF C at_322 (cl_ne_f (by rw [hv29_303, hv31_318]; simp [ix3, c304, c317, c319, c320])) ?_
              refine g_iconst (1 : Int32) C at_325 (by decide) ?_
              refine g_goto 330 C at_326 (by decide) (by decide) ?_
              exact g_retN C at_330 (by simp) rfl (by decide) (by decide)
            · skip
              refine g_ifF C at_290 (cl_lt_f c320) ?_
              refine g_lload C at_293 rfl ?_
              refine g_lload C at_295 rfl ?_
              refine g_lload C at_297 rfl ?_
              refine g_ladd _ C at_299 rfl ?_
              refine g_lcmp C at_300 ?_
              by_cases c321 : bl < (v22_9 + v13_4)
              · skip
                refine g_ifF C at_301 (cl_ge_f c321) ?_
                refine g_lload C at_304 rfl ?_
                refine g_lload C at_306 rfl ?_
                refine g_ladd _ C at_308 rfl ?_
                refine g_lload C at_309 rfl ?_
                refine g_lload C at_311 rfl ?_
                refine g_lsub _ C at_313 rfl ?_
                refine g_ladd _ C at_314 rfl ?_
                obtain ⟨v31_322, hv31_322⟩ : ∃ z : Int64, z = ((v9_2 + v11_3) + (bl - v22_9)) := ⟨_, rfl⟩
                rw [← hv31_322]
                refine g_lstore #[.val (.long q0), .second, .val (.long q2), .second, .val (.long q4), .second, .val (.int p6), .val (.long v7_1), .second, .val (.long v9_2), .second, .val (.long v11_3), .second, .val (.long v13_4), .second, .val (.long v15_5), .second, .val (.long v17_6), .second, .val (.int (3 : Int32)), .val (.long v20_8), .second, .val (.long v22_9), .second, .val (.ref a217), .val (.ref a225), .val (.long bl), .second, .val (.ref a269), .val (.long v29_303), .second, .val (.long v31_322), .second] C at_315 rfl ?_
                refine g_lload C at_317 rfl ?_
                refine g_lload C at_319 rfl ?_
                refine g_lcmp C at_321 ?_
                refine g_ifF C at_322 (cl_ne_f (by rw [hv29_303, hv31_322]; simp [ix3, c304, c317, c319, c320, c321])) ?_
                refine g_iconst (1 : Int32) C at_325 (by decide) ?_
                refine g_goto 330 C at_326 (by decide) (by decide) ?_
                exact g_retN C at_330 (by simp) rfl (by decide) (by decide)
              · skip
                refine g_ifT 317 C at_301 (cl_ge_t c321) (by decide) (by decide) ?_
                refine g_lload C at_317 rfl ?_
                refine g_lload C at_319 rfl ?_
                refine g_lcmp C at_321 ?_
                refine g_ifF C at_322 (cl_ne_f (by rw [hv29_303, hv31_318]; simp [ix3, c304, c317, c319, c320, c321])) ?_
                refine g_iconst (1 : Int32) C at_325 (by decide) ?_
                refine g_goto 330 C at_326 (by decide) (by decide) ?_
                exact g_retN C at_330 (by simp) rfl (by decide) (by decide)
          · skip
            refine g_ifF C at_255 (cl_lt_f c319) ?_
            refine g_lload C at_258 rfl ?_
            refine g_lload C at_260 rfl ?_
            refine g_lload C at_262 rfl ?_
            refine g_ladd _ C at_264 rfl ?_
            refine g_lcmp C at_265 ?_
            by_cases c323 : bl < (v20_8 + v11_3)
            · skip
              refine g_ifF C at_266 (cl_ge_f c323) ?_
              refine g_lload C at_269 rfl ?_
              refine g_lload C at_271 rfl ?_
              refine g_lload C at_273 rfl ?_
              refine g_lsub _ C at_275 rfl ?_
              refine g_ladd _ C at_276 rfl ?_
              obtain ⟨v31_324, hv31_324⟩ : ∃ z : Int64, z = (v9_2 + (bl - v20_8)) := ⟨_, rfl⟩
              rw [← hv31_324]
              refine g_lstore #[.val (.long q0), .second, .val (.long q2), .second, .val (.long q4), .second, .val (.int p6), .val (.long v7_1), .second, .val (.long v9_2), .second, .val (.long v11_3), .second, .val (.long v13_4), .second, .val (.long v15_5), .second, .val (.long v17_6), .second, .val (.int (3 : Int32)), .val (.long v20_8), .second, .val (.long v22_9), .second, .val (.ref a217), .val (.ref a225), .val (.long bl), .second, .val (.ref a269), .val (.long v29_303), .second, .val (.long v31_324), .second] C at_277 rfl ?_
              refine g_iload C at_279 rfl ?_
              refine g_iconst (2 : Int32) C at_281 (by decide) ?_
              refine g_icmpF C at_282 (show (2 : Int32) < (3 : Int32) by decide) ?_
              refine g_lload C at_285 rfl ?_
              refine g_lload C at_287 rfl ?_
              refine g_lcmp C at_289 ?_
              by_cases c325 : bl < v22_9
              · skip
                refine g_ifT 317 C at_290 (cl_lt_t c325) (by decide) (by decide) ?_
                refine g_lload C at_317 rfl ?_
                refine g_lload C at_319 rfl ?_
                refine g_lcmp C at_321 ?_
                refine g_ifF C at_322 (cl_ne_f (by rw [hv29_303, hv31_324]; simp [ix3, c304, c317, c319, c323, c325])) ?_
                refine g_iconst (1 : Int32) C at_325 (by decide) ?_
                refine g_goto 330 C at_326 (by decide) (by decide) ?_
                exact g_retN C at_330 (by simp) rfl (by decide) (by decide)
              · skip
                refine g_ifF C at_290 (cl_lt_f c325) ?_
                refine g_lload C at_293 rfl ?_
                refine g_lload C at_295 rfl ?_
                refine g_lload C at_297 rfl ?_
                refine g_ladd _ C at_299 rfl ?_
                refine g_lcmp C at_300 ?_
                by_cases c326 : bl < (v22_9 + v13_4)
                · skip
                  refine g_ifF C at_301 (cl_ge_f c326) ?_
                  refine g_lload C at_304 rfl ?_
                  refine g_lload C at_306 rfl ?_
                  refine g_ladd _ C at_308 rfl ?_
                  refine g_lload C at_309 rfl ?_
                  refine g_lload C at_311 rfl ?_
                  refine g_lsub _ C at_313 rfl ?_
                  refine g_ladd _ C at_314 rfl ?_
                  obtain ⟨v31_327, hv31_327⟩ : ∃ z : Int64, z = ((v9_2 + v11_3) + (bl - v22_9)) := ⟨_, rfl⟩
                  rw [← hv31_327]
                  refine g_lstore #[.val (.long q0), .second, .val (.long q2), .second, .val (.long q4), .second, .val (.int p6), .val (.long v7_1), .second, .val (.long v9_2), .second, .val (.long v11_3), .second, .val (.long v13_4), .second, .val (.long v15_5), .second, .val (.long v17_6), .second, .val (.int (3 : Int32)), .val (.long v20_8), .second, .val (.long v22_9), .second, .val (.ref a217), .val (.ref a225), .val (.long bl), .second, .val (.ref a269), .val (.long v29_303), .second, .val (.long v31_327), .second] C at_315 rfl ?_
                  refine g_lload C at_317 rfl ?_
                  refine g_lload C at_319 rfl ?_
                  refine g_lcmp C at_321 ?_
                  refine g_ifF C at_322 (cl_ne_f (by rw [hv29_303, hv31_327]; simp [ix3, c304, c317, c319, c323, c325, c326])) ?_
                  refine g_iconst (1 : Int32) C at_325 (by decide) ?_
                  refine g_goto 330 C at_326 (by decide) (by decide) ?_
                  exact g_retN C at_330 (by simp) rfl (by decide) (by decide)
                · skip
                  refine g_ifT 317 C at_301 (cl_ge_t c326) (by decide) (by decide) ?_
                  refine g_lload C at_317 rfl ?_
                  refine g_lload C at_319 rfl ?_
                  refine g_lcmp C at_321 ?_
                  refine g_ifF C at_322 (cl_ne_f (by rw [hv29_303, hv31_324]; simp [ix3, c304, c317, c319, c323, c325, c326])) ?_
                  refine g_iconst (1 : Int32) C at_325 (by decide) ?_
                  refine g_goto 330 C at_326 (by decide) (by decide) ?_
                  exact g_retN C at_330 (by simp) rfl (by decide) (by decide)
            · skip
              refine g_ifT 279 C at_266 (cl_ge_t c323) (by decide) (by decide) ?_
              refine g_iload C at_279 rfl ?_
              refine g_iconst (2 : Int32) C at_281 (by decide) ?_
              refine g_icmpF C at_282 (show (2 : Int32) < (3 : Int32) by decide) ?_
              refine g_lload C at_285 rfl ?_
              refine g_lload C at_287 rfl ?_
              refine g_lcmp C at_289 ?_
              by_cases c328 : bl < v22_9
              · skip
                refine g_ifT 317 C at_290 (cl_lt_t c328) (by decide) (by decide) ?_
                refine g_lload C at_317 rfl ?_
                refine g_lload C at_319 rfl ?_
                refine g_lcmp C at_321 ?_
                refine g_ifF C at_322 (cl_ne_f (by rw [hv29_303, hv31_318]; simp [ix3, c304, c317, c319, c323, c328])) ?_
                refine g_iconst (1 : Int32) C at_325 (by decide) ?_
                refine g_goto 330 C at_326 (by decide) (by decide) ?_
                exact g_retN C at_330 (by simp) rfl (by decide) (by decide)
              · skip
                refine g_ifF C at_290 (cl_lt_f c328) ?_
                refine g_lload C at_293 rfl ?_
                refine g_lload C at_295 rfl ?_
                refine g_lload C at_297 rfl ?_
                refine g_ladd _ C at_299 rfl ?_
                refine g_lcmp C at_300 ?_
                by_cases c329 : bl < (v22_9 + v13_4)
                · skip
                  refine g_ifF C at_301 (cl_ge_f c329) ?_
                  refine g_lload C at_304 rfl ?_
                  refine g_lload C at_306 rfl ?_
                  refine g_ladd _ C at_308 rfl ?_
                  refine g_lload C at_309 rfl ?_
                  refine g_lload C at_311 rfl ?_
                  refine g_lsub _ C at_313 rfl ?_
                  refine g_ladd _ C at_314 rfl ?_
                  obtain ⟨v31_330, hv31_330⟩ : ∃ z : Int64, z = ((v9_2 + v11_3) + (bl - v22_9)) := ⟨_, rfl⟩
                  rw [← hv31_330]
                  refine g_lstore #[.val (.long q0), .second, .val (.long q2), .second, .val (.long q4), .second, .val (.int p6), .val (.long v7_1), .second, .val (.long v9_2), .second, .val (.long v11_3), .second, .val (.long v13_4), .second, .val (.long v15_5), .second, .val (.long v17_6), .second, .val (.int (3 : Int32)), .val (.long v20_8), .second, .val (.long v22_9), .second, .val (.ref a217), .val (.ref a225), .val (.long bl), .second, .val (.ref a269), .val (.long v29_303), .second, .val (.long v31_330), .second] C at_315 rfl ?_
                  refine g_lload C at_317 rfl ?_
                  refine g_lload C at_319 rfl ?_
                  refine g_lcmp C at_321 ?_
                  refine g_ifF C at_322 (cl_ne_f (by rw [hv29_303, hv31_330]; simp [ix3, c304, c317, c319, c323, c328, c329])) ?_
                  refine g_iconst (1 : Int32) C at_325 (by decide) ?_
                  refine g_goto 330 C at_326 (by decide) (by decide) ?_
                  exact g_retN C at_330 (by simp) rfl (by decide) (by decide)
                · skip
                  refine g_ifT 317 C at_301 (cl_ge_t c329) (by decide) (by decide) ?_
                  refine g_lload C at_317 rfl ?_
                  refine g_lload C at_319 rfl ?_
                  refine g_lcmp C at_321 ?_
                  refine g_ifF C at_322 (cl_ne_f (by rw [hv29_303, hv31_318]; simp [ix3, c304, c317, c319, c323, c328, c329])) ?_
                  refine g_iconst (1 : Int32) C at_325 (by decide) ?_
                  refine g_goto 330 C at_326 (by decide) (by decide) ?_
                  exact g_retN C at_330 (by simp) rfl (by decide) (by decide)
        · skip
          refine g_ifT 244 C at_234 (cl_ge_t c317) (by decide) (by decide) ?_
          refine g_iload C at_244 rfl ?_
          refine g_iconst (1 : Int32) C at_246 (by decide) ?_
          refine g_icmpF C at_247 (show (1 : Int32) < (3 : Int32) by decide) ?_
          refine g_lload C at_250 rfl ?_
          refine g_lload C at_252 rfl ?_
          refine g_lcmp C at_254 ?_
          by_cases c331 : bl < v20_8
          · skip
            refine g_ifT 279 C at_255 (cl_lt_t c331) (by decide) (by decide) ?_
            refine g_iload C at_279 rfl ?_
            refine g_iconst (2 : Int32) C at_281 (by decide) ?_
            refine g_icmpF C at_282 (show (2 : Int32) < (3 : Int32) by decide) ?_
            refine g_lload C at_285 rfl ?_
            refine g_lload C at_287 rfl ?_
            refine g_lcmp C at_289 ?_
            by_cases c332 : bl < v22_9
            · skip
              refine g_ifT 317 C at_290 (cl_lt_t c332) (by decide) (by decide) ?_
              refine g_lload C at_317 rfl ?_
              refine g_lload C at_319 rfl ?_
              refine g_lcmp C at_321 ?_
              refine g_ifF C at_322 (cl_ne_f (by rw [hv29_303]; simp [ix3, c304, c317, c331, c332])) ?_
              refine g_iconst (1 : Int32) C at_325 (by decide) ?_
              refine g_goto 330 C at_326 (by decide) (by decide) ?_
              exact g_retN C at_330 (by simp) rfl (by decide) (by decide)
            · skip
              refine g_ifF C at_290 (cl_lt_f c332) ?_
              refine g_lload C at_293 rfl ?_
              refine g_lload C at_295 rfl ?_
              refine g_lload C at_297 rfl ?_
              refine g_ladd _ C at_299 rfl ?_
              refine g_lcmp C at_300 ?_
              by_cases c333 : bl < (v22_9 + v13_4)
              · skip
                refine g_ifF C at_301 (cl_ge_f c333) ?_
                refine g_lload C at_304 rfl ?_
                refine g_lload C at_306 rfl ?_
                refine g_ladd _ C at_308 rfl ?_
                refine g_lload C at_309 rfl ?_
                refine g_lload C at_311 rfl ?_
                refine g_lsub _ C at_313 rfl ?_
                refine g_ladd _ C at_314 rfl ?_
                obtain ⟨v31_334, hv31_334⟩ : ∃ z : Int64, z = ((v9_2 + v11_3) + (bl - v22_9)) := ⟨_, rfl⟩
                rw [← hv31_334]
                refine g_lstore #[.val (.long q0), .second, .val (.long q2), .second, .val (.long q4), .second, .val (.int p6), .val (.long v7_1), .second, .val (.long v9_2), .second, .val (.long v11_3), .second, .val (.long v13_4), .second, .val (.long v15_5), .second, .val (.long v17_6), .second, .val (.int (3 : Int32)), .val (.long v20_8), .second, .val (.long v22_9), .second, .val (.ref a217), .val (.ref a225), .val (.long bl), .second, .val (.ref a269), .val (.long v29_303), .second, .val (.long v31_334), .second] C at_315 rfl ?_
                refine g_lload C at_317 rfl ?_
                refine g_lload C at_319 rfl ?_
                refine g_lcmp C at_321 ?_
                refine g_ifF C at_322 (cl_ne_f (by rw [hv29_303, hv31_334]; simp [ix3, c304, c317, c331, c332, c333])) ?_
                refine g_iconst (1 : Int32) C at_325 (by decide) ?_
                refine g_goto 330 C at_326 (by decide) (by decide) ?_
                exact g_retN C at_330 (by simp) rfl (by decide) (by decide)
              · skip
                refine g_ifT 317 C at_301 (cl_ge_t c333) (by decide) (by decide) ?_
                refine g_lload C at_317 rfl ?_
                refine g_lload C at_319 rfl ?_
                refine g_lcmp C at_321 ?_
                refine g_ifF C at_322 (cl_ne_f (by rw [hv29_303]; simp [ix3, c304, c317, c331, c332, c333])) ?_
                refine g_iconst (1 : Int32) C at_325 (by decide) ?_
                refine g_goto 330 C at_326 (by decide) (by decide) ?_
                exact g_retN C at_330 (by simp) rfl (by decide) (by decide)
          · skip
            refine g_ifF C at_255 (cl_lt_f c331) ?_
            refine g_lload C at_258 rfl ?_
            refine g_lload C at_260 rfl ?_
            refine g_lload C at_262 rfl ?_
            refine g_ladd _ C at_264 rfl ?_
            refine g_lcmp C at_265 ?_
            by_cases c335 : bl < (v20_8 + v11_3)
            · skip
              refine g_ifF C at_266 (cl_ge_f c335) ?_
              refine g_lload C at_269 rfl ?_
              refine g_lload C at_271 rfl ?_
              refine g_lload C at_273 rfl ?_
              refine g_lsub _ C at_275 rfl ?_
              refine g_ladd _ C at_276 rfl ?_
              obtain ⟨v31_336, hv31_336⟩ : ∃ z : Int64, z = (v9_2 + (bl - v20_8)) := ⟨_, rfl⟩
              rw [← hv31_336]
              refine g_lstore #[.val (.long q0), .second, .val (.long q2), .second, .val (.long q4), .second, .val (.int p6), .val (.long v7_1), .second, .val (.long v9_2), .second, .val (.long v11_3), .second, .val (.long v13_4), .second, .val (.long v15_5), .second, .val (.long v17_6), .second, .val (.int (3 : Int32)), .val (.long v20_8), .second, .val (.long v22_9), .second, .val (.ref a217), .val (.ref a225), .val (.long bl), .second, .val (.ref a269), .val (.long v29_303), .second, .val (.long v31_336), .second] C at_277 rfl ?_
              refine g_iload C at_279 rfl ?_
              refine g_iconst (2 : Int32) C at_281 (by decide) ?_
              refine g_icmpF C at_282 (show (2 : Int32) < (3 : Int32) by decide) ?_
              refine g_lload C at_285 rfl ?_
              refine g_lload C at_287 rfl ?_
              refine g_lcmp C at_289 ?_
              by_cases c337 : bl < v22_9
              · skip
                refine g_ifT 317 C at_290 (cl_lt_t c337) (by decide) (by decide) ?_
                refine g_lload C at_317 rfl ?_
                refine g_lload C at_319 rfl ?_
                refine g_lcmp C at_321 ?_
                refine g_ifF C at_322 (cl_ne_f (by rw [hv29_303, hv31_336]; simp [ix3, c304, c317, c331, c335, c337])) ?_
                refine g_iconst (1 : Int32) C at_325 (by decide) ?_
                refine g_goto 330 C at_326 (by decide) (by decide) ?_
                exact g_retN C at_330 (by simp) rfl (by decide) (by decide)
              · skip
                refine g_ifF C at_290 (cl_lt_f c337) ?_
                refine g_lload C at_293 rfl ?_
                refine g_lload C at_295 rfl ?_
                refine g_lload C at_297 rfl ?_
                refine g_ladd _ C at_299 rfl ?_
                refine g_lcmp C at_300 ?_
                by_cases c338 : bl < (v22_9 + v13_4)
                · skip
                  refine g_ifF C at_301 (cl_ge_f c338) ?_
                  refine g_lload C at_304 rfl ?_
                  refine g_lload C at_306 rfl ?_
                  refine g_ladd _ C at_308 rfl ?_
                  refine g_lload C at_309 rfl ?_
                  refine g_lload C at_311 rfl ?_
                  refine g_lsub _ C at_313 rfl ?_
                  refine g_ladd _ C at_314 rfl ?_
                  obtain ⟨v31_339, hv31_339⟩ : ∃ z : Int64, z = ((v9_2 + v11_3) + (bl - v22_9)) := ⟨_, rfl⟩
                  rw [← hv31_339]
                  refine g_lstore #[.val (.long q0), .second, .val (.long q2), .second, .val (.long q4), .second, .val (.int p6), .val (.long v7_1), .second, .val (.long v9_2), .second, .val (.long v11_3), .second, .val (.long v13_4), .second, .val (.long v15_5), .second, .val (.long v17_6), .second, .val (.int (3 : Int32)), .val (.long v20_8), .second, .val (.long v22_9), .second, .val (.ref a217), .val (.ref a225), .val (.long bl), .second, .val (.ref a269), .val (.long v29_303), .second, .val (.long v31_339), .second] C at_315 rfl ?_
                  refine g_lload C at_317 rfl ?_
                  refine g_lload C at_319 rfl ?_
                  refine g_lcmp C at_321 ?_
                  refine g_ifF C at_322 (cl_ne_f (by rw [hv29_303, hv31_339]; simp [ix3, c304, c317, c331, c335, c337, c338])) ?_
                  refine g_iconst (1 : Int32) C at_325 (by decide) ?_
                  refine g_goto 330 C at_326 (by decide) (by decide) ?_
                  exact g_retN C at_330 (by simp) rfl (by decide) (by decide)
                · skip
                  refine g_ifT 317 C at_301 (cl_ge_t c338) (by decide) (by decide) ?_
                  refine g_lload C at_317 rfl ?_
                  refine g_lload C at_319 rfl ?_
                  refine g_lcmp C at_321 ?_
                  refine g_ifF C at_322 (cl_ne_f (by rw [hv29_303, hv31_336]; simp [ix3, c304, c317, c331, c335, c337, c338])) ?_
                  refine g_iconst (1 : Int32) C at_325 (by decide) ?_
                  refine g_goto 330 C at_326 (by decide) (by decide) ?_
                  exact g_retN C at_330 (by simp) rfl (by decide) (by decide)
            · skip
              refine g_ifT 279 C at_266 (cl_ge_t c335) (by decide) (by decide) ?_
              refine g_iload C at_279 rfl ?_
              refine g_iconst (2 : Int32) C at_281 (by decide) ?_
              refine g_icmpF C at_282 (show (2 : Int32) < (3 : Int32) by decide) ?_
              refine g_lload C at_285 rfl ?_
              refine g_lload C at_287 rfl ?_
              refine g_lcmp C at_289 ?_
              by_cases c340 : bl < v22_9
              · skip
                refine g_ifT 317 C at_290 (cl_lt_t c340) (by decide) (by decide) ?_
                refine g_lload C at_317 rfl ?_
                refine g_lload C at_319 rfl ?_
                refine g_lcmp C at_321 ?_
                refine g_ifF C at_322 (cl_ne_f (by rw [hv29_303]; simp [ix3, c304, c317, c331, c335, c340])) ?_
                refine g_iconst (1 : Int32) C at_325 (by decide) ?_
                refine g_goto 330 C at_326 (by decide) (by decide) ?_
                exact g_retN C at_330 (by simp) rfl (by decide) (by decide)
              · skip
                refine g_ifF C at_290 (cl_lt_f c340) ?_
                refine g_lload C at_293 rfl ?_
                refine g_lload C at_295 rfl ?_
                refine g_lload C at_297 rfl ?_
                refine g_ladd _ C at_299 rfl ?_
                refine g_lcmp C at_300 ?_
                by_cases c341 : bl < (v22_9 + v13_4)
                · skip
                  refine g_ifF C at_301 (cl_ge_f c341) ?_
                  refine g_lload C at_304 rfl ?_
                  refine g_lload C at_306 rfl ?_
                  refine g_ladd _ C at_308 rfl ?_
                  refine g_lload C at_309 rfl ?_
                  refine g_lload C at_311 rfl ?_
                  refine g_lsub _ C at_313 rfl ?_
                  refine g_ladd _ C at_314 rfl ?_
                  obtain ⟨v31_342, hv31_342⟩ : ∃ z : Int64, z = ((v9_2 + v11_3) + (bl - v22_9)) := ⟨_, rfl⟩
                  rw [← hv31_342]
                  refine g_lstore #[.val (.long q0), .second, .val (.long q2), .second, .val (.long q4), .second, .val (.int p6), .val (.long v7_1), .second, .val (.long v9_2), .second, .val (.long v11_3), .second, .val (.long v13_4), .second, .val (.long v15_5), .second, .val (.long v17_6), .second, .val (.int (3 : Int32)), .val (.long v20_8), .second, .val (.long v22_9), .second, .val (.ref a217), .val (.ref a225), .val (.long bl), .second, .val (.ref a269), .val (.long v29_303), .second, .val (.long v31_342), .second] C at_315 rfl ?_
                  refine g_lload C at_317 rfl ?_
                  refine g_lload C at_319 rfl ?_
                  refine g_lcmp C at_321 ?_
                  refine g_ifF C at_322 (cl_ne_f (by rw [hv29_303, hv31_342]; simp [ix3, c304, c317, c331, c335, c340, c341])) ?_
                  refine g_iconst (1 : Int32) C at_325 (by decide) ?_
                  refine g_goto 330 C at_326 (by decide) (by decide) ?_
                  exact g_retN C at_330 (by simp) rfl (by decide) (by decide)
                · skip
                  refine g_ifT 317 C at_301 (cl_ge_t c341) (by decide) (by decide) ?_
                  refine g_lload C at_317 rfl ?_
                  refine g_lload C at_319 rfl ?_
                  refine g_lcmp C at_321 ?_
                  refine g_ifF C at_322 (cl_ne_f (by rw [hv29_303]; simp [ix3, c304, c317, c331, c335, c340, c341])) ?_
                  refine g_iconst (1 : Int32) C at_325 (by decide) ?_
                  refine g_goto 330 C at_326 (by decide) (by decide) ?_
                  exact g_retN C at_330 (by simp) rfl (by decide) (by decide)
    · skip
      refine g_iload C at_159 rfl ?_
      refine g_iconst (1 : Int32) C at_161 (by decide) ?_
      refine g_iand _ C at_162 rfl ?_
      by_cases c343 : (p6 &&& (1 : Int32)) = (0 : Int32)
      · skip
        refine g_ifF C at_163 (show (p6 &&& (1 : Int32)) = (0 : Int32) from c343) ?_
        refine g_lload C at_166 rfl ?_
        refine g_goto 184 C at_168 (by decide) (by decide) ?_
        exact J _
      · skip
        refine g_ifT 171 C at_163 (show ¬ (p6 &&& (1 : Int32)) = (0 : Int32) from c343) (by decide) (by decide) ?_
        refine g_lload C at_171 rfl ?_
        refine g_ldc2w (3 : Int64) C at_173 (hw _ (List.mem_of_getElem? (i := 2) rfl)) ?_
        refine g_lsub _ C at_176 rfl ?_
        refine g_lload C at_177 rfl ?_
        refine g_ldc2w (127 : Int64) C at_179 (hw _ (List.mem_of_getElem? (i := 40) rfl)) ?_
        refine g_land _ C at_182 rfl ?_
        refine g_ladd _ C at_183 rfl ?_
        exact J _
set_option maxRecDepth 65536 in
set_option maxHeartbeats 40000000 in
theorem comes_1 {Post : Tables → Env → Array Value → State → Outcome → State → Prop} (hpost : ∀ tb e args s v u, (limb_1_1.after args s (.returned v) u = true ∧ limb_1_2.after args s (.returned v) u = true ∧ True) → FrameEnd s (.returned v) u (Jvm.fieldLocs frame_1_writes args s ++ Jvm.arrayLocs frame_1_arrays args s ++ Jvm.staticLocs frame_1_statics s) 16 128 → Post tb e args s (.returned v) u) :
    ArmFor flags0 classFile x code maxLocals ret World_1 tables_1 room_1 Calls_1 rest_1 Pre_1 Post := by
  intro l hfl _ _ p e ha hc hk s m args below hf hA hF happ hP
  obtain ⟨hcalls, hrest, hpre⟩ := hP
  obtain ⟨-, -, -, hnamed, -, -, -, hat⟩ := (Spec.applies_iff hf).mp happ
  obtain ⟨hg, hn⟩ := and_e (Cond.before_iff.mp (show (Jvm.Cond.and given_1 narrow_1).before args s = true from hpre))
  obtain ⟨h1, h2⟩ := and_e hg
  obtain ⟨g0, h2⟩ := and_e h2
  obtain ⟨g1, h2⟩ := and_e h2
  obtain ⟨g2, g3⟩ := and_e h2
  obtain ⟨w0, w1, w2, w3, rfl⟩ : ∃ w0 w1 w2 w3 : Value, args = #[w0, w1, w2, w3] := by
    have hs : args.size = 4 := by simpa [Cond.value, given_1] using h1
    obtain ⟨L⟩ := args
    match L, hs with
    | [w0, w1, w2, w3], _ => exact ⟨w0, w1, w2, w3, rfl⟩
  have hw := fun d (hd : d ∈ tables_1) => atoms_spec (ws := Jvm.Cond.code x code maxLocals ret :: tables_1) hat d (List.mem_cons_of_mem _ hd)
  obtain ⟨i0, e0⟩ := isL_v g0
  obtain rfl : w0 = (.long i0) := Option.some.inj e0
  obtain ⟨i1, e1⟩ := isL_v g1
  obtain rfl : w1 = (.long i1) := Option.some.inj e1
  obtain ⟨i2, e2⟩ := isL_v g2
  obtain rfl : w2 = (.long i2) := Option.some.inj e2
  obtain ⟨i3, e3⟩ := is_v g3
  obtain rfl : w3 = (.int i3) := Option.some.inj e3
  obtain ⟨n, o, h1, h2, h3, _, L, rfl, rfl, -, hfin, -, -, N⟩ := m_law l s _ hw i0 i1 i2 i3 s.heap p e ha hc hk s m _ below hf ((Spec.applies_iff_loose hf).mp happ).1 ⟨rfl, State.Warmed39.refl s, rfl, chv0, all0, ⟨Nat.le_refl _, fun _ _ q => q⟩⟩ trivial
  have hq := hfin.1 rfl
  refine ⟨n, _, h1, h2, h3, hpost _ _ _ _ _ _ ⟨Cond.after_iff.mpr rfl, Cond.after_iff.mpr (eq_i res_at (Term.int_eval (1)) rfl), trivial⟩ ⟨hq.1, hq.2.1, (hq.2.2.sift fun y hy => Or.inr (N y hy)).mono (by decide) (by decide)⟩⟩
theorem main_1_1 : Claimed_1_1 := comes_1 fun _ _ _ _ _ _ h hF => ⟨h.1, hF⟩
theorem main_1_2 : Claimed_1_2 := comes_1 fun _ _ _ _ _ _ h hF => ⟨h.2.1, hF⟩
end Jvm.Pilot.@@N@@
namespace Jvm.Pilot.@@N@@
open Jvm Jvm.ClassFile Sem Op Lib Jvm.Free Jvm.Stand Jvm.Pilot.@@N@@.Jvm.D
/-! MADE BY PROGRAM (witnessworld.py) out of the Statement's table words and the real class files: 12 classes; the members and pool entries that the words name. The judged class is class 1, her method 1. -/
namespace start1
open Jvm.ClassFile
def u (s : String) : CpInfo := .utf8 (stringToUtf16 s)
/-- a pool by its gaps: so many unusable entries, then the entry; so many at the end -/
def gap : Nat → List CpInfo → List CpInfo
  | 0, r => r
  | n + 1, r => .unusable :: gap n r
def poolList (es : List (Nat × CpInfo)) (last : Nat) : List CpInfo := es.foldr (fun e r => gap e.1 (e.2 :: r)) (gap last [])
def pool (es : List (Nat × CpInfo)) (last : Nat) : Array CpInfo := ⟨poolList es last⟩
def fileOf (pool : Array CpInfo) (this : Nat) (attrs : Array Attribute := #[]) (ms : Array MethodInfo := #[]) (fl : Nat := 33) (sup : Nat := 0) (ifs : Array Nat := #[]) (fds : Array FieldInfo := #[]) : ClassFile where
  minorVersion := 0
  majorVersion := 65
  constantPool := pool
  accessFlags := fl
  thisClass := this
  superClass := sup
  interfaces := ifs
  fields := fds
  methods := ms
  attributes := attrs
def plain (name : String) (sup : Option ClassId) : Class where
  name := name
  kind := .ordinary
  loader := none
  accessFlags := 33
  super := sup
  interfaces := #[]
  cf := none
  fields := #[]
  methods := #[]
  instanceTypes := #[]
  staticTypes := #[]
  resolved := #[]
  callSites := []
  init := .initialized
  statics := none
  mirror := none

def pool0 : Array CpInfo := pool [(5, u "<init>"), (0, u "()V"), (1, .class_ 10), (1, u "java/lang/Object")] 113

def k0c0 : Code := { maxStack := 0, maxLocals := 1, code := object_method_1_code, exceptionTable := #[], attributes := #[] }
def k0m0 : Method := { name := "<init>", desc := "()V", sig := { parameters := [], returnType := none }, accessFlags := 1, code := some k0c0 }
/-- java/lang/Object -/
def k0 : Class := { plain "java/lang/Object" none with
  accessFlags := 33
  interfaces := #[]
  cf := some (fileOf pool0 8 #[] #[{ accessFlags := 1, nameIndex := 5, descriptorIndex := 6, attributes := #[] }] 33 0 #[] #[])
  fields := #[]
  methods := #[k0m0]
  instanceTypes := #[]
  staticTypes := #[]
  resolved := Array.replicate 124 none
  statics := none }

def pool1 : Array CpInfo := pool [(2, .class_ 4), (1, u "java/lang/Object"), (0, u "<init>"), (0, u "()V"), (0, .long 4611686018427387903), (1, .long 15), (1, .long 3), (1, .long 127), (1, .class_ 16), (0, u "com/example/keelstone/keelstone/store/Runs"), (0, .methodref 15 18), (0, .nameAndType 5 19), (0, u "([J[J)V"), (0, .methodref 15 21), (0, .nameAndType 22 23), (0, u "indexOf"), (0, u "(J)J"), (0, .long 18446744073709551615), (1, .class_ 27), (0, u "com/example/keelstone/keelstone/store/RunsIndexOfPinLaw"), (2, u "law"), (0, u "(JJJI)Z")] 5

def k1m0 : Method := { name := "<init>", desc := "()V", sig := { parameters := [], returnType := none }, accessFlags := 1, code := none }
def k1c1 : Code := { maxStack := 6, maxLocals := 33, code := code, exceptionTable := #[], attributes := #[] }
def k1m1 : Method := { name := "law", desc := "(JJJI)Z", sig := { parameters := [.long, .long, .long, .int], returnType := some .boolean }, accessFlags := 9, code := some k1c1 }
/-- com/example/keelstone/keelstone/store/RunsIndexOfPinLaw -/
def k1 : Class := { plain "com/example/keelstone/keelstone/store/RunsIndexOfPinLaw" (some 0) with
  accessFlags := 49
  interfaces := #[]
  cf := some (fileOf pool1 26 #[] #[{ accessFlags := 1, nameIndex := 5, descriptorIndex := 6, attributes := #[] }, { accessFlags := 9, nameIndex := 30, descriptorIndex := 31, attributes := #[] }] 49 2 #[] #[])
  fields := #[]
  methods := #[k1m0, k1m1]
  instanceTypes := #[]
  staticTypes := #[]
  resolved := Array.replicate 37 none
  statics := none }

def pool2 : Array CpInfo := pool [(1, .methodref 2 3), (0, .class_ 4), (0, .nameAndType 5 6), (0, u "java/lang/Object"), (0, u "<init>"), (0, u "()V"), (12, .fieldref 20 21), (0, .class_ 22), (0, .nameAndType 23 24), (0, u "com/example/keelstone/keelstone/store/Runs"), (0, u "firsts"), (0, u "[J"), (0, .fieldref 20 26), (0, .nameAndType 27 24), (0, u "counts"), (0, .fieldref 20 29), (0, .nameAndType 30 24), (0, u "starts"), (0, .fieldref 20 32), (0, .nameAndType 33 34), (0, u "blocks"), (0, u "J"), (0, .methodref 20 36), (0, .nameAndType 37 38), (0, u "runFrom"), (0, u "(J)I"), (0, .long 18446744073709551615), (1, .methodref 42 43), (0, .class_ 44), (0, .nameAndType 45 46), (0, u "java/util/Arrays"), (0, u "binarySearch"), (0, u "([JJ)I"), (0, u "([J[J)V"), (11, u "indexOf"), (0, u "(J)J")] 19

def k2c0 : Code := { maxStack := 7, maxLocals := 8, code := prog_45_method_1_code, exceptionTable := #[], attributes := #[] }
def k2m0 : Method := { name := "<init>", desc := "([J[J)V", sig := { parameters := [(.array .long), (.array .long)], returnType := none }, accessFlags := 0, code := some k2c0 }
def k2c1 : Code := { maxStack := 4, maxLocals := 6, code := prog_45_method_7_code, exceptionTable := #[], attributes := #[] }
def k2m1 : Method := { name := "indexOf", desc := "(J)J", sig := { parameters := [.long], returnType := some .long }, accessFlags := 0, code := some k2c1 }
def k2c2 : Code := { maxStack := 6, maxLocals := 5, code := prog_45_method_8_code, exceptionTable := #[], attributes := #[] }
def k2m2 : Method := { name := "runFrom", desc := "(J)I", sig := { parameters := [.long], returnType := some .int }, accessFlags := 0, code := some k2c2 }
/-- com/example/keelstone/keelstone/store/Runs -/
def k2 : Class := { plain "com/example/keelstone/keelstone/store/Runs" (some 0) with
  accessFlags := 48
  interfaces := #[]
  cf := some (fileOf pool2 20 #[] #[{ accessFlags := 0, nameIndex := 5, descriptorIndex := 47, attributes := #[] }, { accessFlags := 0, nameIndex := 59, descriptorIndex := 60, attributes := #[] }, { accessFlags := 0, nameIndex := 37, descriptorIndex := 38, attributes := #[] }] 48 2 #[] #[{ accessFlags := 18, nameIndex := 23, descriptorIndex := 24, attributes := #[] }, { accessFlags := 18, nameIndex := 27, descriptorIndex := 24, attributes := #[] }, { accessFlags := 18, nameIndex := 30, descriptorIndex := 24, attributes := #[] }, { accessFlags := 18, nameIndex := 33, descriptorIndex := 34, attributes := #[] }])
  fields := #[{ name := "firsts", type := (.array .long), accessFlags := 18, slot := 0, constantValue := 0 }, { name := "counts", type := (.array .long), accessFlags := 18, slot := 1, constantValue := 0 }, { name := "starts", type := (.array .long), accessFlags := 18, slot := 2, constantValue := 0 }, { name := "blocks", type := .long, accessFlags := 18, slot := 3, constantValue := 0 }]
  methods := #[k2m0, k2m1, k2m2]
  instanceTypes := #[(.array .long), (.array .long), (.array .long), .long]
  staticTypes := #[]
  resolved := Array.replicate 80 none
  statics := none }

def pool3 : Array CpInfo := pool [(2, .class_ 4), (1, u "java/lang/Object"), (0, u "<init>"), (0, u "()V"), (7, .class_ 16), (1, u "java/util/Arrays"), (57, .class_ 76), (1, u "java/util/Arrays$NaturalOrder"), (36, .class_ 115), (1, u "java/util/Arrays$LegacyMergeSort"), (1, u "Z"), (87, .methodref 14 206), (0, .nameAndType 207 208), (0, u "binarySearch0"), (0, u "([JIIJ)I"), (166, .class_ 376), (0, u "java/util/Arrays$ArrayList"), (68, u "$assertionsDisabled"), (269, u "MIN_ARRAY_SORT_GRAN"), (0, u "I"), (2, u "INSERTIONSORT_THRESHOLD"), (74, u "binarySearch"), (0, u "([JJ)I"), (179, .class_ 976), (0, u "java/util/Arrays$ArrayItr")] 52

def k3m0 : Method := { name := "<init>", desc := "()V", sig := { parameters := [], returnType := none }, accessFlags := 2, code := none }
def k3c1 : Code := { maxStack := 5, maxLocals := 3, code := jdk_65_method_54_code, exceptionTable := #[], attributes := #[] }
def k3m1 : Method := { name := "binarySearch", desc := "([JJ)I", sig := { parameters := [(.array .long), .long], returnType := some .int }, accessFlags := 9, code := some k3c1 }
def k3c2 : Code := { maxStack := 4, maxLocals := 10, code := jdk_65_method_56_code, exceptionTable := #[], attributes := #[] }
def k3m2 : Method := { name := "binarySearch0", desc := "([JIIJ)I", sig := { parameters := [(.array .long), .int, .int, .long], returnType := some .int }, accessFlags := 10, code := some k3c2 }
/-- java/util/Arrays -/
def k3 : Class := { plain "java/util/Arrays" (some 0) with
  accessFlags := 49
  interfaces := #[]
  cf := some (fileOf pool3 14 #[.nestMembers #[975, 375, 113, 74]] #[{ accessFlags := 2, nameIndex := 5, descriptorIndex := 6, attributes := #[] }, { accessFlags := 9, nameIndex := 794, descriptorIndex := 795, attributes := #[] }, { accessFlags := 10, nameIndex := 207, descriptorIndex := 208, attributes := #[] }] 49 2 #[] #[{ accessFlags := 26, nameIndex := 715, descriptorIndex := 716, attributes := #[] }, { accessFlags := 26, nameIndex := 719, descriptorIndex := 716, attributes := #[] }, { accessFlags := 4120, nameIndex := 445, descriptorIndex := 117, attributes := #[] }])
  fields := #[{ name := "MIN_ARRAY_SORT_GRAN", type := .int, accessFlags := 26, slot := 0, constantValue := 0 }, { name := "INSERTIONSORT_THRESHOLD", type := .int, accessFlags := 26, slot := 1, constantValue := 0 }, { name := "$assertionsDisabled", type := .boolean, accessFlags := 4120, slot := 2, constantValue := 0 }]
  methods := #[k3m0, k3m1, k3m2]
  instanceTypes := #[]
  staticTypes := #[.int, .int, .boolean]
  resolved := Array.replicate 1029 none
  statics := none }

def pool4 : Array CpInfo := pool [(1, u "java/lang/Cloneable"), (0, .class_ 1), (0, u "java/lang/Object"), (0, .class_ 3)] 3

/-- java/lang/Cloneable -/
def k4 : Class := { plain "java/lang/Cloneable" (some 0) with
  accessFlags := 1537
  interfaces := #[]
  cf := some (fileOf pool4 2 #[] #[] 1537 4 #[] #[])
  fields := #[]
  methods := #[]
  instanceTypes := #[]
  staticTypes := #[]
  resolved := Array.replicate 8 none
  statics := none }

def pool5 : Array CpInfo := pool [(1, u "java/io/Serializable"), (0, .class_ 1), (0, u "java/lang/Object"), (0, .class_ 3)] 3

/-- java/io/Serializable -/
def k5 : Class := { plain "java/io/Serializable" (some 0) with
  accessFlags := 1537
  interfaces := #[]
  cf := some (fileOf pool5 2 #[] #[] 1537 4 #[] #[])
  fields := #[]
  methods := #[]
  instanceTypes := #[]
  staticTypes := #[]
  resolved := Array.replicate 8 none
  statics := none }

/-- the primitive byte -/
def k6 : Class := { plain "byte" none with kind := .primitive 'B', accessFlags := 0x411 }
/-- [B -/
def k7 : Class := { plain "[B" (some 0) with kind := .array 6 .byte, interfaces := #[4, 5], accessFlags := 1041 }

/-- the primitive int -/
def k8 : Class := { plain "int" none with kind := .primitive 'I', accessFlags := 0x411 }
/-- [I -/
def k9 : Class := { plain "[I" (some 0) with kind := .array 8 .int, interfaces := #[4, 5], accessFlags := 1041 }

/-- the primitive long -/
def k10 : Class := { plain "long" none with kind := .primitive 'J', accessFlags := 0x411 }
/-- [J -/
def k11 : Class := { plain "[J" (some 0) with kind := .array 10 .long, interfaces := #[4, 5], accessFlags := 1041 }

def heap : Heap := #[]
def classes : Array Class := #[k0, k1, k2, k3, k4, k5, k6, k7, k8, k9, k10, k11]
def interned : List (Array UInt16 × Addr) := []
def slotsUsed : Nat := 0
def theMethod : MethodId := ⟨1, 1⟩
def args0 : Array Value := #[.long 5, .long 6, .long 7, .int 8]
def aboutOver (below : List Frame) : State where
  vm := { classes := classes, interned := interned.toArray }
  heap := heap
  slotsUsed := slotsUsed
  threads := #[{ frames := .invoking theMethod args0 :: below }]
def below0 : List Frame := [.native { method := ⟨0, 0⟩, args := #[] }]
def about1 : State := aboutOver below0
def p0 : Program := .bare "" "" ""
def e0 : Env := launch0.env 0 0 0
theorem w_frames : about1.frames = Frame.invoking theMethod args0 :: below0 := rfl
set_option maxRecDepth 65536 in
theorem w_args : argsFit about1.vm theMethod args0 = true := by decide +kernel
set_option maxRecDepth 65536 in
theorem w_heap : heapFits about1 = true := by decide +kernel
set_option maxRecDepth 65536 in
theorem w_runnable : about1.curStatus? = some .runnable := by decide +kernel
set_option maxRecDepth 65536 in
theorem w_alone : about1.alone = true := by decide +kernel
set_option maxRecDepth 65536 in
theorem w_named : about1.methodNamed? x = some theMethod := by decide +kernel
set_option maxRecDepth 65536 in
theorem w_hears : about1.hears theMethod below0 = true := by decide +kernel
set_option maxRecDepth 65536 in
theorem w_ripe : about1.ripe theMethod args0 below0 = true := by decide +kernel
theorem w_running : about1.status = .running := rfl
set_option maxRecDepth 65536 in
theorem w_room : about1.hasRoom e0.platform room_1 = true :=
  launch0.hasRoom_least _ room_1 (by decide +kernel) (by decide +kernel) (by decide +kernel) (by decide +kernel) (by decide +kernel) (by decide +kernel)
theorem allAtoms_all (ts : List Jvm.Cond) (a : Array Jvm.Value) (st : Jvm.State) : (allAtoms ts).before a st = ts.all (fun c => c.before a st) := by
  induction ts with
  | nil => rfl
  | cons c t ih =>
    show (Jvm.Cond.and c (allAtoms t)).before a st = _
    rw [Jvm.Cond.before_and, ih, List.all_cons]
def words1 : List Jvm.Cond := Jvm.Cond.code x code maxLocals ret :: tables_1
/-- a 'code' word, met by the world's own term for the bytes: nothing is compared byte by byte -/
theorem code_word {y : MethodName} {bytes : ByteArray} {mx : Nat} {rt : Option FieldType} {a : Array Value} {s : State} {m : MethodId} {meth : Method} {c : Code} (h1 : s.methodNamed? y = some m) (h2 : s.vm.method? m = some meth) (h3 : meth.code = some c) (h4 : c.code = bytes)
    (h5 : (c.maxLocals == mx && c.exceptionTable.isEmpty && decide (c.maxStack ≤ mostOperands) && decide (meth.sig.returnType = rt) && !meth.locks && decide (parseMethodDescriptor y.desc = some meth.sig)) = true) : (Jvm.Cond.code y bytes mx rt).before a s = true := by
  simp only [Bool.and_eq_true, beq_iff_eq, Bool.not_eq_true', decide_eq_true_eq] at h5
  obtain ⟨⟨⟨⟨⟨g1, g2⟩, g3⟩, g4⟩, g5⟩, g6⟩ := h5
  simp [Cond.before, Cond.holds, Cond.value, h1, h2, h3, h4, g1, g2, g3, g4, g5, g6]
def isCode : Jvm.Cond → Bool
  | .code _ _ _ _ => true
  | _ => false
theorem all_split {L : List Jvm.Cond} {P : Jvm.Cond → Bool} (h1 : L.all (fun c => isCode c || P c) = true) (h2 : ∀ c ∈ L.filter isCode, P c = true) : L.all P = true := by
  refine List.all_eq_true.mpr fun c hc => ?_
  have h := List.all_eq_true.mp h1 c hc
  rcases Bool.eq_false_or_eq_true (isCode c) with hi | hi
  · exact h2 c (List.mem_filter.mpr ⟨hc, hi⟩)
  · simpa [hi] using h
set_option maxRecDepth 65536 in
theorem w_c0 : (Jvm.Cond.code x code maxLocals ret).before args0 about1 = true := code_word (m := ⟨1, 1⟩) (meth := k1m1) (c := k1c1) (by decide +kernel) rfl rfl rfl (by decide +kernel)
set_option maxRecDepth 65536 in
theorem w_c1 : (Jvm.Cond.code ({ cls := "com/example/keelstone/keelstone/store/Runs", name := "<init>", desc := "([J[J)V" } : Jvm.MethodName) prog_45_method_1_code (8 : Nat) (Option.none : Option Jvm.ClassFile.FieldType)).before args0 about1 = true := code_word (m := ⟨2, 0⟩) (meth := k2m0) (c := k2c0) (by decide +kernel) rfl rfl rfl (by decide +kernel)
set_option maxRecDepth 65536 in
theorem w_c2 : (Jvm.Cond.code ({ cls := "java/lang/Object", name := "<init>", desc := "()V" } : Jvm.MethodName) object_method_1_code (1 : Nat) (Option.none : Option Jvm.ClassFile.FieldType)).before args0 about1 = true := code_word (m := ⟨0, 0⟩) (meth := k0m0) (c := k0c0) (by decide +kernel) rfl rfl rfl (by decide +kernel)
set_option maxRecDepth 65536 in
theorem w_c3 : (Jvm.Cond.code ({ cls := "com/example/keelstone/keelstone/store/Runs", name := "indexOf", desc := "(J)J" } : Jvm.MethodName) prog_45_method_7_code (6 : Nat) (Option.some Jvm.ClassFile.FieldType.long)).before args0 about1 = true := code_word (m := ⟨2, 1⟩) (meth := k2m1) (c := k2c1) (by decide +kernel) rfl rfl rfl (by decide +kernel)
set_option maxRecDepth 65536 in
theorem w_c4 : (Jvm.Cond.code ({ cls := "com/example/keelstone/keelstone/store/Runs", name := "runFrom", desc := "(J)I" } : Jvm.MethodName) prog_45_method_8_code (5 : Nat) (Option.some Jvm.ClassFile.FieldType.int)).before args0 about1 = true := code_word (m := ⟨2, 2⟩) (meth := k2m2) (c := k2c2) (by decide +kernel) rfl rfl rfl (by decide +kernel)
set_option maxRecDepth 65536 in
theorem w_c5 : (Jvm.Cond.code ({ cls := "java/util/Arrays", name := "binarySearch", desc := "([JJ)I" } : Jvm.MethodName) jdk_65_method_54_code (3 : Nat) (Option.some Jvm.ClassFile.FieldType.int)).before args0 about1 = true := code_word (m := ⟨3, 1⟩) (meth := k3m1) (c := k3c1) (by decide +kernel) rfl rfl rfl (by decide +kernel)
set_option maxRecDepth 65536 in
theorem w_c6 : (Jvm.Cond.code ({ cls := "java/util/Arrays", name := "binarySearch0", desc := "([JIIJ)I" } : Jvm.MethodName) jdk_65_method_56_code (10 : Nat) (Option.some Jvm.ClassFile.FieldType.int)).before args0 about1 = true := code_word (m := ⟨3, 2⟩) (meth := k3m2) (c := k3c2) (by decide +kernel) rfl rfl rfl (by decide +kernel)
def codes1 : List Jvm.Cond := [Jvm.Cond.code x code maxLocals ret, Jvm.Cond.code ({ cls := "com/example/keelstone/keelstone/store/Runs", name := "<init>", desc := "([J[J)V" } : Jvm.MethodName) prog_45_method_1_code (8 : Nat) (Option.none : Option Jvm.ClassFile.FieldType), Jvm.Cond.code ({ cls := "java/lang/Object", name := "<init>", desc := "()V" } : Jvm.MethodName) object_method_1_code (1 : Nat) (Option.none : Option Jvm.ClassFile.FieldType), Jvm.Cond.code ({ cls := "com/example/keelstone/keelstone/store/Runs", name := "indexOf", desc := "(J)J" } : Jvm.MethodName) prog_45_method_7_code (6 : Nat) (Option.some Jvm.ClassFile.FieldType.long), Jvm.Cond.code ({ cls := "com/example/keelstone/keelstone/store/Runs", name := "runFrom", desc := "(J)I" } : Jvm.MethodName) prog_45_method_8_code (5 : Nat) (Option.some Jvm.ClassFile.FieldType.int), Jvm.Cond.code ({ cls := "java/util/Arrays", name := "binarySearch", desc := "([JJ)I" } : Jvm.MethodName) jdk_65_method_54_code (3 : Nat) (Option.some Jvm.ClassFile.FieldType.int), Jvm.Cond.code ({ cls := "java/util/Arrays", name := "binarySearch0", desc := "([JIIJ)I" } : Jvm.MethodName) jdk_65_method_56_code (10 : Nat) (Option.some Jvm.ClassFile.FieldType.int)]
set_option maxRecDepth 65536 in
theorem codes_eq : words1.filter isCode = codes1 := rfl
theorem w_codes : ∀ c ∈ words1.filter isCode, c.before args0 about1 = true := by
  rw [codes_eq]
  intro c hc
  simp only [codes1, List.mem_cons, List.not_mem_nil, or_false] at hc
  rcases hc with rfl | rfl | rfl | rfl | rfl | rfl | rfl
  · exact w_c0
  · exact w_c1
  · exact w_c2
  · exact w_c3
  · exact w_c4
  · exact w_c5
  · exact w_c6
set_option maxRecDepth 65536 in
theorem w_t1 : (words1.take 24).all (fun c => isCode c || c.before args0 about1) = true := by decide +kernel
set_option maxRecDepth 65536 in
theorem w_t2 : (words1.drop 24).all (fun c => isCode c || c.before args0 about1) = true := by decide +kernel
theorem w_tables : (allAtoms (Jvm.Cond.code x code maxLocals ret :: tables_1)).before args0 about1 = true := by
  rw [allAtoms_all]
  show words1.all (fun c => c.before args0 about1) = true
  refine all_split ?_ w_codes
  rw [← List.take_append_drop 24 words1, List.all_append, w_t1, w_t2]
  rfl
set_option maxRecDepth 65536 in
theorem w_case : (Jvm.Cond.and given_1 narrow_1).before args0 about1 = true := by decide +kernel
theorem w_applies : (headSpec (Jvm.Cond.code x code maxLocals ret :: tables_1) room_1).applies x e0.platform about1 = true :=
  (Spec.applies_iff w_frames).mpr ⟨w_running, w_runnable, w_alone, w_named, w_hears, w_ripe, w_room, w_tables⟩
theorem atStart : AtStart classFile x code maxLocals ret World_1 tables_1 room_1 Calls_1 rest_1 Pre_1 launch0 p0 e0 about1 theMethod args0 below0 :=
  ⟨lists_1, trivial, launch0.admits_env _ _ _, launch0.least_env, fairChoices_fair.cas, fairChoices_fair.clock, w_frames, w_args, w_heap, w_applies, trivial, trivial, w_case⟩
end start1
theorem witness_1 : WitnessClaimed_1 := ⟨start1.p0, start1.e0, start1.about1, start1.theMethod, start1.args0, start1.below0, start1.atStart⟩
end Jvm.Pilot.@@N@@
