import JvmDerived
import JvmDerived.Pilot.@@N@@Statement
import JvmDerived.Pilot.@@N@@Code
set_option linter.unusedVariables false
set_option linter.unusedSimpArgs false
@@BLOCK:NumsL.lean.txt@@
namespace Jvm.Pilot.@@N@@
open Jvm Jvm.ClassFile Sem Op Lib Jvm.Free Jvm.Stand Jvm.LawKit Jvm.RoadKit Bundle Jvm.Pilot.@@N@@.Jvm.D
set_option maxRecDepth 65536
set_option maxHeartbeats 40000000
theorem tw {Z : State} {a0 : Array Value} (hw : ∀ d ∈ tables_1, d.before a0 Z = true) (i : Nat) {d : Cond} (h : tables_1[i]? = some d) : d.before a0 Z = true := hw _ (List.mem_of_getElem? h)
theorem ble {a b : Nat} (h : Nat.ble a b = true) : a ≤ b := Nat.le_of_ble_eq_true h
section OwnKit
variable {p : Program} {l : Launch} {e : Env} {R : Room} {s : State} {m : MethodId} {args : Array Value} {below : List Frame} {meth : Method} {c : Code} {n0 C N : Nat} {Q : Option Value → Heap → Prop} {h : Heap} {ce sl pc q : Nat} {Ls : Array Slot} {st : List Value} {Z : State} {a0 : Array Value} {EL : List (String × Nat)} {hh0 : Heap} {SF : List Addr}
theorem wZ {vm0 : Vm} {k0 : Nat} (hZ : Z.Warmed39 s.vm) (hS : s.Since vm0 k0) : Z.Warmed39 (s.setVm vm0).vm := State.Warmed39.trans (t := s) hZ hS.1
theorem wO {vm0 : Vm} {k0 : Nat} {own : String} (hown : s.vm.findClass own = some m.cls) (hS : s.Since vm0 k0) : (s.setVm vm0).vm.findClass own = some m.cls := by
  show vm0.findClass own = _
  rw [hS.1.alike.findClass]; exact hown
theorem safe_new {vm : Vm} {h' : Heap} {a : Addr} (H : CHv Z EL vm h) (E : Ext h h') (ha : h.size ≤ a) : Safe Z EL vm h' a := fun B => Safe.new ha ((H.step fun _ _ _ q => E.2 _ _ q).2 _ B)
/-- the walk that stands at pc, with these locals, this stack and this heap, comes to its end as Q says (wide: it may load String constants; EL: the entries whose texts are held; SF: the cells that are no constant's) -/
def Go (p : Program) (l : Launch) (e : Env) (R : Room) (s : State) (m : MethodId) (args : Array Value) (below : List Frame) (meth : Method) (c : Code) (n0 C N : Nat) (Q : Option Value → Heap → Prop) (Z : State) (a0 : Array Value) (EL : List (String × Nat)) (hh0 : Heap) (SF : List Addr) (h : Heap) (ce sl pc : Nat) (Ls : Array Slot) (st : List Value) : Prop :=
  ∀ (T : State) (vm0 : Vm) (locs : List Loc) (k0 : Nat), Z.Warmed39 s.vm → EW Z a0 EL → Stand p l e R (s.setVm vm0) m args below meth c T locs ce sl → s.Since vm0 k0 → k0 ≤ h.size → CHr Z EL s.vm hh0 vm0 h → (∀ x ∈ SF, x < h.size ∧ Safe Z EL vm0 h x) → Fr n0 locs → T.heap = h →
    ∃ (s₂ : State) (v : Option Value) (L : List Loc), Steps p.tables e below (T.setTop (mkF m pc Ls st)) s₂ ∧ s₂.status = .running ∧ Ended s₂ below (.returned v) ∧ (Q v s₂.heap ∧ Fr n0 L) ∧ CHr Z EL s.vm hh0 s₂.vm s₂.heap ∧ ReturnedEndW s (.returned v) s₂ L C N
/-- a method's contract, at given arguments and a given heap -/
abbrev Met (l : Launch) (Z : State) (EL : List (String × Nat)) (SF : List Addr) (y : MethodName) (bytes : ByteArray) (maxL : Nat) (rt : Option FieldType) (ws : List Cond) (rm : Room) (as : Array Value) (h0 : Heap) (n0 : Nat) (Q : Option Value → Heap → Prop) : Prop :=
  MetFree l y (head1 (Cond.code y bytes maxL rt :: ws) rm) (fun a U => a = as ∧ Z.Warmed39 U.vm ∧ U.heap = h0 ∧ CHv Z EL U.vm h0 ∧ ∀ x ∈ SF, x < h0.size ∧ Safe Z EL U.vm h0 x) (fun _ _ _ _ _ => True) (fun _ U o U' => ∃ v L, o = .returned v ∧ (Q v U'.heap ∧ Fr n0 L) ∧ CHr Z EL U.vm U.heap U'.vm U'.heap ∧ ReturnedEndW U o U' L rm.cells rm.slots)
theorem Met.of {y : MethodName} {bytes : ByteArray} {maxL : Nat} {rt : Option FieldType} {ws : List Cond} {rm : Room} {as : Array Value} {h0 : Heap} {Ls0 : Array Slot} (hpl : plainFor y = true) (hent : argsToLocals as maxL = Ls0) (hel : EW Z a0 EL)
    (body : ∀ (p : Program) (e : Env) (s : State) (m : MethodId) (below : List Frame) (meth : Method) (c : Code), p.tables.exec = Jvm.exec → c.code = bytes → c.maxLocals = maxL → meth.sig.returnType = rt → meth.locks = false → s.vm.findClass y.cls = some m.cls → meth.name = y.name → Z.Warmed39 s.vm →
      Go p l e rm s m as below meth c n0 rm.cells rm.slots Q Z a0 EL h0 SF h0 0 0 0 Ls0 []) : Met l Z EL SF y bytes maxL rt ws rm as h0 n0 Q := by
  refine MetFree.of_bodySF hpl hisR ?_
  intro p e s m args below meth c s₁ Bd hml0 hP hK
  obtain ⟨rfl, hZ, hh, hCH, hSF⟩ := hP
  have e0 : s₁.heap = h0 := by rw [← hh, Bd.state]; rfl
  obtain ⟨s₂, v, L, S, r1, r2, hq, hc, fe⟩ := body p e s m below meth c Bd.exec Bd.bytes hml0 Bd.returns Bd.notSynchronized (findClass_of_methodNamed Bd.named) (name_of_methodNamed Bd.named Bd.method).1 hZ s₁ s.vm [] h0.size hZ hel (Stand.of_body Bd) ((State.WarmedH.refl s).since _) (Nat.le_refl _) (CHr.refl hCH) hSF (Fr.nil _) e0
  have ef : entryFrame m args maxL = mkF m 0 Ls0 [] := by simp only [entryFrame, mkF, hent]
  exact ⟨s₂, _, castTop ef S, r1, r2, v, L, rfl, hq, by rw [hh]; exact hc, fe⟩
theorem backOfSF {vm0 : Vm} {y : MethodName} {bytes : ByteArray} {maxL : Nat} {ret : Option FieldType} {rm : Room} {len W : Nat} {SFc : List Addr} {as' : Array Value} {Q : Option Value → Heap → List Loc → Prop}
    (hM : MetFree l y (head1 [Cond.code y bytes maxL ret] rm) (fun a U => a = as' ∧ Z.Warmed39 U.vm ∧ U.heap = h ∧ CHv Z EL U.vm h ∧ ∀ x ∈ SFc, x < h.size ∧ Safe Z EL U.vm h x) (fun _ _ _ _ _ => True) (fun _ U o U' => ∃ v L, o = .returned v ∧ Q v U'.heap L ∧ CHr Z EL U.vm U.heap U'.vm U'.heap ∧ ReturnedEndW U o U' L rm.cells rm.slots))
    (hZ : Z.Warmed39 vm0) (wc : (Cond.code y bytes maxL ret).before a0 Z = true) (wz : (Cond.initialized y.cls).before a0 Z = true) (hf : rm.frames + 1 ≤ R.frames) (hl : W + (maxL + 11) + rm.locals ≤ R.locals) (hEL : EW Z a0 EL) (hSF : ∀ x ∈ SFc, x < h.size ∧ Safe Z EL vm0 h x) (H : CHv Z EL vm0 h) :
    BackS l R p e below (s.setVm vm0) args y len W (fun A a => a = as' ∧ A.U.heap = h ∧ A.cells + rm.cells ≤ R.cells ∧ A.slots + rm.slots ≤ R.slots)
      (fun A _ v B => ∃ L, Q v B.U.heap L ∧ B.locs = A.locs ++ L ∧ B.cells = A.cells + rm.cells ∧ B.slots = A.slots + rm.slots ∧ CHr Z EL vm0 h B.U.vm B.U.heap) :=
  BackS.of_freeW (bytes := bytes) (maxL := maxL) (ret := ret) (E := fun _ first o t L k n => k = rm.cells ∧ n = rm.slots ∧ (∃ v, o = .returned v ∧ Q v t.heap L) ∧ CHr Z EL first.vm first.heap t.vm t.heap) hM hf hl
    (fun m meth c A a Y hp => have hU : Z.Warmed39 A.U.vm := wtrans (s := s.setVm vm0) hZ Y.warmed
      ⟨by show (Cond.and _ .tt).before a A.U = true; rw [Cond.before_and, mv hU wc]; rfl, mv hU wc, mv hU wz, hp.2.2.1, hp.2.2.2⟩)
    (fun m meth c A a g mk Y hp => ⟨hp.1, wtrans (s := s.setVm vm0) hZ Y.warmed, hp.2.1, (CHv.at Y hZ hEL H).1, fun x hx => ⟨(hSF x hx).1, (CHv.at Y hZ hEL H).safe (hSF x hx).1 (hSF x hx).2⟩⟩) (fun _ _ _ _ _ _ _ _ _ => trivial)
    (fun _ _ _ _ ⟨v, L, h1, h2, h3, h4⟩ => ⟨L, _, _, h4, rfl, rfl, ⟨v, h1, h2⟩, h3⟩)
    (fun m meth c A a g mk v t L k n Y hp _ _ ⟨e1, e2, ⟨v', e3, e4⟩, e5⟩ => by
      cases e3; subst e1 e2
      refine ⟨L, e4, rfl, rfl, rfl, (CHv.at Y hZ hEL H).trans ?_⟩
      rw [← hp.2.1]; exact e5)
theorem Go.mono {ce' sl' : Nat} (hc : ce ≤ ce') (hs : sl ≤ sl') (G : Go p l e R s m args below meth c n0 C N Q Z a0 EL hh0 SF h ce' sl' pc Ls st) : Go p l e R s m args below meth c n0 C N Q Z a0 EL hh0 SF h ce sl pc Ls st :=
  fun T vm0 locs k0 hz hel X => G T vm0 locs k0 hz hel (X.more hc hs)
theorem Go.step {q' : Nat} {Ls' : Array Slot} {st' : List Value} (H : ∀ (T : State) (vm0 : Vm) (k0 : Nat) (locs : List Loc) (target : State), Stand p l e R (s.setVm vm0) m args below meth c T locs ce sl → s.Since vm0 k0 → T.heap = h → Steps p.tables e below (T.setTop (mkF m q' Ls' st')) target → Steps p.tables e below (T.setTop (mkF m pc Ls st)) target)
    (G : Go p l e R s m args below meth c n0 C N Q Z a0 EL hh0 SF h ce sl q' Ls' st') : Go p l e R s m args below meth c n0 C N Q Z a0 EL hh0 SF h ce sl pc Ls st := fun T vm0 locs k0 hz hel X hS hk hC hF Nf eT => by
  obtain ⟨s₂, v, L, S, r⟩ := G T vm0 locs k0 hz hel X hS hk hC hF Nf eT
  exact ⟨s₂, v, L, H T vm0 k0 locs s₂ X hS eT S, r⟩
theorem Go.law {ce' sl' q' : Nat} {Ls' : Array Slot} {st' : List Value} (H : ∀ (T : State) (vm0 : Vm) (k0 : Nat) (locs : List Loc), Stand p l e R (s.setVm vm0) m args below meth c T locs ce sl → s.Since vm0 k0 → T.heap = h → ∃ T', Stand p l e R (s.setVm vm0) m args below meth c T' locs ce' sl' ∧ T'.heap = h ∧ ∀ target, Steps p.tables e below (T'.setTop (mkF m q' Ls' st')) target → Steps p.tables e below (T.setTop (mkF m pc Ls st)) target)
    (G : Go p l e R s m args below meth c n0 C N Q Z a0 EL hh0 SF h ce' sl' q' Ls' st') : Go p l e R s m args below meth c n0 C N Q Z a0 EL hh0 SF h ce sl pc Ls st := fun T vm0 locs k0 hz hel X hS hk hC hF Nf eT => by
  obtain ⟨T', X', eT', hs⟩ := H T vm0 k0 locs X hS eT
  obtain ⟨s₂, v, L, S, r⟩ := G T' vm0 locs k0 hz hel X' hS hk hC hF Nf eT'
  exact ⟨s₂, v, L, hs _ S, r⟩
/-- over an Ext that makes a -/
theorem sf_ext {vm0 : Vm} {h' : Heap} {a : Addr} (hC : CHv Z EL vm0 h) (E : Ext h h') (hF : ∀ x ∈ SF, x < h.size ∧ Safe Z EL vm0 h x) (ha : a = h.size) (hlt : a < h'.size) : ∀ x ∈ a :: SF, x < h'.size ∧ Safe Z EL vm0 h' x := fun x hx => by
  rcases List.mem_cons.mp hx with rfl | hx
  · exact ⟨hlt, safe_new hC E (Nat.le_of_eq ha.symm)⟩
  · exact ⟨Nat.lt_of_lt_of_le (hF x hx).1 E.1, (CHr.ext E hC).safe (hF x hx).1 (hF x hx).2⟩
theorem sf_wr {vm0 : Vm} {h' : Heap} {a : Addr} {k : Nat} {v : Value} (hC : CHv Z EL vm0 h) (W : Wr h h' a k v) (ha : a ∈ SF) (hF : ∀ x ∈ SF, x < h.size ∧ Safe Z EL vm0 h x) : ∀ x ∈ SF, x < h'.size ∧ Safe Z EL vm0 h' x := fun x hx =>
  ⟨by rw [W.size]; exact (hF x hx).1, (CHr.wr W (hF a ha).2 hC).safe (hF x hx).1 (hF x hx).2⟩
theorem Go.iloadN (hx : p.tables.exec = Jvm.exec) {k : Fin 4} {v : Int32} (hd : decode c.code pc = .ok (.iload_n k, 1)) (hl : Ls[k.val]? = some (.val (.int v))) (hq : q = pc + 1) (G : Go p l e R s m args below meth c n0 C N Q Z a0 EL hh0 SF h ce sl q Ls (.int v :: st)) : Go p l e R s m args below meth c n0 C N Q Z a0 EL hh0 SF h ce sl pc Ls (st) := by
  subst hq
  exact Go.step (fun T vm0 k0 locs target X hS _ S => XS.iloadN X.here hx rfl hd hl S) G
theorem Go.iload (hx : p.tables.exec = Jvm.exec) {k : Nat} {v : Int32} (hd : decode c.code pc = .ok (.iload k, 2)) (hl : Ls[k]? = some (.val (.int v))) (hq : q = pc + 2) (G : Go p l e R s m args below meth c n0 C N Q Z a0 EL hh0 SF h ce sl q Ls (.int v :: st)) : Go p l e R s m args below meth c n0 C N Q Z a0 EL hh0 SF h ce sl pc Ls (st) := by
  subst hq
  exact Go.step (fun T vm0 k0 locs target X hS _ S => XS.iload X.here hx rfl hd hl S) G
theorem Go.aloadN (hx : p.tables.exec = Jvm.exec) {k : Fin 4} {v : Value} (hd : decode c.code pc = .ok (.aload_n k, 1)) (hl : Ls[k.val]? = some (.val v)) (hv : v.isRef = true) (hq : q = pc + 1) (G : Go p l e R s m args below meth c n0 C N Q Z a0 EL hh0 SF h ce sl q Ls (v :: st)) : Go p l e R s m args below meth c n0 C N Q Z a0 EL hh0 SF h ce sl pc Ls (st) := by
  subst hq
  exact Go.step (fun T vm0 k0 locs target X hS _ S => XS.aloadN X.here hx rfl hd hl hv S) G
theorem Go.aload (hx : p.tables.exec = Jvm.exec) {k : Nat} {v : Value} (hd : decode c.code pc = .ok (.aload k, 2)) (hl : Ls[k]? = some (.val v)) (hv : v.isRef = true) (hq : q = pc + 2) (G : Go p l e R s m args below meth c n0 C N Q Z a0 EL hh0 SF h ce sl q Ls (v :: st)) : Go p l e R s m args below meth c n0 C N Q Z a0 EL hh0 SF h ce sl pc Ls (st) := by
  subst hq
  exact Go.step (fun T vm0 k0 locs target X hS _ S => XS.aload X.here hx rfl hd hl hv S) G
theorem Go.lloadN (hx : p.tables.exec = Jvm.exec) {k : Fin 4} {v : Int64} (hd : decode c.code pc = .ok (.lload_n k, 1)) (hl : Ls[k.val]? = some (.val (.long v))) (hq : q = pc + 1) (G : Go p l e R s m args below meth c n0 C N Q Z a0 EL hh0 SF h ce sl q Ls (.long v :: st)) : Go p l e R s m args below meth c n0 C N Q Z a0 EL hh0 SF h ce sl pc Ls (st) := by
  subst hq
  exact Go.step (fun T vm0 k0 locs target X hS _ S => XT.lloadN X.here hx rfl hd hl S) G
theorem Go.lload (hx : p.tables.exec = Jvm.exec) {k : Nat} {v : Int64} (hd : decode c.code pc = .ok (.lload k, 2)) (hl : Ls[k]? = some (.val (.long v))) (hq : q = pc + 2) (G : Go p l e R s m args below meth c n0 C N Q Z a0 EL hh0 SF h ce sl q Ls (.long v :: st)) : Go p l e R s m args below meth c n0 C N Q Z a0 EL hh0 SF h ce sl pc Ls (st) := by
  subst hq
  exact Go.step (fun T vm0 k0 locs target X hS _ S => XT.lload X.here hx rfl hd hl S) G
theorem Go.istoreN (hx : p.tables.exec = Jvm.exec) {k : Fin 4} {x : Int32} {l' : Array Slot} (hd : decode c.code pc = .ok (.istore_n k, 1)) (hl : storeLocals Ls k.val (.int x) = some l') (hq : q = pc + 1) (G : Go p l e R s m args below meth c n0 C N Q Z a0 EL hh0 SF h ce sl q l' (st)) : Go p l e R s m args below meth c n0 C N Q Z a0 EL hh0 SF h ce sl pc Ls (.int x :: st) := by
  subst hq
  exact Go.step (fun T vm0 k0 locs target X hS _ S => XS.istoreN X.here hx rfl hd rfl hl S) G
theorem Go.istore (hx : p.tables.exec = Jvm.exec) {k : Nat} {x : Int32} {l' : Array Slot} (hd : decode c.code pc = .ok (.istore k, 2)) (hl : storeLocals Ls k (.int x) = some l') (hq : q = pc + 2) (G : Go p l e R s m args below meth c n0 C N Q Z a0 EL hh0 SF h ce sl q l' (st)) : Go p l e R s m args below meth c n0 C N Q Z a0 EL hh0 SF h ce sl pc Ls (.int x :: st) := by
  subst hq
  exact Go.step (fun T vm0 k0 locs target X hS _ S => XS.istore X.here hx rfl hd rfl hl S) G
theorem Go.lstoreN (hx : p.tables.exec = Jvm.exec) {k : Fin 4} {x : Int64} {l' : Array Slot} (hd : decode c.code pc = .ok (.lstore_n k, 1)) (hl : storeLocals Ls k.val (.long x) = some l') (hq : q = pc + 1) (G : Go p l e R s m args below meth c n0 C N Q Z a0 EL hh0 SF h ce sl q l' (st)) : Go p l e R s m args below meth c n0 C N Q Z a0 EL hh0 SF h ce sl pc Ls (.long x :: st) := by
  subst hq
  exact Go.step (fun T vm0 k0 locs target X hS _ S => XT.lstoreN X.here hx rfl hd rfl hl S) G
theorem Go.lstore (hx : p.tables.exec = Jvm.exec) {k : Nat} {x : Int64} {l' : Array Slot} (hd : decode c.code pc = .ok (.lstore k, 2)) (hl : storeLocals Ls k (.long x) = some l') (hq : q = pc + 2) (G : Go p l e R s m args below meth c n0 C N Q Z a0 EL hh0 SF h ce sl q l' (st)) : Go p l e R s m args below meth c n0 C N Q Z a0 EL hh0 SF h ce sl pc Ls (.long x :: st) := by
  subst hq
  exact Go.step (fun T vm0 k0 locs target X hS _ S => XT.lstore X.here hx rfl hd rfl hl S) G
theorem Go.astoreN (hx : p.tables.exec = Jvm.exec) {k : Fin 4} {x : Value} {l' : Array Slot} (hd : decode c.code pc = .ok (.astore_n k, 1)) (hv : x.isRef = true) (hl : storeLocals Ls k.val x = some l') (hq : q = pc + 1) (G : Go p l e R s m args below meth c n0 C N Q Z a0 EL hh0 SF h ce sl q l' (st)) : Go p l e R s m args below meth c n0 C N Q Z a0 EL hh0 SF h ce sl pc Ls (x :: st) := by
  subst hq
  exact Go.step (fun T vm0 k0 locs target X hS _ S => XS.astoreN X.here hx rfl hd rfl hv hl S) G
theorem Go.astore (hx : p.tables.exec = Jvm.exec) {k : Nat} {x : Value} {l' : Array Slot} (hd : decode c.code pc = .ok (.astore k, 2)) (hv : x.isRef = true) (hl : storeLocals Ls k x = some l') (hq : q = pc + 2) (G : Go p l e R s m args below meth c n0 C N Q Z a0 EL hh0 SF h ce sl q l' (st)) : Go p l e R s m args below meth c n0 C N Q Z a0 EL hh0 SF h ce sl pc Ls (x :: st) := by
  subst hq
  exact Go.step (fun T vm0 k0 locs target X hS _ S => XS.astore X.here hx rfl hd rfl hv hl S) G
theorem Go.iinc (hx : p.tables.exec = Jvm.exec) {k : Nat} {cst : Int} {x : Int32} {l' : Array Slot} (hd : decode c.code pc = .ok (.iinc k cst, 3)) (hl : Ls[k]? = some (.val (.int x))) (hl' : storeLocals Ls k (.int (x + Int32.ofInt cst)) = some l') (hq : q = pc + 3) (G : Go p l e R s m args below meth c n0 C N Q Z a0 EL hh0 SF h ce sl q l' (st)) : Go p l e R s m args below meth c n0 C N Q Z a0 EL hh0 SF h ce sl pc Ls (st) := by
  subst hq
  exact Go.step (fun T vm0 k0 locs target X hS _ S => XS.iinc X.here hx rfl hd hl hl' S) G
theorem Go.iconst (hx : p.tables.exec = Jvm.exec) {i : Int} {z : Int32} (hd : decode c.code pc = .ok (.iconst i, 1)) (hz : Int32.ofInt i = z) (hq : q = pc + 1) (G : Go p l e R s m args below meth c n0 C N Q Z a0 EL hh0 SF h ce sl q Ls (.int z :: st)) : Go p l e R s m args below meth c n0 C N Q Z a0 EL hh0 SF h ce sl pc Ls (st) := by
  subst hq
  exact Go.step (fun T vm0 k0 locs target X hS _ S => XS.iconst X.here hx rfl hd (by rw [hz]; exact S)) G
theorem Go.bipush (hx : p.tables.exec = Jvm.exec) {i : Int} {z : Int32} (hd : decode c.code pc = .ok (.bipush i, 2)) (hz : (Int8.ofInt i).toInt32 = z) (hq : q = pc + 2) (G : Go p l e R s m args below meth c n0 C N Q Z a0 EL hh0 SF h ce sl q Ls (.int z :: st)) : Go p l e R s m args below meth c n0 C N Q Z a0 EL hh0 SF h ce sl pc Ls (st) := by
  subst hq
  exact Go.step (fun T vm0 k0 locs target X hS _ S => XS.bipush X.here hx rfl hd (by rw [hz]; exact S)) G
theorem Go.sipush (hx : p.tables.exec = Jvm.exec) {i : Int} {z : Int32} (hd : decode c.code pc = .ok (.sipush i, 3)) (hz : (Int16.ofInt i).toInt32 = z) (hq : q = pc + 3) (G : Go p l e R s m args below meth c n0 C N Q Z a0 EL hh0 SF h ce sl q Ls (.int z :: st)) : Go p l e R s m args below meth c n0 C N Q Z a0 EL hh0 SF h ce sl pc Ls (st) := by
  subst hq
  exact Go.step (fun T vm0 k0 locs target X hS _ S => XS.sipush X.here hx rfl hd (by rw [hz]; exact S)) G
theorem Go.aconstNull (hx : p.tables.exec = Jvm.exec)  (hd : decode c.code pc = .ok (.aconst_null, 1))  (hq : q = pc + 1) (G : Go p l e R s m args below meth c n0 C N Q Z a0 EL hh0 SF h ce sl q Ls (.null :: st)) : Go p l e R s m args below meth c n0 C N Q Z a0 EL hh0 SF h ce sl pc Ls (st) := by
  subst hq
  exact Go.step (fun T vm0 k0 locs target X hS _ S => XS.aconstNull X.here hx rfl hd S) G
theorem Go.lconst (hx : p.tables.exec = Jvm.exec) {k : Fin 2} {z : Int64} (hd : decode c.code pc = .ok (.lconst k, 1)) (hz : Int64.ofNat k = z) (hq : q = pc + 1) (G : Go p l e R s m args below meth c n0 C N Q Z a0 EL hh0 SF h ce sl q Ls (.long z :: st)) : Go p l e R s m args below meth c n0 C N Q Z a0 EL hh0 SF h ce sl pc Ls (st) := by
  subst hq
  exact Go.step (fun T vm0 k0 locs target X hS _ S => XT.lconst X.here hx rfl hd (by rw [hz]; exact S)) G
theorem Go.ldcInt (hx : p.tables.exec = Jvm.exec) (hZ : Z.Warmed39 s.vm) {own : String} {index : Nat} {v : Int32} (hown : s.vm.findClass own = some m.cls) (hw : (Cond.constant own index v).before a0 Z = true) (hd : decode c.code pc = .ok (.ldc index, 2)) (hq : q = pc + 2) (G : Go p l e R s m args below meth c n0 C N Q Z a0 EL hh0 SF h ce sl q Ls (.int v :: st)) : Go p l e R s m args below meth c n0 C N Q Z a0 EL hh0 SF h ce sl pc Ls st := by
  subst hq
  exact Go.step (fun T vm0 k0 locs target X hS _ S => X.ldcInt hx (wO hown hS) (mvT (wZ hZ hS) hw) (g := mkF m pc Ls st) rfl hd target S) G
theorem Go.ldc2Long (hx : p.tables.exec = Jvm.exec) (hZ : Z.Warmed39 s.vm) {own : String} {index : Nat} {v : Int64} (hown : s.vm.findClass own = some m.cls) (hw : (Cond.constantLong own index v).before a0 Z = true) (hd : decode c.code pc = .ok (.ldc2_w index, 3)) (hq : q = pc + 3) (G : Go p l e R s m args below meth c n0 C N Q Z a0 EL hh0 SF h ce sl q Ls (.long v :: st)) : Go p l e R s m args below meth c n0 C N Q Z a0 EL hh0 SF h ce sl pc Ls st := by
  subst hq
  exact Go.step (fun T vm0 k0 locs target X hS _ S => X.ldc2Long hx (wO hown hS) (mvT (wZ hZ hS) hw) (g := mkF m pc Ls st) rfl hd target S) G
theorem Go.iadd (hx : p.tables.exec = Jvm.exec) {x y : Int32} (hd : decode c.code pc = .ok (.iadd, 1))  (hq : q = pc + 1) (G : Go p l e R s m args below meth c n0 C N Q Z a0 EL hh0 SF h ce sl q Ls (.int (x + y) :: st)) : Go p l e R s m args below meth c n0 C N Q Z a0 EL hh0 SF h ce sl pc Ls (.int y :: .int x :: st) := by
  subst hq
  exact Go.step (fun T vm0 k0 locs target X hS _ S => XS.iadd X.here hx rfl hd rfl S) G
theorem Go.isub (hx : p.tables.exec = Jvm.exec) {x y : Int32} (hd : decode c.code pc = .ok (.isub, 1))  (hq : q = pc + 1) (G : Go p l e R s m args below meth c n0 C N Q Z a0 EL hh0 SF h ce sl q Ls (.int (x - y) :: st)) : Go p l e R s m args below meth c n0 C N Q Z a0 EL hh0 SF h ce sl pc Ls (.int y :: .int x :: st) := by
  subst hq
  exact Go.step (fun T vm0 k0 locs target X hS _ S => XS.isub X.here hx rfl hd rfl S) G
theorem Go.iand (hx : p.tables.exec = Jvm.exec) {x y : Int32} (hd : decode c.code pc = .ok (.iand, 1))  (hq : q = pc + 1) (G : Go p l e R s m args below meth c n0 C N Q Z a0 EL hh0 SF h ce sl q Ls (.int (x &&& y) :: st)) : Go p l e R s m args below meth c n0 C N Q Z a0 EL hh0 SF h ce sl pc Ls (.int y :: .int x :: st) := by
  subst hq
  exact Go.step (fun T vm0 k0 locs target X hS _ S => XS.iand X.here hx rfl hd rfl S) G
theorem Go.imul (hx : p.tables.exec = Jvm.exec) {x y : Int32} (hd : decode c.code pc = .ok (.imul, 1))  (hq : q = pc + 1) (G : Go p l e R s m args below meth c n0 C N Q Z a0 EL hh0 SF h ce sl q Ls (.int (x * y) :: st)) : Go p l e R s m args below meth c n0 C N Q Z a0 EL hh0 SF h ce sl pc Ls (.int y :: .int x :: st) := by
  subst hq
  exact Go.step (fun T vm0 k0 locs target X hS _ S => XS.imul X.here hx rfl hd rfl S) G
theorem Go.idiv (hx : p.tables.exec = Jvm.exec) {x y : Int32} (hd : decode c.code pc = .ok (.idiv, 1)) (hy : y ≠ 0) (hq : q = pc + 1) (G : Go p l e R s m args below meth c n0 C N Q Z a0 EL hh0 SF h ce sl q Ls (.int (x / y) :: st)) : Go p l e R s m args below meth c n0 C N Q Z a0 EL hh0 SF h ce sl pc Ls (.int y :: .int x :: st) := by
  subst hq
  exact Go.step (fun T vm0 k0 locs target X hS _ S => XS.idiv X.here hx rfl hd rfl hy S) G
theorem Go.irem (hx : p.tables.exec = Jvm.exec) {x y : Int32} (hd : decode c.code pc = .ok (.irem, 1)) (hy : y ≠ 0) (hq : q = pc + 1) (G : Go p l e R s m args below meth c n0 C N Q Z a0 EL hh0 SF h ce sl q Ls (.int (x % y) :: st)) : Go p l e R s m args below meth c n0 C N Q Z a0 EL hh0 SF h ce sl pc Ls (.int y :: .int x :: st) := by
  subst hq
  exact Go.step (fun T vm0 k0 locs target X hS _ S => iremM X hx rfl hd rfl hy S) G
theorem Go.ineg (hx : p.tables.exec = Jvm.exec) {x : Int32} (hd : decode c.code pc = .ok (.ineg, 1))  (hq : q = pc + 1) (G : Go p l e R s m args below meth c n0 C N Q Z a0 EL hh0 SF h ce sl q Ls (.int (-x) :: st)) : Go p l e R s m args below meth c n0 C N Q Z a0 EL hh0 SF h ce sl pc Ls (.int x :: st) := by
  subst hq
  exact Go.step (fun T vm0 k0 locs target X hS _ S => XS.ineg X.here hx rfl hd rfl S) G
theorem Go.ixor (hx : p.tables.exec = Jvm.exec) {x y : Int32} (hd : decode c.code pc = .ok (.ixor, 1))  (hq : q = pc + 1) (G : Go p l e R s m args below meth c n0 C N Q Z a0 EL hh0 SF h ce sl q Ls (.int (x ^^^ y) :: st)) : Go p l e R s m args below meth c n0 C N Q Z a0 EL hh0 SF h ce sl pc Ls (.int y :: .int x :: st) := by
  subst hq
  exact Go.step (fun T vm0 k0 locs target X hS _ S => XT.ixor X.here hx rfl hd rfl S) G
theorem Go.ior (hx : p.tables.exec = Jvm.exec) {x y : Int32} (hd : decode c.code pc = .ok (.ior, 1))  (hq : q = pc + 1) (G : Go p l e R s m args below meth c n0 C N Q Z a0 EL hh0 SF h ce sl q Ls (.int (x ||| y) :: st)) : Go p l e R s m args below meth c n0 C N Q Z a0 EL hh0 SF h ce sl pc Ls (.int y :: .int x :: st) := by
  subst hq
  exact Go.step (fun T vm0 k0 locs target X hS _ S => XT.ior X.here hx rfl hd rfl S) G
theorem Go.ishl (hx : p.tables.exec = Jvm.exec) {x y : Int32} (hd : decode c.code pc = .ok (.ishl, 1))  (hq : q = pc + 1) (G : Go p l e R s m args below meth c n0 C N Q Z a0 EL hh0 SF h ce sl q Ls (.int (x <<< (y &&& 31)) :: st)) : Go p l e R s m args below meth c n0 C N Q Z a0 EL hh0 SF h ce sl pc Ls (.int y :: .int x :: st) := by
  subst hq
  exact Go.step (fun T vm0 k0 locs target X hS _ S => XT.ishl X.here hx rfl hd rfl S) G
theorem Go.ishr (hx : p.tables.exec = Jvm.exec) {x y : Int32} (hd : decode c.code pc = .ok (.ishr, 1))  (hq : q = pc + 1) (G : Go p l e R s m args below meth c n0 C N Q Z a0 EL hh0 SF h ce sl q Ls (.int (x >>> (y &&& 31)) :: st)) : Go p l e R s m args below meth c n0 C N Q Z a0 EL hh0 SF h ce sl pc Ls (.int y :: .int x :: st) := by
  subst hq
  exact Go.step (fun T vm0 k0 locs target X hS _ S => XT.ishr X.here hx rfl hd rfl S) G
theorem Go.iushr (hx : p.tables.exec = Jvm.exec) {x y : Int32} (hd : decode c.code pc = .ok (.iushr, 1))  (hq : q = pc + 1) (G : Go p l e R s m args below meth c n0 C N Q Z a0 EL hh0 SF h ce sl q Ls (.int (XT.ushr x y) :: st)) : Go p l e R s m args below meth c n0 C N Q Z a0 EL hh0 SF h ce sl pc Ls (.int y :: .int x :: st) := by
  subst hq
  exact Go.step (fun T vm0 k0 locs target X hS _ S => XT.iushr X.here hx rfl hd rfl S) G
theorem Go.ladd (hx : p.tables.exec = Jvm.exec) {x y : Int64} (hd : decode c.code pc = .ok (.ladd, 1))  (hq : q = pc + 1) (G : Go p l e R s m args below meth c n0 C N Q Z a0 EL hh0 SF h ce sl q Ls (.long (x + y) :: st)) : Go p l e R s m args below meth c n0 C N Q Z a0 EL hh0 SF h ce sl pc Ls (.long y :: .long x :: st) := by
  subst hq
  exact Go.step (fun T vm0 k0 locs target X hS _ S => XT.ladd X.here hx rfl hd rfl S) G
theorem Go.lsub (hx : p.tables.exec = Jvm.exec) {x y : Int64} (hd : decode c.code pc = .ok (.lsub, 1))  (hq : q = pc + 1) (G : Go p l e R s m args below meth c n0 C N Q Z a0 EL hh0 SF h ce sl q Ls (.long (x - y) :: st)) : Go p l e R s m args below meth c n0 C N Q Z a0 EL hh0 SF h ce sl pc Ls (.long y :: .long x :: st) := by
  subst hq
  exact Go.step (fun T vm0 k0 locs target X hS _ S => XT.lsub X.here hx rfl hd rfl S) G
theorem Go.lmul (hx : p.tables.exec = Jvm.exec) {x y : Int64} (hd : decode c.code pc = .ok (.lmul, 1))  (hq : q = pc + 1) (G : Go p l e R s m args below meth c n0 C N Q Z a0 EL hh0 SF h ce sl q Ls (.long (x * y) :: st)) : Go p l e R s m args below meth c n0 C N Q Z a0 EL hh0 SF h ce sl pc Ls (.long y :: .long x :: st) := by
  subst hq
  exact Go.step (fun T vm0 k0 locs target X hS _ S => XT.lmul X.here hx rfl hd rfl S) G
theorem Go.land (hx : p.tables.exec = Jvm.exec) {x y : Int64} (hd : decode c.code pc = .ok (.land, 1))  (hq : q = pc + 1) (G : Go p l e R s m args below meth c n0 C N Q Z a0 EL hh0 SF h ce sl q Ls (.long (x &&& y) :: st)) : Go p l e R s m args below meth c n0 C N Q Z a0 EL hh0 SF h ce sl pc Ls (.long y :: .long x :: st) := by
  subst hq
  exact Go.step (fun T vm0 k0 locs target X hS _ S => XT.land X.here hx rfl hd rfl S) G
theorem Go.lor (hx : p.tables.exec = Jvm.exec) {x y : Int64} (hd : decode c.code pc = .ok (.lor, 1))  (hq : q = pc + 1) (G : Go p l e R s m args below meth c n0 C N Q Z a0 EL hh0 SF h ce sl q Ls (.long (x ||| y) :: st)) : Go p l e R s m args below meth c n0 C N Q Z a0 EL hh0 SF h ce sl pc Ls (.long y :: .long x :: st) := by
  subst hq
  exact Go.step (fun T vm0 k0 locs target X hS _ S => XT.lor X.here hx rfl hd rfl S) G
theorem Go.lxor (hx : p.tables.exec = Jvm.exec) {x y : Int64} (hd : decode c.code pc = .ok (.lxor, 1))  (hq : q = pc + 1) (G : Go p l e R s m args below meth c n0 C N Q Z a0 EL hh0 SF h ce sl q Ls (.long (x ^^^ y) :: st)) : Go p l e R s m args below meth c n0 C N Q Z a0 EL hh0 SF h ce sl pc Ls (.long y :: .long x :: st) := by
  subst hq
  exact Go.step (fun T vm0 k0 locs target X hS _ S => XT.lxor X.here hx rfl hd rfl S) G
theorem Go.lshl (hx : p.tables.exec = Jvm.exec) {x : Int64} {y : Int32} (hd : decode c.code pc = .ok (.lshl, 1))  (hq : q = pc + 1) (G : Go p l e R s m args below meth c n0 C N Q Z a0 EL hh0 SF h ce sl q Ls (.long (x <<< (y.toInt64 &&& 63)) :: st)) : Go p l e R s m args below meth c n0 C N Q Z a0 EL hh0 SF h ce sl pc Ls (.int y :: .long x :: st) := by
  subst hq
  exact Go.step (fun T vm0 k0 locs target X hS _ S => XT.lshl X.here hx rfl hd rfl S) G
theorem Go.lshr (hx : p.tables.exec = Jvm.exec) {x : Int64} {y : Int32} (hd : decode c.code pc = .ok (.lshr, 1))  (hq : q = pc + 1) (G : Go p l e R s m args below meth c n0 C N Q Z a0 EL hh0 SF h ce sl q Ls (.long (x >>> (y.toInt64 &&& 63)) :: st)) : Go p l e R s m args below meth c n0 C N Q Z a0 EL hh0 SF h ce sl pc Ls (.int y :: .long x :: st) := by
  subst hq
  exact Go.step (fun T vm0 k0 locs target X hS _ S => XT.lshr X.here hx rfl hd rfl S) G
theorem Go.lushr (hx : p.tables.exec = Jvm.exec) {x : Int64} {y : Int32} (hd : decode c.code pc = .ok (.lushr, 1))  (hq : q = pc + 1) (G : Go p l e R s m args below meth c n0 C N Q Z a0 EL hh0 SF h ce sl q Ls (.long (XT.ushrL x y) :: st)) : Go p l e R s m args below meth c n0 C N Q Z a0 EL hh0 SF h ce sl pc Ls (.int y :: .long x :: st) := by
  subst hq
  exact Go.step (fun T vm0 k0 locs target X hS _ S => XT.lushr X.here hx rfl hd rfl S) G
theorem Go.lrem (hx : p.tables.exec = Jvm.exec) {x y : Int64} (hd : decode c.code pc = .ok (.lrem, 1)) (hy : y ≠ 0) (hq : q = pc + 1) (G : Go p l e R s m args below meth c n0 C N Q Z a0 EL hh0 SF h ce sl q Ls (.long (x - (x / y) * y) :: st)) : Go p l e R s m args below meth c n0 C N Q Z a0 EL hh0 SF h ce sl pc Ls (.long y :: .long x :: st) := by
  subst hq
  exact Go.step (fun T vm0 k0 locs target X hS _ S => XT.lrem X.here hx rfl hd rfl hy S) G
theorem Go.ldiv (hx : p.tables.exec = Jvm.exec) {x y : Int64} (hd : decode c.code pc = .ok (.ldiv, 1)) (hy : y ≠ 0) (hq : q = pc + 1) (G : Go p l e R s m args below meth c n0 C N Q Z a0 EL hh0 SF h ce sl q Ls (.long (x / y) :: st)) : Go p l e R s m args below meth c n0 C N Q Z a0 EL hh0 SF h ce sl pc Ls (.long y :: .long x :: st) := by
  subst hq
  exact Go.step (fun T vm0 k0 locs target X hS _ S => XT.ldiv X.here hx rfl hd rfl hy S) G
theorem Go.lneg (hx : p.tables.exec = Jvm.exec) {x : Int64} (hd : decode c.code pc = .ok (.lneg, 1))  (hq : q = pc + 1) (G : Go p l e R s m args below meth c n0 C N Q Z a0 EL hh0 SF h ce sl q Ls (.long (-x) :: st)) : Go p l e R s m args below meth c n0 C N Q Z a0 EL hh0 SF h ce sl pc Ls (.long x :: st) := by
  subst hq
  exact Go.step (fun T vm0 k0 locs target X hS _ S => XT.lneg X.here hx rfl hd rfl S) G
theorem Go.lcmp (hx : p.tables.exec = Jvm.exec) {x y : Int64} (hd : decode c.code pc = .ok (.lcmp, 1))  (hq : q = pc + 1) (G : Go p l e R s m args below meth c n0 C N Q Z a0 EL hh0 SF h ce sl q Ls (.int (XT.cmpL x y) :: st)) : Go p l e R s m args below meth c n0 C N Q Z a0 EL hh0 SF h ce sl pc Ls (.long y :: .long x :: st) := by
  subst hq
  exact Go.step (fun T vm0 k0 locs target X hS _ S => XT.lcmp X.here hx rfl hd rfl S) G
theorem Go.i2l (hx : p.tables.exec = Jvm.exec) {x : Int32} (hd : decode c.code pc = .ok (.i2l, 1))  (hq : q = pc + 1) (G : Go p l e R s m args below meth c n0 C N Q Z a0 EL hh0 SF h ce sl q Ls (.long (x.toInt64) :: st)) : Go p l e R s m args below meth c n0 C N Q Z a0 EL hh0 SF h ce sl pc Ls (.int x :: st) := by
  subst hq
  exact Go.step (fun T vm0 k0 locs target X hS _ S => XT.i2l X.here hx rfl hd rfl S) G
theorem Go.l2i (hx : p.tables.exec = Jvm.exec) {x : Int64} (hd : decode c.code pc = .ok (.l2i, 1))  (hq : q = pc + 1) (G : Go p l e R s m args below meth c n0 C N Q Z a0 EL hh0 SF h ce sl q Ls (.int (x.toInt32) :: st)) : Go p l e R s m args below meth c n0 C N Q Z a0 EL hh0 SF h ce sl pc Ls (.long x :: st) := by
  subst hq
  exact Go.step (fun T vm0 k0 locs target X hS _ S => XT.l2i X.here hx rfl hd rfl S) G
theorem Go.i2b (hx : p.tables.exec = Jvm.exec) {x : Int32} (hd : decode c.code pc = .ok (.i2b, 1))  (hq : q = pc + 1) (G : Go p l e R s m args below meth c n0 C N Q Z a0 EL hh0 SF h ce sl q Ls (.int (x.toInt8.toInt32) :: st)) : Go p l e R s m args below meth c n0 C N Q Z a0 EL hh0 SF h ce sl pc Ls (.int x :: st) := by
  subst hq
  exact Go.step (fun T vm0 k0 locs target X hS _ S => XT.i2b X.here hx rfl hd rfl S) G
theorem Go.i2c (hx : p.tables.exec = Jvm.exec) {x : Int32} (hd : decode c.code pc = .ok (.i2c, 1))  (hq : q = pc + 1) (G : Go p l e R s m args below meth c n0 C N Q Z a0 EL hh0 SF h ce sl q Ls (.int (x.toUInt32.toUInt16.toUInt32.toInt32) :: st)) : Go p l e R s m args below meth c n0 C N Q Z a0 EL hh0 SF h ce sl pc Ls (.int x :: st) := by
  subst hq
  exact Go.step (fun T vm0 k0 locs target X hS _ S => XT.i2c X.here hx rfl hd rfl S) G
theorem Go.i2s (hx : p.tables.exec = Jvm.exec) {x : Int32} (hd : decode c.code pc = .ok (.i2s, 1))  (hq : q = pc + 1) (G : Go p l e R s m args below meth c n0 C N Q Z a0 EL hh0 SF h ce sl q Ls (.int (x.toInt16.toInt32) :: st)) : Go p l e R s m args below meth c n0 C N Q Z a0 EL hh0 SF h ce sl pc Ls (.int x :: st) := by
  subst hq
  exact Go.step (fun T vm0 k0 locs target X hS _ S => XT.i2s X.here hx rfl hd rfl S) G
theorem Go.dup (hx : p.tables.exec = Jvm.exec) {x : Value} (hd : decode c.code pc = .ok (.dup, 1)) (hc : x.category = 1) (hq : q = pc + 1) (G : Go p l e R s m args below meth c n0 C N Q Z a0 EL hh0 SF h ce sl q Ls (x :: x :: st)) : Go p l e R s m args below meth c n0 C N Q Z a0 EL hh0 SF h ce sl pc Ls (x :: st) := by
  subst hq
  exact Go.step (fun T vm0 k0 locs target X hS _ S => XS.dup X.here hx rfl hd rfl hc S) G
theorem Go.pop (hx : p.tables.exec = Jvm.exec) {x : Value} (hd : decode c.code pc = .ok (.pop, 1)) (hc : x.category = 1) (hq : q = pc + 1) (G : Go p l e R s m args below meth c n0 C N Q Z a0 EL hh0 SF h ce sl q Ls (st)) : Go p l e R s m args below meth c n0 C N Q Z a0 EL hh0 SF h ce sl pc Ls (x :: st) := by
  subst hq
  exact Go.step (fun T vm0 k0 locs target X hS _ S => XT.pop X.here hx rfl hd rfl hc S) G
theorem Go.dupX1 (hx : p.tables.exec = Jvm.exec) {x y : Value} (hd : decode c.code pc = .ok (.dup_x1, 1)) (hc : x.category = 1) (hc' : y.category = 1) (hq : q = pc + 1) (G : Go p l e R s m args below meth c n0 C N Q Z a0 EL hh0 SF h ce sl q Ls (x :: y :: x :: st)) : Go p l e R s m args below meth c n0 C N Q Z a0 EL hh0 SF h ce sl pc Ls (x :: y :: st) := by
  subst hq
  exact Go.step (fun T vm0 k0 locs target X hS _ S => XT.dupX1 X.here hx rfl hd rfl hc hc' S) G
theorem Go.dup2 (hx : p.tables.exec = Jvm.exec) {x y : Value} (hd : decode c.code pc = .ok (.dup2, 1)) (hc : x.category = 1) (hc' : y.category = 1) (hq : q = pc + 1) (G : Go p l e R s m args below meth c n0 C N Q Z a0 EL hh0 SF h ce sl q Ls (x :: y :: x :: y :: st)) : Go p l e R s m args below meth c n0 C N Q Z a0 EL hh0 SF h ce sl pc Ls (x :: y :: st) := by
  subst hq
  exact Go.step (fun T vm0 k0 locs target X hS _ S => XT.dup2 X.here hx rfl hd rfl hc hc' S) G
theorem Go.dup2L (hx : p.tables.exec = Jvm.exec) {x : Int64} (hd : decode c.code pc = .ok (.dup2, 1))  (hq : q = pc + 1) (G : Go p l e R s m args below meth c n0 C N Q Z a0 EL hh0 SF h ce sl q Ls (.long x :: .long x :: st)) : Go p l e R s m args below meth c n0 C N Q Z a0 EL hh0 SF h ce sl pc Ls (.long x :: st) := by
  subst hq
  exact Go.step (fun T vm0 k0 locs target X hS _ S => XT.dup2L X.here hx rfl hd rfl S) G
theorem Go.goto (hx : p.tables.exec = Jvm.exec) {o : Int} (hd : decode c.code pc = .ok (.goto o, 3)) (ho : 0 ≤ (pc : Int) + o) (hq : ((pc : Int) + o).toNat = q) (G : Go p l e R s m args below meth c n0 C N Q Z a0 EL hh0 SF h ce sl q Ls st) : Go p l e R s m args below meth c n0 C N Q Z a0 EL hh0 SF h ce sl pc Ls st :=
  Go.step (fun T vm0 k0 locs target X hS _ S => XS.goto X.here hx rfl rfl hd ho hq S) G
theorem Go.icmp_eq (hx : p.tables.exec = Jvm.exec) {x y : Int32} {o : Int} {t : Nat} (hd : decode c.code pc = .ok (.if_icmp .eq o, 3)) (ho : 0 ≤ (pc : Int) + o) (ht : ((pc : Int) + o).toNat = t) (hq : q = pc + 3) (Gt : x = y → Go p l e R s m args below meth c n0 C N Q Z a0 EL hh0 SF h ce sl t Ls st) (Gf : ¬ x = y → Go p l e R s m args below meth c n0 C N Q Z a0 EL hh0 SF h ce sl q Ls st) : Go p l e R s m args below meth c n0 C N Q Z a0 EL hh0 SF h ce sl pc Ls (.int y :: .int x :: st) := by
  subst hq
  by_cases hc : x = y
  · exact Go.step (fun T vm0 k0 locs target X hS _ S => XS.icmpYes X.here hx rfl rfl hd rfl (teq hc).1 ho ht S) (Gt hc)
  · exact Go.step (fun T vm0 k0 locs target X hS _ S => XS.icmpNo X.here hx rfl hd rfl (feq hc).1 S) (Gf hc)
theorem Go.if_eq (hx : p.tables.exec = Jvm.exec) {x : Int32} {o : Int} {t : Nat} (hd : decode c.code pc = .ok (.ifCond .eq o, 3)) (ho : 0 ≤ (pc : Int) + o) (ht : ((pc : Int) + o).toNat = t) (hq : q = pc + 3) (Gt : x = 0 → Go p l e R s m args below meth c n0 C N Q Z a0 EL hh0 SF h ce sl t Ls st) (Gf : ¬ x = 0 → Go p l e R s m args below meth c n0 C N Q Z a0 EL hh0 SF h ce sl q Ls st) : Go p l e R s m args below meth c n0 C N Q Z a0 EL hh0 SF h ce sl pc Ls (.int x :: st) := by
  subst hq
  by_cases hc : x = 0
  · exact Go.step (fun T vm0 k0 locs target X hS _ S => XS.ifYes X.here hx rfl rfl hd rfl ((if0 _ _).trans (teq hc).1) ho ht S) (Gt hc)
  · exact Go.step (fun T vm0 k0 locs target X hS _ S => XS.ifNo X.here hx rfl hd rfl ((if0 _ _).trans (feq hc).1) S) (Gf hc)
theorem Go.icmp_ne (hx : p.tables.exec = Jvm.exec) {x y : Int32} {o : Int} {t : Nat} (hd : decode c.code pc = .ok (.if_icmp .ne o, 3)) (ho : 0 ≤ (pc : Int) + o) (ht : ((pc : Int) + o).toNat = t) (hq : q = pc + 3) (Gt : ¬ x = y → Go p l e R s m args below meth c n0 C N Q Z a0 EL hh0 SF h ce sl t Ls st) (Gf : x = y → Go p l e R s m args below meth c n0 C N Q Z a0 EL hh0 SF h ce sl q Ls st) : Go p l e R s m args below meth c n0 C N Q Z a0 EL hh0 SF h ce sl pc Ls (.int y :: .int x :: st) := by
  subst hq
  by_cases hc : x = y
  · exact Go.step (fun T vm0 k0 locs target X hS _ S => XS.icmpNo X.here hx rfl hd rfl (teq hc).2 S) (Gf hc)
  · exact Go.step (fun T vm0 k0 locs target X hS _ S => XS.icmpYes X.here hx rfl rfl hd rfl (feq hc).2 ho ht S) (Gt hc)
theorem Go.if_ne (hx : p.tables.exec = Jvm.exec) {x : Int32} {o : Int} {t : Nat} (hd : decode c.code pc = .ok (.ifCond .ne o, 3)) (ho : 0 ≤ (pc : Int) + o) (ht : ((pc : Int) + o).toNat = t) (hq : q = pc + 3) (Gt : ¬ x = 0 → Go p l e R s m args below meth c n0 C N Q Z a0 EL hh0 SF h ce sl t Ls st) (Gf : x = 0 → Go p l e R s m args below meth c n0 C N Q Z a0 EL hh0 SF h ce sl q Ls st) : Go p l e R s m args below meth c n0 C N Q Z a0 EL hh0 SF h ce sl pc Ls (.int x :: st) := by
  subst hq
  by_cases hc : x = 0
  · exact Go.step (fun T vm0 k0 locs target X hS _ S => XS.ifNo X.here hx rfl hd rfl ((if0 _ _).trans (teq hc).2) S) (Gf hc)
  · exact Go.step (fun T vm0 k0 locs target X hS _ S => XS.ifYes X.here hx rfl rfl hd rfl ((if0 _ _).trans (feq hc).2) ho ht S) (Gt hc)
theorem Go.icmp_lt (hx : p.tables.exec = Jvm.exec) {x y : Int32} {o : Int} {t : Nat} (hd : decode c.code pc = .ok (.if_icmp .lt o, 3)) (ho : 0 ≤ (pc : Int) + o) (ht : ((pc : Int) + o).toNat = t) (hq : q = pc + 3) (Gt : x < y → Go p l e R s m args below meth c n0 C N Q Z a0 EL hh0 SF h ce sl t Ls st) (Gf : ¬ x < y → Go p l e R s m args below meth c n0 C N Q Z a0 EL hh0 SF h ce sl q Ls st) : Go p l e R s m args below meth c n0 C N Q Z a0 EL hh0 SF h ce sl pc Ls (.int y :: .int x :: st) := by
  subst hq
  by_cases hc : x < y
  · exact Go.step (fun T vm0 k0 locs target X hS _ S => XS.icmpYes X.here hx rfl rfl hd rfl (tlt hc).1 ho ht S) (Gt hc)
  · exact Go.step (fun T vm0 k0 locs target X hS _ S => XS.icmpNo X.here hx rfl hd rfl (flt hc).1 S) (Gf hc)
theorem Go.if_lt (hx : p.tables.exec = Jvm.exec) {x : Int32} {o : Int} {t : Nat} (hd : decode c.code pc = .ok (.ifCond .lt o, 3)) (ho : 0 ≤ (pc : Int) + o) (ht : ((pc : Int) + o).toNat = t) (hq : q = pc + 3) (Gt : x < 0 → Go p l e R s m args below meth c n0 C N Q Z a0 EL hh0 SF h ce sl t Ls st) (Gf : ¬ x < 0 → Go p l e R s m args below meth c n0 C N Q Z a0 EL hh0 SF h ce sl q Ls st) : Go p l e R s m args below meth c n0 C N Q Z a0 EL hh0 SF h ce sl pc Ls (.int x :: st) := by
  subst hq
  by_cases hc : x < 0
  · exact Go.step (fun T vm0 k0 locs target X hS _ S => XS.ifYes X.here hx rfl rfl hd rfl ((if0 _ _).trans (tlt hc).1) ho ht S) (Gt hc)
  · exact Go.step (fun T vm0 k0 locs target X hS _ S => XS.ifNo X.here hx rfl hd rfl ((if0 _ _).trans (flt hc).1) S) (Gf hc)
theorem Go.icmp_ge (hx : p.tables.exec = Jvm.exec) {x y : Int32} {o : Int} {t : Nat} (hd : decode c.code pc = .ok (.if_icmp .ge o, 3)) (ho : 0 ≤ (pc : Int) + o) (ht : ((pc : Int) + o).toNat = t) (hq : q = pc + 3) (Gt : ¬ x < y → Go p l e R s m args below meth c n0 C N Q Z a0 EL hh0 SF h ce sl t Ls st) (Gf : x < y → Go p l e R s m args below meth c n0 C N Q Z a0 EL hh0 SF h ce sl q Ls st) : Go p l e R s m args below meth c n0 C N Q Z a0 EL hh0 SF h ce sl pc Ls (.int y :: .int x :: st) := by
  subst hq
  by_cases hc : x < y
  · exact Go.step (fun T vm0 k0 locs target X hS _ S => XS.icmpNo X.here hx rfl hd rfl (tlt hc).2.1 S) (Gf hc)
  · exact Go.step (fun T vm0 k0 locs target X hS _ S => XS.icmpYes X.here hx rfl rfl hd rfl (flt hc).2.1 ho ht S) (Gt hc)
theorem Go.if_ge (hx : p.tables.exec = Jvm.exec) {x : Int32} {o : Int} {t : Nat} (hd : decode c.code pc = .ok (.ifCond .ge o, 3)) (ho : 0 ≤ (pc : Int) + o) (ht : ((pc : Int) + o).toNat = t) (hq : q = pc + 3) (Gt : ¬ x < 0 → Go p l e R s m args below meth c n0 C N Q Z a0 EL hh0 SF h ce sl t Ls st) (Gf : x < 0 → Go p l e R s m args below meth c n0 C N Q Z a0 EL hh0 SF h ce sl q Ls st) : Go p l e R s m args below meth c n0 C N Q Z a0 EL hh0 SF h ce sl pc Ls (.int x :: st) := by
  subst hq
  by_cases hc : x < 0
  · exact Go.step (fun T vm0 k0 locs target X hS _ S => XS.ifNo X.here hx rfl hd rfl ((if0 _ _).trans (tlt hc).2.1) S) (Gf hc)
  · exact Go.step (fun T vm0 k0 locs target X hS _ S => XS.ifYes X.here hx rfl rfl hd rfl ((if0 _ _).trans (flt hc).2.1) ho ht S) (Gt hc)
theorem Go.icmp_gt (hx : p.tables.exec = Jvm.exec) {x y : Int32} {o : Int} {t : Nat} (hd : decode c.code pc = .ok (.if_icmp .gt o, 3)) (ho : 0 ≤ (pc : Int) + o) (ht : ((pc : Int) + o).toNat = t) (hq : q = pc + 3) (Gt : y < x → Go p l e R s m args below meth c n0 C N Q Z a0 EL hh0 SF h ce sl t Ls st) (Gf : ¬ y < x → Go p l e R s m args below meth c n0 C N Q Z a0 EL hh0 SF h ce sl q Ls st) : Go p l e R s m args below meth c n0 C N Q Z a0 EL hh0 SF h ce sl pc Ls (.int y :: .int x :: st) := by
  subst hq
  by_cases hc : y < x
  · exact Go.step (fun T vm0 k0 locs target X hS _ S => XS.icmpYes X.here hx rfl rfl hd rfl (tlt hc).2.2.1 ho ht S) (Gt hc)
  · exact Go.step (fun T vm0 k0 locs target X hS _ S => XS.icmpNo X.here hx rfl hd rfl (flt hc).2.2.1 S) (Gf hc)
theorem Go.if_gt (hx : p.tables.exec = Jvm.exec) {x : Int32} {o : Int} {t : Nat} (hd : decode c.code pc = .ok (.ifCond .gt o, 3)) (ho : 0 ≤ (pc : Int) + o) (ht : ((pc : Int) + o).toNat = t) (hq : q = pc + 3) (Gt : 0 < x → Go p l e R s m args below meth c n0 C N Q Z a0 EL hh0 SF h ce sl t Ls st) (Gf : ¬ 0 < x → Go p l e R s m args below meth c n0 C N Q Z a0 EL hh0 SF h ce sl q Ls st) : Go p l e R s m args below meth c n0 C N Q Z a0 EL hh0 SF h ce sl pc Ls (.int x :: st) := by
  subst hq
  by_cases hc : 0 < x
  · exact Go.step (fun T vm0 k0 locs target X hS _ S => XS.ifYes X.here hx rfl rfl hd rfl ((if0 _ _).trans (tlt hc).2.2.1) ho ht S) (Gt hc)
  · exact Go.step (fun T vm0 k0 locs target X hS _ S => XS.ifNo X.here hx rfl hd rfl ((if0 _ _).trans (flt hc).2.2.1) S) (Gf hc)
theorem Go.icmp_le (hx : p.tables.exec = Jvm.exec) {x y : Int32} {o : Int} {t : Nat} (hd : decode c.code pc = .ok (.if_icmp .le o, 3)) (ho : 0 ≤ (pc : Int) + o) (ht : ((pc : Int) + o).toNat = t) (hq : q = pc + 3) (Gt : ¬ y < x → Go p l e R s m args below meth c n0 C N Q Z a0 EL hh0 SF h ce sl t Ls st) (Gf : y < x → Go p l e R s m args below meth c n0 C N Q Z a0 EL hh0 SF h ce sl q Ls st) : Go p l e R s m args below meth c n0 C N Q Z a0 EL hh0 SF h ce sl pc Ls (.int y :: .int x :: st) := by
  subst hq
  by_cases hc : y < x
  · exact Go.step (fun T vm0 k0 locs target X hS _ S => XS.icmpNo X.here hx rfl hd rfl (tlt hc).2.2.2 S) (Gf hc)
  · exact Go.step (fun T vm0 k0 locs target X hS _ S => XS.icmpYes X.here hx rfl rfl hd rfl (flt hc).2.2.2 ho ht S) (Gt hc)
theorem Go.if_le (hx : p.tables.exec = Jvm.exec) {x : Int32} {o : Int} {t : Nat} (hd : decode c.code pc = .ok (.ifCond .le o, 3)) (ho : 0 ≤ (pc : Int) + o) (ht : ((pc : Int) + o).toNat = t) (hq : q = pc + 3) (Gt : ¬ 0 < x → Go p l e R s m args below meth c n0 C N Q Z a0 EL hh0 SF h ce sl t Ls st) (Gf : 0 < x → Go p l e R s m args below meth c n0 C N Q Z a0 EL hh0 SF h ce sl q Ls st) : Go p l e R s m args below meth c n0 C N Q Z a0 EL hh0 SF h ce sl pc Ls (.int x :: st) := by
  subst hq
  by_cases hc : 0 < x
  · exact Go.step (fun T vm0 k0 locs target X hS _ S => XS.ifNo X.here hx rfl hd rfl ((if0 _ _).trans (tlt hc).2.2.2) S) (Gf hc)
  · exact Go.step (fun T vm0 k0 locs target X hS _ S => XS.ifYes X.here hx rfl rfl hd rfl ((if0 _ _).trans (flt hc).2.2.2) ho ht S) (Gt hc)
theorem Go.ifnullT (hx : p.tables.exec = Jvm.exec) {b : Addr} {o : Int} {t : Nat} (hd : decode c.code pc = .ok (.ifnull o, 3)) (ho : 0 ≤ (pc : Int) + o) (ht : ((pc : Int) + o).toNat = t) (G : Go p l e R s m args below meth c n0 C N Q Z a0 EL hh0 SF h ce sl t Ls st) : Go p l e R s m args below meth c n0 C N Q Z a0 EL hh0 SF h ce sl pc Ls (.null :: st) :=
  Go.step (fun T vm0 k0 locs target X hS _ S => XS.ifnullYes X.here hx rfl rfl hd rfl ho ht S) G
theorem Go.ifnullF (hx : p.tables.exec = Jvm.exec) {b : Addr} {o : Int} (hd : decode c.code pc = .ok (.ifnull o, 3)) (hq : q = pc + 3) (G : Go p l e R s m args below meth c n0 C N Q Z a0 EL hh0 SF h ce sl q Ls st) : Go p l e R s m args below meth c n0 C N Q Z a0 EL hh0 SF h ce sl pc Ls (.ref b :: st) := by
  subst hq
  exact Go.step (fun T vm0 k0 locs target X hS _ S => XS.ifnullNo X.here hx rfl hd rfl S) G
theorem Go.ifnonnullT (hx : p.tables.exec = Jvm.exec) {b : Addr} {o : Int} {t : Nat} (hd : decode c.code pc = .ok (.ifnonnull o, 3)) (ho : 0 ≤ (pc : Int) + o) (ht : ((pc : Int) + o).toNat = t) (G : Go p l e R s m args below meth c n0 C N Q Z a0 EL hh0 SF h ce sl t Ls st) : Go p l e R s m args below meth c n0 C N Q Z a0 EL hh0 SF h ce sl pc Ls (.ref b :: st) :=
  Go.step (fun T vm0 k0 locs target X hS _ S => XT.ifnonnullYes X.here hx rfl rfl hd rfl ho ht S) G
theorem Go.ifnonnullF (hx : p.tables.exec = Jvm.exec) {b : Addr} {o : Int} (hd : decode c.code pc = .ok (.ifnonnull o, 3)) (hq : q = pc + 3) (G : Go p l e R s m args below meth c n0 C N Q Z a0 EL hh0 SF h ce sl q Ls st) : Go p l e R s m args below meth c n0 C N Q Z a0 EL hh0 SF h ce sl pc Ls (.null :: st) := by
  subst hq
  exact Go.step (fun T vm0 k0 locs target X hS _ S => XT.ifnonnullNo X.here hx rfl hd rfl S) G
theorem Go.acmp_eq (hx : p.tables.exec = Jvm.exec) {x y : Value} {o : Int} {t : Nat} (hvx : x.isRef = true) (hvy : y.isRef = true) (hd : decode c.code pc = .ok (.if_acmp .eq o, 3)) (ho : 0 ≤ (pc : Int) + o) (ht : ((pc : Int) + o).toNat = t) (hq : q = pc + 3) (Gt : x = y → Go p l e R s m args below meth c n0 C N Q Z a0 EL hh0 SF h ce sl t Ls st) (Gf : ¬ x = y → Go p l e R s m args below meth c n0 C N Q Z a0 EL hh0 SF h ce sl q Ls st) : Go p l e R s m args below meth c n0 C N Q Z a0 EL hh0 SF h ce sl pc Ls (y :: x :: st) := by
  subst hq
  by_cases hc : x = y
  · exact Go.step (fun T vm0 k0 locs target X hS _ S => XT.acmpYes X.here hx rfl rfl hd rfl hvx hvy (by simp [XT.acmp, hc]) ho ht S) (Gt hc)
  · exact Go.step (fun T vm0 k0 locs target X hS _ S => XT.acmpNo X.here hx rfl hd rfl hvx hvy (by simp [XT.acmp, hc]) S) (Gf hc)
theorem Go.acmp_ne (hx : p.tables.exec = Jvm.exec) {x y : Value} {o : Int} {t : Nat} (hvx : x.isRef = true) (hvy : y.isRef = true) (hd : decode c.code pc = .ok (.if_acmp .ne o, 3)) (ho : 0 ≤ (pc : Int) + o) (ht : ((pc : Int) + o).toNat = t) (hq : q = pc + 3) (Gt : ¬ x = y → Go p l e R s m args below meth c n0 C N Q Z a0 EL hh0 SF h ce sl t Ls st) (Gf : x = y → Go p l e R s m args below meth c n0 C N Q Z a0 EL hh0 SF h ce sl q Ls st) : Go p l e R s m args below meth c n0 C N Q Z a0 EL hh0 SF h ce sl pc Ls (y :: x :: st) := by
  subst hq
  by_cases hc : x = y
  · exact Go.step (fun T vm0 k0 locs target X hS _ S => XT.acmpNo X.here hx rfl hd rfl hvx hvy (by simp [XT.acmp, hc]) S) (Gf hc)
  · exact Go.step (fun T vm0 k0 locs target X hS _ S => XT.acmpYes X.here hx rfl rfl hd rfl hvx hvy (by simp [XT.acmp, hc]) ho ht S) (Gt hc)
theorem Go.retV (hx : p.tables.exec = Jvm.exec) {wv : Value} {t : FieldType} {i : Instr} (hret : meth.sig.returnType = some t) (hlk : meth.locks = false) (hn : narrow t wv = wv)
    (hi : (i = .ireturn ∧ (t = .int ∨ t = .boolean ∨ t = .byte ∨ t = .char ∨ t = .short) ∧ ∃ z, wv = .int z) ∨ (i = .lreturn ∧ t = .long ∧ ∃ z, wv = .long z) ∨ (i = .dreturn ∧ t = .double ∧ ∃ z, wv = .double z) ∨ (i = .freturn ∧ t = .float ∧ ∃ z, wv = .float z) ∨ (i = .areturn ∧ t.isReference = true ∧ wv.isRef = true))
    (hd : decode c.code pc = .ok (i, 1)) (hc : ce ≤ C) (hs : sl ≤ N) (hQ : Q (some wv) h) : Go p l e R s m args below meth c n0 C N Q Z a0 EL hh0 SF h ce sl pc Ls (wv :: st) := fun T vm0 locs k0 hz hel X hS hk hC hF Nf eT => by
  obtain ⟨fs, hr, hrun, hended, hRW⟩ := X.leaveW hS (by rw [eT]; exact hk) (v := some wv) (fun hh => by rw [hret] at hh; cases hh)
  refine ⟨_, _, _, retOut X hx hret hn hi hd hr, hrun, hended, ⟨?_, Nf⟩, ?_, hRW.1, hRW.2.1, hRW.2.2.1, hRW.2.2.2.mono hc hs⟩
  · show Q _ T.heap
    rw [eT]; exact hQ
  · show CHr Z EL s.vm hh0 T.vm T.heap
    rw [eT]; exact hC.trans (CHv.at X (wZ hz hS) hel hC.1)
theorem Go.retI (hx : p.tables.exec = Jvm.exec) {z : Int32} (hret : meth.sig.returnType = some .int) (hlk : meth.locks = false) (hd : decode c.code pc = .ok (.ireturn, 1)) (hc : ce ≤ C) (hs : sl ≤ N) (hQ : Q (some (.int z)) h) : Go p l e R s m args below meth c n0 C N Q Z a0 EL hh0 SF h ce sl pc Ls (.int z :: st) :=
  Go.retV hx hret hlk rfl (Or.inl ⟨rfl, Or.inl rfl, _, rfl⟩) hd hc hs hQ
theorem Go.retL (hx : p.tables.exec = Jvm.exec) {z : Int64} (hret : meth.sig.returnType = some .long) (hlk : meth.locks = false) (hd : decode c.code pc = .ok (.lreturn, 1)) (hc : ce ≤ C) (hs : sl ≤ N) (hQ : Q (some (.long z)) h) : Go p l e R s m args below meth c n0 C N Q Z a0 EL hh0 SF h ce sl pc Ls (.long z :: st) :=
  Go.retV hx hret hlk rfl (Or.inr (Or.inl ⟨rfl, rfl, _, rfl⟩)) hd hc hs hQ
theorem Go.retA (hx : p.tables.exec = Jvm.exec) {wv : Value} {t : FieldType} (hret : meth.sig.returnType = some t) (ht : t.isReference = true) (hv : wv.isRef = true) (hlk : meth.locks = false) (hd : decode c.code pc = .ok (.areturn, 1)) (hc : ce ≤ C) (hs : sl ≤ N) (hQ : Q (some wv) h) : Go p l e R s m args below meth c n0 C N Q Z a0 EL hh0 SF h ce sl pc Ls (wv :: st) :=
  Go.retV hx hret hlk (by cases wv <;> cases t <;> simp_all [Value.isRef, FieldType.isReference, narrow]) (Or.inr (Or.inr (Or.inr (Or.inr ⟨rfl, ht, hv⟩)))) hd hc hs hQ
theorem Go.retN (hx : p.tables.exec = Jvm.exec) {z : Int32} {t : FieldType} (hret : meth.sig.returnType = some t) (ht : t = .boolean ∨ t = .byte ∨ t = .char ∨ t = .short) (hlk : meth.locks = false) (hd : decode c.code pc = .ok (.ireturn, 1)) (hc : ce ≤ C) (hs : sl ≤ N) (hQ : Q (some (.int (nar t z))) h) : Go p l e R s m args below meth c n0 C N Q Z a0 EL hh0 SF h ce sl pc Ls (.int z :: st) := fun T vm0 locs k0 hz hel X hS hk hC hF Nf eT => by
  obtain ⟨fs, hr, hrun, hended, hRW⟩ := X.leaveW hS (by rw [eT]; exact hk) (v := some (.int (nar t z))) (fun hh => by rw [hret] at hh; cases hh)
  refine ⟨_, _, _, Jvm.RoadKit.retN X hx hret ht hd hr, hrun, hended, ⟨?_, Nf⟩, ?_, hRW.1, hRW.2.1, hRW.2.2.1, hRW.2.2.2.mono hc hs⟩
  · show Q _ T.heap
    rw [eT]; exact hQ
  · show CHr Z EL s.vm hh0 T.vm T.heap
    rw [eT]; exact hC.trans (CHv.at X (wZ hz hS) hel hC.1)
theorem Go.ret0 (hx : p.tables.exec = Jvm.exec) (hret : meth.sig.returnType = none) (hlk : meth.locks = false) (hd : decode c.code pc = .ok (.return_, 1)) (hc : ce ≤ C) (hs : sl ≤ N) (hQ : Q none h) : Go p l e R s m args below meth c n0 C N Q Z a0 EL hh0 SF h ce sl pc Ls [] := fun T vm0 locs k0 hz hel X hS hk hC hF Nf eT => by
  obtain ⟨fs, hr, hrun, hended, hRW⟩ := X.leaveW hS (by rw [eT]; exact hk) (v := none) (fun _ => rfl)
  refine ⟨_, _, _, X.returnOut hx hret hd hr, hrun, hended, ⟨?_, Nf⟩, ?_, hRW.1, hRW.2.1, hRW.2.2.1, hRW.2.2.2.mono hc hs⟩
  · show Q _ T.heap
    rw [eT]; exact hQ
  · show CHr Z EL s.vm hh0 T.vm T.heap
    rw [eT]; exact hC.trans (CHv.at X (wZ hz hS) hel hC.1)
theorem Go.getF (hx : p.tables.exec = Jvm.exec) (hZ : Z.Warmed39 s.vm) {own R0 O n d host : String} {index : Nat} (hown : s.vm.findClass own = some m.cls) (hw : (Cond.fieldLink own index R0 n d).before a0 Z = true ∨ (Cond.fieldLinkNest own index R0 n d host).before a0 Z = true) (via : Via Z R0 O n d) {a : Addr} {v : Value} (F : Fld Z h a O n d v) (hd : decode c.code pc = .ok (.getfield index, 3)) (hq : q = pc + 3) (G : Go p l e R s m args below meth c n0 C N Q Z a0 EL hh0 SF h ce sl q Ls (v :: st)) : Go p l e R s m args below meth c n0 C N Q Z a0 EL hh0 SF h ce sl pc Ls (.ref a :: st) := by
  subst hq
  exact Go.law (fun T vm0 k0 locs X hS eT => Jvm.RoadKit.getF X hx (wZ hZ hS) (wO hown hS) hw via eT F (g := mkF m pc Ls (.ref a :: st)) rfl rfl hd) G
theorem Go.getS (hx : p.tables.exec = Jvm.exec) (hZ : Z.Warmed39 s.vm) {own R0 O n d host : String} {index : Nat} (hown : s.vm.findClass own = some m.cls) (hw : (Cond.fieldLink own index R0 n d).before a0 Z = true ∨ (Cond.fieldLinkNest own index R0 n d host).before a0 Z = true) (via : Via Z R0 O n d) {v : Value} (F : Sta Z h O n d v) (hd : decode c.code pc = .ok (.getstatic index, 3)) (hq : q = pc + 3) (G : Go p l e R s m args below meth c n0 C N Q Z a0 EL hh0 SF h ce sl q Ls (v :: st)) : Go p l e R s m args below meth c n0 C N Q Z a0 EL hh0 SF h ce sl pc Ls st := by
  subst hq
  exact Go.law (fun T vm0 k0 locs X hS eT => Jvm.RoadKit.getS2 (host := host) X hx (wZ hZ hS) (wO hown hS) hw via eT F (g := mkF m pc Ls st) rfl hd) G
theorem Go.putF (hx : p.tables.exec = Jvm.exec) (hZ : Z.Warmed39 s.vm) {own R0 O n d host C' : String} {index kk : Nat} {ty : FieldType} (hown : s.vm.findClass own = some m.cls) (hw : (Cond.fieldLink own index R0 n d).before a0 Z = true ∨ (Cond.fieldLinkNest own index R0 n d host).before a0 Z = true) (via : Via Z R0 O n d) {a : Addr} {v old : Value} (F : Fld Z h a O n d old) (E : Exa Z h a C') (L : (Cond.lays C' O n d).before a0 Z = true ∨ ((Cond.laysFinal C' O n d).before a0 Z = true ∧ own = O ∧ meth.name = "<init>")) (wi : (Cond.instantiable C' kk).before a0 Z = true)
    (hty : parseFieldDescriptor d = some ty) (hn : narrow ty v = v) (hf : fits ty v = true) (ha : n0 ≤ a) (hsf : a ∈ SF) (hd : decode c.code pc = .ok (.putfield index, 3)) (hq : q = pc + 3) (G : ∀ h', Wr h h' a (Jvm.RoadKit.slotOf Z O n d) v → Go p l e R s m args below meth c n0 C N Q Z a0 EL hh0 SF h' ce sl q Ls st) : Go p l e R s m args below meth c n0 C N Q Z a0 EL hh0 SF h ce sl pc Ls (v :: .ref a :: st) := fun T vm0 locs k0 hz hel X hS hk hC hF Nf eT => by
  subst hq
  obtain ⟨T', h', X', eT', W, hs⟩ := Jvm.RoadKit.putF X hx (wZ hZ hS) (wO hown hS) hw via eT F E L wi hty hn hf (g := mkF m pc Ls (v :: .ref a :: st)) rfl rfl hd
  obtain ⟨s₂, v', L', S, r⟩ := G h' W T' vm0 _ k0 hz hel X' hS (by rw [W.size]; exact hk) (hC.trans (CHr.wr W (hF a hsf).2 hC.1)) (sf_wr hC.1 W hsf hF) (Fr.snoc X' Nf ha) eT'
  exact ⟨s₂, v', L', hs _ S, r⟩
theorem Go.newO (hx : p.tables.exec = Jvm.exec) (hZ : Z.Warmed39 s.vm) {own C' : String} {index n ce' sl' : Nat} (hown : s.vm.findClass own = some m.cls) (w1 : (Cond.classLink own index C').before a0 Z = true) (wi : (Cond.instantiable C' n).before a0 Z = true) (wz : (Cond.initialized C').before a0 Z = true) (hd : decode c.code pc = .ok (.new index, 3)) (hq : q = pc + 3) (hce : ce + 1 = ce') (hsl : sl + n = sl') (hc : ce' ≤ R.cells) (hl : sl' ≤ R.slots)
    (G : ∀ (h' : Heap) (a : Addr), a = h.size → Ext h h' → Exa Z h' a C' → (∀ {O nm d : String} {ty : FieldType}, Laid Z a0 C' O nm d → parseFieldDescriptor d = some ty → Fld Z h' a O nm d (defaultValue ty)) → Go p l e R s m args below meth c n0 C N Q Z a0 EL hh0 (a :: SF) h' ce' sl' q Ls (.ref a :: st)) : Go p l e R s m args below meth c n0 C N Q Z a0 EL hh0 SF h ce sl pc Ls st := fun T vm0 locs k0 hz hel X hS hk hC hF Nf eT => by
  subst hq hce hsl
  obtain ⟨T', h', X', eT', E, A, D, -, hs⟩ := Jvm.RoadKit.newO X hx (wZ hZ hS) (wO hown hS) w1 wi wz eT (g := mkF m pc Ls st) rfl hd hc hl
  obtain ⟨s₂, v', L', S, r⟩ := G h' _ rfl E A D T' vm0 _ k0 hz hel X' hS (Nat.le_trans hk E.1) (hC.trans (CHr.ext E hC.1)) (sf_ext hC.1 E hF rfl A.lt) Nf eT'
  exact ⟨s₂, v', L', hs _ S, r⟩
theorem Go.newP (hx : p.tables.exec = Jvm.exec) (hZ : Z.Warmed39 s.vm) {aty : ArrayType} {cap ce' sl' : Nat} (wa : (Cond.arrayClass (newarray.typeOf aty)).before a0 Z = true) {n : Int32} (hn : ¬ n < 0) (hcap : n.toNatClampNeg ≤ cap) (hd : decode c.code pc = .ok (.newarray aty, 2)) (hq : q = pc + 2) (hb : cap * 8 ≤ 536870912) (hce : ce + 1 = ce') (hsl : sl + cap = sl') (hc : ce' ≤ R.cells) (hl : sl' ≤ R.slots)
    (G : ∀ (h' : Heap) (a : Addr) (k : ClassId), a = h.size → Ext h h' → Arv Z h' a k (newarray.typeOf aty) n [] (defaultValue (newarray.typeOf aty)) → Go p l e R s m args below meth c n0 C N Q Z a0 EL hh0 (a :: SF) h' ce' sl' q Ls (.ref a :: st)) : Go p l e R s m args below meth c n0 C N Q Z a0 EL hh0 SF h ce sl pc Ls (.int n :: st) := fun T vm0 locs k0 hz hel X hS hk hC hF Nf eT => by
  subst hq hce hsl
  obtain ⟨T', h', k, X', eT', E, A, hs⟩ := Jvm.RoadKit.newP X hx (wZ hZ hS) wa eT (g := mkF m pc Ls (.int n :: st)) rfl hd rfl hn hcap hb hc hl
  obtain ⟨s₂, v', L', S, r⟩ := G h' _ k rfl E (Arv.new A hn) T' vm0 _ k0 hz hel X' hS (Nat.le_trans hk E.1) (hC.trans (CHr.ext E hC.1)) (sf_ext hC.1 E hF rfl A.lt) Nf eT'
  exact ⟨s₂, v', L', hs _ S, r⟩
theorem Go.newR (hx : p.tables.exec = Jvm.exec) (hZ : Z.Warmed39 s.vm) {own C' : String} {index cap ce' sl' : Nat} (hown : s.vm.findClass own = some m.cls) (w1 : (Cond.classLink own index C').before a0 Z = true) (w2 : (Cond.arrayOver (.object C')).before a0 Z = true) {n : Int32} (hn : ¬ n < 0) (hcap : n.toNatClampNeg ≤ cap) (hd : decode c.code pc = .ok (.anewarray index, 3)) (hq : q = pc + 3) (hb : cap * 8 ≤ 536870912) (hce : ce + 1 = ce') (hsl : sl + cap = sl') (hc : ce' ≤ R.cells) (hl : sl' ≤ R.slots)
    (G : ∀ (h' : Heap) (a : Addr) (k : ClassId), a = h.size → Ext h h' → Arv Z h' a k (.object C') n [] .null → Ovr Z k C' → Go p l e R s m args below meth c n0 C N Q Z a0 EL hh0 (a :: SF) h' ce' sl' q Ls (.ref a :: st)) : Go p l e R s m args below meth c n0 C N Q Z a0 EL hh0 SF h ce sl pc Ls (.int n :: st) := fun T vm0 locs k0 hz hel X hS hk hC hF Nf eT => by
  subst hq hce hsl
  obtain ⟨T', h', k, X', eT', E, A, O, hs⟩ := Jvm.RoadKit.newR X hx (wZ hZ hS) (wO hown hS) w1 w2 eT (g := mkF m pc Ls (.int n :: st)) rfl hd rfl hn hcap hb hc hl
  obtain ⟨s₂, v', L', S, r⟩ := G h' _ k rfl E (Arv.new A hn) O T' vm0 _ k0 hz hel X' hS (Nat.le_trans hk E.1) (hC.trans (CHr.ext E hC.1)) (sf_ext hC.1 E hF rfl A.lt) Nf eT'
  exact ⟨s₂, v', L', hs _ S, r⟩
theorem Go.initO (hx : p.tables.exec = Jvm.exec) (hZ : Z.Warmed39 s.vm) {own : String} {idx : Nat} (hown : s.vm.findClass own = some m.cls) (w1 : (Cond.methodLink own idx Lib.objectInit).before a0 Z = true) (w2 : (Cond.instanceMethod Lib.objectInit).before a0 Z = true) (w3 : (Cond.code Lib.objectInit ⟨#[0xb1]⟩ 1 none).before a0 Z = true) (hsize : Ls.size = c.maxLocals) {a : Addr} (hd : decode c.code pc = .ok (.invokespecial idx, 3)) (hq : q = pc + 3) (hf : 1 ≤ R.frames) (hl : (st.map fun v => v.category).sum + 12 ≤ R.locals) (G : Go p l e R s m args below meth c n0 C N Q Z a0 EL hh0 SF h ce sl q Ls st) : Go p l e R s m args below meth c n0 C N Q Z a0 EL hh0 SF h ce sl pc Ls (.ref a :: st) := by
  subst hq
  exact Go.law (fun T vm0 k0 locs X hS eT => Jvm.RoadKit.initO X hx (wZ hZ hS) (wO hown hS) w1 w2 w3 eT (g := mkF m pc Ls (.ref a :: st)) rfl hsize rfl hd hf (W := (st.map fun v => v.category).sum) (by show 2 * 0 + _ ≤ _; omega) hl) G
theorem Go.castY (hx : p.tables.exec = Jvm.exec) (hZ : Z.Warmed39 s.vm) {own K : String} {index : Nat} (hown : s.vm.findClass own = some m.cls) (w1 : (Cond.classLink own index K).before a0 Z = true) {a : Addr} (F : Ins Z h a K true) (hd : decode c.code pc = .ok (.checkcast index, 3)) (hq : q = pc + 3) (G : Go p l e R s m args below meth c n0 C N Q Z a0 EL hh0 SF h ce sl q Ls (.ref a :: st)) : Go p l e R s m args below meth c n0 C N Q Z a0 EL hh0 SF h ce sl pc Ls (.ref a :: st) := by
  subst hq
  exact Go.law (fun T vm0 k0 locs X hS eT => Jvm.RoadKit.castY X hx (wZ hZ hS) (wO hown hS) w1 eT F (g := mkF m pc Ls (.ref a :: st)) rfl rfl hd) G
theorem Go.instY (hx : p.tables.exec = Jvm.exec) (hZ : Z.Warmed39 s.vm) {own K : String} {index : Nat} (hown : s.vm.findClass own = some m.cls) (w1 : (Cond.classLink own index K).before a0 Z = true) {a : Addr} (F : Ins Z h a K true) (hd : decode c.code pc = .ok (.instanceof index, 3)) (hq : q = pc + 3) (G : Go p l e R s m args below meth c n0 C N Q Z a0 EL hh0 SF h ce sl q Ls (.int 1 :: st)) : Go p l e R s m args below meth c n0 C N Q Z a0 EL hh0 SF h ce sl pc Ls (.ref a :: st) := by
  subst hq
  exact Go.law (fun T vm0 k0 locs X hS eT => Jvm.RoadKit.instY X hx (wZ hZ hS) (wO hown hS) w1 eT F (g := mkF m pc Ls (.ref a :: st)) rfl rfl hd) G
theorem Go.alen (hx : p.tables.exec = Jvm.exec) (hZ : Z.Warmed39 s.vm) {a : Addr} {k : ClassId} {ty : FieldType} {n : Int32} {vs : List Value} {dv : Value} (A : Arv Z h a k ty n vs dv) (hd : decode c.code pc = .ok (.arraylength, 1)) (hq : q = pc + 1) (G : Go p l e R s m args below meth c n0 C N Q Z a0 EL hh0 SF h ce sl q Ls (.int n :: st)) : Go p l e R s m args below meth c n0 C N Q Z a0 EL hh0 SF h ce sl pc Ls (.ref a :: st) := by
  subst hq
  obtain ⟨cl, Ar, q1, S1, N1, H1, F1⟩ := A
  refine Go.step (fun T vm0 k0 locs target X hS eT S => X.arraylength hx (by rw [eT]; exact Ar.1) (State.isArrayOf_alike (wZ hZ hS).alike Ar.2.1) (g := mkF m pc Ls (.ref a :: st)) rfl rfl hd target ?_) G
  rw [len_of S1 N1]; exact S
theorem Go.baload (hx : p.tables.exec = Jvm.exec) (hZ : Z.Warmed39 s.vm) {a : Addr} {k : ClassId} {n j : Int32} {vs : List Value} {dv v : Value} (A : Arv Z h a k .byte n vs dv) (hj : ¬ j < 0 ∧ j < n) (hv : vs.getD j.toNatClampNeg dv = v) (hd : decode c.code pc = .ok (.baload, 1)) (hq : q = pc + 1) (G : Go p l e R s m args below meth c n0 C N Q Z a0 EL hh0 SF h ce sl q Ls (v :: st)) : Go p l e R s m args below meth c n0 C N Q Z a0 EL hh0 SF h ce sl pc Ls (.int j :: .ref a :: st) := by
  subst hq
  obtain ⟨cl, Ar, q1, S1, N1, H1, F1⟩ := A
  exact Go.step (fun T vm0 k0 locs target X hS eT S => X.baloadBytes hx (by rw [eT]; exact Ar.1) (State.isArrayOf_alike (wZ hZ hS).alike Ar.2.1) Ar.2.2 (inb_of S1 hj) (H1.at (inb_of S1 hj) hv) (g := mkF m pc Ls (.int j :: .ref a :: st)) rfl rfl hd target S) G
theorem Go.zaload (hx : p.tables.exec = Jvm.exec) (hZ : Z.Warmed39 s.vm) {a : Addr} {k : ClassId} {n j : Int32} {vs : List Value} {dv v : Value} (A : Arv Z h a k .boolean n vs dv) (hj : ¬ j < 0 ∧ j < n) (hv : vs.getD j.toNatClampNeg dv = v) (hd : decode c.code pc = .ok (.baload, 1)) (hq : q = pc + 1) (G : Go p l e R s m args below meth c n0 C N Q Z a0 EL hh0 SF h ce sl q Ls (v :: st)) : Go p l e R s m args below meth c n0 C N Q Z a0 EL hh0 SF h ce sl pc Ls (.int j :: .ref a :: st) := by
  subst hq
  obtain ⟨cl, Ar, q1, S1, N1, H1, F1⟩ := A
  exact Go.step (fun T vm0 k0 locs target X hS eT S => X.baloadBooleans hx (by rw [eT]; exact Ar.1) (State.isArrayOf_alike (wZ hZ hS).alike Ar.2.1) Ar.2.2 (inb_of S1 hj) (H1.at (inb_of S1 hj) hv) (g := mkF m pc Ls (.int j :: .ref a :: st)) rfl rfl hd target S) G
theorem Go.caload (hx : p.tables.exec = Jvm.exec) (hZ : Z.Warmed39 s.vm) {a : Addr} {k : ClassId} {n j : Int32} {vs : List Value} {dv v : Value} (A : Arv Z h a k .char n vs dv) (hj : ¬ j < 0 ∧ j < n) (hv : vs.getD j.toNatClampNeg dv = v) (hd : decode c.code pc = .ok (.caload, 1)) (hq : q = pc + 1) (G : Go p l e R s m args below meth c n0 C N Q Z a0 EL hh0 SF h ce sl q Ls (v :: st)) : Go p l e R s m args below meth c n0 C N Q Z a0 EL hh0 SF h ce sl pc Ls (.int j :: .ref a :: st) := by
  subst hq
  obtain ⟨cl, Ar, q1, S1, N1, H1, F1⟩ := A
  exact Go.step (fun T vm0 k0 locs target X hS eT S => X.caload hx (by rw [eT]; exact Ar.1) (State.isArrayOf_alike (wZ hZ hS).alike Ar.2.1) Ar.2.2 (inb_of S1 hj) (H1.at (inb_of S1 hj) hv) (g := mkF m pc Ls (.int j :: .ref a :: st)) rfl rfl hd target S) G
theorem Go.saload (hx : p.tables.exec = Jvm.exec) (hZ : Z.Warmed39 s.vm) {a : Addr} {k : ClassId} {n j : Int32} {vs : List Value} {dv v : Value} (A : Arv Z h a k .short n vs dv) (hj : ¬ j < 0 ∧ j < n) (hv : vs.getD j.toNatClampNeg dv = v) (hd : decode c.code pc = .ok (.saload, 1)) (hq : q = pc + 1) (G : Go p l e R s m args below meth c n0 C N Q Z a0 EL hh0 SF h ce sl q Ls (v :: st)) : Go p l e R s m args below meth c n0 C N Q Z a0 EL hh0 SF h ce sl pc Ls (.int j :: .ref a :: st) := by
  subst hq
  obtain ⟨cl, Ar, q1, S1, N1, H1, F1⟩ := A
  exact Go.step (fun T vm0 k0 locs target X hS eT S => X.saload hx (by rw [eT]; exact Ar.1) (State.isArrayOf_alike (wZ hZ hS).alike Ar.2.1) Ar.2.2 (inb_of S1 hj) (H1.at (inb_of S1 hj) hv) (g := mkF m pc Ls (.int j :: .ref a :: st)) rfl rfl hd target S) G
theorem Go.iaload (hx : p.tables.exec = Jvm.exec) (hZ : Z.Warmed39 s.vm) {a : Addr} {k : ClassId} {n j : Int32} {vs : List Value} {dv v : Value} (A : Arv Z h a k .int n vs dv) (hj : ¬ j < 0 ∧ j < n) (hv : vs.getD j.toNatClampNeg dv = v) (hd : decode c.code pc = .ok (.iaload, 1)) (hq : q = pc + 1) (G : Go p l e R s m args below meth c n0 C N Q Z a0 EL hh0 SF h ce sl q Ls (v :: st)) : Go p l e R s m args below meth c n0 C N Q Z a0 EL hh0 SF h ce sl pc Ls (.int j :: .ref a :: st) := by
  subst hq
  obtain ⟨cl, Ar, q1, S1, N1, H1, F1⟩ := A
  exact Go.step (fun T vm0 k0 locs target X hS eT S => X.iaload hx (by rw [eT]; exact Ar.1) (State.isArrayOf_alike (wZ hZ hS).alike Ar.2.1) Ar.2.2 (inb_of S1 hj) (H1.at (inb_of S1 hj) hv) (g := mkF m pc Ls (.int j :: .ref a :: st)) rfl rfl hd target S) G
theorem Go.laload (hx : p.tables.exec = Jvm.exec) (hZ : Z.Warmed39 s.vm) {a : Addr} {k : ClassId} {n j : Int32} {vs : List Value} {dv v : Value} (A : Arv Z h a k .long n vs dv) (hj : ¬ j < 0 ∧ j < n) (hv : vs.getD j.toNatClampNeg dv = v) (hd : decode c.code pc = .ok (.laload, 1)) (hq : q = pc + 1) (G : Go p l e R s m args below meth c n0 C N Q Z a0 EL hh0 SF h ce sl q Ls (v :: st)) : Go p l e R s m args below meth c n0 C N Q Z a0 EL hh0 SF h ce sl pc Ls (.int j :: .ref a :: st) := by
  subst hq
  obtain ⟨cl, Ar, q1, S1, N1, H1, F1⟩ := A
  exact Go.step (fun T vm0 k0 locs target X hS eT S => X.laload hx (by rw [eT]; exact Ar.1) (State.isArrayOf_alike (wZ hZ hS).alike Ar.2.1) Ar.2.2 (inb_of S1 hj) (H1.at (inb_of S1 hj) hv) (g := mkF m pc Ls (.int j :: .ref a :: st)) rfl rfl hd target S) G
theorem Go.aaload (hx : p.tables.exec = Jvm.exec) (hZ : Z.Warmed39 s.vm) {a : Addr} {k : ClassId} {ty : FieldType} {n j : Int32} {vs : List Value} {dv v : Value} (A : Arv Z h a k ty n vs dv) (hty : ty.isReference = true) (hj : ¬ j < 0 ∧ j < n) (hv : vs.getD j.toNatClampNeg dv = v) (hd : decode c.code pc = .ok (.aaload, 1)) (hq : q = pc + 1) (G : Go p l e R s m args below meth c n0 C N Q Z a0 EL hh0 SF h ce sl q Ls (v :: st)) : Go p l e R s m args below meth c n0 C N Q Z a0 EL hh0 SF h ce sl pc Ls (.int j :: .ref a :: st) := by
  subst hq
  obtain ⟨cl, Ar, q1, S1, N1, H1, F1⟩ := A
  exact Go.step (fun T vm0 k0 locs target X hS eT S => X.aaload hx (by rw [eT]; exact Ar.1) (State.isArrayOf_alike (wZ hZ hS).alike Ar.2.1) hty Ar.2.2 (inb_of S1 hj) (H1.at (inb_of S1 hj) hv) (g := mkF m pc Ls (.int j :: .ref a :: st)) rfl rfl hd target S) G
theorem Go.bastore (hx : p.tables.exec = Jvm.exec) (hZ : Z.Warmed39 s.vm) {a : Addr} {k : ClassId} {n j x : Int32} {vs : List Value} {dv : Value} (A : Arv Z h a k .byte n vs dv) (hj : ¬ j < 0 ∧ j < n) (i : Nat) (hi : j.toNatClampNeg = i) (hlen : i < vs.length) (ha : n0 ≤ a) (hsf : a ∈ SF) (hd : decode c.code pc = .ok (.bastore, 1)) (hq : q = pc + 1)
    (G : ∀ h', Wr h h' a j.toNatClampNeg (.int (nar .byte x)) → Arv Z h' a k .byte n (vs.set i (.int (nar .byte x))) dv → Go p l e R s m args below meth c n0 C N Q Z a0 EL hh0 SF h' ce sl q Ls st) : Go p l e R s m args below meth c n0 C N Q Z a0 EL hh0 SF h ce sl pc Ls (.int x :: .int j :: .ref a :: st) := fun T vm0 locs k0 hz hel X hS hk hC hF Nf eT => by
  subst hq
  obtain ⟨cl, Ar, q1, S1, N1, H1, F1⟩ := A
  obtain ⟨T', h', X', eT', W, hs⟩ := stB X hx (wZ hZ hS) eT Ar (inb_of S1 hj) (g := mkF m pc Ls (.int x :: .int j :: .ref a :: st)) rfl rfl hd
  obtain ⟨s₂, v', L', S, r⟩ := G h' W (Arv.set Ar q1 S1 N1 H1 F1 (fits_nar_byte _) W i hi hlen) T' vm0 _ k0 hz hel X' hS (by rw [W.size]; exact hk) (hC.trans (CHr.wr W (hF a hsf).2 hC.1)) (sf_wr hC.1 W hsf hF) (Fr.snoc X' Nf ha) eT'
  exact ⟨s₂, v', L', hs _ S, r⟩
theorem Go.zastore (hx : p.tables.exec = Jvm.exec) (hZ : Z.Warmed39 s.vm) {a : Addr} {k : ClassId} {n j x : Int32} {vs : List Value} {dv : Value} (A : Arv Z h a k .boolean n vs dv) (hj : ¬ j < 0 ∧ j < n) (i : Nat) (hi : j.toNatClampNeg = i) (hlen : i < vs.length) (ha : n0 ≤ a) (hsf : a ∈ SF) (hd : decode c.code pc = .ok (.bastore, 1)) (hq : q = pc + 1)
    (G : ∀ h', Wr h h' a j.toNatClampNeg (.int (nar .boolean x)) → Arv Z h' a k .boolean n (vs.set i (.int (nar .boolean x))) dv → Go p l e R s m args below meth c n0 C N Q Z a0 EL hh0 SF h' ce sl q Ls st) : Go p l e R s m args below meth c n0 C N Q Z a0 EL hh0 SF h ce sl pc Ls (.int x :: .int j :: .ref a :: st) := fun T vm0 locs k0 hz hel X hS hk hC hF Nf eT => by
  subst hq
  obtain ⟨cl, Ar, q1, S1, N1, H1, F1⟩ := A
  obtain ⟨T', h', X', eT', W, hs⟩ := stZ X hx (wZ hZ hS) eT Ar (inb_of S1 hj) (g := mkF m pc Ls (.int x :: .int j :: .ref a :: st)) rfl rfl hd
  obtain ⟨s₂, v', L', S, r⟩ := G h' W (Arv.set Ar q1 S1 N1 H1 F1 (fits_nar_bool _) W i hi hlen) T' vm0 _ k0 hz hel X' hS (by rw [W.size]; exact hk) (hC.trans (CHr.wr W (hF a hsf).2 hC.1)) (sf_wr hC.1 W hsf hF) (Fr.snoc X' Nf ha) eT'
  exact ⟨s₂, v', L', hs _ S, r⟩
theorem Go.castore (hx : p.tables.exec = Jvm.exec) (hZ : Z.Warmed39 s.vm) {a : Addr} {k : ClassId} {n j x : Int32} {vs : List Value} {dv : Value} (A : Arv Z h a k .char n vs dv) (hj : ¬ j < 0 ∧ j < n) (i : Nat) (hi : j.toNatClampNeg = i) (hlen : i < vs.length) (ha : n0 ≤ a) (hsf : a ∈ SF) (hd : decode c.code pc = .ok (.castore, 1)) (hq : q = pc + 1)
    (G : ∀ h', Wr h h' a j.toNatClampNeg (.int (nar .char x)) → Arv Z h' a k .char n (vs.set i (.int (nar .char x))) dv → Go p l e R s m args below meth c n0 C N Q Z a0 EL hh0 SF h' ce sl q Ls st) : Go p l e R s m args below meth c n0 C N Q Z a0 EL hh0 SF h ce sl pc Ls (.int x :: .int j :: .ref a :: st) := fun T vm0 locs k0 hz hel X hS hk hC hF Nf eT => by
  subst hq
  obtain ⟨cl, Ar, q1, S1, N1, H1, F1⟩ := A
  obtain ⟨T', h', X', eT', W, hs⟩ := stC X hx (wZ hZ hS) eT Ar (inb_of S1 hj) (g := mkF m pc Ls (.int x :: .int j :: .ref a :: st)) rfl rfl hd
  obtain ⟨s₂, v', L', S, r⟩ := G h' W (Arv.set Ar q1 S1 N1 H1 F1 (fits_nar_char _) W i hi hlen) T' vm0 _ k0 hz hel X' hS (by rw [W.size]; exact hk) (hC.trans (CHr.wr W (hF a hsf).2 hC.1)) (sf_wr hC.1 W hsf hF) (Fr.snoc X' Nf ha) eT'
  exact ⟨s₂, v', L', hs _ S, r⟩
theorem Go.sastore (hx : p.tables.exec = Jvm.exec) (hZ : Z.Warmed39 s.vm) {a : Addr} {k : ClassId} {n j x : Int32} {vs : List Value} {dv : Value} (A : Arv Z h a k .short n vs dv) (hj : ¬ j < 0 ∧ j < n) (i : Nat) (hi : j.toNatClampNeg = i) (hlen : i < vs.length) (ha : n0 ≤ a) (hsf : a ∈ SF) (hd : decode c.code pc = .ok (.sastore, 1)) (hq : q = pc + 1)
    (G : ∀ h', Wr h h' a j.toNatClampNeg (.int (nar .short x)) → Arv Z h' a k .short n (vs.set i (.int (nar .short x))) dv → Go p l e R s m args below meth c n0 C N Q Z a0 EL hh0 SF h' ce sl q Ls st) : Go p l e R s m args below meth c n0 C N Q Z a0 EL hh0 SF h ce sl pc Ls (.int x :: .int j :: .ref a :: st) := fun T vm0 locs k0 hz hel X hS hk hC hF Nf eT => by
  subst hq
  obtain ⟨cl, Ar, q1, S1, N1, H1, F1⟩ := A
  obtain ⟨T', h', X', eT', W, hs⟩ := stS X hx (wZ hZ hS) eT Ar (inb_of S1 hj) (g := mkF m pc Ls (.int x :: .int j :: .ref a :: st)) rfl rfl hd
  obtain ⟨s₂, v', L', S, r⟩ := G h' W (Arv.set Ar q1 S1 N1 H1 F1 (fits_nar_short _) W i hi hlen) T' vm0 _ k0 hz hel X' hS (by rw [W.size]; exact hk) (hC.trans (CHr.wr W (hF a hsf).2 hC.1)) (sf_wr hC.1 W hsf hF) (Fr.snoc X' Nf ha) eT'
  exact ⟨s₂, v', L', hs _ S, r⟩
theorem Go.iastore (hx : p.tables.exec = Jvm.exec) (hZ : Z.Warmed39 s.vm) {a : Addr} {k : ClassId} {n j x : Int32} {vs : List Value} {dv : Value} (A : Arv Z h a k .int n vs dv) (hj : ¬ j < 0 ∧ j < n) (i : Nat) (hi : j.toNatClampNeg = i) (hlen : i < vs.length) (ha : n0 ≤ a) (hsf : a ∈ SF) (hd : decode c.code pc = .ok (.iastore, 1)) (hq : q = pc + 1)
    (G : ∀ h', Wr h h' a j.toNatClampNeg (.int x) → Arv Z h' a k .int n (vs.set i (.int x)) dv → Go p l e R s m args below meth c n0 C N Q Z a0 EL hh0 SF h' ce sl q Ls st) : Go p l e R s m args below meth c n0 C N Q Z a0 EL hh0 SF h ce sl pc Ls (.int x :: .int j :: .ref a :: st) := fun T vm0 locs k0 hz hel X hS hk hC hF Nf eT => by
  subst hq
  obtain ⟨cl, Ar, q1, S1, N1, H1, F1⟩ := A
  obtain ⟨T', h', X', eT', W, hs⟩ := stI X hx (wZ hZ hS) eT Ar (inb_of S1 hj) (g := mkF m pc Ls (.int x :: .int j :: .ref a :: st)) rfl rfl hd
  obtain ⟨s₂, v', L', S, r⟩ := G h' W (Arv.set Ar q1 S1 N1 H1 F1 (rfl) W i hi hlen) T' vm0 _ k0 hz hel X' hS (by rw [W.size]; exact hk) (hC.trans (CHr.wr W (hF a hsf).2 hC.1)) (sf_wr hC.1 W hsf hF) (Fr.snoc X' Nf ha) eT'
  exact ⟨s₂, v', L', hs _ S, r⟩
theorem Go.aastore (hx : p.tables.exec = Jvm.exec) (hZ : Z.Warmed39 s.vm) {a : Addr} {k : ClassId} {C' : String} {n j : Int32} {x : Value} {vs : List Value} {dv : Value} (A : Arv Z h a k (.object C') n vs dv) (F : Sto Z h a x) (hxr : x.isRef = true) (hj : ¬ j < 0 ∧ j < n) (i : Nat) (hi : j.toNatClampNeg = i) (hlen : i < vs.length) (ha : n0 ≤ a) (hsf : a ∈ SF) (hd : decode c.code pc = .ok (.aastore, 1)) (hq : q = pc + 1)
    (G : ∀ h', Wr h h' a j.toNatClampNeg x → Arv Z h' a k (.object C') n (vs.set i x) dv → Go p l e R s m args below meth c n0 C N Q Z a0 EL hh0 SF h' ce sl q Ls st) : Go p l e R s m args below meth c n0 C N Q Z a0 EL hh0 SF h ce sl pc Ls (x :: .int j :: .ref a :: st) := fun T vm0 locs k0 hz hel X hS hk hC hF Nf eT => by
  subst hq
  obtain ⟨cl, Ar, q1, S1, N1, H1, F1⟩ := A
  obtain ⟨T', h', X', eT', W, hs⟩ := stR X hx (wZ hZ hS) eT Ar (inb_of S1 hj) rfl F (g := mkF m pc Ls (x :: .int j :: .ref a :: st)) rfl rfl hd
  obtain ⟨s₂, v', L', S, r⟩ := G h' W (Arv.set Ar q1 S1 N1 H1 F1 (by rcases ref_cases hxr with rfl | ⟨y, rfl⟩ <;> rfl) W i hi hlen) T' vm0 _ k0 hz hel X' hS (by rw [W.size]; exact hk) (hC.trans (CHr.wr W (hF a hsf).2 hC.1)) (sf_wr hC.1 W hsf hF) (Fr.snoc X' Nf ha) eT'
  exact ⟨s₂, v', L', hs _ S, r⟩
theorem Go.callS (hx : p.tables.exec = Jvm.exec) (hZ : Z.Warmed39 s.vm) {own : String} {index : Nat} {y : MethodName} {bytes : ByteArray} {maxL : Nat} {rt r' : Option FieldType} {ps : List FieldType} {rm : Room} {SFc : List Addr} {Qc : Option Value → Heap → Prop} {argsL rest : List Value} {ce' sl' : Nat} (hown : s.vm.findClass own = some m.cls) (w1 : (Cond.methodLink own index y).before a0 Z = true) (w2 : (Cond.static y).before a0 Z = true) (w3 : (Cond.initialized y.cls).before a0 Z = true) (w4 : (Cond.code y bytes maxL rt).before a0 Z = true) (hy : y.cls ≠ "java/lang/invoke/MethodHandle" ∧ y.cls ≠ "java/lang/invoke/VarHandle")
    (hM : Met l Z EL SFc y bytes maxL rt [] rm argsL.toArray h n0 Qc) (hsub : ∀ x ∈ SFc, x ∈ SF) (hsize : Ls.size = c.maxLocals) (hpd : parseMethodDescriptor y.desc = some ⟨ps, r'⟩) (hlen : argsL.length = ps.length) (hst : st = argsL.reverse ++ rest) (hd : decode c.code pc = .ok (.invokestatic index, 3)) (hq : q = pc + 3) (hf : rm.frames + 1 ≤ R.frames) (hl : (rest.map fun v => v.category).sum + (maxL + 11) + rm.locals ≤ R.locals) (hce : ce + rm.cells = ce') (hsl : sl + rm.slots = sl') (hc : ce' ≤ R.cells) (hs : sl' ≤ R.slots)
    (G : ∀ (v : Option Value) (h' : Heap), Qc v h' → Go p l e R s m args below meth c n0 C N Q Z a0 EL hh0 SF h' ce' sl' q Ls (v.toList ++ rest)) : Go p l e R s m args below meth c n0 C N Q Z a0 EL hh0 SF h ce sl pc Ls st := fun T vm0 locs k0 hz hel X hS hk hC hF Nf eT => by
  subst hq hce hsl
  obtain ⟨v, _, ⟨T', L', k', n'⟩, -, X', hS', hg', ⟨Lc, ⟨hQ, hF'⟩, hl1, hl2, hl3, hC'⟩, hst'⟩ := Jvm.RoadKit.callSS X hx (wO hown hS) (mvT (wZ hZ hS) w1) (mvT (wZ hZ hS) w2) (mvT (wZ hZ hS) w3) (mvT (wZ hZ hS) w4) hy (backOfSF (W := (rest.map fun v => v.category).sum) (Q := fun v h' L => Qc v h' ∧ Fr n0 L) hM (wZ hZ hS) w4 w3 hf hl hel (fun x hx => hF x (hsub x hx)) hC.1) (g := mkF m pc Ls st) rfl hsize (argsL := argsL) (rest := rest) (lenOf hpd hlen) hst (by show 2 * 0 + _ ≤ _; omega) hd (fun _ _ => ⟨rfl, eT, hc, hs⟩)
  dsimp only [Pt.U, Pt.locs, Pt.cells, Pt.slots] at X' hl1 hl2 hl3 hst' hQ hC' hS' hg'
  subst hl1 hl2 hl3
  obtain ⟨s₂, v', L'', S, r⟩ := G v _ hQ T' T'.vm _ T'.heap.size hz hel X' (foldS hS (by rw [eT]; exact hk) hS' hg') (Nat.le_refl _) (hC.trans hC') (fun x hx => ⟨Nat.lt_of_lt_of_le (hF x hx).1 hC'.2.1, hC'.safe (hF x hx).1 (hF x hx).2⟩) (Fr.app Nf hF') rfl
  exact ⟨s₂, v', L'', hst'.trans S, r⟩
theorem Go.callI (hx : p.tables.exec = Jvm.exec) (hZ : Z.Warmed39 s.vm) {own : String} {index : Nat} {y : MethodName} {bytes : ByteArray} {maxL : Nat} {r' : Option FieldType} {ps : List FieldType} {rm : Room} {SFc : List Addr} {Qc : Option Value → Heap → Prop} {a : Addr} {argsL rest : List Value} {ce' sl' : Nat} (hown : s.vm.findClass own = some m.cls) (hnm : y.name = "<init>") (w1 : (Cond.methodLink own index y).before a0 Z = true) (w2 : (Cond.instanceMethod y).before a0 Z = true) (w3 : (Cond.initialized y.cls).before a0 Z = true) (w4 : (Cond.code y bytes maxL none).before a0 Z = true) (hy : y.cls ≠ "java/lang/invoke/MethodHandle" ∧ y.cls ≠ "java/lang/invoke/VarHandle")
    (hM : Met l Z EL SFc y bytes maxL none [] rm (.ref a :: argsL).toArray h n0 Qc) (hsub : ∀ x ∈ SFc, x ∈ SF) (hsize : Ls.size = c.maxLocals) (hpd : parseMethodDescriptor y.desc = some ⟨ps, r'⟩) (hlen : argsL.length = ps.length) (hst : st = argsL.reverse ++ .ref a :: rest) (hd : decode c.code pc = .ok (.invokespecial index, 3)) (hq : q = pc + 3) (hf : rm.frames + 1 ≤ R.frames) (hl : (rest.map fun v => v.category).sum + (maxL + 11) + rm.locals ≤ R.locals) (hce : ce + rm.cells = ce') (hsl : sl + rm.slots = sl') (hc : ce' ≤ R.cells) (hs : sl' ≤ R.slots)
    (G : ∀ (v : Option Value) (h' : Heap), Qc v h' → Go p l e R s m args below meth c n0 C N Q Z a0 EL hh0 SF h' ce' sl' q Ls (v.toList ++ rest)) : Go p l e R s m args below meth c n0 C N Q Z a0 EL hh0 SF h ce sl pc Ls st := fun T vm0 locs k0 hz hel X hS hk hC hF Nf eT => by
  subst hq hce hsl
  obtain ⟨v, _, ⟨T', L', k', n'⟩, -, X', hS', hg', ⟨Lc, ⟨hQ, hF'⟩, hl1, hl2, hl3, hC'⟩, hst'⟩ := X.specialBackS hx hnm (wO hown hS) (mvT (wZ hZ hS) w1) (mvT (wZ hZ hS) w2) (mvT (wZ hZ hS) w4) hy (backOfSF (W := (rest.map fun v => v.category).sum) (Q := fun v h' L => Qc v h' ∧ Fr n0 L) hM (wZ hZ hS) w4 w3 hf hl hel (fun x hx => hF x (hsub x hx)) hC.1) (g := mkF m pc Ls st) rfl hsize (Steps.refl _) (a := a) (argsL := argsL) (rest := rest) (lenOf hpd hlen) hst (by show 2 * 0 + _ ≤ _; omega) hd (fun _ _ => ⟨rfl, eT, hc, hs⟩)
  dsimp only [Pt.U, Pt.locs, Pt.cells, Pt.slots] at X' hl1 hl2 hl3 hst' hQ hC' hS' hg'
  subst hl1 hl2 hl3
  obtain ⟨s₂, v', L'', S, r⟩ := G v _ hQ T' T'.vm _ T'.heap.size hz hel X' (foldS hS (by rw [eT]; exact hk) hS' hg') (Nat.le_refl _) (hC.trans hC') (fun x hx => ⟨Nat.lt_of_lt_of_le (hF x hx).1 hC'.2.1, hC'.safe (hF x hx).1 (hF x hx).2⟩) (Fr.app Nf hF') rfl
  exact ⟨s₂, v', L'', hst'.trans S, r⟩
theorem Go.callV (hx : p.tables.exec = Jvm.exec) (hZ : Z.Warmed39 s.vm) {own C' : String} {index : Nat} {y z : MethodName} {bytes : ByteArray} {maxL : Nat} {rt r' : Option FieldType} {ps : List FieldType} {rm : Room} {SFc : List Addr} {Qc : Option Value → Heap → Prop} {a : Addr} {argsL rest : List Value} {ce' sl' : Nat} (hown : s.vm.findClass own = some m.cls) (w1 : (Cond.methodLink own index y).before a0 Z = true) (w2 : (Cond.declares y).before a0 Z = true) (hnf : ∀ vm : Vm, Z.Warmed39 (s.setVm vm).vm → NotFace (s.setVm vm) y) (w5 : (Cond.selects C' y z).before a0 Z = true) (w6 : (Cond.instanceMethod z).before a0 Z = true) (w3 : (Cond.initialized z.cls).before a0 Z = true) (w4 : (Cond.code z bytes maxL rt).before a0 Z = true) (hy : y.cls ≠ "java/lang/invoke/MethodHandle" ∧ y.cls ≠ "java/lang/invoke/VarHandle")
    (E : Exa Z h a C') (hM : Met l Z EL SFc z bytes maxL rt [] rm (.ref a :: argsL).toArray h n0 Qc) (hsub : ∀ x ∈ SFc, x ∈ SF) (hsize : Ls.size = c.maxLocals) (hpd : parseMethodDescriptor y.desc = some ⟨ps, r'⟩) (hlen : argsL.length = ps.length) (hst : st = argsL.reverse ++ .ref a :: rest) (hd : decode c.code pc = .ok (.invokevirtual index, 3)) (hq : q = pc + 3) (hf : rm.frames + 1 ≤ R.frames) (hl : (rest.map fun v => v.category).sum + (maxL + 11) + rm.locals ≤ R.locals) (hce : ce + rm.cells = ce') (hsl : sl + rm.slots = sl') (hc : ce' ≤ R.cells) (hs : sl' ≤ R.slots)
    (G : ∀ (v : Option Value) (h' : Heap), Qc v h' → Go p l e R s m args below meth c n0 C N Q Z a0 EL hh0 SF h' ce' sl' q Ls (v.toList ++ rest)) : Go p l e R s m args below meth c n0 C N Q Z a0 EL hh0 SF h ce sl pc Ls st := fun T vm0 locs k0 hz hel X hS hk hC hF Nf eT => by
  subst hq hce hsl
  obtain ⟨cB, kB, qa, qb, qc⟩ := isOf (wZ hZ hS) eT E
  obtain ⟨v, _, ⟨T', L', k', n'⟩, -, X', hS', hg', ⟨Lc, ⟨hQ, hF'⟩, hl1, hl2, hl3, hC'⟩, hst'⟩ := X.virtualBackS hx (wO hown hS) (mvT (wZ hZ hS) w1) (mvT (wZ hZ hS) w2) (hnf vm0 (wZ hZ hS)) (mvT (wZ hZ hS) w5) (mvT (wZ hZ hS) w6) hy (backOfSF (W := (rest.map fun v => v.category).sum) (Q := fun v h' L => Qc v h' ∧ Fr n0 L) hM (wZ hZ hS) w4 w3 hf hl hel (fun x hx => hF x (hsub x hx)) hC.1) qa qc (g := mkF m pc Ls st) rfl hsize (Steps.refl _) (argsL := argsL) (rest := rest) (lenOf hpd hlen) hst (by show 2 * 0 + _ ≤ _; omega) hd (fun _ _ => ⟨rfl, eT, hc, hs⟩)
  dsimp only [Pt.U, Pt.locs, Pt.cells, Pt.slots] at X' hl1 hl2 hl3 hst' hQ hC' hS' hg'
  subst hl1 hl2 hl3
  obtain ⟨s₂, v', L'', S, r⟩ := G v _ hQ T' T'.vm _ T'.heap.size hz hel X' (foldS hS (by rw [eT]; exact hk) hS' hg') (Nat.le_refl _) (hC.trans hC') (fun x hx => ⟨Nat.lt_of_lt_of_le (hF x hx).1 hC'.2.1, hC'.safe (hF x hx).1 (hF x hx).2⟩) (Fr.app Nf hF') rfl
  exact ⟨s₂, v', L'', hst'.trans S, r⟩
theorem Go.instNull (hx : p.tables.exec = Jvm.exec) {index : Nat} (hd : decode c.code pc = .ok (.instanceof index, 3)) (hq : q = pc + 3) (G : Go p l e R s m args below meth c n0 C N Q Z a0 EL hh0 SF h ce sl q Ls (.int 0 :: st)) : Go p l e R s m args below meth c n0 C N Q Z a0 EL hh0 SF h ce sl pc Ls (.null :: st) := by
  subst hq
  exact Go.step (fun T vm0 k0 locs target X hS eT S => X.instanceofNull hx (g := mkF m pc Ls (.null :: st)) rfl rfl hd target S) G
theorem Go.castNull (hx : p.tables.exec = Jvm.exec) {index : Nat} (hd : decode c.code pc = .ok (.checkcast index, 3)) (hq : q = pc + 3) (G : Go p l e R s m args below meth c n0 C N Q Z a0 EL hh0 SF h ce sl q Ls (.null :: st)) : Go p l e R s m args below meth c n0 C N Q Z a0 EL hh0 SF h ce sl pc Ls (.null :: st) := by
  subst hq
  exact Go.step (fun T vm0 k0 locs target X hS eT S => X.checkcastNull hx (g := mkF m pc Ls (.null :: st)) rfl rfl hd target S) G
theorem Go.instNo (hx : p.tables.exec = Jvm.exec) (hZ : Z.Warmed39 s.vm) {own K C' : String} {index : Nat} (hown : s.vm.findClass own = some m.cls) (w1 : (Cond.classLink own index K).before a0 Z = true) {a : Addr} (E : Exa Z h a C') (F : ∃ c t, Z.vm.findClass C' = some c ∧ Z.vm.findClass K = some t ∧ Z.vm.assignable c t = false) (hd : decode c.code pc = .ok (.instanceof index, 3)) (hq : q = pc + 3) (G : Go p l e R s m args below meth c n0 C N Q Z a0 EL hh0 SF h ce sl q Ls (.int 0 :: st)) : Go p l e R s m args below meth c n0 C N Q Z a0 EL hh0 SF h ce sl pc Ls (.ref a :: st) := by
  subst hq
  exact Go.law (fun T vm0 k0 locs X hS eT => Jvm.RoadKit.instNo X hx (wZ hZ hS) (wO hown hS) w1 eT E F (g := mkF m pc Ls (.ref a :: st)) rfl rfl hd) G
theorem Go.aaloadC (hx : p.tables.exec = Jvm.exec) (hZ : Z.Warmed39 s.vm) {a : Addr} {cl : Cell} {ty : FieldType} {j : Int32} {v : Value} (A : Arr Z h a cl ty) (hty : ty.isReference = true) (hj : ¬ (j < 0 ∨ cl.slots.size ≤ j.toNatClampNeg)) (hv : cl.slots[j.toNatClampNeg]? = some v) (hd : decode c.code pc = .ok (.aaload, 1)) (hq : q = pc + 1) (G : Go p l e R s m args below meth c n0 C N Q Z a0 EL hh0 SF h ce sl q Ls (v :: st)) : Go p l e R s m args below meth c n0 C N Q Z a0 EL hh0 SF h ce sl pc Ls (.int j :: .ref a :: st) := by
  subst hq
  exact Go.step (fun T vm0 k0 locs target X hS eT S => X.aaload hx (by rw [eT]; exact A.1) (State.isArrayOf_alike (wZ hZ hS).alike A.2.1) hty A.2.2 hj hv (g := mkF m pc Ls (.int j :: .ref a :: st)) rfl rfl hd target S) G
theorem sto_of {a y : Addr} {k : ClassId} {C' : String} {n : Int32} {vs : List Value} {dv : Value} (A : Arv Z h a k (.object C') n vs dv) (O : Ovr Z k C') (I : Ins Z h y C' true) : Sto Z h a (.ref y) := by
  obtain ⟨cl, Ar, q1, -⟩ := A
  exact Sto.ofV Ar q1 O I
theorem cat_ref {v : Value} (hv : v.isRef = true) : v.category = 1 := by rcases ref_cases hv with rfl | ⟨x, rfl⟩ <;> rfl
theorem nar_ref {v : Value} {t : FieldType} (hv : v.isRef = true) (ht : t.isReference = true) : narrow t v = v := by rcases ref_cases hv with rfl | ⟨x, rfl⟩ <;> cases t <;> rfl
theorem fits_of_ref {v : Value} {t : FieldType} (hv : v.isRef = true) (ht : t.isReference = true) : fits t v = true := by rcases ref_cases hv with rfl | ⟨x, rfl⟩ <;> cases t <;> first | rfl | cases ht
theorem cmpL_gt (x y : Int64) : (0 : Int32) < XT.cmpL x y ↔ y < x := by
  unfold XT.cmpL; split <;> (try split) <;> simp_all <;> decide
theorem cmpL_lt (x y : Int64) : XT.cmpL x y < (0 : Int32) ↔ x < y := by
  unfold XT.cmpL; split <;> (try split) <;> simp_all [Int64.lt_iff_toInt_lt, ← Int64.toInt_inj, Int32.lt_iff_toInt_lt] <;> omega
theorem cmpL_eq (x y : Int64) : XT.cmpL x y = (0 : Int32) ↔ x = y := by
  unfold XT.cmpL; split <;> (try split) <;> simp_all [Int64.lt_iff_toInt_lt, ← Int64.toInt_inj] <;> omega
theorem ns_root {K O : String} {kn : Nat} (w1 : (Cond.noSuperclass O).before a0 Z = true) (wk : (Cond.instantiable K kn).before a0 Z = true) (hn : O ≠ K) : NS Z O K := by
  obtain ⟨c, k, h1, h2, h3, -, -⟩ := Cond.noSuperclass_spec w1
  obtain ⟨t, kt, g1, -⟩ := Cond.instantiable_spec wk
  have ne := ids_ne h1 g1 hn
  refine ⟨c, t, h1, g1, fun fuel => ?_⟩
  cases fuel with
  | zero => rfl
  | succ f => simp [Vm.isSubclassAux, ne, h2, h3]
theorem ns_no {C' S K : String} {kn : Nat} (w1 : (Cond.superclass C' S).before a0 Z = true) (wk : (Cond.instantiable K kn).before a0 Z = true) (nn : NS Z C' K) (hn : C' ≠ K) : ∃ c t, Z.vm.findClass C' = some c ∧ Z.vm.findClass K = some t ∧ Z.vm.assignable c t = false := by
  obtain ⟨c, t, h0, g0, n3⟩ := nn
  obtain ⟨p, k, kp, h1, h2, h3, h4, h5, -, h7⟩ := Cond.superclass_spec h0 w1
  obtain ⟨t', kt, g1, g2, g5, g7, -⟩ := Cond.instantiable_spec wk
  cases g0.symm.trans g1
  have g8 : kt.isInterface = false := by rw [Bool.or_eq_false_iff] at g7; exact g7.1
  have ne := ids_ne h0 g0 hn
  refine ⟨c, t, h0, g0, ?_⟩
  show Z.vm.assignableAux (255 + 1) c t = false
  simp [Vm.assignableAux, ne, h2, g2, h5, g5, g8, Vm.isSubclass, n3]
theorem Go.ldcStr (hx : p.tables.exec = Jvm.exec) (hZ : Z.Warmed39 s.vm) {own text : String} {index nn ce' sl' : Nat} {vs : List Value} {z : Int32} (hown : s.vm.findClass own = some m.cls) (w1 : (Cond.stringLink own index text).before a0 Z = true) (wS : ∀ a ∈ Bundle.stringAtoms, a.before a0 Z = true) (hmem : (own, index) ∈ EL)
    (ht : (∀ c ∈ text.toList, c.toNat < 256) ∧ text.toList.map (fun c => Value.int (Jvm.Lit.byteI c.toNat.toUInt16)) = vs) (hz : ¬ z < 0) (hl : z.toNatClampNeg = vs.length) (hd : decode c.code pc = .ok (.ldc index, 2)) (hq : q = pc + 2) (hn : 4 * text.toList.length ≤ nn) (hbig : nn ≤ 536870912) (hce : ce + 2 = ce') (hsl : sl + (nn + 4) = sl') (hc : ce' ≤ R.cells) (hl' : sl' ≤ R.slots)
    (G : ∀ (h' : Heap) (a b : Addr) (k : ClassId), Ext h h' → Exa Z h' a "java/lang/String" → Fld Z h' a "java/lang/String" "coder" "B" (.int 0) → Fld Z h' a "java/lang/String" "value" "[B" (.ref b) → Arv Z h' b k .byte z vs (.int 0) → (∀ x ∈ SF, x ≠ a ∧ x ≠ b) → Go p l e R s m args below meth c n0 C N Q Z a0 EL hh0 SF h' ce' sl' q Ls (.ref a :: st)) : Go p l e R s m args below meth c n0 C N Q Z a0 EL hh0 SF h ce sl pc Ls st := fun T vm0 locs k0 hz' hel X hS hk hC hF Nf eT => by
  subst hq hce hsl
  obtain ⟨a, T', h', k1, b, k, X', eT', E, hS', hk', hZ', hown', x1, x2, x3, x4, x5, x6, hC', hL, hne, hs⟩ := ldcCH X hx (wZ hZ hS) (wO hown hS) w1 wS eT hS hk hel hmem hC.1 ht hz hl (g := mkF m pc Ls st) rfl hd hn hbig hc hl'
  have hF' : ∀ x ∈ SF, x < h'.size ∧ Safe Z EL T'.vm h' x := fun x hx => ⟨Nat.lt_of_lt_of_le (hF x hx).1 E.1, hC'.safe (hF x hx).1 (hF x hx).2⟩
  obtain ⟨s₂, v', L', S, r⟩ := G h' a b k E x1 x2 x3 x4 (fun x hx => hne x (hF' x hx).2) T' T'.vm _ k1 hz' hel X' hS' hk' (hC.trans hC') hF' Nf eT'
  exact ⟨s₂, v', L', hs _ S, r⟩
theorem Go.ldcOpq (hx : p.tables.exec = Jvm.exec) (hZ : Z.Warmed39 s.vm) {own text : String} {index nn ce' sl' : Nat} (hown : s.vm.findClass own = some m.cls) (w1 : (Cond.stringLink own index text).before a0 Z = true) (wS : ∀ a ∈ Bundle.stringAtoms, a.before a0 Z = true)
    (hd : decode c.code pc = .ok (.ldc index, 2)) (hq : q = pc + 2) (hn : 4 * text.toList.length ≤ nn) (hbig : nn ≤ 536870912) (hce : ce + 2 = ce') (hsl : sl + (nn + 4) = sl') (hc : ce' ≤ R.cells) (hl' : sl' ≤ R.slots)
    (G : ∀ (h' : Heap) (a : Addr), Ext h h' → Go p l e R s m args below meth c n0 C N Q Z a0 EL hh0 SF h' ce' sl' q Ls (.ref a :: st)) : Go p l e R s m args below meth c n0 C N Q Z a0 EL hh0 SF h ce sl pc Ls st := fun T vm0 locs k0 hz' hel X hS hk hC hF Nf eT => by
  subst hq hce hsl
  obtain ⟨a, T', h', k1, X', eT', E, hS', hk', hZ', hown', hC', hL, hs⟩ := ldcOH X hx (wZ hZ hS) (wO hown hS) w1 wS eT hS hk hel hC.1 (g := mkF m pc Ls st) rfl hd hn hbig hc hl'
  have hF' : ∀ x ∈ SF, x < h'.size ∧ Safe Z EL T'.vm h' x := fun x hx => ⟨Nat.lt_of_lt_of_le (hF x hx).1 E.1, hC'.safe (hF x hx).1 (hF x hx).2⟩
  obtain ⟨s₂, v', L', S, r⟩ := G h' a E T' T'.vm _ k1 hz' hel X' hS' hk' (hC.trans hC') hF' Nf eT'
  exact ⟨s₂, v', L', hs _ S, r⟩
end OwnKit
theorem mask255 (x : Int32) : 0 ≤ (x &&& (255 : Int32)).toInt ∧ (x &&& (255 : Int32)).toInt ≤ 255 := by
  have e1 : (x &&& 255).toInt = x.toInt % 2 ^ 8 := Jvm.Kit.i32_mask x 255 (k := 8) (by decide) (by decide)
  omega
theorem char_ok (x : Int32) : ¬ (255 : Int32) < nar .char ((x &&& (255 : Int32)).toUInt32.toUInt16.toUInt32.toInt32) := by
  simp only [nar, i2c_mask]
  have e2 : (255 : Int32).toInt = 255 := rfl
  have := mask255 x
  rw [Int32.lt_iff_toInt_lt]; omega
theorem and3 (x : Int32) : (x &&& (3 : Int32)) = (0 : Int32) ∨ (x &&& (3 : Int32)) = (1 : Int32) ∨ (x &&& (3 : Int32)) = (2 : Int32) ∨ (x &&& (3 : Int32)) = (3 : Int32) := by
  have e1 : (x &&& 3).toInt = x.toInt % 2 ^ 2 := Jvm.Kit.i32_mask x 3 (k := 2) (by decide) (by decide)
  have f0 : (0 : Int32).toInt = 0 := rfl
  have f1 : (1 : Int32).toInt = 1 := rfl
  have f2 : (2 : Int32).toInt = 2 := rfl
  have f3 : (3 : Int32).toInt = 3 := rfl
  simp only [← Int32.toInt_inj]
  omega
theorem i2c_int (x : Int32) : (x.toUInt32.toUInt16.toUInt32.toInt32).toInt = x.toInt % 65536 := by
  have h : ∀ u : UInt16, (u.toUInt32.toInt32).toInt = u.toNat := fun u => by
    have hu := u.toNat_lt
    show ((u.toUInt32).toBitVec).toInt = _
    have hm : (u.toUInt32).toBitVec.toNat = u.toNat := by
      show (u.toUInt32).toNat = _
      simp
    rw [BitVec.toInt_eq_toNat_cond, hm, if_pos (by omega)]
  have e : x.toUInt32.toNat = x.toBitVec.toNat := rfl
  have e2 : x.toInt = x.toBitVec.toInt := rfl
  have hx := x.toBitVec.isLt
  rw [h, UInt32.toNat_toUInt16, e, e2, BitVec.toInt_eq_toNat_cond]
  split <;> omega
theorem i2b_int (x : Int32) : (x.toInt8.toInt32).toInt = x.toInt.bmod 256 := by
  rw [Int8.toInt_toInt32, Int32.toInt_toInt8]
def Chr (c : Int32) : Prop := 0 ≤ c.toInt ∧ c.toInt ≤ 65535
theorem chr_of (x : Int32) : Chr ((x &&& (65535 : Int32)).toUInt32.toUInt16.toUInt32.toInt32) := by
  unfold Chr; rw [i2c_int]; omega
theorem nar_chr {c : Int32} (h : Chr c) : nar .char c = c := by
  rw [← Int32.toInt_inj]; show (c.toUInt32.toUInt16.toUInt32.toInt32).toInt = _
  rw [i2c_int]; unfold Chr at h; omega
theorem m255 (x : Int32) : (x &&& (255 : Int32)).toInt = x.toInt % 256 := Jvm.Kit.i32_mask x 255 (k := 8) (by decide) (by decide)
theorem lat_ok {c : Int32} (h : Chr c) (h2 : ¬ (255 : Int32) < c) : nar .char ((nar .byte c.toInt8.toInt32 &&& (255 : Int32)).toUInt32.toUInt16.toUInt32.toInt32) = c := by
  unfold Chr at h
  have e2 : (255 : Int32).toInt = 255 := rfl
  rw [Int32.lt_iff_toInt_lt] at h2
  rw [← Int32.toInt_inj]
  show ((((c.toInt8.toInt32.toInt8.toInt32 &&& (255 : Int32)).toUInt32.toUInt16.toUInt32.toInt32)).toUInt32.toUInt16.toUInt32.toInt32).toInt = _
  rw [i2c_int, i2c_int, m255, i2b_int, i2b_int]
  simp only [Int.bmod_def]
  omega
theorem or8 {x y : Int32} (hx : 0 ≤ x.toInt) (hx2 : x.toInt ≤ 255) (hy : 0 ≤ y.toInt) (hy2 : y.toInt ≤ 255) : (x ||| (y <<< ((8 : Int32) &&& 31))).toInt = x.toInt + 256 * y.toInt := by
  have hs := Jvm.Kit.i32_shl y ((8 : Int32) &&& 31) (k := 8) (by decide) (by omega) (by omega)
  generalize hz : y <<< ((8 : Int32) &&& 31) = z at hs ⊢
  have ex : x.toInt = x.toBitVec.toInt := rfl
  have ez : z.toInt = z.toBitVec.toInt := rfl
  have lx := x.toBitVec.isLt
  have lz := z.toBitVec.isLt
  rw [BitVec.toInt_eq_toNat_cond] at ex ez
  have nx : x.toBitVec.toNat = x.toInt.toNat := by split at ex <;> omega
  have nz : z.toBitVec.toNat = y.toInt.toNat * 256 := by split at ez <;> omega
  have eo : (x ||| z).toInt = (x.toBitVec ||| z.toBitVec).toInt := rfl
  rw [eo, BitVec.toInt_eq_toNat_cond, BitVec.toNat_or, nx, nz, Nat.or_comm]
  have := Nat.shiftLeft_add_eq_or_of_lt (b := x.toInt.toNat) (i := 8) (by omega) y.toInt.toNat
  rw [Nat.shiftLeft_eq] at this
  rw [show y.toInt.toNat * 256 = y.toInt.toNat * 2 ^ 8 from rfl, ← this]
  split <;> omega
theorem utf_ok {c : Int32} (h : Chr c) : nar .char ((((nar .byte (c >>> ((0 : Int32) &&& 31)).toInt8.toInt32 &&& (255 : Int32)) <<< ((0 : Int32) &&& 31)) ||| ((nar .byte (c >>> ((8 : Int32) &&& 31)).toInt8.toInt32 &&& (255 : Int32)) <<< ((8 : Int32) &&& 31))).toUInt32.toUInt16.toUInt32.toInt32) = c := by
  unfold Chr at h
  rw [← Int32.toInt_inj]
  show ((((((c >>> ((0 : Int32) &&& 31)).toInt8.toInt32.toInt8.toInt32 &&& (255 : Int32)) <<< ((0 : Int32) &&& 31)) ||| (((c >>> ((8 : Int32) &&& 31)).toInt8.toInt32.toInt8.toInt32 &&& (255 : Int32)) <<< ((8 : Int32) &&& 31))).toUInt32.toUInt16.toUInt32.toInt32).toUInt32.toUInt16.toUInt32.toInt32).toInt = _
  have s0 := Jvm.Kit.i32_shr c ((0 : Int32) &&& 31) (k := 0) (by decide)
  have s8 := Jvm.Kit.i32_shr c ((8 : Int32) &&& 31) (k := 8) (by decide)
  have a0 : ((c >>> ((0 : Int32) &&& 31)).toInt8.toInt32.toInt8.toInt32 &&& (255 : Int32)).toInt = c.toInt % 256 := by
    rw [m255, i2b_int, i2b_int, s0]; simp only [Int.bmod_def]; omega
  have a8 : ((c >>> ((8 : Int32) &&& 31)).toInt8.toInt32.toInt8.toInt32 &&& (255 : Int32)).toInt = c.toInt / 256 := by
    rw [m255, i2b_int, i2b_int, s8]; simp only [Int.bmod_def]; omega
  have t0 := Jvm.Kit.i32_shl ((c >>> ((0 : Int32) &&& 31)).toInt8.toInt32.toInt8.toInt32 &&& (255 : Int32)) ((0 : Int32) &&& 31) (k := 0) (by decide) (by omega) (by omega)
  rw [i2c_int, i2c_int, or8 (by omega) (by omega) (by omega) (by omega), t0, a0, a8]
  omega
theorem rem5 (x : Int32) : (x &&& (2147483647 : Int32)) % (5 : Int32) = (0 : Int32) ∨ (x &&& (2147483647 : Int32)) % (5 : Int32) = (1 : Int32) ∨ (x &&& (2147483647 : Int32)) % (5 : Int32) = (2 : Int32) ∨ (x &&& (2147483647 : Int32)) % (5 : Int32) = (3 : Int32) ∨ (x &&& (2147483647 : Int32)) % (5 : Int32) = (4 : Int32) := by
  have e1 : (x &&& 2147483647).toInt = x.toInt % 2 ^ 31 := Jvm.Kit.i32_mask x 2147483647 (k := 31) (by decide) (by decide)
  have e2 := Jvm.Kit.i32_rem_nonneg (x := x &&& 2147483647) (y := 5) (by omega)
  have f0 : (0 : Int32).toInt = 0 := rfl
  have f1 : (1 : Int32).toInt = 1 := rfl
  have f2 : (2 : Int32).toInt = 2 := rfl
  have f3 : (3 : Int32).toInt = 3 := rfl
  have f4 : (4 : Int32).toInt = 4 := rfl
  have f5 : (5 : Int32).toInt = 5 := rfl
  simp only [← Int32.toInt_inj, e2, f0, f1, f2, f3, f4, f5]
  omega
section OwnMore
variable {p : Program} {l : Launch} {e : Env} {R : Room} {s : State} {m : MethodId} {args : Array Value} {below : List Frame} {meth : Method} {c : Code} {n0 C N : Nat} {Q : Option Value → Heap → Prop} {h : Heap} {ce sl pc q : Nat} {Ls : Array Slot} {st : List Value} {Z : State} {a0 : Array Value} {EL : List (String × Nat)} {hh0 : Heap} {SF : List Addr}
/-- a private method is selected from its own class -/
theorem own_selPriv {Z : State} {a0 : Array Value} {C' : String} {y : MethodName} (w1 : (Cond.selects C' y y).before a0 Z = true) (w2 : (Cond.privateMethod y).before a0 Z = true) (w3 : (Cond.instanceMethod y).before a0 Z = true) (hy : y.cls ≠ "java/lang/invoke/MethodHandle" ∧ y.cls ≠ "java/lang/invoke/VarHandle") : (Cond.selects y.cls y y).before a0 Z = true := by
  obtain ⟨c, r, m, h1, h2, h3, h4, k, h5, h6⟩ := Cond.selects_spec w1
  obtain ⟨mk, meth, n1, n2, -, -⟩ := Cond.instanceMethod_spec w3
  cases h3.symm.trans n1
  have hp := Cond.privateMethod_at w2 _ _ n1 n2
  have hf := State.methodFound?_of_named n1 hy
  cases h2.symm.trans hf
  have hc := findClass_of_methodNamed n1
  simp [Cond.before, Cond.holds, Cond.value, hc, h2, n1, selectMethod_private n2 hp, h5, h6]
/-- the class's own method, the class no interface -/
theorem own_same {Z : State} {a0 : Array Value} {C' : String} {y z : MethodName} (hz : z.cls = y.cls) (w1 : (Cond.selects C' z z).before a0 Z = true) (w3 : (Cond.instanceMethod y).before a0 Z = true) (hy : y.cls ≠ "java/lang/invoke/MethodHandle" ∧ y.cls ≠ "java/lang/invoke/VarHandle") : (Cond.sameMethod y.cls y.cls y.name y.desc).before a0 Z = true := by
  obtain ⟨c, r, m, h1, h2, h3, h4, k, h5, h6⟩ := Cond.selects_spec w1
  obtain ⟨mk, meth, n1, n2, -, -⟩ := Cond.instanceMethod_spec w3
  have hc := findClass_of_methodNamed n1
  have hc' := findClass_of_methodNamed h3
  rw [hz] at hc'
  have e : mk.cls = m.cls := Option.some.inj (hc.symm.trans hc')
  rw [← e] at h5
  have hf := State.methodFound?_of_named n1 hy
  have n1' : Z.methodNamed? ⟨y.cls, y.name, y.desc⟩ = some mk := n1
  simp [Cond.before, Cond.holds, Cond.value, hc, hf, n1', h5, h6]
theorem Go.callP (hx : p.tables.exec = Jvm.exec) (hZ : Z.Warmed39 s.vm) {own C' : String} {index : Nat} {y : MethodName} {bytes : ByteArray} {maxL : Nat} {rt r' : Option FieldType} {ps : List FieldType} {rm : Room} {SFc : List Addr} {Qc : Option Value → Heap → Prop} {a : Addr} {argsL rest : List Value} {ce' sl' : Nat} (hown : s.vm.findClass own = some m.cls) (w1 : (Cond.methodLink own index y).before a0 Z = true) (w2 : (Cond.privateMethod y).before a0 Z = true) (w5 : (Cond.selects y.cls y y).before a0 Z = true) (w6 : (Cond.instanceMethod y).before a0 Z = true) (w3 : (Cond.initialized y.cls).before a0 Z = true) (w4 : (Cond.code y bytes maxL rt).before a0 Z = true) (hy : y.cls ≠ "java/lang/invoke/MethodHandle" ∧ y.cls ≠ "java/lang/invoke/VarHandle")
    (E : Exa Z h a C') (hM : Met l Z EL SFc y bytes maxL rt [] rm (.ref a :: argsL).toArray h n0 Qc) (hsub : ∀ x ∈ SFc, x ∈ SF) (hsize : Ls.size = c.maxLocals) (hpd : parseMethodDescriptor y.desc = some ⟨ps, r'⟩) (hlen : argsL.length = ps.length) (hst : st = argsL.reverse ++ .ref a :: rest) (hd : decode c.code pc = .ok (.invokevirtual index, 3)) (hq : q = pc + 3) (hf : rm.frames + 1 ≤ R.frames) (hl : (rest.map fun v => v.category).sum + (maxL + 11) + rm.locals ≤ R.locals) (hce : ce + rm.cells = ce') (hsl : sl + rm.slots = sl') (hc : ce' ≤ R.cells) (hs : sl' ≤ R.slots)
    (G : ∀ (v : Option Value) (h' : Heap), Qc v h' → Go p l e R s m args below meth c n0 C N Q Z a0 EL hh0 SF h' ce' sl' q Ls (v.toList ++ rest)) : Go p l e R s m args below meth c n0 C N Q Z a0 EL hh0 SF h ce sl pc Ls st := fun T vm0 locs k0 hz hel X hS hk hC hF Nf eT => by
  subst hq hce hsl
  obtain ⟨cell, k, e1, e2, e3, e4, -⟩ := E
  obtain ⟨v, _, ⟨T', L', k', n'⟩, -, X', hS', hg', ⟨Lc, ⟨hQ, hF'⟩, hl1, hl2, hl3, hC'⟩, hst'⟩ := X.privateBackS hx (wO hown hS) (mvT (wZ hZ hS) w1) (mvT (wZ hZ hS) w6) (mvT (wZ hZ hS) w5) (Cond.privateMethod_at (args := args) (mvT (wZ hZ hS) w2)) (mvT (wZ hZ hS) w4) hy (backOfSF (W := (rest.map fun v => v.category).sum) (Q := fun v h' L => Qc v h' ∧ Fr n0 L) hM (wZ hZ hS) w4 w3 hf hl hel (fun x hx => hF x (hsub x hx)) hC.1) (g := mkF m pc Ls st) rfl hsize (Steps.refl _) (a := a) (cell := cell) (by rw [eT]; exact e1) (fun q hq => by rw [hq] at e4; cases e4) (argsL := argsL) (rest := rest) (lenOf hpd hlen) hst (by show 2 * 0 + _ ≤ _; omega) hd (fun _ _ => ⟨rfl, eT, hc, hs⟩)
  dsimp only [Pt.U, Pt.locs, Pt.cells, Pt.slots] at X' hl1 hl2 hl3 hst' hQ hC' hS' hg'
  subst hl1 hl2 hl3
  obtain ⟨s₂, v', L'', S, r⟩ := G v _ hQ T' T'.vm _ T'.heap.size hz hel X' (foldS hS (by rw [eT]; exact hk) hS' hg') (Nat.le_refl _) (hC.trans hC') (fun x hx => ⟨Nat.lt_of_lt_of_le (hF x hx).1 hC'.2.1, hC'.safe (hF x hx).1 (hF x hx).2⟩) (Fr.app Nf hF') rfl
  exact ⟨s₂, v', L'', hst'.trans S, r⟩
theorem Go.callU (hx : p.tables.exec = Jvm.exec) (hZ : Z.Warmed39 s.vm) {own C' : String} {index : Nat} {y : MethodName} {bytes : ByteArray} {maxL : Nat} {rt r' : Option FieldType} {ps : List FieldType} {rm : Room} {SFc : List Addr} {Qc : Option Value → Heap → Prop} {a : Addr} {argsL rest : List Value} {ce' sl' : Nat} (hown : s.vm.findClass own = some m.cls) (w1 : (Cond.methodLink own index y).before a0 Z = true) (w2 : (Cond.sameMethod y.cls y.cls y.name y.desc).before a0 Z = true) (w6 : (Cond.instanceMethod y).before a0 Z = true) (w5 : (Cond.superclass own y.cls).before a0 Z = true) (hn : y.name ≠ "<init>") (w3 : (Cond.initialized y.cls).before a0 Z = true) (w4 : (Cond.code y bytes maxL rt).before a0 Z = true)
    (E : Ins Z h a C' true) (hM : Met l Z EL SFc y bytes maxL rt [] rm (.ref a :: argsL).toArray h n0 Qc) (hsub : ∀ x ∈ SFc, x ∈ SF) (hsize : Ls.size = c.maxLocals) (hpd : parseMethodDescriptor y.desc = some ⟨ps, r'⟩) (hlen : argsL.length = ps.length) (hst : st = argsL.reverse ++ .ref a :: rest) (hd : decode c.code pc = .ok (.invokespecial index, 3)) (hq : q = pc + 3) (hf : rm.frames + 1 ≤ R.frames) (hl : (rest.map fun v => v.category).sum + (maxL + 11) + rm.locals ≤ R.locals) (hce : ce + rm.cells = ce') (hsl : sl + rm.slots = sl') (hc : ce' ≤ R.cells) (hs : sl' ≤ R.slots)
    (G : ∀ (v : Option Value) (h' : Heap), Qc v h' → Go p l e R s m args below meth c n0 C N Q Z a0 EL hh0 SF h' ce' sl' q Ls (v.toList ++ rest)) : Go p l e R s m args below meth c n0 C N Q Z a0 EL hh0 SF h ce sl pc Ls st := fun T vm0 locs k0 hz hel X hS hk hC hF Nf eT => by
  subst hq hce hsl
  obtain ⟨v, _, ⟨T', L', k', n'⟩, -, X', hS', hg', ⟨Lc, ⟨hQ, hF'⟩, hl1, hl2, hl3, hC'⟩, hst'⟩ := superBackS X hx (wZ hZ hS) (wO hown hS) w1 w2 w6 w5 hn (backOfSF (W := (rest.map fun v => v.category).sum) (Q := fun v h' L => Qc v h' ∧ Fr n0 L) hM (wZ hZ hS) w4 w3 hf hl hel (fun x hx => hF x (hsub x hx)) hC.1) eT E (g := mkF m pc Ls st) rfl hsize w4 (argsL := argsL) (rest := rest) (lenOf hpd hlen) hst (by show 2 * 0 + _ ≤ _; omega) hd (fun _ _ => ⟨rfl, eT, hc, hs⟩)
  dsimp only [Pt.U, Pt.locs, Pt.cells, Pt.slots] at X' hl1 hl2 hl3 hst' hQ hC' hS' hg'
  subst hl1 hl2 hl3
  obtain ⟨s₂, v', L'', S, r⟩ := G v _ hQ T' T'.vm _ T'.heap.size hz hel X' (foldS hS (by rw [eT]; exact hk) hS' hg') (Nat.le_refl _) (hC.trans hC') (fun x hx => ⟨Nat.lt_of_lt_of_le (hF x hx).1 hC'.2.1, hC'.safe (hF x hx).1 (hF x hx).2⟩) (Fr.app Nf hF') rfl
  exact ⟨s₂, v', L'', hst'.trans S, r⟩
theorem own_safeKeep {h' : Heap} {vm0 : Vm} {b : Addr} (K : Keep h h' [b]) (hb : Safe Z EL vm0 h b) (hC : CHv Z EL vm0 h) (hF : ∀ x ∈ SF, x < h.size ∧ Safe Z EL vm0 h x) : ∀ x ∈ SF, x < h'.size ∧ Safe Z EL vm0 h' x := fun x hx =>
  ⟨Nat.lt_of_lt_of_le (hF x hx).1 K.1, Safe.keep K (sfS hb sf0) hC (hF x hx).2⟩
theorem Go.acopy (hx : p.tables.exec = Jvm.exec) (hZ : Z.Warmed39 s.vm) {own : String} {index : Nat} (hown : s.vm.findClass own = some m.cls)
    (w1 : (Cond.methodLink own index Jvm.Stand.acN).before a0 Z = true) (w2 : (Cond.native Jvm.Stand.acN).before a0 Z = true) (w3 : (Cond.static Jvm.Stand.acN).before a0 Z = true) (w4 : (Cond.initialized "java/lang/System").before a0 Z = true)
    {a b : Addr} {k k' : ClassId} {ty : FieldType} {z z' sp dp nn : Int32} {vs vd us vr : List Value} {dv dd : Value} (A : Arv Z h a k ty z vs dv) (B : Arv Z h b k' ty z' vd dd) (hty : refKind ty = false)
    (h1 : ¬ sp < 0) (h2 : ¬ dp < 0) (h3 : ¬ nn < 0) (h4 : sp.toNatClampNeg + nn.toNatClampNeg ≤ z.toNatClampNeg) (h5 : dp.toNatClampNeg + nn.toNatClampNeg ≤ z'.toNatClampNeg)
    (hus : us = (List.range nn.toNatClampNeg).map fun i => vs.getD (sp.toNatClampNeg + i) dv) (hl : dp.toNatClampNeg + nn.toNatClampNeg ≤ vd.length) (hvr : vd.take dp.toNatClampNeg ++ us ++ vd.drop (dp.toNatClampNeg + nn.toNatClampNeg) = vr) (ha : n0 ≤ b) (hsf : b ∈ SF)
    (hsize : Ls.size = c.maxLocals) (hd : decode c.code pc = .ok (.invokestatic index, 3)) (hq : q = pc + 3) (hf : 1 ≤ R.frames) (hlo : (st.map fun v => v.category).sum + (nativeFrameWords "java/lang/System" "arraycopy" 5 + 11) ≤ R.locals)
    (G : ∀ (h' : Heap), Keep h h' [b] → Arv Z h' b k' ty z' vr dd → Go p l e R s m args below meth c n0 C N Q Z a0 EL hh0 SF h' ce sl q Ls st) : Go p l e R s m args below meth c n0 C N Q Z a0 EL hh0 SF h ce sl pc Ls (.int nn :: .int dp :: .ref b :: .int sp :: .ref a :: st) := fun T vm0 locs k0 hz hel X hS hk hC hF Nf eT => by
  subst hq hvr
  obtain ⟨T', h', L, X', eT', Nf', K, B', hs⟩ := cpA X hx (wZ hZ hS) (wO hown hS) w1 w2 w3 w4 eT A B (Or.inl ⟨rfl, hty⟩) h1 h2 h3 h4 h5 hus hl Nf ha (g := mkF m pc Ls (.int nn :: .int dp :: .ref b :: .int sp :: .ref a :: st)) rfl hsize rfl hd hf (W := (st.map fun v => v.category).sum) (by show 2 * 0 + _ ≤ _; omega) hlo
  obtain ⟨s₂, v', L'', S, r⟩ := G h' K B' T' vm0 _ k0 hz hel X' hS (Nat.le_trans hk K.1) (hC.trans (CHr.keep K (sfS (hF b hsf).2 sf0) hC.1)) (own_safeKeep K (hF b hsf).2 hC.1 hF) Nf' eT'
  exact ⟨s₂, v', L'', hs _ S, r⟩
theorem own_units {Z : State} {a0 : Array Value} {vm : Vm} {h : Heap} {own text : String} {ix : Nat} {u : Array UInt16} {a : Addr} (hZ : Z.Warmed39 vm) (w : (Cond.stringLink own ix text).before a0 Z = true) (hb : Booksv vm own ix u a) (ht : ∀ c ∈ text.toList, c.toNat < 256) : u.toList = text.toList.map (fun c => c.toNat.toUInt16) := by
  obtain ⟨c, k', cf, i, hc', hk', hcf', hpool, hu, -⟩ := hb
  have w2 : (Cond.stringLink own ix text).before a0 (Wst Z vm h) = true := mvS (s := { Z with heap := h }) hZ w
  obtain ⟨k0, cf0, i0, units0, hk, hcf, hp0, hu0, -, htext, -⟩ := Cond.stringLink_spec (s := Wst Z vm h) hc' w2
  cases hk'.symm.trans hk
  cases hcf'.symm.trans hcf
  cases hpool.symm.trans hp0
  cases hu.symm.trans hu0
  exact Jvm.ClassFile.units_of_text htext ht
/-- an array of bytes that isn't empty, and has not two components or opens with 0, is no cell of the constants "</" and "" -/
theorem safe2 {Z : State} {a0 : Array Value} {vm : Vm} {h : Heap} {x : Addr} {k : ClassId} {z : Int32} {vs : List Value} {dv : Value} {o1 o2 : String} {i1 i2 : Nat} (hZ : Z.Warmed39 vm) (w1 : (Cond.stringLink o1 i1 "</").before a0 Z = true) (w2 : (Cond.stringLink o2 i2 "").before a0 Z = true) (F : Arv Z h x k .byte z vs dv) (hz : z.toNatClampNeg ≠ 0) (h2 : z.toNatClampNeg ≠ 2 ∨ vs.getD 0 dv = .int 0) : Safe Z [(o1, i1), (o2, i2)] vm h x := fun B => by
  have hal : Z.vm.Alike vm := hZ.alike
  obtain ⟨cl, A, -, hsz, -, hH, -⟩ := F
  obtain ⟨A1, ⟨-, kA, hkA, compA, hkindA⟩, -⟩ := A
  obtain ⟨kA', hkA', ekA⟩ := hal.2.2 _ _ hkA
  obtain ⟨p, hp, u, a, hb, q, -, F, rfl | rfl⟩ := B
  · cases (show h[q.sa]? = some q.sC from F.ha).symm.trans A1
    obtain ⟨cS, ⟨-, -, e⟩, ⟨kS, g1, g2, -⟩, -⟩ := F
    subst e
    cases (show vm.classes[q.sC.cls]? = some kS from g1).symm.trans hkA'
    rw [ekA] at g2
    have := hkindA.symm.trans g2
    cases this
  · cases (show h[q.sd]? = some q.SA from F.hd).symm.trans A1
    obtain ⟨cS, -, -, -, hby⟩ := F
    have hp' : p = (o1, i1) ∨ p = (o2, i2) := by simpa using hp
    rcases hp' with rfl | rfl
    · have e1 := own_units (h := h) hZ w1 hb (by decide)
      have e2 : u = #[60, 47] := by
        apply Array.toList_inj.mp
        rw [e1]; decide
      subst e2
      have e3 : stringBytes #[60, 47] = #[.int 60, .int 47] := by decide +kernel
      rw [e3] at hby
      rw [hby] at hsz
      have e4 : (#[.int 60, .int 47] : Array Value).size = 2 := rfl
      rcases h2 with h2 | h2
      · omega
      · have := hH 0 (by rw [hby]; decide)
        rw [hby, h2] at this
        cases this
    · have e1 := own_units (h := h) hZ w2 hb (by decide)
      have e2 : u.size = 0 := by
        have := congrArg List.length e1
        simpa using this
      have e3 := stringBytes_size_le u
      rw [hby] at hsz
      omega
theorem Go.safe {x : Addr} (hb : x < h.size) (hs : ∀ vm, Z.Warmed39 vm → Safe Z EL vm h x) (G : Go p l e R s m args below meth c n0 C N Q Z a0 EL hh0 (x :: SF) h ce sl pc Ls st) : Go p l e R s m args below meth c n0 C N Q Z a0 EL hh0 SF h ce sl pc Ls st := fun T vm0 locs k0 hz hel X hS hk hC hF Nf eT =>
  G T vm0 locs k0 hz hel X hS hk hC (fun y hy => by
    rcases List.mem_cons.mp hy with rfl | hy
    · exact ⟨hb, hs _ (wZ hz hS)⟩
    · exact hF y hy) Nf eT
theorem lat_and {c : Int32} (h : Chr c) (h2 : ¬ (255 : Int32) < c) : (nar .byte c.toInt8.toInt32 &&& (255 : Int32)) = c := by
  unfold Chr at h
  have e2 : (255 : Int32).toInt = 255 := rfl
  rw [Int32.lt_iff_toInt_lt] at h2
  rw [← Int32.toInt_inj]
  show (c.toInt8.toInt32.toInt8.toInt32 &&& (255 : Int32)).toInt = _
  rw [m255, i2b_int, i2b_int]
  simp only [Int.bmod_def]
  omega
end OwnMore
theorem d39_0 : decode jdk_52_method_15_code 0 = .ok (.iload_n 1, 1) := by decide +kernel
theorem d39_1 : decode jdk_52_method_15_code 1 = .ok (.aload_n 0, 1) := by decide +kernel
theorem d39_2 : decode jdk_52_method_15_code 2 = .ok (.arraylength, 1) := by decide +kernel
theorem d39_3 : decode jdk_52_method_15_code 3 = .ok (.isub, 1) := by decide +kernel
theorem d39_4 : decode jdk_52_method_15_code 4 = .ok (.bipush 31, 2) := by decide +kernel
theorem d39_6 : decode jdk_52_method_15_code 6 = .ok (.iushr, 1) := by decide +kernel
theorem d39_7 : decode jdk_52_method_15_code 7 = .ok (.i2b, 1) := by decide +kernel
theorem d39_8 : decode jdk_52_method_15_code 8 = .ok (.ireturn, 1) := by decide +kernel
theorem pl_0 : plainFor (⟨"java/lang/StringUTF16", "coderFromArrayLen", "([BI)B"⟩ : MethodName) = true := plainFor_of_name (by first | (simp [plainName, overriddenIn]; done) | decide +kernel)
theorem rmK (l : Launch) (Z : State) (a0 : Array Value) (hw : ∀ d ∈ tables_1, d.before a0 Z = true) (hel : EW Z a0 consts_1) (b : Addr) (kb : ClassId) (n : Int32) (vs : List Value) (h0 : Heap) (n0 : Nat) (Z0 : n0 ≤ h0.size) (B : Arv Z h0 b kb .byte n vs (.int (0 : Int32))) :
    Met l Z consts_1 [] (⟨"java/lang/StringUTF16", "coderFromArrayLen", "([BI)B"⟩ : MethodName) jdk_52_method_15_code 2 (Option.some FieldType.byte) [] ({ frames := 0, cells := 0, slots := 0, locals := 0 } : Room) #[(.ref b), (.int n)] h0 n0 (fun v h => v = some (.int (0 : Int32)) ∧ h0 = h) := by
  refine Met.of (Ls0 := #[.val (.ref b), .val (.int n)]) pl_0 (by first | (simp [argsToLocals, Value.category]; done) | rfl) hel ?_
  intro p e s m below meth c hx hby hml hret hlk hown hnm hZ
  refine Go.iloadN (q := 1) hx (hb hby d39_0) rfl rfl ?_
  refine Go.aloadN (q := 2) hx (hb hby d39_1) rfl (by rfl) rfl ?_
  refine Go.alen (q := 3) hx hZ B (hb hby d39_2) rfl ?_
  refine Go.isub (q := 4) hx (hb hby d39_3) rfl ?_
  refine Go.bipush (q := 6) (z := (31 : Int32)) hx (hb hby d39_4) rfl rfl ?_
  refine Go.iushr (q := 7) hx (hb hby d39_6) rfl ?_
  refine Go.i2b (q := 8) hx (hb hby d39_7) rfl ?_
  refine Go.retN hx (t := .byte) hret (by simp) hlk (hb hby d39_8) (by decide) (by decide) ?_
  exact ⟨by rw [Int32.sub_self]; rfl, rfl⟩
theorem d38_0 : decode jdk_52_method_21_code 0 = .ok (.iconst 0, 1) := by decide +kernel
theorem d38_1 : decode jdk_52_method_21_code 1 = .ok (.istore 5, 2) := by decide +kernel
theorem d38_3 : decode jdk_52_method_21_code 3 = .ok (.iload 5, 2) := by decide +kernel
theorem d38_5 : decode jdk_52_method_21_code 5 = .ok (.iload 4, 2) := by decide +kernel
theorem d38_7 : decode jdk_52_method_21_code 7 = .ok (.if_icmp .ge 37, 3) := by decide +kernel
theorem d38_10 : decode jdk_52_method_21_code 10 = .ok (.aload_n 0, 1) := by decide +kernel
theorem d38_11 : decode jdk_52_method_21_code 11 = .ok (.iload_n 1, 1) := by decide +kernel
theorem d38_12 : decode jdk_52_method_21_code 12 = .ok (.caload, 1) := by decide +kernel
theorem d38_13 : decode jdk_52_method_21_code 13 = .ok (.istore 6, 2) := by decide +kernel
theorem d38_15 : decode jdk_52_method_21_code 15 = .ok (.iload 6, 2) := by decide +kernel
theorem d38_17 : decode jdk_52_method_21_code 17 = .ok (.sipush 255, 3) := by decide +kernel
theorem d38_20 : decode jdk_52_method_21_code 20 = .ok (.if_icmp .le 6, 3) := by decide +kernel
theorem d38_23 : decode jdk_52_method_21_code 23 = .ok (.iload 5, 2) := by decide +kernel
theorem d38_25 : decode jdk_52_method_21_code 25 = .ok (.ireturn, 1) := by decide +kernel
theorem d38_26 : decode jdk_52_method_21_code 26 = .ok (.aload_n 2, 1) := by decide +kernel
theorem d38_27 : decode jdk_52_method_21_code 27 = .ok (.iload_n 3, 1) := by decide +kernel
theorem d38_28 : decode jdk_52_method_21_code 28 = .ok (.iload 6, 2) := by decide +kernel
theorem d38_30 : decode jdk_52_method_21_code 30 = .ok (.i2b, 1) := by decide +kernel
theorem d38_31 : decode jdk_52_method_21_code 31 = .ok (.bastore, 1) := by decide +kernel
theorem d38_32 : decode jdk_52_method_21_code 32 = .ok (.iinc 1 1, 3) := by decide +kernel
theorem d38_35 : decode jdk_52_method_21_code 35 = .ok (.iinc 3 1, 3) := by decide +kernel
theorem d38_38 : decode jdk_52_method_21_code 38 = .ok (.iinc 5 1, 3) := by decide +kernel
theorem d38_41 : decode jdk_52_method_21_code 41 = .ok (.goto (-38), 3) := by decide +kernel
theorem d38_44 : decode jdk_52_method_21_code 44 = .ok (.iload 4, 2) := by decide +kernel
theorem d38_46 : decode jdk_52_method_21_code 46 = .ok (.ireturn, 1) := by decide +kernel
theorem pl_1 : plainFor (⟨"java/lang/StringUTF16", "compress", "([CI[BII)I"⟩ : MethodName) = true := plainFor_of_name (by first | (simp [plainName, overriddenIn]; done) | decide +kernel)
theorem rmC1 (l : Launch) (Z : State) (a0 : Array Value) (hw : ∀ d ∈ tables_1, d.before a0 Z = true) (hel : EW Z a0 consts_1) (a b : Addr) (ka kb : ClassId) (c0 : Int32) (h0 : Heap) (n0 : Nat) (Z0 : n0 ≤ h0.size) (A : Arv Z h0 a ka .char (1 : Int32) [.int c0] (.int (0 : Int32))) (B : Arv Z h0 b kb .byte (1 : Int32) [(.int (0 : Int32))] (.int (0 : Int32))) (gb : n0 ≤ b) (nab : a ≠ b) (hp0 : ¬ (255 : Int32) < c0) :
    Met l Z consts_1 [b] (⟨"java/lang/StringUTF16", "compress", "([CI[BII)I"⟩ : MethodName) jdk_52_method_21_code 7 (Option.some FieldType.int) [] ({ frames := 0, cells := 0, slots := 0, locals := 0 } : Room) #[(.ref a), (.int (0 : Int32)), (.ref b), (.int (0 : Int32)), (.int (1 : Int32))] h0 n0 (fun v h => v = some (.int (1 : Int32)) ∧ Keep h0 h [b] ∧ Arv Z h b kb .byte (1 : Int32) [(.int (nar .byte c0.toInt8.toInt32))] (.int (0 : Int32))) := by
  refine Met.of (Ls0 := #[.val (.ref a), .val (.int (0 : Int32)), .val (.ref b), .val (.int (0 : Int32)), .val (.int (1 : Int32)), .unset, .unset]) pl_1 (by first | (simp [argsToLocals, Value.category]; done) | rfl) hel ?_
  intro p e s m below meth c hx hby hml hret hlk hown hnm hZ
  refine Go.iconst (q := 1) (z := (0 : Int32)) hx (hb hby d38_0) rfl rfl ?_
  refine Go.istore (q := 3) (l' := #[.val (.ref a), .val (.int (0 : Int32)), .val (.ref b), .val (.int (0 : Int32)), .val (.int (1 : Int32)), .val (.int (0 : Int32)), .unset]) hx (hb hby d38_1) rfl rfl ?_
  refine Go.iload (q := 5) hx (hb hby d38_3) rfl rfl ?_
  refine Go.iload (q := 7) hx (hb hby d38_5) rfl rfl ?_
  refine Go.icmp_ge (q := 10) (t := 44) hx (hb hby d38_7) (by decide) rfl rfl (fun hc7 => absurd hc7 (by decide)) (fun hc7 => ?_)
  refine Go.aloadN (q := 11) hx (hb hby d38_10) rfl (by rfl) rfl ?_
  refine Go.iloadN (q := 12) hx (hb hby d38_11) rfl rfl ?_
  refine Go.caload (q := 13) (v := (.int c0)) hx hZ A ⟨by decide, by decide⟩ rfl (hb hby d38_12) rfl ?_
  refine Go.istore (q := 15) (l' := #[.val (.ref a), .val (.int (0 : Int32)), .val (.ref b), .val (.int (0 : Int32)), .val (.int (1 : Int32)), .val (.int (0 : Int32)), .val (.int c0)]) hx (hb hby d38_13) rfl rfl ?_
  refine Go.iload (q := 17) hx (hb hby d38_15) rfl rfl ?_
  refine Go.sipush (q := 20) (z := (255 : Int32)) hx (hb hby d38_17) rfl rfl ?_
  refine Go.icmp_le (q := 23) (t := 26) hx (hb hby d38_20) (by decide) rfl rfl (fun hc20 => ?_) (fun hc20 => absurd hc20 hp0)
  refine Go.aloadN (q := 27) hx (hb hby d38_26) rfl (by rfl) rfl ?_
  refine Go.iloadN (q := 28) hx (hb hby d38_27) rfl rfl ?_
  refine Go.iload (q := 30) hx (hb hby d38_28) rfl rfl ?_
  refine Go.i2b (q := 31) hx (hb hby d38_30) rfl ?_
  refine Go.bastore (q := 32) hx hZ B ⟨by decide, by decide⟩ 0 rfl (ble rfl) gb (by simp) (hb hby d38_31) rfl (fun h1 W2 V3 => ?_)
  refine Go.iinc (q := 35) (l' := #[.val (.ref a), .val (.int ((0 : Int32) + (1 : Int32))), .val (.ref b), .val (.int (0 : Int32)), .val (.int (1 : Int32)), .val (.int (0 : Int32)), .val (.int c0)]) hx (hb hby d38_32) rfl rfl rfl ?_
  refine Go.iinc (q := 38) (l' := #[.val (.ref a), .val (.int ((0 : Int32) + (1 : Int32))), .val (.ref b), .val (.int ((0 : Int32) + (1 : Int32))), .val (.int (1 : Int32)), .val (.int (0 : Int32)), .val (.int c0)]) hx (hb hby d38_35) rfl rfl rfl ?_
  refine Go.iinc (q := 41) (l' := #[.val (.ref a), .val (.int ((0 : Int32) + (1 : Int32))), .val (.ref b), .val (.int ((0 : Int32) + (1 : Int32))), .val (.int (1 : Int32)), .val (.int ((0 : Int32) + (1 : Int32))), .val (.int c0)]) hx (hb hby d38_38) rfl rfl rfl ?_
  refine Go.goto (q := 3) hx (hb hby d38_41) (by decide) rfl ?_
  refine Go.iload (q := 5) hx (hb hby d38_3) rfl rfl ?_
  refine Go.iload (q := 7) hx (hb hby d38_5) rfl rfl ?_
  refine Go.icmp_ge (q := 10) (t := 44) hx (hb hby d38_7) (by decide) rfl rfl (fun hc7_1 => ?_) (fun hc7_1 => absurd hc7_1 (by decide))
  refine Go.iload (q := 46) hx (hb hby d38_44) rfl rfl ?_
  refine Go.retI hx hret hlk (hb hby d38_46) (by decide) (by decide) ?_
  exact ⟨rfl, ((Keep.refl h0 [b]).wr W2 (Or.inl (by simp))), V3⟩
theorem d37_0 : decode jdk_52_method_16_code 0 = .ok (.iload_n 2, 1) := by decide +kernel
theorem d37_1 : decode jdk_52_method_16_code 1 = .ok (.newarray .byte, 2) := by decide +kernel
theorem d37_3 : decode jdk_52_method_16_code 3 = .ok (.astore_n 3, 1) := by decide +kernel
theorem d37_4 : decode jdk_52_method_16_code 4 = .ok (.aload_n 0, 1) := by decide +kernel
theorem d37_5 : decode jdk_52_method_16_code 5 = .ok (.iload_n 1, 1) := by decide +kernel
theorem d37_6 : decode jdk_52_method_16_code 6 = .ok (.aload_n 3, 1) := by decide +kernel
theorem d37_7 : decode jdk_52_method_16_code 7 = .ok (.iconst 0, 1) := by decide +kernel
theorem d37_8 : decode jdk_52_method_16_code 8 = .ok (.iload_n 2, 1) := by decide +kernel
theorem d37_9 : decode jdk_52_method_16_code 9 = .ok (.invokestatic 115, 3) := by decide +kernel
theorem d37_12 : decode jdk_52_method_16_code 12 = .ok (.istore 4, 2) := by decide +kernel
theorem d37_14 : decode jdk_52_method_16_code 14 = .ok (.iload 4, 2) := by decide +kernel
theorem d37_16 : decode jdk_52_method_16_code 16 = .ok (.iload_n 2, 1) := by decide +kernel
theorem d37_17 : decode jdk_52_method_16_code 17 = .ok (.if_icmp .eq 40, 3) := by decide +kernel
theorem d37_20 : decode jdk_52_method_16_code 20 = .ok (.aload_n 0, 1) := by decide +kernel
theorem d37_21 : decode jdk_52_method_16_code 21 = .ok (.iload_n 1, 1) := by decide +kernel
theorem d37_22 : decode jdk_52_method_16_code 22 = .ok (.iload_n 2, 1) := by decide +kernel
theorem d37_23 : decode jdk_52_method_16_code 23 = .ok (.invokestatic 119, 3) := by decide +kernel
theorem d37_26 : decode jdk_52_method_16_code 26 = .ok (.astore 5, 2) := by decide +kernel
theorem d37_28 : decode jdk_52_method_16_code 28 = .ok (.aload 5, 2) := by decide +kernel
theorem d37_30 : decode jdk_52_method_16_code 30 = .ok (.iload 4, 2) := by decide +kernel
theorem d37_32 : decode jdk_52_method_16_code 32 = .ok (.invokestatic 71, 3) := by decide +kernel
theorem d37_35 : decode jdk_52_method_16_code 35 = .ok (.sipush 255, 3) := by decide +kernel
theorem d37_38 : decode jdk_52_method_16_code 38 = .ok (.if_icmp .gt 16, 3) := by decide +kernel
theorem d37_41 : decode jdk_52_method_16_code 41 = .ok (.aload 5, 2) := by decide +kernel
theorem d37_43 : decode jdk_52_method_16_code 43 = .ok (.iconst 0, 1) := by decide +kernel
theorem d37_44 : decode jdk_52_method_16_code 44 = .ok (.aload_n 3, 1) := by decide +kernel
theorem d37_45 : decode jdk_52_method_16_code 45 = .ok (.iconst 0, 1) := by decide +kernel
theorem d37_46 : decode jdk_52_method_16_code 46 = .ok (.iload_n 2, 1) := by decide +kernel
theorem d37_47 : decode jdk_52_method_16_code 47 = .ok (.invokestatic 123, 3) := by decide +kernel
theorem d37_50 : decode jdk_52_method_16_code 50 = .ok (.iload_n 2, 1) := by decide +kernel
theorem d37_51 : decode jdk_52_method_16_code 51 = .ok (.if_icmp .eq 6, 3) := by decide +kernel
theorem d37_54 : decode jdk_52_method_16_code 54 = .ok (.aload 5, 2) := by decide +kernel
theorem d37_56 : decode jdk_52_method_16_code 56 = .ok (.areturn, 1) := by decide +kernel
theorem d37_57 : decode jdk_52_method_16_code 57 = .ok (.aload_n 3, 1) := by decide +kernel
theorem d37_58 : decode jdk_52_method_16_code 58 = .ok (.areturn, 1) := by decide +kernel
theorem pl_2 : plainFor (⟨"java/lang/StringUTF16", "compress", "([CII)[B"⟩ : MethodName) = true := plainFor_of_name (by first | (simp [plainName, overriddenIn]; done) | decide +kernel)
theorem pd_0 : parseMethodDescriptor "([CI[BII)I" = some ⟨[(.array .char), .int, (.array .byte), .int, .int], some .int⟩ := by decide +kernel
theorem pd_1 : parseMethodDescriptor "([CII)[B" = some ⟨[(.array .char), .int, .int], some (.array .byte)⟩ := by decide +kernel
theorem pd_2 : parseMethodDescriptor "([BI)C" = some ⟨[(.array .byte), .int], some .char⟩ := by decide +kernel
theorem rmD1 (l : Launch) (Z : State) (a0 : Array Value) (hw : ∀ d ∈ tables_1, d.before a0 Z = true) (hel : EW Z a0 consts_1) (a : Addr) (ka : ClassId) (c0 : Int32) (h0 : Heap) (n0 : Nat) (Z0 : n0 ≤ h0.size) (A : Arv Z h0 a ka .char (1 : Int32) [.int c0] (.int (0 : Int32))) (hp0 : ¬ (255 : Int32) < c0) :
    Met l Z consts_1 [] (⟨"java/lang/StringUTF16", "compress", "([CII)[B"⟩ : MethodName) jdk_52_method_16_code 6 (Option.some (FieldType.array FieldType.byte)) [] ({ frames := 1, cells := 1, slots := 1, locals := 18 } : Room) #[(.ref a), (.int (0 : Int32)), (.int (1 : Int32))] h0 n0 (fun v h => ∃ b kb, v = some (.ref b) ∧ h0.size ≤ b ∧ Keep h0 h [] ∧ Arv Z h b kb .byte (1 : Int32) [(.int (nar .byte c0.toInt8.toInt32))] (.int (0 : Int32))) := by
  refine Met.of (Ls0 := #[.val (.ref a), .val (.int (0 : Int32)), .val (.int (1 : Int32)), .unset, .unset, .unset]) pl_2 (by first | (simp [argsToLocals, Value.category]; done) | rfl) hel ?_
  intro p e s m below meth c hx hby hml hret hlk hown hnm hZ
  refine Go.iloadN (q := 1) hx (hb hby d37_0) rfl rfl ?_
  refine Go.newP (q := 3) (cap := 1) hx hZ (tw hw 7 rfl) (by decide) (by decide) (hb hby d37_1) rfl (by decide) (ce' := 1) (sl' := 1) rfl rfl (by decide) (by decide) (fun h4 a5 k6 g7 E8 A9 => ?_)
  have ne10 : a ≠ a5 := by rw [g7]; exact Nat.ne_of_lt (A).lt
  have gz11 : n0 ≤ a5 := by rw [g7]; exact Z0
  have gk12 : h0.size ≤ a5 := by rw [g7]; exact (Keep.refl h0 []).1
  have V13 : Arv Z h4 a5 k6 .byte (1 : Int32) [(.int (0 : Int32))] (.int (0 : Int32)) := A9.pad (pad_rep [] (.int (0 : Int32)) 1)
  refine Go.astoreN (q := 4) (l' := #[.val (.ref a), .val (.int (0 : Int32)), .val (.int (1 : Int32)), .val (.ref a5), .unset, .unset]) hx (hb hby d37_3) (by rfl) rfl rfl ?_
  refine Go.aloadN (q := 5) hx (hb hby d37_4) rfl (by rfl) rfl ?_
  refine Go.iloadN (q := 6) hx (hb hby d37_5) rfl rfl ?_
  refine Go.aloadN (q := 7) hx (hb hby d37_6) rfl (by rfl) rfl ?_
  refine Go.iconst (q := 8) (z := (0 : Int32)) hx (hb hby d37_7) rfl rfl ?_
  refine Go.iloadN (q := 9) hx (hb hby d37_8) rfl rfl ?_
  refine Go.callS (q := 12) hx hZ (argsL := [(.ref a), (.int (0 : Int32)), (.ref a5), (.int (0 : Int32)), (.int (1 : Int32))]) (rest := []) hown (tw hw 200 rfl) (tw hw 201 rfl) (tw hw 198 rfl) (tw hw 202 rfl) (by decide) (rmC1 l Z a0 hw hel a a5 ka k6 c0 h4 n0 (Nat.le_trans Z0 E8.1) (A.ext E8) V13 gz11 ne10 hp0) (by simp) (by rw [hml]; rfl) pd_0 rfl rfl (hb hby d37_9) rfl (by decide) (ble rfl) (ce' := 1) (sl' := 1) rfl rfl (by decide) (by decide) (fun v14 h15 hQ16 => ?_)
  obtain ⟨rfl, K17, V18⟩ := hQ16
  show Go _ _ _ _ _ _ _ _ _ _ _ _ _ _ _ _ _ _ _ _ 1 1 12 #[.val (.ref a), .val (.int (0 : Int32)), .val (.int (1 : Int32)), .val (.ref a5), .unset, .unset] [(.int (1 : Int32))]
  refine Go.istore (q := 14) (l' := #[.val (.ref a), .val (.int (0 : Int32)), .val (.int (1 : Int32)), .val (.ref a5), .val (.int (1 : Int32)), .unset]) hx (hb hby d37_12) rfl rfl ?_
  refine Go.iload (q := 16) hx (hb hby d37_14) rfl rfl ?_
  refine Go.iloadN (q := 17) hx (hb hby d37_16) rfl rfl ?_
  refine Go.icmp_eq (q := 20) (t := 57) hx (hb hby d37_17) (by decide) rfl rfl (fun hc17 => ?_) (fun hc17 => absurd hc17 (by decide))
  refine Go.aloadN (q := 58) hx (hb hby d37_57) rfl (by rfl) rfl ?_
  refine Go.retA hx hret rfl (by rfl) hlk (hb hby d37_58) (by decide) (by decide) ?_
  exact ⟨a5, _, rfl, gk12, (Keep.trans ((Keep.refl h0 []).ext E8) K17 (allS (Or.inr gk12) all0)), V18⟩
theorem d36_0 : decode jdk_42_method_149_code 0 = .ok (.aload_n 0, 1) := by decide +kernel
theorem d36_1 : decode jdk_42_method_149_code 1 = .ok (.invokespecial 1, 3) := by decide +kernel
theorem d36_4 : decode jdk_42_method_149_code 4 = .ok (.iload_n 3, 1) := by decide +kernel
theorem d36_5 : decode jdk_42_method_149_code 5 = .ok (.ifCond .ne 22, 3) := by decide +kernel
theorem d36_8 : decode jdk_42_method_149_code 8 = .ok (.aload_n 0, 1) := by decide +kernel
theorem d36_9 : decode jdk_42_method_149_code 9 = .ok (.ldc 7, 2) := by decide +kernel
theorem d36_11 : decode jdk_42_method_149_code 11 = .ok (.getfield 9, 3) := by decide +kernel
theorem d36_14 : decode jdk_42_method_149_code 14 = .ok (.putfield 9, 3) := by decide +kernel
theorem d36_17 : decode jdk_42_method_149_code 17 = .ok (.aload_n 0, 1) := by decide +kernel
theorem d36_18 : decode jdk_42_method_149_code 18 = .ok (.ldc 7, 2) := by decide +kernel
theorem d36_20 : decode jdk_42_method_149_code 20 = .ok (.getfield 15, 3) := by decide +kernel
theorem d36_23 : decode jdk_42_method_149_code 23 = .ok (.putfield 15, 3) := by decide +kernel
theorem d36_26 : decode jdk_42_method_149_code 26 = .ok (.return_, 1) := by decide +kernel
theorem d36_27 : decode jdk_42_method_149_code 27 = .ok (.getstatic 38, 3) := by decide +kernel
theorem d36_30 : decode jdk_42_method_149_code 30 = .ok (.ifCond .eq 28, 3) := by decide +kernel
theorem d36_33 : decode jdk_42_method_149_code 33 = .ok (.aload_n 1, 1) := by decide +kernel
theorem d36_34 : decode jdk_42_method_149_code 34 = .ok (.iload_n 2, 1) := by decide +kernel
theorem d36_35 : decode jdk_42_method_149_code 35 = .ok (.iload_n 3, 1) := by decide +kernel
theorem d36_36 : decode jdk_42_method_149_code 36 = .ok (.invokestatic 177, 3) := by decide +kernel
theorem d36_39 : decode jdk_42_method_149_code 39 = .ok (.astore 5, 2) := by decide +kernel
theorem d36_41 : decode jdk_42_method_149_code 41 = .ok (.aload_n 0, 1) := by decide +kernel
theorem d36_42 : decode jdk_42_method_149_code 42 = .ok (.aload 5, 2) := by decide +kernel
theorem d36_44 : decode jdk_42_method_149_code 44 = .ok (.iload_n 3, 1) := by decide +kernel
theorem d36_45 : decode jdk_42_method_149_code 45 = .ok (.invokestatic 47, 3) := by decide +kernel
theorem d36_48 : decode jdk_42_method_149_code 48 = .ok (.putfield 15, 3) := by decide +kernel
theorem d36_51 : decode jdk_42_method_149_code 51 = .ok (.aload_n 0, 1) := by decide +kernel
theorem d36_52 : decode jdk_42_method_149_code 52 = .ok (.aload 5, 2) := by decide +kernel
theorem d36_54 : decode jdk_42_method_149_code 54 = .ok (.putfield 9, 3) := by decide +kernel
theorem d36_57 : decode jdk_42_method_149_code 57 = .ok (.return_, 1) := by decide +kernel
theorem d36_58 : decode jdk_42_method_149_code 58 = .ok (.aload_n 0, 1) := by decide +kernel
theorem d36_59 : decode jdk_42_method_149_code 59 = .ok (.iconst 1, 1) := by decide +kernel
theorem d36_60 : decode jdk_42_method_149_code 60 = .ok (.putfield 15, 3) := by decide +kernel
theorem d36_63 : decode jdk_42_method_149_code 63 = .ok (.aload_n 0, 1) := by decide +kernel
theorem d36_64 : decode jdk_42_method_149_code 64 = .ok (.aload_n 1, 1) := by decide +kernel
theorem d36_65 : decode jdk_42_method_149_code 65 = .ok (.iload_n 2, 1) := by decide +kernel
theorem d36_66 : decode jdk_42_method_149_code 66 = .ok (.iload_n 3, 1) := by decide +kernel
theorem d36_67 : decode jdk_42_method_149_code 67 = .ok (.invokestatic 180, 3) := by decide +kernel
theorem d36_70 : decode jdk_42_method_149_code 70 = .ok (.putfield 9, 3) := by decide +kernel
theorem d36_73 : decode jdk_42_method_149_code 73 = .ok (.return_, 1) := by decide +kernel
theorem pl_3 : plainFor (⟨"java/lang/String", "<init>", "([CIILjava/lang/Void;)V"⟩ : MethodName) = true := plainFor_of_name (by first | (simp [plainName, overriddenIn]; done) | decide +kernel)
theorem pd_3 : parseMethodDescriptor "()V" = some ⟨[], none⟩ := by decide +kernel
theorem pd_4 : parseMethodDescriptor "([BI)B" = some ⟨[(.array .byte), .int], some .byte⟩ := by decide +kernel
theorem rmS1 (l : Launch) (Z : State) (a0 : Array Value) (hw : ∀ d ∈ tables_1, d.before a0 Z = true) (hel : EW Z a0 consts_1) (sa a : Addr) (ka : ClassId) (cst : Int32) (c0 : Int32) (h0 : Heap) (n0 : Nat) (Z0 : n0 ≤ h0.size) (gs : n0 ≤ sa) (nas : a ≠ sa) (E : Exa Z h0 sa "java/lang/String") (F1 : Fld Z h0 sa "java/lang/String" "value" "[B" .null) (F2 : Fld Z h0 sa "java/lang/String" "coder" "B" (.int (0 : Int32))) (A : Arv Z h0 a ka .char (1 : Int32) [.int c0] (.int (0 : Int32))) (hp0 : ¬ (255 : Int32) < c0) (X0 : Old Z n0 h0) (SC : Sta Z Z.heap "java/lang/String" "COMPACT_STRINGS" "Z" (.int cst)) (hcs : ¬ cst = (0 : Int32)) :
    Met l Z consts_1 [sa] (⟨"java/lang/String", "<init>", "([CIILjava/lang/Void;)V"⟩ : MethodName) jdk_42_method_149_code 6 (Option.none : Option FieldType) [] ({ frames := 2, cells := 1, slots := 1, locals := 35 } : Room) #[(.ref sa), (.ref a), (.int (0 : Int32)), (.int (1 : Int32)), .null] h0 n0 (fun v h => v = none ∧ Keep h0 h [sa] ∧ ∃ b kb, h0.size ≤ b ∧ Fld Z h sa "java/lang/String" "value" "[B" (.ref b) ∧ Fld Z h sa "java/lang/String" "coder" "B" (.int (0 : Int32)) ∧ Arv Z h b kb .byte (1 : Int32) [(.int (nar .byte c0.toInt8.toInt32))] (.int (0 : Int32))) := by
  refine Met.of (Ls0 := #[.val (.ref sa), .val (.ref a), .val (.int (0 : Int32)), .val (.int (1 : Int32)), .val .null, .unset]) pl_3 (by first | (simp [argsToLocals, Value.category]; done) | rfl) hel ?_
  have hSA : ∀ d ∈ Bundle.stringAtoms, d.before a0 Z = true := fun d hd => hw d ((by decide +kernel : ∀ d ∈ Bundle.stringAtoms, d ∈ tables_1) d hd)
  intro p e s m below meth c hx hby hml hret hlk hown hnm hZ
  refine Go.aloadN (q := 1) hx (hb hby d36_0) rfl (by rfl) rfl ?_
  refine Go.initO (q := 4) hx hZ hown (tw hw 133 rfl) (tw hw 19 rfl) (tw hw 20 rfl) (by rw [hml]; rfl) (hb hby d36_1) rfl (by decide) (ble rfl) ?_
  refine Go.iloadN (q := 5) hx (hb hby d36_4) rfl rfl ?_
  refine Go.if_ne (q := 8) (t := 27) hx (hb hby d36_5) (by decide) rfl rfl (fun hc5 => ?_) (fun hc5 => absurd hc5 (by decide))
  refine Go.getS (q := 30) hx hZ hown (host := "") (Or.inl (tw hw 68 rfl)) Via.refl (Sta.ext X0.2 SC) (hb hby d36_27) rfl ?_
  refine Go.if_eq (q := 33) (t := 58) hx (hb hby d36_30) (by decide) rfl rfl (fun hc30 => absurd hc30 hcs) (fun hc30 => ?_)
  refine Go.aloadN (q := 34) hx (hb hby d36_33) rfl (by rfl) rfl ?_
  refine Go.iloadN (q := 35) hx (hb hby d36_34) rfl rfl ?_
  refine Go.iloadN (q := 36) hx (hb hby d36_35) rfl rfl ?_
  refine Go.callS (q := 39) hx hZ (argsL := [(.ref a), (.int (0 : Int32)), (.int (1 : Int32))]) (rest := []) hown (tw hw 196 rfl) (tw hw 197 rfl) (tw hw 198 rfl) (tw hw 199 rfl) (by decide) (rmD1 l Z a0 hw hel a ka c0 h0 n0 Z0 A hp0) (fun _ hx => nomatch hx) (by rw [hml]; rfl) pd_1 rfl rfl (hb hby d36_36) rfl (by decide) (ble rfl) (ce' := 1) (sl' := 1) rfl rfl (by decide) (by decide) (fun v19 h20 hQ21 => ?_)
  have lt27 := (E).lt
  obtain ⟨b22, k23, rfl, g24, K25, V26⟩ := hQ21
  have ne28 : sa ≠ b22 := Nat.ne_of_lt (Nat.lt_of_lt_of_le lt27 g24)
  show Go _ _ _ _ _ _ _ _ _ _ _ _ _ _ _ _ _ _ _ _ 1 1 39 #[.val (.ref sa), .val (.ref a), .val (.int (0 : Int32)), .val (.int (1 : Int32)), .val .null, .unset] [(.ref b22)]
  refine Go.astore (q := 41) (l' := #[.val (.ref sa), .val (.ref a), .val (.int (0 : Int32)), .val (.int (1 : Int32)), .val .null, .val (.ref b22)]) hx (hb hby d36_39) (by rfl) rfl rfl ?_
  refine Go.aloadN (q := 42) hx (hb hby d36_41) rfl (by rfl) rfl ?_
  refine Go.aload (q := 44) hx (hb hby d36_42) rfl (by rfl) rfl ?_
  refine Go.iloadN (q := 45) hx (hb hby d36_44) rfl rfl ?_
  refine Go.callS (q := 48) hx hZ (argsL := [(.ref b22), (.int (1 : Int32))]) (rest := [(.ref sa)]) hown (tw hw 203 rfl) (tw hw 204 rfl) (tw hw 198 rfl) (tw hw 205 rfl) (by decide) (rmK l Z a0 hw hel b22 k23 (1 : Int32) _ h20 n0 (Nat.le_trans Z0 K25.1) V26) (fun _ hx => nomatch hx) (by rw [hml]; rfl) pd_4 rfl rfl (hb hby d36_45) rfl (by decide) (ble rfl) (ce' := 1) (sl' := 1) rfl rfl (by decide) (by decide) (fun v29 h30 hQ31 => ?_)
  obtain ⟨rfl, rfl⟩ := hQ31
  show Go _ _ _ _ _ _ _ _ _ _ _ _ _ _ _ _ _ _ _ _ 1 1 48 #[.val (.ref sa), .val (.ref a), .val (.int (0 : Int32)), .val (.int (1 : Int32)), .val .null, .val (.ref b22)] [(.int (0 : Int32)), (.ref sa)]
  refine Go.putF (q := 51) hx hZ hown (host := "") (Or.inl (tw hw 69 rfl)) Via.refl (F2.keep K25 nin0) (E.keep K25) (Or.inr ⟨(tw hw 9 rfl), rfl, hnm⟩) (tw hw 6 rfl) (ty := .byte) (by decide) rfl rfl gs (by simp) (hb hby d36_48) rfl (fun h32 W33 => ?_)
  refine Go.aloadN (q := 52) hx (hb hby d36_51) rfl (by rfl) rfl ?_
  refine Go.aload (q := 54) hx (hb hby d36_52) rfl (by rfl) rfl ?_
  refine Go.putF (q := 57) hx hZ hown (host := "") (Or.inl (tw hw 62 rfl)) Via.refl (Fld.other W33 (F1.keep K25 nin0) (Or.inr (slot_ne (C := "java/lang/String") (Or.inr (tw hw 8 rfl)) (Or.inr (tw hw 9 rfl)) (by decide) (by decide : _ = some (.array .byte)) (by decide : _ = some .byte)))) (Exa.wr W33 (E.keep K25)) (Or.inr ⟨(tw hw 8 rfl), rfl, hnm⟩) (tw hw 6 rfl) (ty := (.array .byte)) (by decide) rfl rfl gs (by simp) (hb hby d36_54) rfl (fun h34 W35 => ?_)
  refine Go.ret0 hx hret hlk (hb hby d36_57) (by decide) (by decide) ?_
  exact ⟨rfl, (((Keep.trans (Keep.refl h0 [sa]) K25 all0).wr W33 (Or.inl (by simp))).wr W35 (Or.inl (by simp))), b22, k23, g24, (Fld.same W35 (Fld.other W33 (F1.keep K25 nin0) (Or.inr (slot_ne (C := "java/lang/String") (Or.inr (tw hw 8 rfl)) (Or.inr (tw hw 9 rfl)) (by decide) (by decide : _ = some (.array .byte)) (by decide : _ = some .byte))))), (Fld.other W35 (Fld.same W33 (F2.keep K25 nin0)) (Or.inr (slot_ne (C := "java/lang/String") (Or.inr (tw hw 9 rfl)) (Or.inr (tw hw 8 rfl)) (by decide) (by decide : _ = some .byte) (by decide : _ = some (.array .byte))))), ((V26.other W33 ne28.symm).other W35 ne28.symm)⟩
theorem d35_0 : decode jdk_42_method_3_code 0 = .ok (.aload_n 0, 1) := by decide +kernel
theorem d35_1 : decode jdk_42_method_3_code 1 = .ok (.aload_n 1, 1) := by decide +kernel
theorem d35_2 : decode jdk_42_method_3_code 2 = .ok (.iconst 0, 1) := by decide +kernel
theorem d35_3 : decode jdk_42_method_3_code 3 = .ok (.aload_n 1, 1) := by decide +kernel
theorem d35_4 : decode jdk_42_method_3_code 4 = .ok (.arraylength, 1) := by decide +kernel
theorem d35_5 : decode jdk_42_method_3_code 5 = .ok (.aconst_null, 1) := by decide +kernel
theorem d35_6 : decode jdk_42_method_3_code 6 = .ok (.invokespecial 27, 3) := by decide +kernel
theorem d35_9 : decode jdk_42_method_3_code 9 = .ok (.return_, 1) := by decide +kernel
theorem pl_4 : plainFor (⟨"java/lang/String", "<init>", "([C)V"⟩ : MethodName) = true := plainFor_of_name (by first | (simp [plainName, overriddenIn]; done) | decide +kernel)
theorem pd_5 : parseMethodDescriptor "([CIILjava/lang/Void;)V" = some ⟨[(.array .char), .int, .int, (.object "java/lang/Void")], none⟩ := by decide +kernel
theorem rmI1 (l : Launch) (Z : State) (a0 : Array Value) (hw : ∀ d ∈ tables_1, d.before a0 Z = true) (hel : EW Z a0 consts_1) (sa a : Addr) (ka : ClassId) (cst : Int32) (c0 : Int32) (h0 : Heap) (n0 : Nat) (Z0 : n0 ≤ h0.size) (gs : n0 ≤ sa) (nas : a ≠ sa) (E : Exa Z h0 sa "java/lang/String") (F1 : Fld Z h0 sa "java/lang/String" "value" "[B" .null) (F2 : Fld Z h0 sa "java/lang/String" "coder" "B" (.int (0 : Int32))) (A : Arv Z h0 a ka .char (1 : Int32) [.int c0] (.int (0 : Int32))) (hp0 : ¬ (255 : Int32) < c0) (X0 : Old Z n0 h0) (SC : Sta Z Z.heap "java/lang/String" "COMPACT_STRINGS" "Z" (.int cst)) (hcs : ¬ cst = (0 : Int32)) :
    Met l Z consts_1 [sa] (⟨"java/lang/String", "<init>", "([C)V"⟩ : MethodName) jdk_42_method_3_code 2 (Option.none : Option FieldType) [] ({ frames := 3, cells := 1, slots := 1, locals := 52 } : Room) #[(.ref sa), (.ref a)] h0 n0 (fun v h => v = none ∧ Keep h0 h [sa] ∧ ∃ b kb, h0.size ≤ b ∧ Fld Z h sa "java/lang/String" "value" "[B" (.ref b) ∧ Fld Z h sa "java/lang/String" "coder" "B" (.int (0 : Int32)) ∧ Arv Z h b kb .byte (1 : Int32) [(.int (nar .byte c0.toInt8.toInt32))] (.int (0 : Int32))) := by
  refine Met.of (Ls0 := #[.val (.ref sa), .val (.ref a)]) pl_4 (by first | (simp [argsToLocals, Value.category]; done) | rfl) hel ?_
  intro p e s m below meth c hx hby hml hret hlk hown hnm hZ
  refine Go.aloadN (q := 1) hx (hb hby d35_0) rfl (by rfl) rfl ?_
  refine Go.aloadN (q := 2) hx (hb hby d35_1) rfl (by rfl) rfl ?_
  refine Go.iconst (q := 3) (z := (0 : Int32)) hx (hb hby d35_2) rfl rfl ?_
  refine Go.aloadN (q := 4) hx (hb hby d35_3) rfl (by rfl) rfl ?_
  refine Go.alen (q := 5) hx hZ A (hb hby d35_4) rfl ?_
  refine Go.aconstNull (q := 6) hx (hb hby d35_5) rfl ?_
  refine Go.callI (q := 9) hx hZ (a := sa) (argsL := [(.ref a), (.int (0 : Int32)), (.int (1 : Int32)), .null]) (rest := []) hown rfl (tw hw 193 rfl) (tw hw 194 rfl) (tw hw 5 rfl) (tw hw 195 rfl) (by decide) (rmS1 l Z a0 hw hel sa a ka cst c0 h0 n0 Z0 gs nas E F1 F2 A hp0 X0 SC hcs) (by simp) (by rw [hml]; rfl) pd_5 rfl rfl (hb hby d35_6) rfl (by decide) (ble rfl) (ce' := 1) (sl' := 1) rfl rfl (by decide) (by decide) (fun v36 h37 hQ38 => ?_)
  obtain ⟨rfl, K39, Y40⟩ := hQ38
  show Go _ _ _ _ _ _ _ _ _ _ _ _ _ _ _ _ _ _ _ _ 1 1 9 #[.val (.ref sa), .val (.ref a)] []
  refine Go.ret0 hx hret hlk (hb hby d35_9) (by decide) (by decide) ?_
  exact ⟨rfl, (Keep.trans (Keep.refl h0 [sa]) K39 (allS (Or.inl (by simp)) all0)), Y40⟩
theorem rmC2 (l : Launch) (Z : State) (a0 : Array Value) (hw : ∀ d ∈ tables_1, d.before a0 Z = true) (hel : EW Z a0 consts_1) (a b : Addr) (ka kb : ClassId) (c0 c1 : Int32) (h0 : Heap) (n0 : Nat) (Z0 : n0 ≤ h0.size) (A : Arv Z h0 a ka .char (2 : Int32) [.int c0, .int c1] (.int (0 : Int32))) (B : Arv Z h0 b kb .byte (2 : Int32) [(.int (0 : Int32)), (.int (0 : Int32))] (.int (0 : Int32))) (gb : n0 ≤ b) (nab : a ≠ b) (hp0 : ¬ (255 : Int32) < c0) (hp1 : ¬ (255 : Int32) < c1) :
    Met l Z consts_1 [b] (⟨"java/lang/StringUTF16", "compress", "([CI[BII)I"⟩ : MethodName) jdk_52_method_21_code 7 (Option.some FieldType.int) [] ({ frames := 0, cells := 0, slots := 0, locals := 0 } : Room) #[(.ref a), (.int (0 : Int32)), (.ref b), (.int (0 : Int32)), (.int (2 : Int32))] h0 n0 (fun v h => v = some (.int (2 : Int32)) ∧ Keep h0 h [b] ∧ Arv Z h b kb .byte (2 : Int32) [(.int (nar .byte c0.toInt8.toInt32)), (.int (nar .byte c1.toInt8.toInt32))] (.int (0 : Int32))) := by
  refine Met.of (Ls0 := #[.val (.ref a), .val (.int (0 : Int32)), .val (.ref b), .val (.int (0 : Int32)), .val (.int (2 : Int32)), .unset, .unset]) pl_1 (by first | (simp [argsToLocals, Value.category]; done) | rfl) hel ?_
  intro p e s m below meth c hx hby hml hret hlk hown hnm hZ
  refine Go.iconst (q := 1) (z := (0 : Int32)) hx (hb hby d38_0) rfl rfl ?_
  refine Go.istore (q := 3) (l' := #[.val (.ref a), .val (.int (0 : Int32)), .val (.ref b), .val (.int (0 : Int32)), .val (.int (2 : Int32)), .val (.int (0 : Int32)), .unset]) hx (hb hby d38_1) rfl rfl ?_
  refine Go.iload (q := 5) hx (hb hby d38_3) rfl rfl ?_
  refine Go.iload (q := 7) hx (hb hby d38_5) rfl rfl ?_
  refine Go.icmp_ge (q := 10) (t := 44) hx (hb hby d38_7) (by decide) rfl rfl (fun hc7 => absurd hc7 (by decide)) (fun hc7 => ?_)
  refine Go.aloadN (q := 11) hx (hb hby d38_10) rfl (by rfl) rfl ?_
  refine Go.iloadN (q := 12) hx (hb hby d38_11) rfl rfl ?_
  refine Go.caload (q := 13) (v := (.int c0)) hx hZ A ⟨by decide, by decide⟩ rfl (hb hby d38_12) rfl ?_
  refine Go.istore (q := 15) (l' := #[.val (.ref a), .val (.int (0 : Int32)), .val (.ref b), .val (.int (0 : Int32)), .val (.int (2 : Int32)), .val (.int (0 : Int32)), .val (.int c0)]) hx (hb hby d38_13) rfl rfl ?_
  refine Go.iload (q := 17) hx (hb hby d38_15) rfl rfl ?_
  refine Go.sipush (q := 20) (z := (255 : Int32)) hx (hb hby d38_17) rfl rfl ?_
  refine Go.icmp_le (q := 23) (t := 26) hx (hb hby d38_20) (by decide) rfl rfl (fun hc20 => ?_) (fun hc20 => absurd hc20 hp0)
  refine Go.aloadN (q := 27) hx (hb hby d38_26) rfl (by rfl) rfl ?_
  refine Go.iloadN (q := 28) hx (hb hby d38_27) rfl rfl ?_
  refine Go.iload (q := 30) hx (hb hby d38_28) rfl rfl ?_
  refine Go.i2b (q := 31) hx (hb hby d38_30) rfl ?_
  refine Go.bastore (q := 32) hx hZ B ⟨by decide, by decide⟩ 0 rfl (ble rfl) gb (by simp) (hb hby d38_31) rfl (fun h41 W42 V43 => ?_)
  refine Go.iinc (q := 35) (l' := #[.val (.ref a), .val (.int ((0 : Int32) + (1 : Int32))), .val (.ref b), .val (.int (0 : Int32)), .val (.int (2 : Int32)), .val (.int (0 : Int32)), .val (.int c0)]) hx (hb hby d38_32) rfl rfl rfl ?_
  refine Go.iinc (q := 38) (l' := #[.val (.ref a), .val (.int ((0 : Int32) + (1 : Int32))), .val (.ref b), .val (.int ((0 : Int32) + (1 : Int32))), .val (.int (2 : Int32)), .val (.int (0 : Int32)), .val (.int c0)]) hx (hb hby d38_35) rfl rfl rfl ?_
  refine Go.iinc (q := 41) (l' := #[.val (.ref a), .val (.int ((0 : Int32) + (1 : Int32))), .val (.ref b), .val (.int ((0 : Int32) + (1 : Int32))), .val (.int (2 : Int32)), .val (.int ((0 : Int32) + (1 : Int32))), .val (.int c0)]) hx (hb hby d38_38) rfl rfl rfl ?_
  refine Go.goto (q := 3) hx (hb hby d38_41) (by decide) rfl ?_
  refine Go.iload (q := 5) hx (hb hby d38_3) rfl rfl ?_
  refine Go.iload (q := 7) hx (hb hby d38_5) rfl rfl ?_
  refine Go.icmp_ge (q := 10) (t := 44) hx (hb hby d38_7) (by decide) rfl rfl (fun hc7_1 => absurd hc7_1 (by decide)) (fun hc7_1 => ?_)
  refine Go.aloadN (q := 11) hx (hb hby d38_10) rfl (by rfl) rfl ?_
  refine Go.iloadN (q := 12) hx (hb hby d38_11) rfl rfl ?_
  refine Go.caload (q := 13) (v := (.int c1)) hx hZ (A.other W42 nab) ⟨by decide, by decide⟩ rfl (hb hby d38_12) rfl ?_
  refine Go.istore (q := 15) (l' := #[.val (.ref a), .val (.int ((0 : Int32) + (1 : Int32))), .val (.ref b), .val (.int ((0 : Int32) + (1 : Int32))), .val (.int (2 : Int32)), .val (.int ((0 : Int32) + (1 : Int32))), .val (.int c1)]) hx (hb hby d38_13) rfl rfl ?_
  refine Go.iload (q := 17) hx (hb hby d38_15) rfl rfl ?_
  refine Go.sipush (q := 20) (z := (255 : Int32)) hx (hb hby d38_17) rfl rfl ?_
  refine Go.icmp_le (q := 23) (t := 26) hx (hb hby d38_20) (by decide) rfl rfl (fun hc20_1 => ?_) (fun hc20_1 => absurd hc20_1 hp1)
  refine Go.aloadN (q := 27) hx (hb hby d38_26) rfl (by rfl) rfl ?_
  refine Go.iloadN (q := 28) hx (hb hby d38_27) rfl rfl ?_
  refine Go.iload (q := 30) hx (hb hby d38_28) rfl rfl ?_
  refine Go.i2b (q := 31) hx (hb hby d38_30) rfl ?_
  refine Go.bastore (q := 32) hx hZ V43 ⟨by decide, by decide⟩ 1 rfl (ble rfl) gb (by simp) (hb hby d38_31) rfl (fun h44 W45 V46 => ?_)
  refine Go.iinc (q := 35) (l' := #[.val (.ref a), .val (.int (((0 : Int32) + (1 : Int32)) + (1 : Int32))), .val (.ref b), .val (.int ((0 : Int32) + (1 : Int32))), .val (.int (2 : Int32)), .val (.int ((0 : Int32) + (1 : Int32))), .val (.int c1)]) hx (hb hby d38_32) rfl rfl rfl ?_
  refine Go.iinc (q := 38) (l' := #[.val (.ref a), .val (.int (((0 : Int32) + (1 : Int32)) + (1 : Int32))), .val (.ref b), .val (.int (((0 : Int32) + (1 : Int32)) + (1 : Int32))), .val (.int (2 : Int32)), .val (.int ((0 : Int32) + (1 : Int32))), .val (.int c1)]) hx (hb hby d38_35) rfl rfl rfl ?_
  refine Go.iinc (q := 41) (l' := #[.val (.ref a), .val (.int (((0 : Int32) + (1 : Int32)) + (1 : Int32))), .val (.ref b), .val (.int (((0 : Int32) + (1 : Int32)) + (1 : Int32))), .val (.int (2 : Int32)), .val (.int (((0 : Int32) + (1 : Int32)) + (1 : Int32))), .val (.int c1)]) hx (hb hby d38_38) rfl rfl rfl ?_
  refine Go.goto (q := 3) hx (hb hby d38_41) (by decide) rfl ?_
  refine Go.iload (q := 5) hx (hb hby d38_3) rfl rfl ?_
  refine Go.iload (q := 7) hx (hb hby d38_5) rfl rfl ?_
  refine Go.icmp_ge (q := 10) (t := 44) hx (hb hby d38_7) (by decide) rfl rfl (fun hc7_2 => ?_) (fun hc7_2 => absurd hc7_2 (by decide))
  refine Go.iload (q := 46) hx (hb hby d38_44) rfl rfl ?_
  refine Go.retI hx hret hlk (hb hby d38_46) (by decide) (by decide) ?_
  exact ⟨rfl, (((Keep.refl h0 [b]).wr W42 (Or.inl (by simp))).wr W45 (Or.inl (by simp))), V46⟩
theorem rmD2 (l : Launch) (Z : State) (a0 : Array Value) (hw : ∀ d ∈ tables_1, d.before a0 Z = true) (hel : EW Z a0 consts_1) (a : Addr) (ka : ClassId) (c0 c1 : Int32) (h0 : Heap) (n0 : Nat) (Z0 : n0 ≤ h0.size) (A : Arv Z h0 a ka .char (2 : Int32) [.int c0, .int c1] (.int (0 : Int32))) (hp0 : ¬ (255 : Int32) < c0) (hp1 : ¬ (255 : Int32) < c1) :
    Met l Z consts_1 [] (⟨"java/lang/StringUTF16", "compress", "([CII)[B"⟩ : MethodName) jdk_52_method_16_code 6 (Option.some (FieldType.array FieldType.byte)) [] ({ frames := 1, cells := 1, slots := 2, locals := 18 } : Room) #[(.ref a), (.int (0 : Int32)), (.int (2 : Int32))] h0 n0 (fun v h => ∃ b kb, v = some (.ref b) ∧ h0.size ≤ b ∧ Keep h0 h [] ∧ Arv Z h b kb .byte (2 : Int32) [(.int (nar .byte c0.toInt8.toInt32)), (.int (nar .byte c1.toInt8.toInt32))] (.int (0 : Int32))) := by
  refine Met.of (Ls0 := #[.val (.ref a), .val (.int (0 : Int32)), .val (.int (2 : Int32)), .unset, .unset, .unset]) pl_2 (by first | (simp [argsToLocals, Value.category]; done) | rfl) hel ?_
  intro p e s m below meth c hx hby hml hret hlk hown hnm hZ
  refine Go.iloadN (q := 1) hx (hb hby d37_0) rfl rfl ?_
  refine Go.newP (q := 3) (cap := 2) hx hZ (tw hw 7 rfl) (by decide) (by decide) (hb hby d37_1) rfl (by decide) (ce' := 1) (sl' := 2) rfl rfl (by decide) (by decide) (fun h47 a48 k49 g50 E51 A52 => ?_)
  have ne53 : a ≠ a48 := by rw [g50]; exact Nat.ne_of_lt (A).lt
  have gz54 : n0 ≤ a48 := by rw [g50]; exact Z0
  have gk55 : h0.size ≤ a48 := by rw [g50]; exact (Keep.refl h0 []).1
  have V56 : Arv Z h47 a48 k49 .byte (2 : Int32) [(.int (0 : Int32)), (.int (0 : Int32))] (.int (0 : Int32)) := A52.pad (pad_rep [] (.int (0 : Int32)) 2)
  refine Go.astoreN (q := 4) (l' := #[.val (.ref a), .val (.int (0 : Int32)), .val (.int (2 : Int32)), .val (.ref a48), .unset, .unset]) hx (hb hby d37_3) (by rfl) rfl rfl ?_
  refine Go.aloadN (q := 5) hx (hb hby d37_4) rfl (by rfl) rfl ?_
  refine Go.iloadN (q := 6) hx (hb hby d37_5) rfl rfl ?_
  refine Go.aloadN (q := 7) hx (hb hby d37_6) rfl (by rfl) rfl ?_
  refine Go.iconst (q := 8) (z := (0 : Int32)) hx (hb hby d37_7) rfl rfl ?_
  refine Go.iloadN (q := 9) hx (hb hby d37_8) rfl rfl ?_
  refine Go.callS (q := 12) hx hZ (argsL := [(.ref a), (.int (0 : Int32)), (.ref a48), (.int (0 : Int32)), (.int (2 : Int32))]) (rest := []) hown (tw hw 200 rfl) (tw hw 201 rfl) (tw hw 198 rfl) (tw hw 202 rfl) (by decide) (rmC2 l Z a0 hw hel a a48 ka k49 c0 c1 h47 n0 (Nat.le_trans Z0 E51.1) (A.ext E51) V56 gz54 ne53 hp0 hp1) (by simp) (by rw [hml]; rfl) pd_0 rfl rfl (hb hby d37_9) rfl (by decide) (ble rfl) (ce' := 1) (sl' := 2) rfl rfl (by decide) (by decide) (fun v57 h58 hQ59 => ?_)
  obtain ⟨rfl, K60, V61⟩ := hQ59
  show Go _ _ _ _ _ _ _ _ _ _ _ _ _ _ _ _ _ _ _ _ 1 2 12 #[.val (.ref a), .val (.int (0 : Int32)), .val (.int (2 : Int32)), .val (.ref a48), .unset, .unset] [(.int (2 : Int32))]
  refine Go.istore (q := 14) (l' := #[.val (.ref a), .val (.int (0 : Int32)), .val (.int (2 : Int32)), .val (.ref a48), .val (.int (2 : Int32)), .unset]) hx (hb hby d37_12) rfl rfl ?_
  refine Go.iload (q := 16) hx (hb hby d37_14) rfl rfl ?_
  refine Go.iloadN (q := 17) hx (hb hby d37_16) rfl rfl ?_
  refine Go.icmp_eq (q := 20) (t := 57) hx (hb hby d37_17) (by decide) rfl rfl (fun hc17 => ?_) (fun hc17 => absurd hc17 (by decide))
  refine Go.aloadN (q := 58) hx (hb hby d37_57) rfl (by rfl) rfl ?_
  refine Go.retA hx hret rfl (by rfl) hlk (hb hby d37_58) (by decide) (by decide) ?_
  exact ⟨a48, _, rfl, gk55, (Keep.trans ((Keep.refl h0 []).ext E51) K60 (allS (Or.inr gk55) all0)), V61⟩
theorem rmS2 (l : Launch) (Z : State) (a0 : Array Value) (hw : ∀ d ∈ tables_1, d.before a0 Z = true) (hel : EW Z a0 consts_1) (sa a : Addr) (ka : ClassId) (cst : Int32) (c0 c1 : Int32) (h0 : Heap) (n0 : Nat) (Z0 : n0 ≤ h0.size) (gs : n0 ≤ sa) (nas : a ≠ sa) (E : Exa Z h0 sa "java/lang/String") (F1 : Fld Z h0 sa "java/lang/String" "value" "[B" .null) (F2 : Fld Z h0 sa "java/lang/String" "coder" "B" (.int (0 : Int32))) (A : Arv Z h0 a ka .char (2 : Int32) [.int c0, .int c1] (.int (0 : Int32))) (hp0 : ¬ (255 : Int32) < c0) (hp1 : ¬ (255 : Int32) < c1) (X0 : Old Z n0 h0) (SC : Sta Z Z.heap "java/lang/String" "COMPACT_STRINGS" "Z" (.int cst)) (hcs : ¬ cst = (0 : Int32)) :
    Met l Z consts_1 [sa] (⟨"java/lang/String", "<init>", "([CIILjava/lang/Void;)V"⟩ : MethodName) jdk_42_method_149_code 6 (Option.none : Option FieldType) [] ({ frames := 2, cells := 1, slots := 2, locals := 35 } : Room) #[(.ref sa), (.ref a), (.int (0 : Int32)), (.int (2 : Int32)), .null] h0 n0 (fun v h => v = none ∧ Keep h0 h [sa] ∧ ∃ b kb, h0.size ≤ b ∧ Fld Z h sa "java/lang/String" "value" "[B" (.ref b) ∧ Fld Z h sa "java/lang/String" "coder" "B" (.int (0 : Int32)) ∧ Arv Z h b kb .byte (2 : Int32) [(.int (nar .byte c0.toInt8.toInt32)), (.int (nar .byte c1.toInt8.toInt32))] (.int (0 : Int32))) := by
  refine Met.of (Ls0 := #[.val (.ref sa), .val (.ref a), .val (.int (0 : Int32)), .val (.int (2 : Int32)), .val .null, .unset]) pl_3 (by first | (simp [argsToLocals, Value.category]; done) | rfl) hel ?_
  have hSA : ∀ d ∈ Bundle.stringAtoms, d.before a0 Z = true := fun d hd => hw d ((by decide +kernel : ∀ d ∈ Bundle.stringAtoms, d ∈ tables_1) d hd)
  intro p e s m below meth c hx hby hml hret hlk hown hnm hZ
  refine Go.aloadN (q := 1) hx (hb hby d36_0) rfl (by rfl) rfl ?_
  refine Go.initO (q := 4) hx hZ hown (tw hw 133 rfl) (tw hw 19 rfl) (tw hw 20 rfl) (by rw [hml]; rfl) (hb hby d36_1) rfl (by decide) (ble rfl) ?_
  refine Go.iloadN (q := 5) hx (hb hby d36_4) rfl rfl ?_
  refine Go.if_ne (q := 8) (t := 27) hx (hb hby d36_5) (by decide) rfl rfl (fun hc5 => ?_) (fun hc5 => absurd hc5 (by decide))
  refine Go.getS (q := 30) hx hZ hown (host := "") (Or.inl (tw hw 68 rfl)) Via.refl (Sta.ext X0.2 SC) (hb hby d36_27) rfl ?_
  refine Go.if_eq (q := 33) (t := 58) hx (hb hby d36_30) (by decide) rfl rfl (fun hc30 => absurd hc30 hcs) (fun hc30 => ?_)
  refine Go.aloadN (q := 34) hx (hb hby d36_33) rfl (by rfl) rfl ?_
  refine Go.iloadN (q := 35) hx (hb hby d36_34) rfl rfl ?_
  refine Go.iloadN (q := 36) hx (hb hby d36_35) rfl rfl ?_
  refine Go.callS (q := 39) hx hZ (argsL := [(.ref a), (.int (0 : Int32)), (.int (2 : Int32))]) (rest := []) hown (tw hw 196 rfl) (tw hw 197 rfl) (tw hw 198 rfl) (tw hw 199 rfl) (by decide) (rmD2 l Z a0 hw hel a ka c0 c1 h0 n0 Z0 A hp0 hp1) (fun _ hx => nomatch hx) (by rw [hml]; rfl) pd_1 rfl rfl (hb hby d36_36) rfl (by decide) (ble rfl) (ce' := 1) (sl' := 2) rfl rfl (by decide) (by decide) (fun v62 h63 hQ64 => ?_)
  have lt70 := (E).lt
  obtain ⟨b65, k66, rfl, g67, K68, V69⟩ := hQ64
  have ne71 : sa ≠ b65 := Nat.ne_of_lt (Nat.lt_of_lt_of_le lt70 g67)
  show Go _ _ _ _ _ _ _ _ _ _ _ _ _ _ _ _ _ _ _ _ 1 2 39 #[.val (.ref sa), .val (.ref a), .val (.int (0 : Int32)), .val (.int (2 : Int32)), .val .null, .unset] [(.ref b65)]
  refine Go.astore (q := 41) (l' := #[.val (.ref sa), .val (.ref a), .val (.int (0 : Int32)), .val (.int (2 : Int32)), .val .null, .val (.ref b65)]) hx (hb hby d36_39) (by rfl) rfl rfl ?_
  refine Go.aloadN (q := 42) hx (hb hby d36_41) rfl (by rfl) rfl ?_
  refine Go.aload (q := 44) hx (hb hby d36_42) rfl (by rfl) rfl ?_
  refine Go.iloadN (q := 45) hx (hb hby d36_44) rfl rfl ?_
  refine Go.callS (q := 48) hx hZ (argsL := [(.ref b65), (.int (2 : Int32))]) (rest := [(.ref sa)]) hown (tw hw 203 rfl) (tw hw 204 rfl) (tw hw 198 rfl) (tw hw 205 rfl) (by decide) (rmK l Z a0 hw hel b65 k66 (2 : Int32) _ h63 n0 (Nat.le_trans Z0 K68.1) V69) (fun _ hx => nomatch hx) (by rw [hml]; rfl) pd_4 rfl rfl (hb hby d36_45) rfl (by decide) (ble rfl) (ce' := 1) (sl' := 2) rfl rfl (by decide) (by decide) (fun v72 h73 hQ74 => ?_)
  obtain ⟨rfl, rfl⟩ := hQ74
  show Go _ _ _ _ _ _ _ _ _ _ _ _ _ _ _ _ _ _ _ _ 1 2 48 #[.val (.ref sa), .val (.ref a), .val (.int (0 : Int32)), .val (.int (2 : Int32)), .val .null, .val (.ref b65)] [(.int (0 : Int32)), (.ref sa)]
  refine Go.putF (q := 51) hx hZ hown (host := "") (Or.inl (tw hw 69 rfl)) Via.refl (F2.keep K68 nin0) (E.keep K68) (Or.inr ⟨(tw hw 9 rfl), rfl, hnm⟩) (tw hw 6 rfl) (ty := .byte) (by decide) rfl rfl gs (by simp) (hb hby d36_48) rfl (fun h75 W76 => ?_)
  refine Go.aloadN (q := 52) hx (hb hby d36_51) rfl (by rfl) rfl ?_
  refine Go.aload (q := 54) hx (hb hby d36_52) rfl (by rfl) rfl ?_
  refine Go.putF (q := 57) hx hZ hown (host := "") (Or.inl (tw hw 62 rfl)) Via.refl (Fld.other W76 (F1.keep K68 nin0) (Or.inr (slot_ne (C := "java/lang/String") (Or.inr (tw hw 8 rfl)) (Or.inr (tw hw 9 rfl)) (by decide) (by decide : _ = some (.array .byte)) (by decide : _ = some .byte)))) (Exa.wr W76 (E.keep K68)) (Or.inr ⟨(tw hw 8 rfl), rfl, hnm⟩) (tw hw 6 rfl) (ty := (.array .byte)) (by decide) rfl rfl gs (by simp) (hb hby d36_54) rfl (fun h77 W78 => ?_)
  refine Go.ret0 hx hret hlk (hb hby d36_57) (by decide) (by decide) ?_
  exact ⟨rfl, (((Keep.trans (Keep.refl h0 [sa]) K68 all0).wr W76 (Or.inl (by simp))).wr W78 (Or.inl (by simp))), b65, k66, g67, (Fld.same W78 (Fld.other W76 (F1.keep K68 nin0) (Or.inr (slot_ne (C := "java/lang/String") (Or.inr (tw hw 8 rfl)) (Or.inr (tw hw 9 rfl)) (by decide) (by decide : _ = some (.array .byte)) (by decide : _ = some .byte))))), (Fld.other W78 (Fld.same W76 (F2.keep K68 nin0)) (Or.inr (slot_ne (C := "java/lang/String") (Or.inr (tw hw 9 rfl)) (Or.inr (tw hw 8 rfl)) (by decide) (by decide : _ = some .byte) (by decide : _ = some (.array .byte))))), ((V69.other W76 ne71.symm).other W78 ne71.symm)⟩
theorem rmI2 (l : Launch) (Z : State) (a0 : Array Value) (hw : ∀ d ∈ tables_1, d.before a0 Z = true) (hel : EW Z a0 consts_1) (sa a : Addr) (ka : ClassId) (cst : Int32) (c0 c1 : Int32) (h0 : Heap) (n0 : Nat) (Z0 : n0 ≤ h0.size) (gs : n0 ≤ sa) (nas : a ≠ sa) (E : Exa Z h0 sa "java/lang/String") (F1 : Fld Z h0 sa "java/lang/String" "value" "[B" .null) (F2 : Fld Z h0 sa "java/lang/String" "coder" "B" (.int (0 : Int32))) (A : Arv Z h0 a ka .char (2 : Int32) [.int c0, .int c1] (.int (0 : Int32))) (hp0 : ¬ (255 : Int32) < c0) (hp1 : ¬ (255 : Int32) < c1) (X0 : Old Z n0 h0) (SC : Sta Z Z.heap "java/lang/String" "COMPACT_STRINGS" "Z" (.int cst)) (hcs : ¬ cst = (0 : Int32)) :
    Met l Z consts_1 [sa] (⟨"java/lang/String", "<init>", "([C)V"⟩ : MethodName) jdk_42_method_3_code 2 (Option.none : Option FieldType) [] ({ frames := 3, cells := 1, slots := 2, locals := 52 } : Room) #[(.ref sa), (.ref a)] h0 n0 (fun v h => v = none ∧ Keep h0 h [sa] ∧ ∃ b kb, h0.size ≤ b ∧ Fld Z h sa "java/lang/String" "value" "[B" (.ref b) ∧ Fld Z h sa "java/lang/String" "coder" "B" (.int (0 : Int32)) ∧ Arv Z h b kb .byte (2 : Int32) [(.int (nar .byte c0.toInt8.toInt32)), (.int (nar .byte c1.toInt8.toInt32))] (.int (0 : Int32))) := by
  refine Met.of (Ls0 := #[.val (.ref sa), .val (.ref a)]) pl_4 (by first | (simp [argsToLocals, Value.category]; done) | rfl) hel ?_
  intro p e s m below meth c hx hby hml hret hlk hown hnm hZ
  refine Go.aloadN (q := 1) hx (hb hby d35_0) rfl (by rfl) rfl ?_
  refine Go.aloadN (q := 2) hx (hb hby d35_1) rfl (by rfl) rfl ?_
  refine Go.iconst (q := 3) (z := (0 : Int32)) hx (hb hby d35_2) rfl rfl ?_
  refine Go.aloadN (q := 4) hx (hb hby d35_3) rfl (by rfl) rfl ?_
  refine Go.alen (q := 5) hx hZ A (hb hby d35_4) rfl ?_
  refine Go.aconstNull (q := 6) hx (hb hby d35_5) rfl ?_
  refine Go.callI (q := 9) hx hZ (a := sa) (argsL := [(.ref a), (.int (0 : Int32)), (.int (2 : Int32)), .null]) (rest := []) hown rfl (tw hw 193 rfl) (tw hw 194 rfl) (tw hw 5 rfl) (tw hw 195 rfl) (by decide) (rmS2 l Z a0 hw hel sa a ka cst c0 c1 h0 n0 Z0 gs nas E F1 F2 A hp0 hp1 X0 SC hcs) (by simp) (by rw [hml]; rfl) pd_5 rfl rfl (hb hby d35_6) rfl (by decide) (ble rfl) (ce' := 1) (sl' := 2) rfl rfl (by decide) (by decide) (fun v79 h80 hQ81 => ?_)
  obtain ⟨rfl, K82, Y83⟩ := hQ81
  show Go _ _ _ _ _ _ _ _ _ _ _ _ _ _ _ _ _ _ _ _ 1 2 9 #[.val (.ref sa), .val (.ref a)] []
  refine Go.ret0 hx hret hlk (hb hby d35_9) (by decide) (by decide) ?_
  exact ⟨rfl, (Keep.trans (Keep.refl h0 [sa]) K82 (allS (Or.inl (by simp)) all0)), Y83⟩
theorem rmC3 (l : Launch) (Z : State) (a0 : Array Value) (hw : ∀ d ∈ tables_1, d.before a0 Z = true) (hel : EW Z a0 consts_1) (a b : Addr) (ka kb : ClassId) (c0 c1 c2 : Int32) (h0 : Heap) (n0 : Nat) (Z0 : n0 ≤ h0.size) (A : Arv Z h0 a ka .char (3 : Int32) [.int c0, .int c1, .int c2] (.int (0 : Int32))) (B : Arv Z h0 b kb .byte (3 : Int32) [(.int (0 : Int32)), (.int (0 : Int32)), (.int (0 : Int32))] (.int (0 : Int32))) (gb : n0 ≤ b) (nab : a ≠ b) (hp0 : ¬ (255 : Int32) < c0) (hp1 : ¬ (255 : Int32) < c1) (hp2 : ¬ (255 : Int32) < c2) :
    Met l Z consts_1 [b] (⟨"java/lang/StringUTF16", "compress", "([CI[BII)I"⟩ : MethodName) jdk_52_method_21_code 7 (Option.some FieldType.int) [] ({ frames := 0, cells := 0, slots := 0, locals := 0 } : Room) #[(.ref a), (.int (0 : Int32)), (.ref b), (.int (0 : Int32)), (.int (3 : Int32))] h0 n0 (fun v h => v = some (.int (3 : Int32)) ∧ Keep h0 h [b] ∧ Arv Z h b kb .byte (3 : Int32) [(.int (nar .byte c0.toInt8.toInt32)), (.int (nar .byte c1.toInt8.toInt32)), (.int (nar .byte c2.toInt8.toInt32))] (.int (0 : Int32))) := by
  refine Met.of (Ls0 := #[.val (.ref a), .val (.int (0 : Int32)), .val (.ref b), .val (.int (0 : Int32)), .val (.int (3 : Int32)), .unset, .unset]) pl_1 (by first | (simp [argsToLocals, Value.category]; done) | rfl) hel ?_
  intro p e s m below meth c hx hby hml hret hlk hown hnm hZ
  refine Go.iconst (q := 1) (z := (0 : Int32)) hx (hb hby d38_0) rfl rfl ?_
  refine Go.istore (q := 3) (l' := #[.val (.ref a), .val (.int (0 : Int32)), .val (.ref b), .val (.int (0 : Int32)), .val (.int (3 : Int32)), .val (.int (0 : Int32)), .unset]) hx (hb hby d38_1) rfl rfl ?_
  refine Go.iload (q := 5) hx (hb hby d38_3) rfl rfl ?_
  refine Go.iload (q := 7) hx (hb hby d38_5) rfl rfl ?_
  refine Go.icmp_ge (q := 10) (t := 44) hx (hb hby d38_7) (by decide) rfl rfl (fun hc7 => absurd hc7 (by decide)) (fun hc7 => ?_)
  refine Go.aloadN (q := 11) hx (hb hby d38_10) rfl (by rfl) rfl ?_
  refine Go.iloadN (q := 12) hx (hb hby d38_11) rfl rfl ?_
  refine Go.caload (q := 13) (v := (.int c0)) hx hZ A ⟨by decide, by decide⟩ rfl (hb hby d38_12) rfl ?_
  refine Go.istore (q := 15) (l' := #[.val (.ref a), .val (.int (0 : Int32)), .val (.ref b), .val (.int (0 : Int32)), .val (.int (3 : Int32)), .val (.int (0 : Int32)), .val (.int c0)]) hx (hb hby d38_13) rfl rfl ?_
  refine Go.iload (q := 17) hx (hb hby d38_15) rfl rfl ?_
  refine Go.sipush (q := 20) (z := (255 : Int32)) hx (hb hby d38_17) rfl rfl ?_
  refine Go.icmp_le (q := 23) (t := 26) hx (hb hby d38_20) (by decide) rfl rfl (fun hc20 => ?_) (fun hc20 => absurd hc20 hp0)
  refine Go.aloadN (q := 27) hx (hb hby d38_26) rfl (by rfl) rfl ?_
  refine Go.iloadN (q := 28) hx (hb hby d38_27) rfl rfl ?_
  refine Go.iload (q := 30) hx (hb hby d38_28) rfl rfl ?_
  refine Go.i2b (q := 31) hx (hb hby d38_30) rfl ?_
  refine Go.bastore (q := 32) hx hZ B ⟨by decide, by decide⟩ 0 rfl (ble rfl) gb (by simp) (hb hby d38_31) rfl (fun h84 W85 V86 => ?_)
  refine Go.iinc (q := 35) (l' := #[.val (.ref a), .val (.int ((0 : Int32) + (1 : Int32))), .val (.ref b), .val (.int (0 : Int32)), .val (.int (3 : Int32)), .val (.int (0 : Int32)), .val (.int c0)]) hx (hb hby d38_32) rfl rfl rfl ?_
  refine Go.iinc (q := 38) (l' := #[.val (.ref a), .val (.int ((0 : Int32) + (1 : Int32))), .val (.ref b), .val (.int ((0 : Int32) + (1 : Int32))), .val (.int (3 : Int32)), .val (.int (0 : Int32)), .val (.int c0)]) hx (hb hby d38_35) rfl rfl rfl ?_
  refine Go.iinc (q := 41) (l' := #[.val (.ref a), .val (.int ((0 : Int32) + (1 : Int32))), .val (.ref b), .val (.int ((0 : Int32) + (1 : Int32))), .val (.int (3 : Int32)), .val (.int ((0 : Int32) + (1 : Int32))), .val (.int c0)]) hx (hb hby d38_38) rfl rfl rfl ?_
  refine Go.goto (q := 3) hx (hb hby d38_41) (by decide) rfl ?_
  refine Go.iload (q := 5) hx (hb hby d38_3) rfl rfl ?_
  refine Go.iload (q := 7) hx (hb hby d38_5) rfl rfl ?_
  refine Go.icmp_ge (q := 10) (t := 44) hx (hb hby d38_7) (by decide) rfl rfl (fun hc7_1 => absurd hc7_1 (by decide)) (fun hc7_1 => ?_)
  refine Go.aloadN (q := 11) hx (hb hby d38_10) rfl (by rfl) rfl ?_
  refine Go.iloadN (q := 12) hx (hb hby d38_11) rfl rfl ?_
  refine Go.caload (q := 13) (v := (.int c1)) hx hZ (A.other W85 nab) ⟨by decide, by decide⟩ rfl (hb hby d38_12) rfl ?_
  refine Go.istore (q := 15) (l' := #[.val (.ref a), .val (.int ((0 : Int32) + (1 : Int32))), .val (.ref b), .val (.int ((0 : Int32) + (1 : Int32))), .val (.int (3 : Int32)), .val (.int ((0 : Int32) + (1 : Int32))), .val (.int c1)]) hx (hb hby d38_13) rfl rfl ?_
  refine Go.iload (q := 17) hx (hb hby d38_15) rfl rfl ?_
  refine Go.sipush (q := 20) (z := (255 : Int32)) hx (hb hby d38_17) rfl rfl ?_
  refine Go.icmp_le (q := 23) (t := 26) hx (hb hby d38_20) (by decide) rfl rfl (fun hc20_1 => ?_) (fun hc20_1 => absurd hc20_1 hp1)
  refine Go.aloadN (q := 27) hx (hb hby d38_26) rfl (by rfl) rfl ?_
  refine Go.iloadN (q := 28) hx (hb hby d38_27) rfl rfl ?_
  refine Go.iload (q := 30) hx (hb hby d38_28) rfl rfl ?_
  refine Go.i2b (q := 31) hx (hb hby d38_30) rfl ?_
  refine Go.bastore (q := 32) hx hZ V86 ⟨by decide, by decide⟩ 1 rfl (ble rfl) gb (by simp) (hb hby d38_31) rfl (fun h87 W88 V89 => ?_)
  refine Go.iinc (q := 35) (l' := #[.val (.ref a), .val (.int (((0 : Int32) + (1 : Int32)) + (1 : Int32))), .val (.ref b), .val (.int ((0 : Int32) + (1 : Int32))), .val (.int (3 : Int32)), .val (.int ((0 : Int32) + (1 : Int32))), .val (.int c1)]) hx (hb hby d38_32) rfl rfl rfl ?_
  refine Go.iinc (q := 38) (l' := #[.val (.ref a), .val (.int (((0 : Int32) + (1 : Int32)) + (1 : Int32))), .val (.ref b), .val (.int (((0 : Int32) + (1 : Int32)) + (1 : Int32))), .val (.int (3 : Int32)), .val (.int ((0 : Int32) + (1 : Int32))), .val (.int c1)]) hx (hb hby d38_35) rfl rfl rfl ?_
  refine Go.iinc (q := 41) (l' := #[.val (.ref a), .val (.int (((0 : Int32) + (1 : Int32)) + (1 : Int32))), .val (.ref b), .val (.int (((0 : Int32) + (1 : Int32)) + (1 : Int32))), .val (.int (3 : Int32)), .val (.int (((0 : Int32) + (1 : Int32)) + (1 : Int32))), .val (.int c1)]) hx (hb hby d38_38) rfl rfl rfl ?_
  refine Go.goto (q := 3) hx (hb hby d38_41) (by decide) rfl ?_
  refine Go.iload (q := 5) hx (hb hby d38_3) rfl rfl ?_
  refine Go.iload (q := 7) hx (hb hby d38_5) rfl rfl ?_
  refine Go.icmp_ge (q := 10) (t := 44) hx (hb hby d38_7) (by decide) rfl rfl (fun hc7_2 => absurd hc7_2 (by decide)) (fun hc7_2 => ?_)
  refine Go.aloadN (q := 11) hx (hb hby d38_10) rfl (by rfl) rfl ?_
  refine Go.iloadN (q := 12) hx (hb hby d38_11) rfl rfl ?_
  refine Go.caload (q := 13) (v := (.int c2)) hx hZ ((A.other W85 nab).other W88 nab) ⟨by decide, by decide⟩ rfl (hb hby d38_12) rfl ?_
  refine Go.istore (q := 15) (l' := #[.val (.ref a), .val (.int (((0 : Int32) + (1 : Int32)) + (1 : Int32))), .val (.ref b), .val (.int (((0 : Int32) + (1 : Int32)) + (1 : Int32))), .val (.int (3 : Int32)), .val (.int (((0 : Int32) + (1 : Int32)) + (1 : Int32))), .val (.int c2)]) hx (hb hby d38_13) rfl rfl ?_
  refine Go.iload (q := 17) hx (hb hby d38_15) rfl rfl ?_
  refine Go.sipush (q := 20) (z := (255 : Int32)) hx (hb hby d38_17) rfl rfl ?_
  refine Go.icmp_le (q := 23) (t := 26) hx (hb hby d38_20) (by decide) rfl rfl (fun hc20_2 => ?_) (fun hc20_2 => absurd hc20_2 hp2)
  refine Go.aloadN (q := 27) hx (hb hby d38_26) rfl (by rfl) rfl ?_
  refine Go.iloadN (q := 28) hx (hb hby d38_27) rfl rfl ?_
  refine Go.iload (q := 30) hx (hb hby d38_28) rfl rfl ?_
  refine Go.i2b (q := 31) hx (hb hby d38_30) rfl ?_
  refine Go.bastore (q := 32) hx hZ V89 ⟨by decide, by decide⟩ 2 rfl (ble rfl) gb (by simp) (hb hby d38_31) rfl (fun h90 W91 V92 => ?_)
  refine Go.iinc (q := 35) (l' := #[.val (.ref a), .val (.int ((((0 : Int32) + (1 : Int32)) + (1 : Int32)) + (1 : Int32))), .val (.ref b), .val (.int (((0 : Int32) + (1 : Int32)) + (1 : Int32))), .val (.int (3 : Int32)), .val (.int (((0 : Int32) + (1 : Int32)) + (1 : Int32))), .val (.int c2)]) hx (hb hby d38_32) rfl rfl rfl ?_
  refine Go.iinc (q := 38) (l' := #[.val (.ref a), .val (.int ((((0 : Int32) + (1 : Int32)) + (1 : Int32)) + (1 : Int32))), .val (.ref b), .val (.int ((((0 : Int32) + (1 : Int32)) + (1 : Int32)) + (1 : Int32))), .val (.int (3 : Int32)), .val (.int (((0 : Int32) + (1 : Int32)) + (1 : Int32))), .val (.int c2)]) hx (hb hby d38_35) rfl rfl rfl ?_
  refine Go.iinc (q := 41) (l' := #[.val (.ref a), .val (.int ((((0 : Int32) + (1 : Int32)) + (1 : Int32)) + (1 : Int32))), .val (.ref b), .val (.int ((((0 : Int32) + (1 : Int32)) + (1 : Int32)) + (1 : Int32))), .val (.int (3 : Int32)), .val (.int ((((0 : Int32) + (1 : Int32)) + (1 : Int32)) + (1 : Int32))), .val (.int c2)]) hx (hb hby d38_38) rfl rfl rfl ?_
  refine Go.goto (q := 3) hx (hb hby d38_41) (by decide) rfl ?_
  refine Go.iload (q := 5) hx (hb hby d38_3) rfl rfl ?_
  refine Go.iload (q := 7) hx (hb hby d38_5) rfl rfl ?_
  refine Go.icmp_ge (q := 10) (t := 44) hx (hb hby d38_7) (by decide) rfl rfl (fun hc7_3 => ?_) (fun hc7_3 => absurd hc7_3 (by decide))
  refine Go.iload (q := 46) hx (hb hby d38_44) rfl rfl ?_
  refine Go.retI hx hret hlk (hb hby d38_46) (by decide) (by decide) ?_
  exact ⟨rfl, ((((Keep.refl h0 [b]).wr W85 (Or.inl (by simp))).wr W88 (Or.inl (by simp))).wr W91 (Or.inl (by simp))), V92⟩
theorem rmD3 (l : Launch) (Z : State) (a0 : Array Value) (hw : ∀ d ∈ tables_1, d.before a0 Z = true) (hel : EW Z a0 consts_1) (a : Addr) (ka : ClassId) (c0 c1 c2 : Int32) (h0 : Heap) (n0 : Nat) (Z0 : n0 ≤ h0.size) (A : Arv Z h0 a ka .char (3 : Int32) [.int c0, .int c1, .int c2] (.int (0 : Int32))) (hp0 : ¬ (255 : Int32) < c0) (hp1 : ¬ (255 : Int32) < c1) (hp2 : ¬ (255 : Int32) < c2) :
    Met l Z consts_1 [] (⟨"java/lang/StringUTF16", "compress", "([CII)[B"⟩ : MethodName) jdk_52_method_16_code 6 (Option.some (FieldType.array FieldType.byte)) [] ({ frames := 1, cells := 1, slots := 3, locals := 18 } : Room) #[(.ref a), (.int (0 : Int32)), (.int (3 : Int32))] h0 n0 (fun v h => ∃ b kb, v = some (.ref b) ∧ h0.size ≤ b ∧ Keep h0 h [] ∧ Arv Z h b kb .byte (3 : Int32) [(.int (nar .byte c0.toInt8.toInt32)), (.int (nar .byte c1.toInt8.toInt32)), (.int (nar .byte c2.toInt8.toInt32))] (.int (0 : Int32))) := by
  refine Met.of (Ls0 := #[.val (.ref a), .val (.int (0 : Int32)), .val (.int (3 : Int32)), .unset, .unset, .unset]) pl_2 (by first | (simp [argsToLocals, Value.category]; done) | rfl) hel ?_
  intro p e s m below meth c hx hby hml hret hlk hown hnm hZ
  refine Go.iloadN (q := 1) hx (hb hby d37_0) rfl rfl ?_
  refine Go.newP (q := 3) (cap := 3) hx hZ (tw hw 7 rfl) (by decide) (by decide) (hb hby d37_1) rfl (by decide) (ce' := 1) (sl' := 3) rfl rfl (by decide) (by decide) (fun h93 a94 k95 g96 E97 A98 => ?_)
  have ne99 : a ≠ a94 := by rw [g96]; exact Nat.ne_of_lt (A).lt
  have gz100 : n0 ≤ a94 := by rw [g96]; exact Z0
  have gk101 : h0.size ≤ a94 := by rw [g96]; exact (Keep.refl h0 []).1
  have V102 : Arv Z h93 a94 k95 .byte (3 : Int32) [(.int (0 : Int32)), (.int (0 : Int32)), (.int (0 : Int32))] (.int (0 : Int32)) := A98.pad (pad_rep [] (.int (0 : Int32)) 3)
  refine Go.astoreN (q := 4) (l' := #[.val (.ref a), .val (.int (0 : Int32)), .val (.int (3 : Int32)), .val (.ref a94), .unset, .unset]) hx (hb hby d37_3) (by rfl) rfl rfl ?_
  refine Go.aloadN (q := 5) hx (hb hby d37_4) rfl (by rfl) rfl ?_
  refine Go.iloadN (q := 6) hx (hb hby d37_5) rfl rfl ?_
  refine Go.aloadN (q := 7) hx (hb hby d37_6) rfl (by rfl) rfl ?_
  refine Go.iconst (q := 8) (z := (0 : Int32)) hx (hb hby d37_7) rfl rfl ?_
  refine Go.iloadN (q := 9) hx (hb hby d37_8) rfl rfl ?_
  refine Go.callS (q := 12) hx hZ (argsL := [(.ref a), (.int (0 : Int32)), (.ref a94), (.int (0 : Int32)), (.int (3 : Int32))]) (rest := []) hown (tw hw 200 rfl) (tw hw 201 rfl) (tw hw 198 rfl) (tw hw 202 rfl) (by decide) (rmC3 l Z a0 hw hel a a94 ka k95 c0 c1 c2 h93 n0 (Nat.le_trans Z0 E97.1) (A.ext E97) V102 gz100 ne99 hp0 hp1 hp2) (by simp) (by rw [hml]; rfl) pd_0 rfl rfl (hb hby d37_9) rfl (by decide) (ble rfl) (ce' := 1) (sl' := 3) rfl rfl (by decide) (by decide) (fun v103 h104 hQ105 => ?_)
  obtain ⟨rfl, K106, V107⟩ := hQ105
  show Go _ _ _ _ _ _ _ _ _ _ _ _ _ _ _ _ _ _ _ _ 1 3 12 #[.val (.ref a), .val (.int (0 : Int32)), .val (.int (3 : Int32)), .val (.ref a94), .unset, .unset] [(.int (3 : Int32))]
  refine Go.istore (q := 14) (l' := #[.val (.ref a), .val (.int (0 : Int32)), .val (.int (3 : Int32)), .val (.ref a94), .val (.int (3 : Int32)), .unset]) hx (hb hby d37_12) rfl rfl ?_
  refine Go.iload (q := 16) hx (hb hby d37_14) rfl rfl ?_
  refine Go.iloadN (q := 17) hx (hb hby d37_16) rfl rfl ?_
  refine Go.icmp_eq (q := 20) (t := 57) hx (hb hby d37_17) (by decide) rfl rfl (fun hc17 => ?_) (fun hc17 => absurd hc17 (by decide))
  refine Go.aloadN (q := 58) hx (hb hby d37_57) rfl (by rfl) rfl ?_
  refine Go.retA hx hret rfl (by rfl) hlk (hb hby d37_58) (by decide) (by decide) ?_
  exact ⟨a94, _, rfl, gk101, (Keep.trans ((Keep.refl h0 []).ext E97) K106 (allS (Or.inr gk101) all0)), V107⟩
theorem rmS3 (l : Launch) (Z : State) (a0 : Array Value) (hw : ∀ d ∈ tables_1, d.before a0 Z = true) (hel : EW Z a0 consts_1) (sa a : Addr) (ka : ClassId) (cst : Int32) (c0 c1 c2 : Int32) (h0 : Heap) (n0 : Nat) (Z0 : n0 ≤ h0.size) (gs : n0 ≤ sa) (nas : a ≠ sa) (E : Exa Z h0 sa "java/lang/String") (F1 : Fld Z h0 sa "java/lang/String" "value" "[B" .null) (F2 : Fld Z h0 sa "java/lang/String" "coder" "B" (.int (0 : Int32))) (A : Arv Z h0 a ka .char (3 : Int32) [.int c0, .int c1, .int c2] (.int (0 : Int32))) (hp0 : ¬ (255 : Int32) < c0) (hp1 : ¬ (255 : Int32) < c1) (hp2 : ¬ (255 : Int32) < c2) (X0 : Old Z n0 h0) (SC : Sta Z Z.heap "java/lang/String" "COMPACT_STRINGS" "Z" (.int cst)) (hcs : ¬ cst = (0 : Int32)) :
    Met l Z consts_1 [sa] (⟨"java/lang/String", "<init>", "([CIILjava/lang/Void;)V"⟩ : MethodName) jdk_42_method_149_code 6 (Option.none : Option FieldType) [] ({ frames := 2, cells := 1, slots := 3, locals := 35 } : Room) #[(.ref sa), (.ref a), (.int (0 : Int32)), (.int (3 : Int32)), .null] h0 n0 (fun v h => v = none ∧ Keep h0 h [sa] ∧ ∃ b kb, h0.size ≤ b ∧ Fld Z h sa "java/lang/String" "value" "[B" (.ref b) ∧ Fld Z h sa "java/lang/String" "coder" "B" (.int (0 : Int32)) ∧ Arv Z h b kb .byte (3 : Int32) [(.int (nar .byte c0.toInt8.toInt32)), (.int (nar .byte c1.toInt8.toInt32)), (.int (nar .byte c2.toInt8.toInt32))] (.int (0 : Int32))) := by
  refine Met.of (Ls0 := #[.val (.ref sa), .val (.ref a), .val (.int (0 : Int32)), .val (.int (3 : Int32)), .val .null, .unset]) pl_3 (by first | (simp [argsToLocals, Value.category]; done) | rfl) hel ?_
  have hSA : ∀ d ∈ Bundle.stringAtoms, d.before a0 Z = true := fun d hd => hw d ((by decide +kernel : ∀ d ∈ Bundle.stringAtoms, d ∈ tables_1) d hd)
  intro p e s m below meth c hx hby hml hret hlk hown hnm hZ
  refine Go.aloadN (q := 1) hx (hb hby d36_0) rfl (by rfl) rfl ?_
  refine Go.initO (q := 4) hx hZ hown (tw hw 133 rfl) (tw hw 19 rfl) (tw hw 20 rfl) (by rw [hml]; rfl) (hb hby d36_1) rfl (by decide) (ble rfl) ?_
  refine Go.iloadN (q := 5) hx (hb hby d36_4) rfl rfl ?_
  refine Go.if_ne (q := 8) (t := 27) hx (hb hby d36_5) (by decide) rfl rfl (fun hc5 => ?_) (fun hc5 => absurd hc5 (by decide))
  refine Go.getS (q := 30) hx hZ hown (host := "") (Or.inl (tw hw 68 rfl)) Via.refl (Sta.ext X0.2 SC) (hb hby d36_27) rfl ?_
  refine Go.if_eq (q := 33) (t := 58) hx (hb hby d36_30) (by decide) rfl rfl (fun hc30 => absurd hc30 hcs) (fun hc30 => ?_)
  refine Go.aloadN (q := 34) hx (hb hby d36_33) rfl (by rfl) rfl ?_
  refine Go.iloadN (q := 35) hx (hb hby d36_34) rfl rfl ?_
  refine Go.iloadN (q := 36) hx (hb hby d36_35) rfl rfl ?_
  refine Go.callS (q := 39) hx hZ (argsL := [(.ref a), (.int (0 : Int32)), (.int (3 : Int32))]) (rest := []) hown (tw hw 196 rfl) (tw hw 197 rfl) (tw hw 198 rfl) (tw hw 199 rfl) (by decide) (rmD3 l Z a0 hw hel a ka c0 c1 c2 h0 n0 Z0 A hp0 hp1 hp2) (fun _ hx => nomatch hx) (by rw [hml]; rfl) pd_1 rfl rfl (hb hby d36_36) rfl (by decide) (ble rfl) (ce' := 1) (sl' := 3) rfl rfl (by decide) (by decide) (fun v108 h109 hQ110 => ?_)
  have lt116 := (E).lt
  obtain ⟨b111, k112, rfl, g113, K114, V115⟩ := hQ110
  have ne117 : sa ≠ b111 := Nat.ne_of_lt (Nat.lt_of_lt_of_le lt116 g113)
  show Go _ _ _ _ _ _ _ _ _ _ _ _ _ _ _ _ _ _ _ _ 1 3 39 #[.val (.ref sa), .val (.ref a), .val (.int (0 : Int32)), .val (.int (3 : Int32)), .val .null, .unset] [(.ref b111)]
  refine Go.astore (q := 41) (l' := #[.val (.ref sa), .val (.ref a), .val (.int (0 : Int32)), .val (.int (3 : Int32)), .val .null, .val (.ref b111)]) hx (hb hby d36_39) (by rfl) rfl rfl ?_
  refine Go.aloadN (q := 42) hx (hb hby d36_41) rfl (by rfl) rfl ?_
  refine Go.aload (q := 44) hx (hb hby d36_42) rfl (by rfl) rfl ?_
  refine Go.iloadN (q := 45) hx (hb hby d36_44) rfl rfl ?_
  refine Go.callS (q := 48) hx hZ (argsL := [(.ref b111), (.int (3 : Int32))]) (rest := [(.ref sa)]) hown (tw hw 203 rfl) (tw hw 204 rfl) (tw hw 198 rfl) (tw hw 205 rfl) (by decide) (rmK l Z a0 hw hel b111 k112 (3 : Int32) _ h109 n0 (Nat.le_trans Z0 K114.1) V115) (fun _ hx => nomatch hx) (by rw [hml]; rfl) pd_4 rfl rfl (hb hby d36_45) rfl (by decide) (ble rfl) (ce' := 1) (sl' := 3) rfl rfl (by decide) (by decide) (fun v118 h119 hQ120 => ?_)
  obtain ⟨rfl, rfl⟩ := hQ120
  show Go _ _ _ _ _ _ _ _ _ _ _ _ _ _ _ _ _ _ _ _ 1 3 48 #[.val (.ref sa), .val (.ref a), .val (.int (0 : Int32)), .val (.int (3 : Int32)), .val .null, .val (.ref b111)] [(.int (0 : Int32)), (.ref sa)]
  refine Go.putF (q := 51) hx hZ hown (host := "") (Or.inl (tw hw 69 rfl)) Via.refl (F2.keep K114 nin0) (E.keep K114) (Or.inr ⟨(tw hw 9 rfl), rfl, hnm⟩) (tw hw 6 rfl) (ty := .byte) (by decide) rfl rfl gs (by simp) (hb hby d36_48) rfl (fun h121 W122 => ?_)
  refine Go.aloadN (q := 52) hx (hb hby d36_51) rfl (by rfl) rfl ?_
  refine Go.aload (q := 54) hx (hb hby d36_52) rfl (by rfl) rfl ?_
  refine Go.putF (q := 57) hx hZ hown (host := "") (Or.inl (tw hw 62 rfl)) Via.refl (Fld.other W122 (F1.keep K114 nin0) (Or.inr (slot_ne (C := "java/lang/String") (Or.inr (tw hw 8 rfl)) (Or.inr (tw hw 9 rfl)) (by decide) (by decide : _ = some (.array .byte)) (by decide : _ = some .byte)))) (Exa.wr W122 (E.keep K114)) (Or.inr ⟨(tw hw 8 rfl), rfl, hnm⟩) (tw hw 6 rfl) (ty := (.array .byte)) (by decide) rfl rfl gs (by simp) (hb hby d36_54) rfl (fun h123 W124 => ?_)
  refine Go.ret0 hx hret hlk (hb hby d36_57) (by decide) (by decide) ?_
  exact ⟨rfl, (((Keep.trans (Keep.refl h0 [sa]) K114 all0).wr W122 (Or.inl (by simp))).wr W124 (Or.inl (by simp))), b111, k112, g113, (Fld.same W124 (Fld.other W122 (F1.keep K114 nin0) (Or.inr (slot_ne (C := "java/lang/String") (Or.inr (tw hw 8 rfl)) (Or.inr (tw hw 9 rfl)) (by decide) (by decide : _ = some (.array .byte)) (by decide : _ = some .byte))))), (Fld.other W124 (Fld.same W122 (F2.keep K114 nin0)) (Or.inr (slot_ne (C := "java/lang/String") (Or.inr (tw hw 9 rfl)) (Or.inr (tw hw 8 rfl)) (by decide) (by decide : _ = some .byte) (by decide : _ = some (.array .byte))))), ((V115.other W122 ne117.symm).other W124 ne117.symm)⟩
theorem rmI3 (l : Launch) (Z : State) (a0 : Array Value) (hw : ∀ d ∈ tables_1, d.before a0 Z = true) (hel : EW Z a0 consts_1) (sa a : Addr) (ka : ClassId) (cst : Int32) (c0 c1 c2 : Int32) (h0 : Heap) (n0 : Nat) (Z0 : n0 ≤ h0.size) (gs : n0 ≤ sa) (nas : a ≠ sa) (E : Exa Z h0 sa "java/lang/String") (F1 : Fld Z h0 sa "java/lang/String" "value" "[B" .null) (F2 : Fld Z h0 sa "java/lang/String" "coder" "B" (.int (0 : Int32))) (A : Arv Z h0 a ka .char (3 : Int32) [.int c0, .int c1, .int c2] (.int (0 : Int32))) (hp0 : ¬ (255 : Int32) < c0) (hp1 : ¬ (255 : Int32) < c1) (hp2 : ¬ (255 : Int32) < c2) (X0 : Old Z n0 h0) (SC : Sta Z Z.heap "java/lang/String" "COMPACT_STRINGS" "Z" (.int cst)) (hcs : ¬ cst = (0 : Int32)) :
    Met l Z consts_1 [sa] (⟨"java/lang/String", "<init>", "([C)V"⟩ : MethodName) jdk_42_method_3_code 2 (Option.none : Option FieldType) [] ({ frames := 3, cells := 1, slots := 3, locals := 52 } : Room) #[(.ref sa), (.ref a)] h0 n0 (fun v h => v = none ∧ Keep h0 h [sa] ∧ ∃ b kb, h0.size ≤ b ∧ Fld Z h sa "java/lang/String" "value" "[B" (.ref b) ∧ Fld Z h sa "java/lang/String" "coder" "B" (.int (0 : Int32)) ∧ Arv Z h b kb .byte (3 : Int32) [(.int (nar .byte c0.toInt8.toInt32)), (.int (nar .byte c1.toInt8.toInt32)), (.int (nar .byte c2.toInt8.toInt32))] (.int (0 : Int32))) := by
  refine Met.of (Ls0 := #[.val (.ref sa), .val (.ref a)]) pl_4 (by first | (simp [argsToLocals, Value.category]; done) | rfl) hel ?_
  intro p e s m below meth c hx hby hml hret hlk hown hnm hZ
  refine Go.aloadN (q := 1) hx (hb hby d35_0) rfl (by rfl) rfl ?_
  refine Go.aloadN (q := 2) hx (hb hby d35_1) rfl (by rfl) rfl ?_
  refine Go.iconst (q := 3) (z := (0 : Int32)) hx (hb hby d35_2) rfl rfl ?_
  refine Go.aloadN (q := 4) hx (hb hby d35_3) rfl (by rfl) rfl ?_
  refine Go.alen (q := 5) hx hZ A (hb hby d35_4) rfl ?_
  refine Go.aconstNull (q := 6) hx (hb hby d35_5) rfl ?_
  refine Go.callI (q := 9) hx hZ (a := sa) (argsL := [(.ref a), (.int (0 : Int32)), (.int (3 : Int32)), .null]) (rest := []) hown rfl (tw hw 193 rfl) (tw hw 194 rfl) (tw hw 5 rfl) (tw hw 195 rfl) (by decide) (rmS3 l Z a0 hw hel sa a ka cst c0 c1 c2 h0 n0 Z0 gs nas E F1 F2 A hp0 hp1 hp2 X0 SC hcs) (by simp) (by rw [hml]; rfl) pd_5 rfl rfl (hb hby d35_6) rfl (by decide) (ble rfl) (ce' := 1) (sl' := 3) rfl rfl (by decide) (by decide) (fun v125 h126 hQ127 => ?_)
  obtain ⟨rfl, K128, Y129⟩ := hQ127
  show Go _ _ _ _ _ _ _ _ _ _ _ _ _ _ _ _ _ _ _ _ 1 3 9 #[.val (.ref sa), .val (.ref a)] []
  refine Go.ret0 hx hret hlk (hb hby d35_9) (by decide) (by decide) ?_
  exact ⟨rfl, (Keep.trans (Keep.refl h0 [sa]) K128 (allS (Or.inl (by simp)) all0)), Y129⟩
theorem d42_0 : decode jdk_52_method_3_code 0 = .ok (.iload_n 0, 1) := by decide +kernel
theorem d42_1 : decode jdk_52_method_3_code 1 = .ok (.ifCond .ge 11, 3) := by decide +kernel
theorem d42_4 : decode jdk_52_method_3_code 4 = .ok (.new 17, 3) := by decide +kernel
theorem d42_7 : decode jdk_52_method_3_code 7 = .ok (.dup, 1) := by decide +kernel
theorem d42_8 : decode jdk_52_method_3_code 8 = .ok (.invokespecial 19, 3) := by decide +kernel
theorem d42_11 : decode jdk_52_method_3_code 11 = .ok (.athrow, 1) := by decide +kernel
theorem d42_12 : decode jdk_52_method_3_code 12 = .ok (.iload_n 0, 1) := by decide +kernel
theorem d42_13 : decode jdk_52_method_3_code 13 = .ok (.ldc 20, 2) := by decide +kernel
theorem d42_15 : decode jdk_52_method_3_code 15 = .ok (.if_icmp .lt 40, 3) := by decide +kernel
theorem d42_18 : decode jdk_52_method_3_code 18 = .ok (.new 21, 3) := by decide +kernel
theorem d42_21 : decode jdk_52_method_3_code 21 = .ok (.dup, 1) := by decide +kernel
theorem d42_22 : decode jdk_52_method_3_code 22 = .ok (.new 23, 3) := by decide +kernel
theorem d42_25 : decode jdk_52_method_3_code 25 = .ok (.dup, 1) := by decide +kernel
theorem d42_26 : decode jdk_52_method_3_code 26 = .ok (.invokespecial 25, 3) := by decide +kernel
theorem d42_29 : decode jdk_52_method_3_code 29 = .ok (.ldc 26, 2) := by decide +kernel
theorem d42_31 : decode jdk_52_method_3_code 31 = .ok (.invokevirtual 28, 3) := by decide +kernel
theorem d42_34 : decode jdk_52_method_3_code 34 = .ok (.iload_n 0, 1) := by decide +kernel
theorem d42_35 : decode jdk_52_method_3_code 35 = .ok (.invokevirtual 32, 3) := by decide +kernel
theorem d42_38 : decode jdk_52_method_3_code 38 = .ok (.ldc 35, 2) := by decide +kernel
theorem d42_40 : decode jdk_52_method_3_code 40 = .ok (.invokevirtual 28, 3) := by decide +kernel
theorem d42_43 : decode jdk_52_method_3_code 43 = .ok (.ldc 20, 2) := by decide +kernel
theorem d42_45 : decode jdk_52_method_3_code 45 = .ok (.invokevirtual 32, 3) := by decide +kernel
theorem d42_48 : decode jdk_52_method_3_code 48 = .ok (.invokevirtual 37, 3) := by decide +kernel
theorem d42_51 : decode jdk_52_method_3_code 51 = .ok (.invokespecial 41, 3) := by decide +kernel
theorem d42_54 : decode jdk_52_method_3_code 54 = .ok (.athrow, 1) := by decide +kernel
theorem d42_55 : decode jdk_52_method_3_code 55 = .ok (.iload_n 0, 1) := by decide +kernel
theorem d42_56 : decode jdk_52_method_3_code 56 = .ok (.iconst 1, 1) := by decide +kernel
theorem d42_57 : decode jdk_52_method_3_code 57 = .ok (.ishl, 1) := by decide +kernel
theorem d42_58 : decode jdk_52_method_3_code 58 = .ok (.ireturn, 1) := by decide +kernel
theorem pl_5 : plainFor (⟨"java/lang/StringUTF16", "newBytesLength", "(I)I"⟩ : MethodName) = true := plainFor_of_name (by first | (simp [plainName, overriddenIn]; done) | decide +kernel)
theorem rmNL1 (l : Launch) (Z : State) (a0 : Array Value) (hw : ∀ d ∈ tables_1, d.before a0 Z = true) (hel : EW Z a0 consts_1)  (h0 : Heap) (n0 : Nat) (Z0 : n0 ≤ h0.size)  :
    Met l Z consts_1 [] (⟨"java/lang/StringUTF16", "newBytesLength", "(I)I"⟩ : MethodName) jdk_52_method_3_code 1 (Option.some FieldType.int) [] ({ frames := 0, cells := 0, slots := 0, locals := 0 } : Room) #[(.int (1 : Int32))] h0 n0 (fun v h => v = some (.int (2 : Int32)) ∧ h0 = h) := by
  refine Met.of (Ls0 := #[.val (.int (1 : Int32))]) pl_5 (by first | (simp [argsToLocals, Value.category]; done) | rfl) hel ?_
  have hSA : ∀ d ∈ Bundle.stringAtoms, d.before a0 Z = true := fun d hd => hw d ((by decide +kernel : ∀ d ∈ Bundle.stringAtoms, d ∈ tables_1) d hd)
  intro p e s m below meth c hx hby hml hret hlk hown hnm hZ
  refine Go.iloadN (q := 1) hx (hb hby d42_0) rfl rfl ?_
  refine Go.if_ge (q := 4) (t := 12) hx (hb hby d42_1) (by decide) rfl rfl (fun hc1 => ?_) (fun hc1 => absurd hc1 (by decide))
  refine Go.iloadN (q := 13) hx (hb hby d42_12) rfl rfl ?_
  refine Go.ldcInt (q := 15) hx hZ hown (tw hw 215 rfl) (hb hby d42_13) rfl ?_
  refine Go.icmp_lt (q := 18) (t := 55) hx (hb hby d42_15) (by decide) rfl rfl (fun hc15 => ?_) (fun hc15 => absurd hc15 (by decide))
  refine Go.iloadN (q := 56) hx (hb hby d42_55) rfl rfl ?_
  refine Go.iconst (q := 57) (z := (1 : Int32)) hx (hb hby d42_56) rfl rfl ?_
  refine Go.ishl (q := 58) hx (hb hby d42_57) rfl ?_
  rw [show (1 : Int32) <<< ((1 : Int32) &&& 31) = (2 : Int32) from by decide]
  refine Go.retI hx hret hlk (hb hby d42_58) (by decide) (by decide) ?_
  exact ⟨rfl, rfl⟩
theorem d41_0 : decode jdk_52_method_2_code 0 = .ok (.iload_n 0, 1) := by decide +kernel
theorem d41_1 : decode jdk_52_method_2_code 1 = .ok (.invokestatic 11, 3) := by decide +kernel
theorem d41_4 : decode jdk_52_method_2_code 4 = .ok (.newarray .byte, 2) := by decide +kernel
theorem d41_6 : decode jdk_52_method_2_code 6 = .ok (.areturn, 1) := by decide +kernel
theorem pl_6 : plainFor (⟨"java/lang/StringUTF16", "newBytesFor", "(I)[B"⟩ : MethodName) = true := plainFor_of_name (by first | (simp [plainName, overriddenIn]; done) | decide +kernel)
theorem pd_6 : parseMethodDescriptor "(I)I" = some ⟨[.int], some .int⟩ := by decide +kernel
theorem rmNB1 (l : Launch) (Z : State) (a0 : Array Value) (hw : ∀ d ∈ tables_1, d.before a0 Z = true) (hel : EW Z a0 consts_1)  (h0 : Heap) (n0 : Nat) (Z0 : n0 ≤ h0.size)  :
    Met l Z consts_1 [] (⟨"java/lang/StringUTF16", "newBytesFor", "(I)[B"⟩ : MethodName) jdk_52_method_2_code 1 (Option.some (FieldType.array FieldType.byte)) [] ({ frames := 1, cells := 1, slots := 2, locals := 18 } : Room) #[(.int (1 : Int32))] h0 n0 (fun v h => ∃ b kb, v = some (.ref b) ∧ h0.size ≤ b ∧ Keep h0 h [] ∧ Arv Z h b kb .byte (2 : Int32) [(.int (0 : Int32)), (.int (0 : Int32))] (.int (0 : Int32))) := by
  refine Met.of (Ls0 := #[.val (.int (1 : Int32))]) pl_6 (by first | (simp [argsToLocals, Value.category]; done) | rfl) hel ?_
  intro p e s m below meth c hx hby hml hret hlk hown hnm hZ
  refine Go.iloadN (q := 1) hx (hb hby d41_0) rfl rfl ?_
  refine Go.callS (q := 4) hx hZ (argsL := [(.int (1 : Int32))]) (rest := []) hown (tw hw 212 rfl) (tw hw 213 rfl) (tw hw 198 rfl) (tw hw 214 rfl) (by decide) (rmNL1 l Z a0 hw hel h0 n0 Z0) (fun _ hx => nomatch hx) (by rw [hml]; rfl) pd_6 rfl rfl (hb hby d41_1) rfl (by decide) (ble rfl) (ce' := 0) (sl' := 0) rfl rfl (by decide) (by decide) (fun v130 h131 hQ132 => ?_)
  obtain ⟨rfl, rfl⟩ := hQ132
  show Go _ _ _ _ _ _ _ _ _ _ _ _ _ _ _ _ _ _ _ _ 0 0 4 #[.val (.int (1 : Int32))] [(.int (2 : Int32))]
  refine Go.newP (q := 6) (cap := 2) hx hZ (tw hw 7 rfl) (by decide) (by decide) (hb hby d41_4) rfl (by decide) (ce' := 1) (sl' := 2) rfl rfl (by decide) (by decide) (fun h133 a134 k135 g136 E137 A138 => ?_)
  have gz139 : n0 ≤ a134 := by rw [g136]; exact Z0
  have gk140 : h0.size ≤ a134 := by rw [g136]; exact (Keep.refl h0 []).1
  have V141 : Arv Z h133 a134 k135 .byte (2 : Int32) [(.int (0 : Int32)), (.int (0 : Int32))] (.int (0 : Int32)) := A138.pad (pad_rep [] (.int (0 : Int32)) 2)
  refine Go.retA hx hret rfl (by rfl) hlk (hb hby d41_6) (by decide) (by decide) ?_
  exact ⟨a134, _, rfl, gk140, ((Keep.refl h0 []).ext E137), V141⟩
theorem d43_0 : decode jdk_52_method_4_code 0 = .ok (.getstatic 44, 3) := by decide +kernel
theorem d43_3 : decode jdk_52_method_4_code 3 = .ok (.ifCond .ne 25, 3) := by decide +kernel
theorem d43_6 : decode jdk_52_method_4_code 6 = .ok (.iload_n 1, 1) := by decide +kernel
theorem d43_7 : decode jdk_52_method_4_code 7 = .ok (.ifCond .lt 11, 3) := by decide +kernel
theorem d43_10 : decode jdk_52_method_4_code 10 = .ok (.iload_n 1, 1) := by decide +kernel
theorem d43_11 : decode jdk_52_method_4_code 11 = .ok (.aload_n 0, 1) := by decide +kernel
theorem d43_12 : decode jdk_52_method_4_code 12 = .ok (.invokestatic 48, 3) := by decide +kernel
theorem d43_15 : decode jdk_52_method_4_code 15 = .ok (.if_icmp .lt 13, 3) := by decide +kernel
theorem d43_18 : decode jdk_52_method_4_code 18 = .ok (.new 52, 3) := by decide +kernel
theorem d43_21 : decode jdk_52_method_4_code 21 = .ok (.dup, 1) := by decide +kernel
theorem d43_22 : decode jdk_52_method_4_code 22 = .ok (.ldc 54, 2) := by decide +kernel
theorem d43_24 : decode jdk_52_method_4_code 24 = .ok (.invokespecial 56, 3) := by decide +kernel
theorem d43_27 : decode jdk_52_method_4_code 27 = .ok (.athrow, 1) := by decide +kernel
theorem d43_28 : decode jdk_52_method_4_code 28 = .ok (.iload_n 1, 1) := by decide +kernel
theorem d43_29 : decode jdk_52_method_4_code 29 = .ok (.iconst 1, 1) := by decide +kernel
theorem d43_30 : decode jdk_52_method_4_code 30 = .ok (.ishl, 1) := by decide +kernel
theorem d43_31 : decode jdk_52_method_4_code 31 = .ok (.istore_n 1, 1) := by decide +kernel
theorem d43_32 : decode jdk_52_method_4_code 32 = .ok (.aload_n 0, 1) := by decide +kernel
theorem d43_33 : decode jdk_52_method_4_code 33 = .ok (.iload_n 1, 1) := by decide +kernel
theorem d43_34 : decode jdk_52_method_4_code 34 = .ok (.iinc 1 1, 3) := by decide +kernel
theorem d43_37 : decode jdk_52_method_4_code 37 = .ok (.iload_n 2, 1) := by decide +kernel
theorem d43_38 : decode jdk_52_method_4_code 38 = .ok (.getstatic 59, 3) := by decide +kernel
theorem d43_41 : decode jdk_52_method_4_code 41 = .ok (.ishr, 1) := by decide +kernel
theorem d43_42 : decode jdk_52_method_4_code 42 = .ok (.i2b, 1) := by decide +kernel
theorem d43_43 : decode jdk_52_method_4_code 43 = .ok (.bastore, 1) := by decide +kernel
theorem d43_44 : decode jdk_52_method_4_code 44 = .ok (.aload_n 0, 1) := by decide +kernel
theorem d43_45 : decode jdk_52_method_4_code 45 = .ok (.iload_n 1, 1) := by decide +kernel
theorem d43_46 : decode jdk_52_method_4_code 46 = .ok (.iload_n 2, 1) := by decide +kernel
theorem d43_47 : decode jdk_52_method_4_code 47 = .ok (.getstatic 63, 3) := by decide +kernel
theorem d43_50 : decode jdk_52_method_4_code 50 = .ok (.ishr, 1) := by decide +kernel
theorem d43_51 : decode jdk_52_method_4_code 51 = .ok (.i2b, 1) := by decide +kernel
theorem d43_52 : decode jdk_52_method_4_code 52 = .ok (.bastore, 1) := by decide +kernel
theorem d43_53 : decode jdk_52_method_4_code 53 = .ok (.return_, 1) := by decide +kernel
theorem pl_7 : plainFor (⟨"java/lang/StringUTF16", "putChar", "([BII)V"⟩ : MethodName) = true := plainFor_of_name (by first | (simp [plainName, overriddenIn]; done) | decide +kernel)
theorem pd_7 : parseMethodDescriptor "([B)I" = some ⟨[(.array .byte)], some .int⟩ := by decide +kernel
theorem rmP1_0 (l : Launch) (Z : State) (a0 : Array Value) (hw : ∀ d ∈ tables_1, d.before a0 Z = true) (hel : EW Z a0 consts_1) (b : Addr) (kb : ClassId) (x d0 d1 : Int32) (h0 : Heap) (n0 : Nat) (Z0 : n0 ≤ h0.size) (B : Arv Z h0 b kb .byte (2 : Int32) [(.int d0), (.int d1)] (.int (0 : Int32))) (gb : n0 ≤ b) (X0 : Old Z n0 h0) (AD : Sta Z Z.heap "java/lang/StringUTF16" "$assertionsDisabled" "Z" (.int (1 : Int32))) (HB : Sta Z Z.heap "java/lang/StringUTF16" "HI_BYTE_SHIFT" "I" (.int (0 : Int32))) (LB : Sta Z Z.heap "java/lang/StringUTF16" "LO_BYTE_SHIFT" "I" (.int (8 : Int32))) :
    Met l Z consts_1 [b] (⟨"java/lang/StringUTF16", "putChar", "([BII)V"⟩ : MethodName) jdk_52_method_4_code 3 (Option.none : Option FieldType) [] ({ frames := 0, cells := 0, slots := 0, locals := 0 } : Room) #[(.ref b), (.int (0 : Int32)), (.int x)] h0 n0 (fun v h => v = none ∧ Keep h0 h [b] ∧ Arv Z h b kb .byte (2 : Int32) [(.int (nar .byte (x >>> ((0 : Int32) &&& 31)).toInt8.toInt32)), (.int (nar .byte (x >>> ((8 : Int32) &&& 31)).toInt8.toInt32))] (.int (0 : Int32))) := by
  refine Met.of (Ls0 := #[.val (.ref b), .val (.int (0 : Int32)), .val (.int x)]) pl_7 (by first | (simp [argsToLocals, Value.category]; done) | rfl) hel ?_
  have hSA : ∀ d ∈ Bundle.stringAtoms, d.before a0 Z = true := fun d hd => hw d ((by decide +kernel : ∀ d ∈ Bundle.stringAtoms, d ∈ tables_1) d hd)
  intro p e s m below meth c hx hby hml hret hlk hown hnm hZ
  refine Go.getS (q := 3) hx hZ hown (host := "") (Or.inl (tw hw 219 rfl)) Via.refl (Sta.ext X0.2 AD) (hb hby d43_0) rfl ?_
  refine Go.if_ne (q := 6) (t := 28) hx (hb hby d43_3) (by decide) rfl rfl (fun hc3 => ?_) (fun hc3 => absurd hc3 (by decide))
  refine Go.iloadN (q := 29) hx (hb hby d43_28) rfl rfl ?_
  refine Go.iconst (q := 30) (z := (1 : Int32)) hx (hb hby d43_29) rfl rfl ?_
  refine Go.ishl (q := 31) hx (hb hby d43_30) rfl ?_
  rw [show (0 : Int32) <<< ((1 : Int32) &&& 31) = (0 : Int32) from by decide]
  refine Go.istoreN (q := 32) (l' := #[.val (.ref b), .val (.int (0 : Int32)), .val (.int x)]) hx (hb hby d43_31) rfl rfl ?_
  refine Go.aloadN (q := 33) hx (hb hby d43_32) rfl (by rfl) rfl ?_
  refine Go.iloadN (q := 34) hx (hb hby d43_33) rfl rfl ?_
  refine Go.iinc (q := 37) (l' := #[.val (.ref b), .val (.int ((0 : Int32) + (1 : Int32))), .val (.int x)]) hx (hb hby d43_34) rfl rfl rfl ?_
  refine Go.iloadN (q := 38) hx (hb hby d43_37) rfl rfl ?_
  refine Go.getS (q := 41) hx hZ hown (host := "") (Or.inl (tw hw 220 rfl)) Via.refl (Sta.ext X0.2 HB) (hb hby d43_38) rfl ?_
  refine Go.ishr (q := 42) hx (hb hby d43_41) rfl ?_
  refine Go.i2b (q := 43) hx (hb hby d43_42) rfl ?_
  refine Go.bastore (q := 44) hx hZ B ⟨by decide, by decide⟩ 0 rfl (ble rfl) gb (by simp) (hb hby d43_43) rfl (fun h142 W143 V144 => ?_)
  refine Go.aloadN (q := 45) hx (hb hby d43_44) rfl (by rfl) rfl ?_
  refine Go.iloadN (q := 46) hx (hb hby d43_45) rfl rfl ?_
  refine Go.iloadN (q := 47) hx (hb hby d43_46) rfl rfl ?_
  refine Go.getS (q := 50) hx hZ hown (host := "") (Or.inl (tw hw 221 rfl)) Via.refl (Sta.ext (X0.wr W143 gb).2 LB) (hb hby d43_47) rfl ?_
  refine Go.ishr (q := 51) hx (hb hby d43_50) rfl ?_
  refine Go.i2b (q := 52) hx (hb hby d43_51) rfl ?_
  refine Go.bastore (q := 53) hx hZ V144 ⟨by decide, by decide⟩ 1 rfl (ble rfl) gb (by simp) (hb hby d43_52) rfl (fun h145 W146 V147 => ?_)
  refine Go.ret0 hx hret hlk (hb hby d43_53) (by decide) (by decide) ?_
  exact ⟨rfl, (((Keep.refl h0 [b]).wr W143 (Or.inl (by simp))).wr W146 (Or.inl (by simp))), V147⟩
theorem d44_0 : decode jdk_52_method_5_code 0 = .ok (.getstatic 44, 3) := by decide +kernel
theorem d44_3 : decode jdk_52_method_5_code 3 = .ok (.ifCond .ne 25, 3) := by decide +kernel
theorem d44_6 : decode jdk_52_method_5_code 6 = .ok (.iload_n 1, 1) := by decide +kernel
theorem d44_7 : decode jdk_52_method_5_code 7 = .ok (.ifCond .lt 11, 3) := by decide +kernel
theorem d44_10 : decode jdk_52_method_5_code 10 = .ok (.iload_n 1, 1) := by decide +kernel
theorem d44_11 : decode jdk_52_method_5_code 11 = .ok (.aload_n 0, 1) := by decide +kernel
theorem d44_12 : decode jdk_52_method_5_code 12 = .ok (.invokestatic 48, 3) := by decide +kernel
theorem d44_15 : decode jdk_52_method_5_code 15 = .ok (.if_icmp .lt 13, 3) := by decide +kernel
theorem d44_18 : decode jdk_52_method_5_code 18 = .ok (.new 52, 3) := by decide +kernel
theorem d44_21 : decode jdk_52_method_5_code 21 = .ok (.dup, 1) := by decide +kernel
theorem d44_22 : decode jdk_52_method_5_code 22 = .ok (.ldc 54, 2) := by decide +kernel
theorem d44_24 : decode jdk_52_method_5_code 24 = .ok (.invokespecial 56, 3) := by decide +kernel
theorem d44_27 : decode jdk_52_method_5_code 27 = .ok (.athrow, 1) := by decide +kernel
theorem d44_28 : decode jdk_52_method_5_code 28 = .ok (.iload_n 1, 1) := by decide +kernel
theorem d44_29 : decode jdk_52_method_5_code 29 = .ok (.iconst 1, 1) := by decide +kernel
theorem d44_30 : decode jdk_52_method_5_code 30 = .ok (.ishl, 1) := by decide +kernel
theorem d44_31 : decode jdk_52_method_5_code 31 = .ok (.istore_n 1, 1) := by decide +kernel
theorem d44_32 : decode jdk_52_method_5_code 32 = .ok (.aload_n 0, 1) := by decide +kernel
theorem d44_33 : decode jdk_52_method_5_code 33 = .ok (.iload_n 1, 1) := by decide +kernel
theorem d44_34 : decode jdk_52_method_5_code 34 = .ok (.iinc 1 1, 3) := by decide +kernel
theorem d44_37 : decode jdk_52_method_5_code 37 = .ok (.baload, 1) := by decide +kernel
theorem d44_38 : decode jdk_52_method_5_code 38 = .ok (.sipush 255, 3) := by decide +kernel
theorem d44_41 : decode jdk_52_method_5_code 41 = .ok (.iand, 1) := by decide +kernel
theorem d44_42 : decode jdk_52_method_5_code 42 = .ok (.getstatic 59, 3) := by decide +kernel
theorem d44_45 : decode jdk_52_method_5_code 45 = .ok (.ishl, 1) := by decide +kernel
theorem d44_46 : decode jdk_52_method_5_code 46 = .ok (.aload_n 0, 1) := by decide +kernel
theorem d44_47 : decode jdk_52_method_5_code 47 = .ok (.iload_n 1, 1) := by decide +kernel
theorem d44_48 : decode jdk_52_method_5_code 48 = .ok (.baload, 1) := by decide +kernel
theorem d44_49 : decode jdk_52_method_5_code 49 = .ok (.sipush 255, 3) := by decide +kernel
theorem d44_52 : decode jdk_52_method_5_code 52 = .ok (.iand, 1) := by decide +kernel
theorem d44_53 : decode jdk_52_method_5_code 53 = .ok (.getstatic 63, 3) := by decide +kernel
theorem d44_56 : decode jdk_52_method_5_code 56 = .ok (.ishl, 1) := by decide +kernel
theorem d44_57 : decode jdk_52_method_5_code 57 = .ok (.ior, 1) := by decide +kernel
theorem d44_58 : decode jdk_52_method_5_code 58 = .ok (.i2c, 1) := by decide +kernel
theorem d44_59 : decode jdk_52_method_5_code 59 = .ok (.ireturn, 1) := by decide +kernel
theorem pl_8 : plainFor (⟨"java/lang/StringUTF16", "getChar", "([BI)C"⟩ : MethodName) = true := plainFor_of_name (by first | (simp [plainName, overriddenIn]; done) | decide +kernel)
theorem rmG1_0 (l : Launch) (Z : State) (a0 : Array Value) (hw : ∀ d ∈ tables_1, d.before a0 Z = true) (hel : EW Z a0 consts_1) (b : Addr) (kb : ClassId) (c0 : Int32) (h0 : Heap) (n0 : Nat) (Z0 : n0 ≤ h0.size) (B : Arv Z h0 b kb .byte (2 : Int32) [(.int (nar .byte (c0 >>> ((0 : Int32) &&& 31)).toInt8.toInt32)), (.int (nar .byte (c0 >>> ((8 : Int32) &&& 31)).toInt8.toInt32))] (.int (0 : Int32))) (hq0 : Chr c0) (X0 : Old Z n0 h0) (AD : Sta Z Z.heap "java/lang/StringUTF16" "$assertionsDisabled" "Z" (.int (1 : Int32))) (HB : Sta Z Z.heap "java/lang/StringUTF16" "HI_BYTE_SHIFT" "I" (.int (0 : Int32))) (LB : Sta Z Z.heap "java/lang/StringUTF16" "LO_BYTE_SHIFT" "I" (.int (8 : Int32))) :
    Met l Z consts_1 [] (⟨"java/lang/StringUTF16", "getChar", "([BI)C"⟩ : MethodName) jdk_52_method_5_code 2 (Option.some FieldType.char) [] ({ frames := 0, cells := 0, slots := 0, locals := 0 } : Room) #[(.ref b), (.int (0 : Int32))] h0 n0 (fun v h => v = some (.int c0) ∧ h0 = h) := by
  refine Met.of (Ls0 := #[.val (.ref b), .val (.int (0 : Int32))]) pl_8 (by first | (simp [argsToLocals, Value.category]; done) | rfl) hel ?_
  have hSA : ∀ d ∈ Bundle.stringAtoms, d.before a0 Z = true := fun d hd => hw d ((by decide +kernel : ∀ d ∈ Bundle.stringAtoms, d ∈ tables_1) d hd)
  intro p e s m below meth c hx hby hml hret hlk hown hnm hZ
  refine Go.getS (q := 3) hx hZ hown (host := "") (Or.inl (tw hw 219 rfl)) Via.refl (Sta.ext X0.2 AD) (hb hby d44_0) rfl ?_
  refine Go.if_ne (q := 6) (t := 28) hx (hb hby d44_3) (by decide) rfl rfl (fun hc3 => ?_) (fun hc3 => absurd hc3 (by decide))
  refine Go.iloadN (q := 29) hx (hb hby d44_28) rfl rfl ?_
  refine Go.iconst (q := 30) (z := (1 : Int32)) hx (hb hby d44_29) rfl rfl ?_
  refine Go.ishl (q := 31) hx (hb hby d44_30) rfl ?_
  rw [show (0 : Int32) <<< ((1 : Int32) &&& 31) = (0 : Int32) from by decide]
  refine Go.istoreN (q := 32) (l' := #[.val (.ref b), .val (.int (0 : Int32))]) hx (hb hby d44_31) rfl rfl ?_
  refine Go.aloadN (q := 33) hx (hb hby d44_32) rfl (by rfl) rfl ?_
  refine Go.iloadN (q := 34) hx (hb hby d44_33) rfl rfl ?_
  refine Go.iinc (q := 37) (l' := #[.val (.ref b), .val (.int ((0 : Int32) + (1 : Int32)))]) hx (hb hby d44_34) rfl rfl rfl ?_
  refine Go.baload (q := 38) (v := (.int (nar .byte (c0 >>> ((0 : Int32) &&& 31)).toInt8.toInt32))) hx hZ B ⟨by decide, by decide⟩ rfl (hb hby d44_37) rfl ?_
  refine Go.sipush (q := 41) (z := (255 : Int32)) hx (hb hby d44_38) rfl rfl ?_
  refine Go.iand (q := 42) hx (hb hby d44_41) rfl ?_
  refine Go.getS (q := 45) hx hZ hown (host := "") (Or.inl (tw hw 220 rfl)) Via.refl (Sta.ext X0.2 HB) (hb hby d44_42) rfl ?_
  refine Go.ishl (q := 46) hx (hb hby d44_45) rfl ?_
  refine Go.aloadN (q := 47) hx (hb hby d44_46) rfl (by rfl) rfl ?_
  refine Go.iloadN (q := 48) hx (hb hby d44_47) rfl rfl ?_
  refine Go.baload (q := 49) (v := (.int (nar .byte (c0 >>> ((8 : Int32) &&& 31)).toInt8.toInt32))) hx hZ B ⟨by decide, by decide⟩ rfl (hb hby d44_48) rfl ?_
  refine Go.sipush (q := 52) (z := (255 : Int32)) hx (hb hby d44_49) rfl rfl ?_
  refine Go.iand (q := 53) hx (hb hby d44_52) rfl ?_
  refine Go.getS (q := 56) hx hZ hown (host := "") (Or.inl (tw hw 221 rfl)) Via.refl (Sta.ext X0.2 LB) (hb hby d44_53) rfl ?_
  refine Go.ishl (q := 57) hx (hb hby d44_56) rfl ?_
  refine Go.ior (q := 58) hx (hb hby d44_57) rfl ?_
  refine Go.i2c (q := 59) hx (hb hby d44_58) rfl ?_
  refine Go.retN hx (t := .char) hret (by simp) hlk (hb hby d44_59) (by decide) (by decide) ?_
  exact ⟨congrArg (fun z => some (Value.int z)) (utf_ok hq0), rfl⟩
theorem d40_0 : decode jdk_52_method_14_code 0 = .ok (.iload_n 2, 1) := by decide +kernel
theorem d40_1 : decode jdk_52_method_14_code 1 = .ok (.invokestatic 107, 3) := by decide +kernel
theorem d40_4 : decode jdk_52_method_14_code 4 = .ok (.astore_n 3, 1) := by decide +kernel
theorem d40_5 : decode jdk_52_method_14_code 5 = .ok (.iconst 0, 1) := by decide +kernel
theorem d40_6 : decode jdk_52_method_14_code 6 = .ok (.istore 4, 2) := by decide +kernel
theorem d40_8 : decode jdk_52_method_14_code 8 = .ok (.iload 4, 2) := by decide +kernel
theorem d40_10 : decode jdk_52_method_14_code 10 = .ok (.iload_n 2, 1) := by decide +kernel
theorem d40_11 : decode jdk_52_method_14_code 11 = .ok (.if_icmp .ge 21, 3) := by decide +kernel
theorem d40_14 : decode jdk_52_method_14_code 14 = .ok (.aload_n 3, 1) := by decide +kernel
theorem d40_15 : decode jdk_52_method_14_code 15 = .ok (.iload 4, 2) := by decide +kernel
theorem d40_17 : decode jdk_52_method_14_code 17 = .ok (.aload_n 0, 1) := by decide +kernel
theorem d40_18 : decode jdk_52_method_14_code 18 = .ok (.iload_n 1, 1) := by decide +kernel
theorem d40_19 : decode jdk_52_method_14_code 19 = .ok (.caload, 1) := by decide +kernel
theorem d40_20 : decode jdk_52_method_14_code 20 = .ok (.invokestatic 111, 3) := by decide +kernel
theorem d40_23 : decode jdk_52_method_14_code 23 = .ok (.iinc 1 1, 3) := by decide +kernel
theorem d40_26 : decode jdk_52_method_14_code 26 = .ok (.iinc 4 1, 3) := by decide +kernel
theorem d40_29 : decode jdk_52_method_14_code 29 = .ok (.goto (-21), 3) := by decide +kernel
theorem d40_32 : decode jdk_52_method_14_code 32 = .ok (.aload_n 3, 1) := by decide +kernel
theorem d40_33 : decode jdk_52_method_14_code 33 = .ok (.areturn, 1) := by decide +kernel
theorem pl_9 : plainFor (⟨"java/lang/StringUTF16", "toBytes", "([CII)[B"⟩ : MethodName) = true := plainFor_of_name (by first | (simp [plainName, overriddenIn]; done) | decide +kernel)
theorem pd_8 : parseMethodDescriptor "(I)[B" = some ⟨[.int], some (.array .byte)⟩ := by decide +kernel
theorem pd_9 : parseMethodDescriptor "([BII)V" = some ⟨[(.array .byte), .int, .int], none⟩ := by decide +kernel
theorem rmT1 (l : Launch) (Z : State) (a0 : Array Value) (hw : ∀ d ∈ tables_1, d.before a0 Z = true) (hel : EW Z a0 consts_1) (a : Addr) (ka : ClassId) (c0 : Int32) (h0 : Heap) (n0 : Nat) (Z0 : n0 ≤ h0.size) (A : Arv Z h0 a ka .char (1 : Int32) [.int c0] (.int (0 : Int32))) (X0 : Old Z n0 h0) (AD : Sta Z Z.heap "java/lang/StringUTF16" "$assertionsDisabled" "Z" (.int (1 : Int32))) (HB : Sta Z Z.heap "java/lang/StringUTF16" "HI_BYTE_SHIFT" "I" (.int (0 : Int32))) (LB : Sta Z Z.heap "java/lang/StringUTF16" "LO_BYTE_SHIFT" "I" (.int (8 : Int32))) :
    Met l Z consts_1 [] (⟨"java/lang/StringUTF16", "toBytes", "([CII)[B"⟩ : MethodName) jdk_52_method_14_code 5 (Option.some (FieldType.array FieldType.byte)) [] ({ frames := 2, cells := 1, slots := 2, locals := 36 } : Room) #[(.ref a), (.int (0 : Int32)), (.int (1 : Int32))] h0 n0 (fun v h => ∃ b kb, v = some (.ref b) ∧ h0.size ≤ b ∧ Keep h0 h [] ∧ Arv Z h b kb .byte (2 : Int32) [(.int (nar .byte (c0 >>> ((0 : Int32) &&& 31)).toInt8.toInt32)), (.int (nar .byte (c0 >>> ((8 : Int32) &&& 31)).toInt8.toInt32))] (.int (0 : Int32))) := by
  refine Met.of (Ls0 := #[.val (.ref a), .val (.int (0 : Int32)), .val (.int (1 : Int32)), .unset, .unset]) pl_9 (by first | (simp [argsToLocals, Value.category]; done) | rfl) hel ?_
  intro p e s m below meth c hx hby hml hret hlk hown hnm hZ
  refine Go.iloadN (q := 1) hx (hb hby d40_0) rfl rfl ?_
  refine Go.callS (q := 4) hx hZ (argsL := [(.int (1 : Int32))]) (rest := []) hown (tw hw 209 rfl) (tw hw 210 rfl) (tw hw 198 rfl) (tw hw 211 rfl) (by decide) (rmNB1 l Z a0 hw hel h0 n0 Z0) (fun _ hx => nomatch hx) (by rw [hml]; rfl) pd_8 rfl rfl (hb hby d40_1) rfl (by decide) (ble rfl) (ce' := 1) (sl' := 2) rfl rfl (by decide) (by decide) (fun v148 h149 hQ150 => ?_)
  have lt156 := (A).lt
  obtain ⟨b151, k152, rfl, g153, K154, V155⟩ := hQ150
  have ne157 : a ≠ b151 := Nat.ne_of_lt (Nat.lt_of_lt_of_le lt156 g153)
  have gz158 : n0 ≤ b151 := Nat.le_trans Z0 g153
  refine Go.safe (x := b151) V155.lt (fun vm hzv => safe2 hzv (tw hw 46 rfl) (tw hw 4 rfl) V155 (by decide) (Or.inr rfl)) ?_
  show Go _ _ _ _ _ _ _ _ _ _ _ _ _ _ _ _ _ _ _ _ 1 2 4 #[.val (.ref a), .val (.int (0 : Int32)), .val (.int (1 : Int32)), .unset, .unset] [(.ref b151)]
  refine Go.astoreN (q := 5) (l' := #[.val (.ref a), .val (.int (0 : Int32)), .val (.int (1 : Int32)), .val (.ref b151), .unset]) hx (hb hby d40_4) (by rfl) rfl rfl ?_
  refine Go.iconst (q := 6) (z := (0 : Int32)) hx (hb hby d40_5) rfl rfl ?_
  refine Go.istore (q := 8) (l' := #[.val (.ref a), .val (.int (0 : Int32)), .val (.int (1 : Int32)), .val (.ref b151), .val (.int (0 : Int32))]) hx (hb hby d40_6) rfl rfl ?_
  refine Go.iload (q := 10) hx (hb hby d40_8) rfl rfl ?_
  refine Go.iloadN (q := 11) hx (hb hby d40_10) rfl rfl ?_
  refine Go.icmp_ge (q := 14) (t := 32) hx (hb hby d40_11) (by decide) rfl rfl (fun hc11 => absurd hc11 (by decide)) (fun hc11 => ?_)
  refine Go.aloadN (q := 15) hx (hb hby d40_14) rfl (by rfl) rfl ?_
  refine Go.iload (q := 17) hx (hb hby d40_15) rfl rfl ?_
  refine Go.aloadN (q := 18) hx (hb hby d40_17) rfl (by rfl) rfl ?_
  refine Go.iloadN (q := 19) hx (hb hby d40_18) rfl rfl ?_
  refine Go.caload (q := 20) (v := (.int c0)) hx hZ (A.keep K154 nin0) ⟨by decide, by decide⟩ rfl (hb hby d40_19) rfl ?_
  refine Go.callS (q := 23) hx hZ (argsL := [(.ref b151), (.int (0 : Int32)), (.int c0)]) (rest := []) hown (tw hw 216 rfl) (tw hw 217 rfl) (tw hw 198 rfl) (tw hw 218 rfl) (by decide) (rmP1_0 l Z a0 hw hel b151 k152 c0 (0 : Int32) (0 : Int32) h149 n0 (Nat.le_trans Z0 K154.1) V155 gz158 (X0.keep K154 all0) AD HB LB) (by simp) (by rw [hml]; rfl) pd_9 rfl rfl (hb hby d40_20) rfl (by decide) (ble rfl) (ce' := 1) (sl' := 2) rfl rfl (by decide) (by decide) (fun v159 h160 hQ161 => ?_)
  obtain ⟨rfl, K162, V163⟩ := hQ161
  show Go _ _ _ _ _ _ _ _ _ _ _ _ _ _ _ _ _ _ _ _ 1 2 23 #[.val (.ref a), .val (.int (0 : Int32)), .val (.int (1 : Int32)), .val (.ref b151), .val (.int (0 : Int32))] []
  refine Go.iinc (q := 26) (l' := #[.val (.ref a), .val (.int ((0 : Int32) + (1 : Int32))), .val (.int (1 : Int32)), .val (.ref b151), .val (.int (0 : Int32))]) hx (hb hby d40_23) rfl rfl rfl ?_
  refine Go.iinc (q := 29) (l' := #[.val (.ref a), .val (.int ((0 : Int32) + (1 : Int32))), .val (.int (1 : Int32)), .val (.ref b151), .val (.int ((0 : Int32) + (1 : Int32)))]) hx (hb hby d40_26) rfl rfl rfl ?_
  refine Go.goto (q := 8) hx (hb hby d40_29) (by decide) rfl ?_
  rw [show (0 : Int32) + (1 : Int32) = (1 : Int32) from by decide]
  refine Go.iload (q := 10) hx (hb hby d40_8) rfl rfl ?_
  refine Go.iloadN (q := 11) hx (hb hby d40_10) rfl rfl ?_
  refine Go.icmp_ge (q := 14) (t := 32) hx (hb hby d40_11) (by decide) rfl rfl (fun hc11_1 => ?_) (fun hc11_1 => absurd hc11_1 (by decide))
  refine Go.aloadN (q := 33) hx (hb hby d40_32) rfl (by rfl) rfl ?_
  refine Go.retA hx hret rfl (by rfl) hlk (hb hby d40_33) (by decide) (by decide) ?_
  exact ⟨b151, _, rfl, g153, (Keep.trans (Keep.trans (Keep.refl h0 []) K154 all0) K162 (allS (Or.inr g153) all0)), V163⟩
theorem rmCU1_0 (l : Launch) (Z : State) (a0 : Array Value) (hw : ∀ d ∈ tables_1, d.before a0 Z = true) (hel : EW Z a0 consts_1) (a b : Addr) (ka kb : ClassId) (c0 : Int32) (h0 : Heap) (n0 : Nat) (Z0 : n0 ≤ h0.size) (A : Arv Z h0 a ka .char (1 : Int32) [.int c0] (.int (0 : Int32))) (B : Arv Z h0 b kb .byte (1 : Int32) [(.int (0 : Int32))] (.int (0 : Int32))) (gb : n0 ≤ b) (nab : a ≠ b)  (hk : (255 : Int32) < c0) :
    Met l Z consts_1 [b] (⟨"java/lang/StringUTF16", "compress", "([CI[BII)I"⟩ : MethodName) jdk_52_method_21_code 7 (Option.some FieldType.int) [] ({ frames := 0, cells := 0, slots := 0, locals := 0 } : Room) #[(.ref a), (.int (0 : Int32)), (.ref b), (.int (0 : Int32)), (.int (1 : Int32))] h0 n0 (fun v h => v = some (.int (0 : Int32)) ∧ Keep h0 h [b]) := by
  refine Met.of (Ls0 := #[.val (.ref a), .val (.int (0 : Int32)), .val (.ref b), .val (.int (0 : Int32)), .val (.int (1 : Int32)), .unset, .unset]) pl_1 (by first | (simp [argsToLocals, Value.category]; done) | rfl) hel ?_
  intro p e s m below meth c hx hby hml hret hlk hown hnm hZ
  refine Go.iconst (q := 1) (z := (0 : Int32)) hx (hb hby d38_0) rfl rfl ?_
  refine Go.istore (q := 3) (l' := #[.val (.ref a), .val (.int (0 : Int32)), .val (.ref b), .val (.int (0 : Int32)), .val (.int (1 : Int32)), .val (.int (0 : Int32)), .unset]) hx (hb hby d38_1) rfl rfl ?_
  refine Go.iload (q := 5) hx (hb hby d38_3) rfl rfl ?_
  refine Go.iload (q := 7) hx (hb hby d38_5) rfl rfl ?_
  refine Go.icmp_ge (q := 10) (t := 44) hx (hb hby d38_7) (by decide) rfl rfl (fun hc7 => absurd hc7 (by decide)) (fun hc7 => ?_)
  refine Go.aloadN (q := 11) hx (hb hby d38_10) rfl (by rfl) rfl ?_
  refine Go.iloadN (q := 12) hx (hb hby d38_11) rfl rfl ?_
  refine Go.caload (q := 13) (v := (.int c0)) hx hZ A ⟨by decide, by decide⟩ rfl (hb hby d38_12) rfl ?_
  refine Go.istore (q := 15) (l' := #[.val (.ref a), .val (.int (0 : Int32)), .val (.ref b), .val (.int (0 : Int32)), .val (.int (1 : Int32)), .val (.int (0 : Int32)), .val (.int c0)]) hx (hb hby d38_13) rfl rfl ?_
  refine Go.iload (q := 17) hx (hb hby d38_15) rfl rfl ?_
  refine Go.sipush (q := 20) (z := (255 : Int32)) hx (hb hby d38_17) rfl rfl ?_
  refine Go.icmp_le (q := 23) (t := 26) hx (hb hby d38_20) (by decide) rfl rfl (fun hc20 => absurd hk hc20) (fun hc20 => ?_)
  refine Go.iload (q := 25) hx (hb hby d38_23) rfl rfl ?_
  refine Go.retI hx hret hlk (hb hby d38_25) (by decide) (by decide) ?_
  exact ⟨rfl, (Keep.refl h0 [b])⟩
theorem rmDU1_0 (l : Launch) (Z : State) (a0 : Array Value) (hw : ∀ d ∈ tables_1, d.before a0 Z = true) (hel : EW Z a0 consts_1) (a : Addr) (ka : ClassId) (c0 : Int32) (h0 : Heap) (n0 : Nat) (Z0 : n0 ≤ h0.size) (A : Arv Z h0 a ka .char (1 : Int32) [.int c0] (.int (0 : Int32))) (hq0 : Chr c0)  (hk : (255 : Int32) < c0) (X0 : Old Z n0 h0) (AD : Sta Z Z.heap "java/lang/StringUTF16" "$assertionsDisabled" "Z" (.int (1 : Int32))) (HB : Sta Z Z.heap "java/lang/StringUTF16" "HI_BYTE_SHIFT" "I" (.int (0 : Int32))) (LB : Sta Z Z.heap "java/lang/StringUTF16" "LO_BYTE_SHIFT" "I" (.int (8 : Int32))) :
    Met l Z consts_1 [] (⟨"java/lang/StringUTF16", "compress", "([CII)[B"⟩ : MethodName) jdk_52_method_16_code 6 (Option.some (FieldType.array FieldType.byte)) [] ({ frames := 3, cells := 2, slots := 3, locals := 58 } : Room) #[(.ref a), (.int (0 : Int32)), (.int (1 : Int32))] h0 n0 (fun v h => ∃ b kb, v = some (.ref b) ∧ h0.size ≤ b ∧ Keep h0 h [] ∧ Arv Z h b kb .byte (2 : Int32) [(.int (nar .byte (c0 >>> ((0 : Int32) &&& 31)).toInt8.toInt32)), (.int (nar .byte (c0 >>> ((8 : Int32) &&& 31)).toInt8.toInt32))] (.int (0 : Int32))) := by
  refine Met.of (Ls0 := #[.val (.ref a), .val (.int (0 : Int32)), .val (.int (1 : Int32)), .unset, .unset, .unset]) pl_2 (by first | (simp [argsToLocals, Value.category]; done) | rfl) hel ?_
  intro p e s m below meth c hx hby hml hret hlk hown hnm hZ
  refine Go.iloadN (q := 1) hx (hb hby d37_0) rfl rfl ?_
  refine Go.newP (q := 3) (cap := 1) hx hZ (tw hw 7 rfl) (by decide) (by decide) (hb hby d37_1) rfl (by decide) (ce' := 1) (sl' := 1) rfl rfl (by decide) (by decide) (fun h164 a165 k166 g167 E168 A169 => ?_)
  have ne170 : a ≠ a165 := by rw [g167]; exact Nat.ne_of_lt (A).lt
  have gz171 : n0 ≤ a165 := by rw [g167]; exact Z0
  have gk172 : h0.size ≤ a165 := by rw [g167]; exact (Keep.refl h0 []).1
  have V173 : Arv Z h164 a165 k166 .byte (1 : Int32) [(.int (0 : Int32))] (.int (0 : Int32)) := A169.pad (pad_rep [] (.int (0 : Int32)) 1)
  refine Go.astoreN (q := 4) (l' := #[.val (.ref a), .val (.int (0 : Int32)), .val (.int (1 : Int32)), .val (.ref a165), .unset, .unset]) hx (hb hby d37_3) (by rfl) rfl rfl ?_
  refine Go.aloadN (q := 5) hx (hb hby d37_4) rfl (by rfl) rfl ?_
  refine Go.iloadN (q := 6) hx (hb hby d37_5) rfl rfl ?_
  refine Go.aloadN (q := 7) hx (hb hby d37_6) rfl (by rfl) rfl ?_
  refine Go.iconst (q := 8) (z := (0 : Int32)) hx (hb hby d37_7) rfl rfl ?_
  refine Go.iloadN (q := 9) hx (hb hby d37_8) rfl rfl ?_
  refine Go.callS (q := 12) hx hZ (argsL := [(.ref a), (.int (0 : Int32)), (.ref a165), (.int (0 : Int32)), (.int (1 : Int32))]) (rest := []) hown (tw hw 200 rfl) (tw hw 201 rfl) (tw hw 198 rfl) (tw hw 202 rfl) (by decide) (rmCU1_0 l Z a0 hw hel a a165 ka k166 c0 h164 n0 (Nat.le_trans Z0 E168.1) (A.ext E168) V173 gz171 ne170  hk) (by simp) (by rw [hml]; rfl) pd_0 rfl rfl (hb hby d37_9) rfl (by decide) (ble rfl) (ce' := 1) (sl' := 1) rfl rfl (by decide) (by decide) (fun v174 h175 hQ176 => ?_)
  obtain ⟨rfl, K177⟩ := hQ176
  show Go _ _ _ _ _ _ _ _ _ _ _ _ _ _ _ _ _ _ _ _ 1 1 12 #[.val (.ref a), .val (.int (0 : Int32)), .val (.int (1 : Int32)), .val (.ref a165), .unset, .unset] [(.int (0 : Int32))]
  refine Go.istore (q := 14) (l' := #[.val (.ref a), .val (.int (0 : Int32)), .val (.int (1 : Int32)), .val (.ref a165), .val (.int (0 : Int32)), .unset]) hx (hb hby d37_12) rfl rfl ?_
  refine Go.iload (q := 16) hx (hb hby d37_14) rfl rfl ?_
  refine Go.iloadN (q := 17) hx (hb hby d37_16) rfl rfl ?_
  refine Go.icmp_eq (q := 20) (t := 57) hx (hb hby d37_17) (by decide) rfl rfl (fun hc17 => absurd hc17 (by decide)) (fun hc17 => ?_)
  refine Go.aloadN (q := 21) hx (hb hby d37_20) rfl (by rfl) rfl ?_
  refine Go.iloadN (q := 22) hx (hb hby d37_21) rfl rfl ?_
  refine Go.iloadN (q := 23) hx (hb hby d37_22) rfl rfl ?_
  have gk178 := (Keep.trans ((Keep.refl h0 []).ext E168) K177 (allS (Or.inr gk172) all0)).1
  refine Go.callS (q := 26) hx hZ (argsL := [(.ref a), (.int (0 : Int32)), (.int (1 : Int32))]) (rest := []) hown (tw hw 206 rfl) (tw hw 207 rfl) (tw hw 198 rfl) (tw hw 208 rfl) (by decide) (rmT1 l Z a0 hw hel a ka c0 h175 n0 (Nat.le_trans (Nat.le_trans Z0 E168.1) K177.1) ((A.ext E168).keep K177 (ninS ne170 nin0)) ((X0.ext E168).keep K177 (allS gz171 all0)) AD HB LB) (fun _ hx => nomatch hx) (by rw [hml]; rfl) pd_1 rfl rfl (hb hby d37_23) rfl (by decide) (ble rfl) (ce' := 2) (sl' := 3) rfl rfl (by decide) (by decide) (fun v179 h180 hQ181 => ?_)
  obtain ⟨b182, k183, rfl, g184, K185, V186⟩ := hQ181
  show Go _ _ _ _ _ _ _ _ _ _ _ _ _ _ _ _ _ _ _ _ 2 3 26 #[.val (.ref a), .val (.int (0 : Int32)), .val (.int (1 : Int32)), .val (.ref a165), .val (.int (0 : Int32)), .unset] [(.ref b182)]
  refine Go.astore (q := 28) (l' := #[.val (.ref a), .val (.int (0 : Int32)), .val (.int (1 : Int32)), .val (.ref a165), .val (.int (0 : Int32)), .val (.ref b182)]) hx (hb hby d37_26) (by rfl) rfl rfl ?_
  refine Go.aload (q := 30) hx (hb hby d37_28) rfl (by rfl) rfl ?_
  refine Go.iload (q := 32) hx (hb hby d37_30) rfl rfl ?_
  refine Go.callS (q := 35) hx hZ (argsL := [(.ref b182), (.int (0 : Int32))]) (rest := []) hown (tw hw 222 rfl) (tw hw 223 rfl) (tw hw 198 rfl) (tw hw 224 rfl) (by decide) (rmG1_0 l Z a0 hw hel b182 k183 c0 h180 n0 (Nat.le_trans (Nat.le_trans (Nat.le_trans Z0 E168.1) K177.1) K185.1) V186 hq0 (((X0.ext E168).keep K177 (allS gz171 all0)).keep K185 all0) AD HB LB) (fun _ hx => nomatch hx) (by rw [hml]; rfl) pd_2 rfl rfl (hb hby d37_32) rfl (by decide) (ble rfl) (ce' := 2) (sl' := 3) rfl rfl (by decide) (by decide) (fun v187 h188 hQ189 => ?_)
  obtain ⟨rfl, rfl⟩ := hQ189
  show Go _ _ _ _ _ _ _ _ _ _ _ _ _ _ _ _ _ _ _ _ 2 3 35 #[.val (.ref a), .val (.int (0 : Int32)), .val (.int (1 : Int32)), .val (.ref a165), .val (.int (0 : Int32)), .val (.ref b182)] [(.int c0)]
  refine Go.sipush (q := 38) (z := (255 : Int32)) hx (hb hby d37_35) rfl rfl ?_
  refine Go.icmp_gt (q := 41) (t := 54) hx (hb hby d37_38) (by decide) rfl rfl (fun hc38 => ?_) (fun hc38 => absurd hk hc38)
  refine Go.aload (q := 56) hx (hb hby d37_54) rfl (by rfl) rfl ?_
  refine Go.retA hx hret rfl (by rfl) hlk (hb hby d37_56) (by decide) (by decide) ?_
  exact ⟨b182, _, rfl, (Nat.le_trans gk178 g184), (Keep.trans (Keep.trans ((Keep.refl h0 []).ext E168) K177 (allS (Or.inr gk172) all0)) K185 all0), V186⟩
theorem rmDU1 (l : Launch) (Z : State) (a0 : Array Value) (hw : ∀ d ∈ tables_1, d.before a0 Z = true) (hel : EW Z a0 consts_1) (a : Addr) (ka : ClassId) (c0 : Int32) (h0 : Heap) (n0 : Nat) (Z0 : n0 ≤ h0.size) (A : Arv Z h0 a ka .char (1 : Int32) [.int c0] (.int (0 : Int32))) (hq0 : Chr c0) (hU : ((255 : Int32) < c0)) (X0 : Old Z n0 h0) (AD : Sta Z Z.heap "java/lang/StringUTF16" "$assertionsDisabled" "Z" (.int (1 : Int32))) (HB : Sta Z Z.heap "java/lang/StringUTF16" "HI_BYTE_SHIFT" "I" (.int (0 : Int32))) (LB : Sta Z Z.heap "java/lang/StringUTF16" "LO_BYTE_SHIFT" "I" (.int (8 : Int32))) :
    Met l Z consts_1 [] (⟨"java/lang/StringUTF16", "compress", "([CII)[B"⟩ : MethodName) jdk_52_method_16_code 6 (Option.some (FieldType.array FieldType.byte)) [] ({ frames := 3, cells := 2, slots := 3, locals := 58 } : Room) #[(.ref a), (.int (0 : Int32)), (.int (1 : Int32))] h0 n0 (fun v h => ∃ b kb, v = some (.ref b) ∧ h0.size ≤ b ∧ Keep h0 h [] ∧ Arv Z h b kb .byte (2 : Int32) [(.int (nar .byte (c0 >>> ((0 : Int32) &&& 31)).toInt8.toInt32)), (.int (nar .byte (c0 >>> ((8 : Int32) &&& 31)).toInt8.toInt32))] (.int (0 : Int32))) := by
  have hk := hU
  · exact rmDU1_0 l Z a0 hw hel a ka c0 h0 n0 Z0 A hq0  hk X0 AD HB LB
theorem rmKU1 (l : Launch) (Z : State) (a0 : Array Value) (hw : ∀ d ∈ tables_1, d.before a0 Z = true) (hel : EW Z a0 consts_1) (b : Addr) (kb : ClassId) (vs : List Value) (h0 : Heap) (n0 : Nat) (Z0 : n0 ≤ h0.size) (B : Arv Z h0 b kb .byte (2 : Int32) vs (.int (0 : Int32))) :
    Met l Z consts_1 [] (⟨"java/lang/StringUTF16", "coderFromArrayLen", "([BI)B"⟩ : MethodName) jdk_52_method_15_code 2 (Option.some FieldType.byte) [] ({ frames := 0, cells := 0, slots := 0, locals := 0 } : Room) #[(.ref b), (.int (1 : Int32))] h0 n0 (fun v h => v = some (.int (1 : Int32)) ∧ h0 = h) := by
  refine Met.of (Ls0 := #[.val (.ref b), .val (.int (1 : Int32))]) pl_0 (by first | (simp [argsToLocals, Value.category]; done) | rfl) hel ?_
  intro p e s m below meth c hx hby hml hret hlk hown hnm hZ
  refine Go.iloadN (q := 1) hx (hb hby d39_0) rfl rfl ?_
  refine Go.aloadN (q := 2) hx (hb hby d39_1) rfl (by rfl) rfl ?_
  refine Go.alen (q := 3) hx hZ B (hb hby d39_2) rfl ?_
  refine Go.isub (q := 4) hx (hb hby d39_3) rfl ?_
  refine Go.bipush (q := 6) (z := (31 : Int32)) hx (hb hby d39_4) rfl rfl ?_
  refine Go.iushr (q := 7) hx (hb hby d39_6) rfl ?_
  refine Go.i2b (q := 8) hx (hb hby d39_7) rfl ?_
  refine Go.retN hx (t := .byte) hret (by simp) hlk (hb hby d39_8) (by decide) (by decide) ?_
  exact ⟨congrArg (fun z => some (Value.int z)) (by decide), rfl⟩
theorem rmSU1 (l : Launch) (Z : State) (a0 : Array Value) (hw : ∀ d ∈ tables_1, d.before a0 Z = true) (hel : EW Z a0 consts_1) (sa a : Addr) (ka : ClassId) (cst : Int32) (c0 : Int32) (h0 : Heap) (n0 : Nat) (Z0 : n0 ≤ h0.size) (gs : n0 ≤ sa) (nas : a ≠ sa) (E : Exa Z h0 sa "java/lang/String") (F1 : Fld Z h0 sa "java/lang/String" "value" "[B" .null) (F2 : Fld Z h0 sa "java/lang/String" "coder" "B" (.int (0 : Int32))) (A : Arv Z h0 a ka .char (1 : Int32) [.int c0] (.int (0 : Int32))) (hq0 : Chr c0) (hU : ((255 : Int32) < c0)) (X0 : Old Z n0 h0) (SC : Sta Z Z.heap "java/lang/String" "COMPACT_STRINGS" "Z" (.int cst)) (hcs : ¬ cst = (0 : Int32)) (AD : Sta Z Z.heap "java/lang/StringUTF16" "$assertionsDisabled" "Z" (.int (1 : Int32))) (HB : Sta Z Z.heap "java/lang/StringUTF16" "HI_BYTE_SHIFT" "I" (.int (0 : Int32))) (LB : Sta Z Z.heap "java/lang/StringUTF16" "LO_BYTE_SHIFT" "I" (.int (8 : Int32))) :
    Met l Z consts_1 [sa] (⟨"java/lang/String", "<init>", "([CIILjava/lang/Void;)V"⟩ : MethodName) jdk_42_method_149_code 6 (Option.none : Option FieldType) [] ({ frames := 4, cells := 2, slots := 3, locals := 81 } : Room) #[(.ref sa), (.ref a), (.int (0 : Int32)), (.int (1 : Int32)), .null] h0 n0 (fun v h => v = none ∧ Keep h0 h [sa] ∧ ∃ b kb, h0.size ≤ b ∧ Fld Z h sa "java/lang/String" "value" "[B" (.ref b) ∧ Fld Z h sa "java/lang/String" "coder" "B" (.int (1 : Int32)) ∧ Arv Z h b kb .byte (2 : Int32) [(.int (nar .byte (c0 >>> ((0 : Int32) &&& 31)).toInt8.toInt32)), (.int (nar .byte (c0 >>> ((8 : Int32) &&& 31)).toInt8.toInt32))] (.int (0 : Int32))) := by
  refine Met.of (Ls0 := #[.val (.ref sa), .val (.ref a), .val (.int (0 : Int32)), .val (.int (1 : Int32)), .val .null, .unset]) pl_3 (by first | (simp [argsToLocals, Value.category]; done) | rfl) hel ?_
  have hSA : ∀ d ∈ Bundle.stringAtoms, d.before a0 Z = true := fun d hd => hw d ((by decide +kernel : ∀ d ∈ Bundle.stringAtoms, d ∈ tables_1) d hd)
  intro p e s m below meth c hx hby hml hret hlk hown hnm hZ
  refine Go.aloadN (q := 1) hx (hb hby d36_0) rfl (by rfl) rfl ?_
  refine Go.initO (q := 4) hx hZ hown (tw hw 133 rfl) (tw hw 19 rfl) (tw hw 20 rfl) (by rw [hml]; rfl) (hb hby d36_1) rfl (by decide) (ble rfl) ?_
  refine Go.iloadN (q := 5) hx (hb hby d36_4) rfl rfl ?_
  refine Go.if_ne (q := 8) (t := 27) hx (hb hby d36_5) (by decide) rfl rfl (fun hc5 => ?_) (fun hc5 => absurd hc5 (by decide))
  refine Go.getS (q := 30) hx hZ hown (host := "") (Or.inl (tw hw 68 rfl)) Via.refl (Sta.ext X0.2 SC) (hb hby d36_27) rfl ?_
  refine Go.if_eq (q := 33) (t := 58) hx (hb hby d36_30) (by decide) rfl rfl (fun hc30 => absurd hc30 hcs) (fun hc30 => ?_)
  refine Go.aloadN (q := 34) hx (hb hby d36_33) rfl (by rfl) rfl ?_
  refine Go.iloadN (q := 35) hx (hb hby d36_34) rfl rfl ?_
  refine Go.iloadN (q := 36) hx (hb hby d36_35) rfl rfl ?_
  refine Go.callS (q := 39) hx hZ (argsL := [(.ref a), (.int (0 : Int32)), (.int (1 : Int32))]) (rest := []) hown (tw hw 196 rfl) (tw hw 197 rfl) (tw hw 198 rfl) (tw hw 199 rfl) (by decide) (rmDU1 l Z a0 hw hel a ka c0 h0 n0 Z0 A hq0 hU X0 AD HB LB) (fun _ hx => nomatch hx) (by rw [hml]; rfl) pd_1 rfl rfl (hb hby d36_36) rfl (by decide) (ble rfl) (ce' := 2) (sl' := 3) rfl rfl (by decide) (by decide) (fun v190 h191 hQ192 => ?_)
  have lt198 := (E).lt
  obtain ⟨b193, k194, rfl, g195, K196, V197⟩ := hQ192
  have ne199 : sa ≠ b193 := Nat.ne_of_lt (Nat.lt_of_lt_of_le lt198 g195)
  show Go _ _ _ _ _ _ _ _ _ _ _ _ _ _ _ _ _ _ _ _ 2 3 39 #[.val (.ref sa), .val (.ref a), .val (.int (0 : Int32)), .val (.int (1 : Int32)), .val .null, .unset] [(.ref b193)]
  refine Go.astore (q := 41) (l' := #[.val (.ref sa), .val (.ref a), .val (.int (0 : Int32)), .val (.int (1 : Int32)), .val .null, .val (.ref b193)]) hx (hb hby d36_39) (by rfl) rfl rfl ?_
  refine Go.aloadN (q := 42) hx (hb hby d36_41) rfl (by rfl) rfl ?_
  refine Go.aload (q := 44) hx (hb hby d36_42) rfl (by rfl) rfl ?_
  refine Go.iloadN (q := 45) hx (hb hby d36_44) rfl rfl ?_
  refine Go.callS (q := 48) hx hZ (argsL := [(.ref b193), (.int (1 : Int32))]) (rest := [(.ref sa)]) hown (tw hw 203 rfl) (tw hw 204 rfl) (tw hw 198 rfl) (tw hw 205 rfl) (by decide) (rmKU1 l Z a0 hw hel b193 k194 _ h191 n0 (Nat.le_trans Z0 K196.1) V197) (fun _ hx => nomatch hx) (by rw [hml]; rfl) pd_4 rfl rfl (hb hby d36_45) rfl (by decide) (ble rfl) (ce' := 2) (sl' := 3) rfl rfl (by decide) (by decide) (fun v200 h201 hQ202 => ?_)
  obtain ⟨rfl, rfl⟩ := hQ202
  show Go _ _ _ _ _ _ _ _ _ _ _ _ _ _ _ _ _ _ _ _ 2 3 48 #[.val (.ref sa), .val (.ref a), .val (.int (0 : Int32)), .val (.int (1 : Int32)), .val .null, .val (.ref b193)] [(.int (1 : Int32)), (.ref sa)]
  refine Go.putF (q := 51) hx hZ hown (host := "") (Or.inl (tw hw 69 rfl)) Via.refl (F2.keep K196 nin0) (E.keep K196) (Or.inr ⟨(tw hw 9 rfl), rfl, hnm⟩) (tw hw 6 rfl) (ty := .byte) (by decide) rfl rfl gs (by simp) (hb hby d36_48) rfl (fun h203 W204 => ?_)
  refine Go.aloadN (q := 52) hx (hb hby d36_51) rfl (by rfl) rfl ?_
  refine Go.aload (q := 54) hx (hb hby d36_52) rfl (by rfl) rfl ?_
  refine Go.putF (q := 57) hx hZ hown (host := "") (Or.inl (tw hw 62 rfl)) Via.refl (Fld.other W204 (F1.keep K196 nin0) (Or.inr (slot_ne (C := "java/lang/String") (Or.inr (tw hw 8 rfl)) (Or.inr (tw hw 9 rfl)) (by decide) (by decide : _ = some (.array .byte)) (by decide : _ = some .byte)))) (Exa.wr W204 (E.keep K196)) (Or.inr ⟨(tw hw 8 rfl), rfl, hnm⟩) (tw hw 6 rfl) (ty := (.array .byte)) (by decide) rfl rfl gs (by simp) (hb hby d36_54) rfl (fun h205 W206 => ?_)
  refine Go.ret0 hx hret hlk (hb hby d36_57) (by decide) (by decide) ?_
  exact ⟨rfl, (((Keep.trans (Keep.refl h0 [sa]) K196 all0).wr W204 (Or.inl (by simp))).wr W206 (Or.inl (by simp))), b193, k194, g195, (Fld.same W206 (Fld.other W204 (F1.keep K196 nin0) (Or.inr (slot_ne (C := "java/lang/String") (Or.inr (tw hw 8 rfl)) (Or.inr (tw hw 9 rfl)) (by decide) (by decide : _ = some (.array .byte)) (by decide : _ = some .byte))))), (Fld.other W206 (Fld.same W204 (F2.keep K196 nin0)) (Or.inr (slot_ne (C := "java/lang/String") (Or.inr (tw hw 9 rfl)) (Or.inr (tw hw 8 rfl)) (by decide) (by decide : _ = some .byte) (by decide : _ = some (.array .byte))))), ((V197.other W204 ne199.symm).other W206 ne199.symm)⟩
theorem rmIU1 (l : Launch) (Z : State) (a0 : Array Value) (hw : ∀ d ∈ tables_1, d.before a0 Z = true) (hel : EW Z a0 consts_1) (sa a : Addr) (ka : ClassId) (cst : Int32) (c0 : Int32) (h0 : Heap) (n0 : Nat) (Z0 : n0 ≤ h0.size) (gs : n0 ≤ sa) (nas : a ≠ sa) (E : Exa Z h0 sa "java/lang/String") (F1 : Fld Z h0 sa "java/lang/String" "value" "[B" .null) (F2 : Fld Z h0 sa "java/lang/String" "coder" "B" (.int (0 : Int32))) (A : Arv Z h0 a ka .char (1 : Int32) [.int c0] (.int (0 : Int32))) (hq0 : Chr c0) (hU : ((255 : Int32) < c0)) (X0 : Old Z n0 h0) (SC : Sta Z Z.heap "java/lang/String" "COMPACT_STRINGS" "Z" (.int cst)) (hcs : ¬ cst = (0 : Int32)) (AD : Sta Z Z.heap "java/lang/StringUTF16" "$assertionsDisabled" "Z" (.int (1 : Int32))) (HB : Sta Z Z.heap "java/lang/StringUTF16" "HI_BYTE_SHIFT" "I" (.int (0 : Int32))) (LB : Sta Z Z.heap "java/lang/StringUTF16" "LO_BYTE_SHIFT" "I" (.int (8 : Int32))) :
    Met l Z consts_1 [sa] (⟨"java/lang/String", "<init>", "([C)V"⟩ : MethodName) jdk_42_method_3_code 2 (Option.none : Option FieldType) [] ({ frames := 5, cells := 2, slots := 3, locals := 104 } : Room) #[(.ref sa), (.ref a)] h0 n0 (fun v h => v = none ∧ Keep h0 h [sa] ∧ ∃ b kb, h0.size ≤ b ∧ Fld Z h sa "java/lang/String" "value" "[B" (.ref b) ∧ Fld Z h sa "java/lang/String" "coder" "B" (.int (1 : Int32)) ∧ Arv Z h b kb .byte (2 : Int32) [(.int (nar .byte (c0 >>> ((0 : Int32) &&& 31)).toInt8.toInt32)), (.int (nar .byte (c0 >>> ((8 : Int32) &&& 31)).toInt8.toInt32))] (.int (0 : Int32))) := by
  refine Met.of (Ls0 := #[.val (.ref sa), .val (.ref a)]) pl_4 (by first | (simp [argsToLocals, Value.category]; done) | rfl) hel ?_
  intro p e s m below meth c hx hby hml hret hlk hown hnm hZ
  refine Go.aloadN (q := 1) hx (hb hby d35_0) rfl (by rfl) rfl ?_
  refine Go.aloadN (q := 2) hx (hb hby d35_1) rfl (by rfl) rfl ?_
  refine Go.iconst (q := 3) (z := (0 : Int32)) hx (hb hby d35_2) rfl rfl ?_
  refine Go.aloadN (q := 4) hx (hb hby d35_3) rfl (by rfl) rfl ?_
  refine Go.alen (q := 5) hx hZ A (hb hby d35_4) rfl ?_
  refine Go.aconstNull (q := 6) hx (hb hby d35_5) rfl ?_
  refine Go.callI (q := 9) hx hZ (a := sa) (argsL := [(.ref a), (.int (0 : Int32)), (.int (1 : Int32)), .null]) (rest := []) hown rfl (tw hw 193 rfl) (tw hw 194 rfl) (tw hw 5 rfl) (tw hw 195 rfl) (by decide) (rmSU1 l Z a0 hw hel sa a ka cst c0 h0 n0 Z0 gs nas E F1 F2 A hq0 hU X0 SC hcs AD HB LB) (by simp) (by rw [hml]; rfl) pd_5 rfl rfl (hb hby d35_6) rfl (by decide) (ble rfl) (ce' := 2) (sl' := 3) rfl rfl (by decide) (by decide) (fun v207 h208 hQ209 => ?_)
  obtain ⟨rfl, K210, Y211⟩ := hQ209
  show Go _ _ _ _ _ _ _ _ _ _ _ _ _ _ _ _ _ _ _ _ 2 3 9 #[.val (.ref sa), .val (.ref a)] []
  refine Go.ret0 hx hret hlk (hb hby d35_9) (by decide) (by decide) ?_
  exact ⟨rfl, (Keep.trans (Keep.refl h0 [sa]) K210 (allS (Or.inl (by simp)) all0)), Y211⟩
theorem lu1 (c0 : Int32) : (¬ (255 : Int32) < c0) ∨ (((255 : Int32) < c0)) := if h0 : (255 : Int32) < c0 then Or.inr h0 else Or.inl h0
theorem rmNL2 (l : Launch) (Z : State) (a0 : Array Value) (hw : ∀ d ∈ tables_1, d.before a0 Z = true) (hel : EW Z a0 consts_1)  (h0 : Heap) (n0 : Nat) (Z0 : n0 ≤ h0.size)  :
    Met l Z consts_1 [] (⟨"java/lang/StringUTF16", "newBytesLength", "(I)I"⟩ : MethodName) jdk_52_method_3_code 1 (Option.some FieldType.int) [] ({ frames := 0, cells := 0, slots := 0, locals := 0 } : Room) #[(.int (2 : Int32))] h0 n0 (fun v h => v = some (.int (4 : Int32)) ∧ h0 = h) := by
  refine Met.of (Ls0 := #[.val (.int (2 : Int32))]) pl_5 (by first | (simp [argsToLocals, Value.category]; done) | rfl) hel ?_
  have hSA : ∀ d ∈ Bundle.stringAtoms, d.before a0 Z = true := fun d hd => hw d ((by decide +kernel : ∀ d ∈ Bundle.stringAtoms, d ∈ tables_1) d hd)
  intro p e s m below meth c hx hby hml hret hlk hown hnm hZ
  refine Go.iloadN (q := 1) hx (hb hby d42_0) rfl rfl ?_
  refine Go.if_ge (q := 4) (t := 12) hx (hb hby d42_1) (by decide) rfl rfl (fun hc1 => ?_) (fun hc1 => absurd hc1 (by decide))
  refine Go.iloadN (q := 13) hx (hb hby d42_12) rfl rfl ?_
  refine Go.ldcInt (q := 15) hx hZ hown (tw hw 215 rfl) (hb hby d42_13) rfl ?_
  refine Go.icmp_lt (q := 18) (t := 55) hx (hb hby d42_15) (by decide) rfl rfl (fun hc15 => ?_) (fun hc15 => absurd hc15 (by decide))
  refine Go.iloadN (q := 56) hx (hb hby d42_55) rfl rfl ?_
  refine Go.iconst (q := 57) (z := (1 : Int32)) hx (hb hby d42_56) rfl rfl ?_
  refine Go.ishl (q := 58) hx (hb hby d42_57) rfl ?_
  rw [show (2 : Int32) <<< ((1 : Int32) &&& 31) = (4 : Int32) from by decide]
  refine Go.retI hx hret hlk (hb hby d42_58) (by decide) (by decide) ?_
  exact ⟨rfl, rfl⟩
theorem rmNB2 (l : Launch) (Z : State) (a0 : Array Value) (hw : ∀ d ∈ tables_1, d.before a0 Z = true) (hel : EW Z a0 consts_1)  (h0 : Heap) (n0 : Nat) (Z0 : n0 ≤ h0.size)  :
    Met l Z consts_1 [] (⟨"java/lang/StringUTF16", "newBytesFor", "(I)[B"⟩ : MethodName) jdk_52_method_2_code 1 (Option.some (FieldType.array FieldType.byte)) [] ({ frames := 1, cells := 1, slots := 4, locals := 18 } : Room) #[(.int (2 : Int32))] h0 n0 (fun v h => ∃ b kb, v = some (.ref b) ∧ h0.size ≤ b ∧ Keep h0 h [] ∧ Arv Z h b kb .byte (4 : Int32) [(.int (0 : Int32)), (.int (0 : Int32)), (.int (0 : Int32)), (.int (0 : Int32))] (.int (0 : Int32))) := by
  refine Met.of (Ls0 := #[.val (.int (2 : Int32))]) pl_6 (by first | (simp [argsToLocals, Value.category]; done) | rfl) hel ?_
  intro p e s m below meth c hx hby hml hret hlk hown hnm hZ
  refine Go.iloadN (q := 1) hx (hb hby d41_0) rfl rfl ?_
  refine Go.callS (q := 4) hx hZ (argsL := [(.int (2 : Int32))]) (rest := []) hown (tw hw 212 rfl) (tw hw 213 rfl) (tw hw 198 rfl) (tw hw 214 rfl) (by decide) (rmNL2 l Z a0 hw hel h0 n0 Z0) (fun _ hx => nomatch hx) (by rw [hml]; rfl) pd_6 rfl rfl (hb hby d41_1) rfl (by decide) (ble rfl) (ce' := 0) (sl' := 0) rfl rfl (by decide) (by decide) (fun v212 h213 hQ214 => ?_)
  obtain ⟨rfl, rfl⟩ := hQ214
  show Go _ _ _ _ _ _ _ _ _ _ _ _ _ _ _ _ _ _ _ _ 0 0 4 #[.val (.int (2 : Int32))] [(.int (4 : Int32))]
  refine Go.newP (q := 6) (cap := 4) hx hZ (tw hw 7 rfl) (by decide) (by decide) (hb hby d41_4) rfl (by decide) (ce' := 1) (sl' := 4) rfl rfl (by decide) (by decide) (fun h215 a216 k217 g218 E219 A220 => ?_)
  have gz221 : n0 ≤ a216 := by rw [g218]; exact Z0
  have gk222 : h0.size ≤ a216 := by rw [g218]; exact (Keep.refl h0 []).1
  have V223 : Arv Z h215 a216 k217 .byte (4 : Int32) [(.int (0 : Int32)), (.int (0 : Int32)), (.int (0 : Int32)), (.int (0 : Int32))] (.int (0 : Int32)) := A220.pad (pad_rep [] (.int (0 : Int32)) 4)
  refine Go.retA hx hret rfl (by rfl) hlk (hb hby d41_6) (by decide) (by decide) ?_
  exact ⟨a216, _, rfl, gk222, ((Keep.refl h0 []).ext E219), V223⟩
theorem rmP2_0 (l : Launch) (Z : State) (a0 : Array Value) (hw : ∀ d ∈ tables_1, d.before a0 Z = true) (hel : EW Z a0 consts_1) (b : Addr) (kb : ClassId) (x d0 d1 d2 d3 : Int32) (h0 : Heap) (n0 : Nat) (Z0 : n0 ≤ h0.size) (B : Arv Z h0 b kb .byte (4 : Int32) [(.int d0), (.int d1), (.int d2), (.int d3)] (.int (0 : Int32))) (gb : n0 ≤ b) (X0 : Old Z n0 h0) (AD : Sta Z Z.heap "java/lang/StringUTF16" "$assertionsDisabled" "Z" (.int (1 : Int32))) (HB : Sta Z Z.heap "java/lang/StringUTF16" "HI_BYTE_SHIFT" "I" (.int (0 : Int32))) (LB : Sta Z Z.heap "java/lang/StringUTF16" "LO_BYTE_SHIFT" "I" (.int (8 : Int32))) :
    Met l Z consts_1 [b] (⟨"java/lang/StringUTF16", "putChar", "([BII)V"⟩ : MethodName) jdk_52_method_4_code 3 (Option.none : Option FieldType) [] ({ frames := 0, cells := 0, slots := 0, locals := 0 } : Room) #[(.ref b), (.int (0 : Int32)), (.int x)] h0 n0 (fun v h => v = none ∧ Keep h0 h [b] ∧ Arv Z h b kb .byte (4 : Int32) [(.int (nar .byte (x >>> ((0 : Int32) &&& 31)).toInt8.toInt32)), (.int (nar .byte (x >>> ((8 : Int32) &&& 31)).toInt8.toInt32)), (.int d2), (.int d3)] (.int (0 : Int32))) := by
  refine Met.of (Ls0 := #[.val (.ref b), .val (.int (0 : Int32)), .val (.int x)]) pl_7 (by first | (simp [argsToLocals, Value.category]; done) | rfl) hel ?_
  have hSA : ∀ d ∈ Bundle.stringAtoms, d.before a0 Z = true := fun d hd => hw d ((by decide +kernel : ∀ d ∈ Bundle.stringAtoms, d ∈ tables_1) d hd)
  intro p e s m below meth c hx hby hml hret hlk hown hnm hZ
  refine Go.getS (q := 3) hx hZ hown (host := "") (Or.inl (tw hw 219 rfl)) Via.refl (Sta.ext X0.2 AD) (hb hby d43_0) rfl ?_
  refine Go.if_ne (q := 6) (t := 28) hx (hb hby d43_3) (by decide) rfl rfl (fun hc3 => ?_) (fun hc3 => absurd hc3 (by decide))
  refine Go.iloadN (q := 29) hx (hb hby d43_28) rfl rfl ?_
  refine Go.iconst (q := 30) (z := (1 : Int32)) hx (hb hby d43_29) rfl rfl ?_
  refine Go.ishl (q := 31) hx (hb hby d43_30) rfl ?_
  rw [show (0 : Int32) <<< ((1 : Int32) &&& 31) = (0 : Int32) from by decide]
  refine Go.istoreN (q := 32) (l' := #[.val (.ref b), .val (.int (0 : Int32)), .val (.int x)]) hx (hb hby d43_31) rfl rfl ?_
  refine Go.aloadN (q := 33) hx (hb hby d43_32) rfl (by rfl) rfl ?_
  refine Go.iloadN (q := 34) hx (hb hby d43_33) rfl rfl ?_
  refine Go.iinc (q := 37) (l' := #[.val (.ref b), .val (.int ((0 : Int32) + (1 : Int32))), .val (.int x)]) hx (hb hby d43_34) rfl rfl rfl ?_
  refine Go.iloadN (q := 38) hx (hb hby d43_37) rfl rfl ?_
  refine Go.getS (q := 41) hx hZ hown (host := "") (Or.inl (tw hw 220 rfl)) Via.refl (Sta.ext X0.2 HB) (hb hby d43_38) rfl ?_
  refine Go.ishr (q := 42) hx (hb hby d43_41) rfl ?_
  refine Go.i2b (q := 43) hx (hb hby d43_42) rfl ?_
  refine Go.bastore (q := 44) hx hZ B ⟨by decide, by decide⟩ 0 rfl (ble rfl) gb (by simp) (hb hby d43_43) rfl (fun h224 W225 V226 => ?_)
  refine Go.aloadN (q := 45) hx (hb hby d43_44) rfl (by rfl) rfl ?_
  refine Go.iloadN (q := 46) hx (hb hby d43_45) rfl rfl ?_
  refine Go.iloadN (q := 47) hx (hb hby d43_46) rfl rfl ?_
  refine Go.getS (q := 50) hx hZ hown (host := "") (Or.inl (tw hw 221 rfl)) Via.refl (Sta.ext (X0.wr W225 gb).2 LB) (hb hby d43_47) rfl ?_
  refine Go.ishr (q := 51) hx (hb hby d43_50) rfl ?_
  refine Go.i2b (q := 52) hx (hb hby d43_51) rfl ?_
  refine Go.bastore (q := 53) hx hZ V226 ⟨by decide, by decide⟩ 1 rfl (ble rfl) gb (by simp) (hb hby d43_52) rfl (fun h227 W228 V229 => ?_)
  refine Go.ret0 hx hret hlk (hb hby d43_53) (by decide) (by decide) ?_
  exact ⟨rfl, (((Keep.refl h0 [b]).wr W225 (Or.inl (by simp))).wr W228 (Or.inl (by simp))), V229⟩
theorem rmG2_0 (l : Launch) (Z : State) (a0 : Array Value) (hw : ∀ d ∈ tables_1, d.before a0 Z = true) (hel : EW Z a0 consts_1) (b : Addr) (kb : ClassId) (c0 c1 : Int32) (h0 : Heap) (n0 : Nat) (Z0 : n0 ≤ h0.size) (B : Arv Z h0 b kb .byte (4 : Int32) [(.int (nar .byte (c0 >>> ((0 : Int32) &&& 31)).toInt8.toInt32)), (.int (nar .byte (c0 >>> ((8 : Int32) &&& 31)).toInt8.toInt32)), (.int (nar .byte (c1 >>> ((0 : Int32) &&& 31)).toInt8.toInt32)), (.int (nar .byte (c1 >>> ((8 : Int32) &&& 31)).toInt8.toInt32))] (.int (0 : Int32))) (hq0 : Chr c0) (X0 : Old Z n0 h0) (AD : Sta Z Z.heap "java/lang/StringUTF16" "$assertionsDisabled" "Z" (.int (1 : Int32))) (HB : Sta Z Z.heap "java/lang/StringUTF16" "HI_BYTE_SHIFT" "I" (.int (0 : Int32))) (LB : Sta Z Z.heap "java/lang/StringUTF16" "LO_BYTE_SHIFT" "I" (.int (8 : Int32))) :
    Met l Z consts_1 [] (⟨"java/lang/StringUTF16", "getChar", "([BI)C"⟩ : MethodName) jdk_52_method_5_code 2 (Option.some FieldType.char) [] ({ frames := 0, cells := 0, slots := 0, locals := 0 } : Room) #[(.ref b), (.int (0 : Int32))] h0 n0 (fun v h => v = some (.int c0) ∧ h0 = h) := by
  refine Met.of (Ls0 := #[.val (.ref b), .val (.int (0 : Int32))]) pl_8 (by first | (simp [argsToLocals, Value.category]; done) | rfl) hel ?_
  have hSA : ∀ d ∈ Bundle.stringAtoms, d.before a0 Z = true := fun d hd => hw d ((by decide +kernel : ∀ d ∈ Bundle.stringAtoms, d ∈ tables_1) d hd)
  intro p e s m below meth c hx hby hml hret hlk hown hnm hZ
  refine Go.getS (q := 3) hx hZ hown (host := "") (Or.inl (tw hw 219 rfl)) Via.refl (Sta.ext X0.2 AD) (hb hby d44_0) rfl ?_
  refine Go.if_ne (q := 6) (t := 28) hx (hb hby d44_3) (by decide) rfl rfl (fun hc3 => ?_) (fun hc3 => absurd hc3 (by decide))
  refine Go.iloadN (q := 29) hx (hb hby d44_28) rfl rfl ?_
  refine Go.iconst (q := 30) (z := (1 : Int32)) hx (hb hby d44_29) rfl rfl ?_
  refine Go.ishl (q := 31) hx (hb hby d44_30) rfl ?_
  rw [show (0 : Int32) <<< ((1 : Int32) &&& 31) = (0 : Int32) from by decide]
  refine Go.istoreN (q := 32) (l' := #[.val (.ref b), .val (.int (0 : Int32))]) hx (hb hby d44_31) rfl rfl ?_
  refine Go.aloadN (q := 33) hx (hb hby d44_32) rfl (by rfl) rfl ?_
  refine Go.iloadN (q := 34) hx (hb hby d44_33) rfl rfl ?_
  refine Go.iinc (q := 37) (l' := #[.val (.ref b), .val (.int ((0 : Int32) + (1 : Int32)))]) hx (hb hby d44_34) rfl rfl rfl ?_
  refine Go.baload (q := 38) (v := (.int (nar .byte (c0 >>> ((0 : Int32) &&& 31)).toInt8.toInt32))) hx hZ B ⟨by decide, by decide⟩ rfl (hb hby d44_37) rfl ?_
  refine Go.sipush (q := 41) (z := (255 : Int32)) hx (hb hby d44_38) rfl rfl ?_
  refine Go.iand (q := 42) hx (hb hby d44_41) rfl ?_
  refine Go.getS (q := 45) hx hZ hown (host := "") (Or.inl (tw hw 220 rfl)) Via.refl (Sta.ext X0.2 HB) (hb hby d44_42) rfl ?_
  refine Go.ishl (q := 46) hx (hb hby d44_45) rfl ?_
  refine Go.aloadN (q := 47) hx (hb hby d44_46) rfl (by rfl) rfl ?_
  refine Go.iloadN (q := 48) hx (hb hby d44_47) rfl rfl ?_
  refine Go.baload (q := 49) (v := (.int (nar .byte (c0 >>> ((8 : Int32) &&& 31)).toInt8.toInt32))) hx hZ B ⟨by decide, by decide⟩ rfl (hb hby d44_48) rfl ?_
  refine Go.sipush (q := 52) (z := (255 : Int32)) hx (hb hby d44_49) rfl rfl ?_
  refine Go.iand (q := 53) hx (hb hby d44_52) rfl ?_
  refine Go.getS (q := 56) hx hZ hown (host := "") (Or.inl (tw hw 221 rfl)) Via.refl (Sta.ext X0.2 LB) (hb hby d44_53) rfl ?_
  refine Go.ishl (q := 57) hx (hb hby d44_56) rfl ?_
  refine Go.ior (q := 58) hx (hb hby d44_57) rfl ?_
  refine Go.i2c (q := 59) hx (hb hby d44_58) rfl ?_
  refine Go.retN hx (t := .char) hret (by simp) hlk (hb hby d44_59) (by decide) (by decide) ?_
  exact ⟨congrArg (fun z => some (Value.int z)) (utf_ok hq0), rfl⟩
theorem rmP2_1 (l : Launch) (Z : State) (a0 : Array Value) (hw : ∀ d ∈ tables_1, d.before a0 Z = true) (hel : EW Z a0 consts_1) (b : Addr) (kb : ClassId) (x d0 d1 d2 d3 : Int32) (h0 : Heap) (n0 : Nat) (Z0 : n0 ≤ h0.size) (B : Arv Z h0 b kb .byte (4 : Int32) [(.int d0), (.int d1), (.int d2), (.int d3)] (.int (0 : Int32))) (gb : n0 ≤ b) (X0 : Old Z n0 h0) (AD : Sta Z Z.heap "java/lang/StringUTF16" "$assertionsDisabled" "Z" (.int (1 : Int32))) (HB : Sta Z Z.heap "java/lang/StringUTF16" "HI_BYTE_SHIFT" "I" (.int (0 : Int32))) (LB : Sta Z Z.heap "java/lang/StringUTF16" "LO_BYTE_SHIFT" "I" (.int (8 : Int32))) :
    Met l Z consts_1 [b] (⟨"java/lang/StringUTF16", "putChar", "([BII)V"⟩ : MethodName) jdk_52_method_4_code 3 (Option.none : Option FieldType) [] ({ frames := 0, cells := 0, slots := 0, locals := 0 } : Room) #[(.ref b), (.int (1 : Int32)), (.int x)] h0 n0 (fun v h => v = none ∧ Keep h0 h [b] ∧ Arv Z h b kb .byte (4 : Int32) [(.int d0), (.int d1), (.int (nar .byte (x >>> ((0 : Int32) &&& 31)).toInt8.toInt32)), (.int (nar .byte (x >>> ((8 : Int32) &&& 31)).toInt8.toInt32))] (.int (0 : Int32))) := by
  refine Met.of (Ls0 := #[.val (.ref b), .val (.int (1 : Int32)), .val (.int x)]) pl_7 (by first | (simp [argsToLocals, Value.category]; done) | rfl) hel ?_
  have hSA : ∀ d ∈ Bundle.stringAtoms, d.before a0 Z = true := fun d hd => hw d ((by decide +kernel : ∀ d ∈ Bundle.stringAtoms, d ∈ tables_1) d hd)
  intro p e s m below meth c hx hby hml hret hlk hown hnm hZ
  refine Go.getS (q := 3) hx hZ hown (host := "") (Or.inl (tw hw 219 rfl)) Via.refl (Sta.ext X0.2 AD) (hb hby d43_0) rfl ?_
  refine Go.if_ne (q := 6) (t := 28) hx (hb hby d43_3) (by decide) rfl rfl (fun hc3 => ?_) (fun hc3 => absurd hc3 (by decide))
  refine Go.iloadN (q := 29) hx (hb hby d43_28) rfl rfl ?_
  refine Go.iconst (q := 30) (z := (1 : Int32)) hx (hb hby d43_29) rfl rfl ?_
  refine Go.ishl (q := 31) hx (hb hby d43_30) rfl ?_
  rw [show (1 : Int32) <<< ((1 : Int32) &&& 31) = (2 : Int32) from by decide]
  refine Go.istoreN (q := 32) (l' := #[.val (.ref b), .val (.int (2 : Int32)), .val (.int x)]) hx (hb hby d43_31) rfl rfl ?_
  refine Go.aloadN (q := 33) hx (hb hby d43_32) rfl (by rfl) rfl ?_
  refine Go.iloadN (q := 34) hx (hb hby d43_33) rfl rfl ?_
  refine Go.iinc (q := 37) (l' := #[.val (.ref b), .val (.int ((2 : Int32) + (1 : Int32))), .val (.int x)]) hx (hb hby d43_34) rfl rfl rfl ?_
  refine Go.iloadN (q := 38) hx (hb hby d43_37) rfl rfl ?_
  refine Go.getS (q := 41) hx hZ hown (host := "") (Or.inl (tw hw 220 rfl)) Via.refl (Sta.ext X0.2 HB) (hb hby d43_38) rfl ?_
  refine Go.ishr (q := 42) hx (hb hby d43_41) rfl ?_
  refine Go.i2b (q := 43) hx (hb hby d43_42) rfl ?_
  refine Go.bastore (q := 44) hx hZ B ⟨by decide, by decide⟩ 2 rfl (ble rfl) gb (by simp) (hb hby d43_43) rfl (fun h230 W231 V232 => ?_)
  refine Go.aloadN (q := 45) hx (hb hby d43_44) rfl (by rfl) rfl ?_
  refine Go.iloadN (q := 46) hx (hb hby d43_45) rfl rfl ?_
  refine Go.iloadN (q := 47) hx (hb hby d43_46) rfl rfl ?_
  refine Go.getS (q := 50) hx hZ hown (host := "") (Or.inl (tw hw 221 rfl)) Via.refl (Sta.ext (X0.wr W231 gb).2 LB) (hb hby d43_47) rfl ?_
  refine Go.ishr (q := 51) hx (hb hby d43_50) rfl ?_
  refine Go.i2b (q := 52) hx (hb hby d43_51) rfl ?_
  refine Go.bastore (q := 53) hx hZ V232 ⟨by decide, by decide⟩ 3 rfl (ble rfl) gb (by simp) (hb hby d43_52) rfl (fun h233 W234 V235 => ?_)
  refine Go.ret0 hx hret hlk (hb hby d43_53) (by decide) (by decide) ?_
  exact ⟨rfl, (((Keep.refl h0 [b]).wr W231 (Or.inl (by simp))).wr W234 (Or.inl (by simp))), V235⟩
theorem rmG2_1 (l : Launch) (Z : State) (a0 : Array Value) (hw : ∀ d ∈ tables_1, d.before a0 Z = true) (hel : EW Z a0 consts_1) (b : Addr) (kb : ClassId) (c0 c1 : Int32) (h0 : Heap) (n0 : Nat) (Z0 : n0 ≤ h0.size) (B : Arv Z h0 b kb .byte (4 : Int32) [(.int (nar .byte (c0 >>> ((0 : Int32) &&& 31)).toInt8.toInt32)), (.int (nar .byte (c0 >>> ((8 : Int32) &&& 31)).toInt8.toInt32)), (.int (nar .byte (c1 >>> ((0 : Int32) &&& 31)).toInt8.toInt32)), (.int (nar .byte (c1 >>> ((8 : Int32) &&& 31)).toInt8.toInt32))] (.int (0 : Int32))) (hq1 : Chr c1) (X0 : Old Z n0 h0) (AD : Sta Z Z.heap "java/lang/StringUTF16" "$assertionsDisabled" "Z" (.int (1 : Int32))) (HB : Sta Z Z.heap "java/lang/StringUTF16" "HI_BYTE_SHIFT" "I" (.int (0 : Int32))) (LB : Sta Z Z.heap "java/lang/StringUTF16" "LO_BYTE_SHIFT" "I" (.int (8 : Int32))) :
    Met l Z consts_1 [] (⟨"java/lang/StringUTF16", "getChar", "([BI)C"⟩ : MethodName) jdk_52_method_5_code 2 (Option.some FieldType.char) [] ({ frames := 0, cells := 0, slots := 0, locals := 0 } : Room) #[(.ref b), (.int (1 : Int32))] h0 n0 (fun v h => v = some (.int c1) ∧ h0 = h) := by
  refine Met.of (Ls0 := #[.val (.ref b), .val (.int (1 : Int32))]) pl_8 (by first | (simp [argsToLocals, Value.category]; done) | rfl) hel ?_
  have hSA : ∀ d ∈ Bundle.stringAtoms, d.before a0 Z = true := fun d hd => hw d ((by decide +kernel : ∀ d ∈ Bundle.stringAtoms, d ∈ tables_1) d hd)
  intro p e s m below meth c hx hby hml hret hlk hown hnm hZ
  refine Go.getS (q := 3) hx hZ hown (host := "") (Or.inl (tw hw 219 rfl)) Via.refl (Sta.ext X0.2 AD) (hb hby d44_0) rfl ?_
  refine Go.if_ne (q := 6) (t := 28) hx (hb hby d44_3) (by decide) rfl rfl (fun hc3 => ?_) (fun hc3 => absurd hc3 (by decide))
  refine Go.iloadN (q := 29) hx (hb hby d44_28) rfl rfl ?_
  refine Go.iconst (q := 30) (z := (1 : Int32)) hx (hb hby d44_29) rfl rfl ?_
  refine Go.ishl (q := 31) hx (hb hby d44_30) rfl ?_
  rw [show (1 : Int32) <<< ((1 : Int32) &&& 31) = (2 : Int32) from by decide]
  refine Go.istoreN (q := 32) (l' := #[.val (.ref b), .val (.int (2 : Int32))]) hx (hb hby d44_31) rfl rfl ?_
  refine Go.aloadN (q := 33) hx (hb hby d44_32) rfl (by rfl) rfl ?_
  refine Go.iloadN (q := 34) hx (hb hby d44_33) rfl rfl ?_
  refine Go.iinc (q := 37) (l' := #[.val (.ref b), .val (.int ((2 : Int32) + (1 : Int32)))]) hx (hb hby d44_34) rfl rfl rfl ?_
  refine Go.baload (q := 38) (v := (.int (nar .byte (c1 >>> ((0 : Int32) &&& 31)).toInt8.toInt32))) hx hZ B ⟨by decide, by decide⟩ rfl (hb hby d44_37) rfl ?_
  refine Go.sipush (q := 41) (z := (255 : Int32)) hx (hb hby d44_38) rfl rfl ?_
  refine Go.iand (q := 42) hx (hb hby d44_41) rfl ?_
  refine Go.getS (q := 45) hx hZ hown (host := "") (Or.inl (tw hw 220 rfl)) Via.refl (Sta.ext X0.2 HB) (hb hby d44_42) rfl ?_
  refine Go.ishl (q := 46) hx (hb hby d44_45) rfl ?_
  refine Go.aloadN (q := 47) hx (hb hby d44_46) rfl (by rfl) rfl ?_
  refine Go.iloadN (q := 48) hx (hb hby d44_47) rfl rfl ?_
  refine Go.baload (q := 49) (v := (.int (nar .byte (c1 >>> ((8 : Int32) &&& 31)).toInt8.toInt32))) hx hZ B ⟨by decide, by decide⟩ rfl (hb hby d44_48) rfl ?_
  refine Go.sipush (q := 52) (z := (255 : Int32)) hx (hb hby d44_49) rfl rfl ?_
  refine Go.iand (q := 53) hx (hb hby d44_52) rfl ?_
  refine Go.getS (q := 56) hx hZ hown (host := "") (Or.inl (tw hw 221 rfl)) Via.refl (Sta.ext X0.2 LB) (hb hby d44_53) rfl ?_
  refine Go.ishl (q := 57) hx (hb hby d44_56) rfl ?_
  refine Go.ior (q := 58) hx (hb hby d44_57) rfl ?_
  refine Go.i2c (q := 59) hx (hb hby d44_58) rfl ?_
  refine Go.retN hx (t := .char) hret (by simp) hlk (hb hby d44_59) (by decide) (by decide) ?_
  exact ⟨congrArg (fun z => some (Value.int z)) (utf_ok hq1), rfl⟩
theorem rmT2 (l : Launch) (Z : State) (a0 : Array Value) (hw : ∀ d ∈ tables_1, d.before a0 Z = true) (hel : EW Z a0 consts_1) (a : Addr) (ka : ClassId) (c0 c1 : Int32) (h0 : Heap) (n0 : Nat) (Z0 : n0 ≤ h0.size) (A : Arv Z h0 a ka .char (2 : Int32) [.int c0, .int c1] (.int (0 : Int32))) (X0 : Old Z n0 h0) (AD : Sta Z Z.heap "java/lang/StringUTF16" "$assertionsDisabled" "Z" (.int (1 : Int32))) (HB : Sta Z Z.heap "java/lang/StringUTF16" "HI_BYTE_SHIFT" "I" (.int (0 : Int32))) (LB : Sta Z Z.heap "java/lang/StringUTF16" "LO_BYTE_SHIFT" "I" (.int (8 : Int32))) :
    Met l Z consts_1 [] (⟨"java/lang/StringUTF16", "toBytes", "([CII)[B"⟩ : MethodName) jdk_52_method_14_code 5 (Option.some (FieldType.array FieldType.byte)) [] ({ frames := 2, cells := 1, slots := 4, locals := 36 } : Room) #[(.ref a), (.int (0 : Int32)), (.int (2 : Int32))] h0 n0 (fun v h => ∃ b kb, v = some (.ref b) ∧ h0.size ≤ b ∧ Keep h0 h [] ∧ Arv Z h b kb .byte (4 : Int32) [(.int (nar .byte (c0 >>> ((0 : Int32) &&& 31)).toInt8.toInt32)), (.int (nar .byte (c0 >>> ((8 : Int32) &&& 31)).toInt8.toInt32)), (.int (nar .byte (c1 >>> ((0 : Int32) &&& 31)).toInt8.toInt32)), (.int (nar .byte (c1 >>> ((8 : Int32) &&& 31)).toInt8.toInt32))] (.int (0 : Int32))) := by
  refine Met.of (Ls0 := #[.val (.ref a), .val (.int (0 : Int32)), .val (.int (2 : Int32)), .unset, .unset]) pl_9 (by first | (simp [argsToLocals, Value.category]; done) | rfl) hel ?_
  intro p e s m below meth c hx hby hml hret hlk hown hnm hZ
  refine Go.iloadN (q := 1) hx (hb hby d40_0) rfl rfl ?_
  refine Go.callS (q := 4) hx hZ (argsL := [(.int (2 : Int32))]) (rest := []) hown (tw hw 209 rfl) (tw hw 210 rfl) (tw hw 198 rfl) (tw hw 211 rfl) (by decide) (rmNB2 l Z a0 hw hel h0 n0 Z0) (fun _ hx => nomatch hx) (by rw [hml]; rfl) pd_8 rfl rfl (hb hby d40_1) rfl (by decide) (ble rfl) (ce' := 1) (sl' := 4) rfl rfl (by decide) (by decide) (fun v236 h237 hQ238 => ?_)
  have lt244 := (A).lt
  obtain ⟨b239, k240, rfl, g241, K242, V243⟩ := hQ238
  have ne245 : a ≠ b239 := Nat.ne_of_lt (Nat.lt_of_lt_of_le lt244 g241)
  have gz246 : n0 ≤ b239 := Nat.le_trans Z0 g241
  refine Go.safe (x := b239) V243.lt (fun vm hzv => safe2 hzv (tw hw 46 rfl) (tw hw 4 rfl) V243 (by decide) (Or.inl (by decide))) ?_
  show Go _ _ _ _ _ _ _ _ _ _ _ _ _ _ _ _ _ _ _ _ 1 4 4 #[.val (.ref a), .val (.int (0 : Int32)), .val (.int (2 : Int32)), .unset, .unset] [(.ref b239)]
  refine Go.astoreN (q := 5) (l' := #[.val (.ref a), .val (.int (0 : Int32)), .val (.int (2 : Int32)), .val (.ref b239), .unset]) hx (hb hby d40_4) (by rfl) rfl rfl ?_
  refine Go.iconst (q := 6) (z := (0 : Int32)) hx (hb hby d40_5) rfl rfl ?_
  refine Go.istore (q := 8) (l' := #[.val (.ref a), .val (.int (0 : Int32)), .val (.int (2 : Int32)), .val (.ref b239), .val (.int (0 : Int32))]) hx (hb hby d40_6) rfl rfl ?_
  refine Go.iload (q := 10) hx (hb hby d40_8) rfl rfl ?_
  refine Go.iloadN (q := 11) hx (hb hby d40_10) rfl rfl ?_
  refine Go.icmp_ge (q := 14) (t := 32) hx (hb hby d40_11) (by decide) rfl rfl (fun hc11 => absurd hc11 (by decide)) (fun hc11 => ?_)
  refine Go.aloadN (q := 15) hx (hb hby d40_14) rfl (by rfl) rfl ?_
  refine Go.iload (q := 17) hx (hb hby d40_15) rfl rfl ?_
  refine Go.aloadN (q := 18) hx (hb hby d40_17) rfl (by rfl) rfl ?_
  refine Go.iloadN (q := 19) hx (hb hby d40_18) rfl rfl ?_
  refine Go.caload (q := 20) (v := (.int c0)) hx hZ (A.keep K242 nin0) ⟨by decide, by decide⟩ rfl (hb hby d40_19) rfl ?_
  refine Go.callS (q := 23) hx hZ (argsL := [(.ref b239), (.int (0 : Int32)), (.int c0)]) (rest := []) hown (tw hw 216 rfl) (tw hw 217 rfl) (tw hw 198 rfl) (tw hw 218 rfl) (by decide) (rmP2_0 l Z a0 hw hel b239 k240 c0 (0 : Int32) (0 : Int32) (0 : Int32) (0 : Int32) h237 n0 (Nat.le_trans Z0 K242.1) V243 gz246 (X0.keep K242 all0) AD HB LB) (by simp) (by rw [hml]; rfl) pd_9 rfl rfl (hb hby d40_20) rfl (by decide) (ble rfl) (ce' := 1) (sl' := 4) rfl rfl (by decide) (by decide) (fun v247 h248 hQ249 => ?_)
  obtain ⟨rfl, K250, V251⟩ := hQ249
  show Go _ _ _ _ _ _ _ _ _ _ _ _ _ _ _ _ _ _ _ _ 1 4 23 #[.val (.ref a), .val (.int (0 : Int32)), .val (.int (2 : Int32)), .val (.ref b239), .val (.int (0 : Int32))] []
  refine Go.iinc (q := 26) (l' := #[.val (.ref a), .val (.int ((0 : Int32) + (1 : Int32))), .val (.int (2 : Int32)), .val (.ref b239), .val (.int (0 : Int32))]) hx (hb hby d40_23) rfl rfl rfl ?_
  refine Go.iinc (q := 29) (l' := #[.val (.ref a), .val (.int ((0 : Int32) + (1 : Int32))), .val (.int (2 : Int32)), .val (.ref b239), .val (.int ((0 : Int32) + (1 : Int32)))]) hx (hb hby d40_26) rfl rfl rfl ?_
  refine Go.goto (q := 8) hx (hb hby d40_29) (by decide) rfl ?_
  rw [show (0 : Int32) + (1 : Int32) = (1 : Int32) from by decide]
  refine Go.iload (q := 10) hx (hb hby d40_8) rfl rfl ?_
  refine Go.iloadN (q := 11) hx (hb hby d40_10) rfl rfl ?_
  refine Go.icmp_ge (q := 14) (t := 32) hx (hb hby d40_11) (by decide) rfl rfl (fun hc11_1 => absurd hc11_1 (by decide)) (fun hc11_1 => ?_)
  refine Go.aloadN (q := 15) hx (hb hby d40_14) rfl (by rfl) rfl ?_
  refine Go.iload (q := 17) hx (hb hby d40_15) rfl rfl ?_
  refine Go.aloadN (q := 18) hx (hb hby d40_17) rfl (by rfl) rfl ?_
  refine Go.iloadN (q := 19) hx (hb hby d40_18) rfl rfl ?_
  refine Go.caload (q := 20) (v := (.int c1)) hx hZ ((A.keep K242 nin0).keep K250 (ninS ne245 nin0)) ⟨by decide, by decide⟩ rfl (hb hby d40_19) rfl ?_
  refine Go.callS (q := 23) hx hZ (argsL := [(.ref b239), (.int (1 : Int32)), (.int c1)]) (rest := []) hown (tw hw 216 rfl) (tw hw 217 rfl) (tw hw 198 rfl) (tw hw 218 rfl) (by decide) (rmP2_1 l Z a0 hw hel b239 k240 c1 (nar .byte (c0 >>> ((0 : Int32) &&& 31)).toInt8.toInt32) (nar .byte (c0 >>> ((8 : Int32) &&& 31)).toInt8.toInt32) (0 : Int32) (0 : Int32) h248 n0 (Nat.le_trans (Nat.le_trans Z0 K242.1) K250.1) V251 gz246 ((X0.keep K242 all0).keep K250 (allS gz246 all0)) AD HB LB) (by simp) (by rw [hml]; rfl) pd_9 rfl rfl (hb hby d40_20) rfl (by decide) (ble rfl) (ce' := 1) (sl' := 4) rfl rfl (by decide) (by decide) (fun v252 h253 hQ254 => ?_)
  obtain ⟨rfl, K255, V256⟩ := hQ254
  show Go _ _ _ _ _ _ _ _ _ _ _ _ _ _ _ _ _ _ _ _ 1 4 23 #[.val (.ref a), .val (.int (1 : Int32)), .val (.int (2 : Int32)), .val (.ref b239), .val (.int (1 : Int32))] []
  refine Go.iinc (q := 26) (l' := #[.val (.ref a), .val (.int ((1 : Int32) + (1 : Int32))), .val (.int (2 : Int32)), .val (.ref b239), .val (.int (1 : Int32))]) hx (hb hby d40_23) rfl rfl rfl ?_
  refine Go.iinc (q := 29) (l' := #[.val (.ref a), .val (.int ((1 : Int32) + (1 : Int32))), .val (.int (2 : Int32)), .val (.ref b239), .val (.int ((1 : Int32) + (1 : Int32)))]) hx (hb hby d40_26) rfl rfl rfl ?_
  refine Go.goto (q := 8) hx (hb hby d40_29) (by decide) rfl ?_
  rw [show (1 : Int32) + (1 : Int32) = (2 : Int32) from by decide]
  refine Go.iload (q := 10) hx (hb hby d40_8) rfl rfl ?_
  refine Go.iloadN (q := 11) hx (hb hby d40_10) rfl rfl ?_
  refine Go.icmp_ge (q := 14) (t := 32) hx (hb hby d40_11) (by decide) rfl rfl (fun hc11_2 => ?_) (fun hc11_2 => absurd hc11_2 (by decide))
  refine Go.aloadN (q := 33) hx (hb hby d40_32) rfl (by rfl) rfl ?_
  refine Go.retA hx hret rfl (by rfl) hlk (hb hby d40_33) (by decide) (by decide) ?_
  exact ⟨b239, _, rfl, g241, (Keep.trans (Keep.trans (Keep.trans (Keep.refl h0 []) K242 all0) K250 (allS (Or.inr g241) all0)) K255 (allS (Or.inr g241) all0)), V256⟩
theorem rmCU2_0 (l : Launch) (Z : State) (a0 : Array Value) (hw : ∀ d ∈ tables_1, d.before a0 Z = true) (hel : EW Z a0 consts_1) (a b : Addr) (ka kb : ClassId) (c0 c1 : Int32) (h0 : Heap) (n0 : Nat) (Z0 : n0 ≤ h0.size) (A : Arv Z h0 a ka .char (2 : Int32) [.int c0, .int c1] (.int (0 : Int32))) (B : Arv Z h0 b kb .byte (2 : Int32) [(.int (0 : Int32)), (.int (0 : Int32))] (.int (0 : Int32))) (gb : n0 ≤ b) (nab : a ≠ b)  (hk : (255 : Int32) < c0) :
    Met l Z consts_1 [b] (⟨"java/lang/StringUTF16", "compress", "([CI[BII)I"⟩ : MethodName) jdk_52_method_21_code 7 (Option.some FieldType.int) [] ({ frames := 0, cells := 0, slots := 0, locals := 0 } : Room) #[(.ref a), (.int (0 : Int32)), (.ref b), (.int (0 : Int32)), (.int (2 : Int32))] h0 n0 (fun v h => v = some (.int (0 : Int32)) ∧ Keep h0 h [b]) := by
  refine Met.of (Ls0 := #[.val (.ref a), .val (.int (0 : Int32)), .val (.ref b), .val (.int (0 : Int32)), .val (.int (2 : Int32)), .unset, .unset]) pl_1 (by first | (simp [argsToLocals, Value.category]; done) | rfl) hel ?_
  intro p e s m below meth c hx hby hml hret hlk hown hnm hZ
  refine Go.iconst (q := 1) (z := (0 : Int32)) hx (hb hby d38_0) rfl rfl ?_
  refine Go.istore (q := 3) (l' := #[.val (.ref a), .val (.int (0 : Int32)), .val (.ref b), .val (.int (0 : Int32)), .val (.int (2 : Int32)), .val (.int (0 : Int32)), .unset]) hx (hb hby d38_1) rfl rfl ?_
  refine Go.iload (q := 5) hx (hb hby d38_3) rfl rfl ?_
  refine Go.iload (q := 7) hx (hb hby d38_5) rfl rfl ?_
  refine Go.icmp_ge (q := 10) (t := 44) hx (hb hby d38_7) (by decide) rfl rfl (fun hc7 => absurd hc7 (by decide)) (fun hc7 => ?_)
  refine Go.aloadN (q := 11) hx (hb hby d38_10) rfl (by rfl) rfl ?_
  refine Go.iloadN (q := 12) hx (hb hby d38_11) rfl rfl ?_
  refine Go.caload (q := 13) (v := (.int c0)) hx hZ A ⟨by decide, by decide⟩ rfl (hb hby d38_12) rfl ?_
  refine Go.istore (q := 15) (l' := #[.val (.ref a), .val (.int (0 : Int32)), .val (.ref b), .val (.int (0 : Int32)), .val (.int (2 : Int32)), .val (.int (0 : Int32)), .val (.int c0)]) hx (hb hby d38_13) rfl rfl ?_
  refine Go.iload (q := 17) hx (hb hby d38_15) rfl rfl ?_
  refine Go.sipush (q := 20) (z := (255 : Int32)) hx (hb hby d38_17) rfl rfl ?_
  refine Go.icmp_le (q := 23) (t := 26) hx (hb hby d38_20) (by decide) rfl rfl (fun hc20 => absurd hk hc20) (fun hc20 => ?_)
  refine Go.iload (q := 25) hx (hb hby d38_23) rfl rfl ?_
  refine Go.retI hx hret hlk (hb hby d38_25) (by decide) (by decide) ?_
  exact ⟨rfl, (Keep.refl h0 [b])⟩
theorem rmDU2_0 (l : Launch) (Z : State) (a0 : Array Value) (hw : ∀ d ∈ tables_1, d.before a0 Z = true) (hel : EW Z a0 consts_1) (a : Addr) (ka : ClassId) (c0 c1 : Int32) (h0 : Heap) (n0 : Nat) (Z0 : n0 ≤ h0.size) (A : Arv Z h0 a ka .char (2 : Int32) [.int c0, .int c1] (.int (0 : Int32))) (hq0 : Chr c0) (hq1 : Chr c1)  (hk : (255 : Int32) < c0) (X0 : Old Z n0 h0) (AD : Sta Z Z.heap "java/lang/StringUTF16" "$assertionsDisabled" "Z" (.int (1 : Int32))) (HB : Sta Z Z.heap "java/lang/StringUTF16" "HI_BYTE_SHIFT" "I" (.int (0 : Int32))) (LB : Sta Z Z.heap "java/lang/StringUTF16" "LO_BYTE_SHIFT" "I" (.int (8 : Int32))) :
    Met l Z consts_1 [] (⟨"java/lang/StringUTF16", "compress", "([CII)[B"⟩ : MethodName) jdk_52_method_16_code 6 (Option.some (FieldType.array FieldType.byte)) [] ({ frames := 3, cells := 2, slots := 6, locals := 58 } : Room) #[(.ref a), (.int (0 : Int32)), (.int (2 : Int32))] h0 n0 (fun v h => ∃ b kb, v = some (.ref b) ∧ h0.size ≤ b ∧ Keep h0 h [] ∧ Arv Z h b kb .byte (4 : Int32) [(.int (nar .byte (c0 >>> ((0 : Int32) &&& 31)).toInt8.toInt32)), (.int (nar .byte (c0 >>> ((8 : Int32) &&& 31)).toInt8.toInt32)), (.int (nar .byte (c1 >>> ((0 : Int32) &&& 31)).toInt8.toInt32)), (.int (nar .byte (c1 >>> ((8 : Int32) &&& 31)).toInt8.toInt32))] (.int (0 : Int32))) := by
  refine Met.of (Ls0 := #[.val (.ref a), .val (.int (0 : Int32)), .val (.int (2 : Int32)), .unset, .unset, .unset]) pl_2 (by first | (simp [argsToLocals, Value.category]; done) | rfl) hel ?_
  intro p e s m below meth c hx hby hml hret hlk hown hnm hZ
  refine Go.iloadN (q := 1) hx (hb hby d37_0) rfl rfl ?_
  refine Go.newP (q := 3) (cap := 2) hx hZ (tw hw 7 rfl) (by decide) (by decide) (hb hby d37_1) rfl (by decide) (ce' := 1) (sl' := 2) rfl rfl (by decide) (by decide) (fun h257 a258 k259 g260 E261 A262 => ?_)
  have ne263 : a ≠ a258 := by rw [g260]; exact Nat.ne_of_lt (A).lt
  have gz264 : n0 ≤ a258 := by rw [g260]; exact Z0
  have gk265 : h0.size ≤ a258 := by rw [g260]; exact (Keep.refl h0 []).1
  have V266 : Arv Z h257 a258 k259 .byte (2 : Int32) [(.int (0 : Int32)), (.int (0 : Int32))] (.int (0 : Int32)) := A262.pad (pad_rep [] (.int (0 : Int32)) 2)
  refine Go.astoreN (q := 4) (l' := #[.val (.ref a), .val (.int (0 : Int32)), .val (.int (2 : Int32)), .val (.ref a258), .unset, .unset]) hx (hb hby d37_3) (by rfl) rfl rfl ?_
  refine Go.aloadN (q := 5) hx (hb hby d37_4) rfl (by rfl) rfl ?_
  refine Go.iloadN (q := 6) hx (hb hby d37_5) rfl rfl ?_
  refine Go.aloadN (q := 7) hx (hb hby d37_6) rfl (by rfl) rfl ?_
  refine Go.iconst (q := 8) (z := (0 : Int32)) hx (hb hby d37_7) rfl rfl ?_
  refine Go.iloadN (q := 9) hx (hb hby d37_8) rfl rfl ?_
  refine Go.callS (q := 12) hx hZ (argsL := [(.ref a), (.int (0 : Int32)), (.ref a258), (.int (0 : Int32)), (.int (2 : Int32))]) (rest := []) hown (tw hw 200 rfl) (tw hw 201 rfl) (tw hw 198 rfl) (tw hw 202 rfl) (by decide) (rmCU2_0 l Z a0 hw hel a a258 ka k259 c0 c1 h257 n0 (Nat.le_trans Z0 E261.1) (A.ext E261) V266 gz264 ne263  hk) (by simp) (by rw [hml]; rfl) pd_0 rfl rfl (hb hby d37_9) rfl (by decide) (ble rfl) (ce' := 1) (sl' := 2) rfl rfl (by decide) (by decide) (fun v267 h268 hQ269 => ?_)
  obtain ⟨rfl, K270⟩ := hQ269
  show Go _ _ _ _ _ _ _ _ _ _ _ _ _ _ _ _ _ _ _ _ 1 2 12 #[.val (.ref a), .val (.int (0 : Int32)), .val (.int (2 : Int32)), .val (.ref a258), .unset, .unset] [(.int (0 : Int32))]
  refine Go.istore (q := 14) (l' := #[.val (.ref a), .val (.int (0 : Int32)), .val (.int (2 : Int32)), .val (.ref a258), .val (.int (0 : Int32)), .unset]) hx (hb hby d37_12) rfl rfl ?_
  refine Go.iload (q := 16) hx (hb hby d37_14) rfl rfl ?_
  refine Go.iloadN (q := 17) hx (hb hby d37_16) rfl rfl ?_
  refine Go.icmp_eq (q := 20) (t := 57) hx (hb hby d37_17) (by decide) rfl rfl (fun hc17 => absurd hc17 (by decide)) (fun hc17 => ?_)
  refine Go.aloadN (q := 21) hx (hb hby d37_20) rfl (by rfl) rfl ?_
  refine Go.iloadN (q := 22) hx (hb hby d37_21) rfl rfl ?_
  refine Go.iloadN (q := 23) hx (hb hby d37_22) rfl rfl ?_
  have gk271 := (Keep.trans ((Keep.refl h0 []).ext E261) K270 (allS (Or.inr gk265) all0)).1
  refine Go.callS (q := 26) hx hZ (argsL := [(.ref a), (.int (0 : Int32)), (.int (2 : Int32))]) (rest := []) hown (tw hw 206 rfl) (tw hw 207 rfl) (tw hw 198 rfl) (tw hw 208 rfl) (by decide) (rmT2 l Z a0 hw hel a ka c0 c1 h268 n0 (Nat.le_trans (Nat.le_trans Z0 E261.1) K270.1) ((A.ext E261).keep K270 (ninS ne263 nin0)) ((X0.ext E261).keep K270 (allS gz264 all0)) AD HB LB) (fun _ hx => nomatch hx) (by rw [hml]; rfl) pd_1 rfl rfl (hb hby d37_23) rfl (by decide) (ble rfl) (ce' := 2) (sl' := 6) rfl rfl (by decide) (by decide) (fun v272 h273 hQ274 => ?_)
  obtain ⟨b275, k276, rfl, g277, K278, V279⟩ := hQ274
  show Go _ _ _ _ _ _ _ _ _ _ _ _ _ _ _ _ _ _ _ _ 2 6 26 #[.val (.ref a), .val (.int (0 : Int32)), .val (.int (2 : Int32)), .val (.ref a258), .val (.int (0 : Int32)), .unset] [(.ref b275)]
  refine Go.astore (q := 28) (l' := #[.val (.ref a), .val (.int (0 : Int32)), .val (.int (2 : Int32)), .val (.ref a258), .val (.int (0 : Int32)), .val (.ref b275)]) hx (hb hby d37_26) (by rfl) rfl rfl ?_
  refine Go.aload (q := 30) hx (hb hby d37_28) rfl (by rfl) rfl ?_
  refine Go.iload (q := 32) hx (hb hby d37_30) rfl rfl ?_
  refine Go.callS (q := 35) hx hZ (argsL := [(.ref b275), (.int (0 : Int32))]) (rest := []) hown (tw hw 222 rfl) (tw hw 223 rfl) (tw hw 198 rfl) (tw hw 224 rfl) (by decide) (rmG2_0 l Z a0 hw hel b275 k276 c0 c1 h273 n0 (Nat.le_trans (Nat.le_trans (Nat.le_trans Z0 E261.1) K270.1) K278.1) V279 hq0 (((X0.ext E261).keep K270 (allS gz264 all0)).keep K278 all0) AD HB LB) (fun _ hx => nomatch hx) (by rw [hml]; rfl) pd_2 rfl rfl (hb hby d37_32) rfl (by decide) (ble rfl) (ce' := 2) (sl' := 6) rfl rfl (by decide) (by decide) (fun v280 h281 hQ282 => ?_)
  obtain ⟨rfl, rfl⟩ := hQ282
  show Go _ _ _ _ _ _ _ _ _ _ _ _ _ _ _ _ _ _ _ _ 2 6 35 #[.val (.ref a), .val (.int (0 : Int32)), .val (.int (2 : Int32)), .val (.ref a258), .val (.int (0 : Int32)), .val (.ref b275)] [(.int c0)]
  refine Go.sipush (q := 38) (z := (255 : Int32)) hx (hb hby d37_35) rfl rfl ?_
  refine Go.icmp_gt (q := 41) (t := 54) hx (hb hby d37_38) (by decide) rfl rfl (fun hc38 => ?_) (fun hc38 => absurd hk hc38)
  refine Go.aload (q := 56) hx (hb hby d37_54) rfl (by rfl) rfl ?_
  refine Go.retA hx hret rfl (by rfl) hlk (hb hby d37_56) (by decide) (by decide) ?_
  exact ⟨b275, _, rfl, (Nat.le_trans gk271 g277), (Keep.trans (Keep.trans ((Keep.refl h0 []).ext E261) K270 (allS (Or.inr gk265) all0)) K278 all0), V279⟩
theorem rmCU2_1 (l : Launch) (Z : State) (a0 : Array Value) (hw : ∀ d ∈ tables_1, d.before a0 Z = true) (hel : EW Z a0 consts_1) (a b : Addr) (ka kb : ClassId) (c0 c1 : Int32) (h0 : Heap) (n0 : Nat) (Z0 : n0 ≤ h0.size) (A : Arv Z h0 a ka .char (2 : Int32) [.int c0, .int c1] (.int (0 : Int32))) (B : Arv Z h0 b kb .byte (2 : Int32) [(.int (0 : Int32)), (.int (0 : Int32))] (.int (0 : Int32))) (gb : n0 ≤ b) (nab : a ≠ b) (hp0 : ¬ (255 : Int32) < c0) (hk : (255 : Int32) < c1) :
    Met l Z consts_1 [b] (⟨"java/lang/StringUTF16", "compress", "([CI[BII)I"⟩ : MethodName) jdk_52_method_21_code 7 (Option.some FieldType.int) [] ({ frames := 0, cells := 0, slots := 0, locals := 0 } : Room) #[(.ref a), (.int (0 : Int32)), (.ref b), (.int (0 : Int32)), (.int (2 : Int32))] h0 n0 (fun v h => v = some (.int (1 : Int32)) ∧ Keep h0 h [b]) := by
  refine Met.of (Ls0 := #[.val (.ref a), .val (.int (0 : Int32)), .val (.ref b), .val (.int (0 : Int32)), .val (.int (2 : Int32)), .unset, .unset]) pl_1 (by first | (simp [argsToLocals, Value.category]; done) | rfl) hel ?_
  intro p e s m below meth c hx hby hml hret hlk hown hnm hZ
  refine Go.iconst (q := 1) (z := (0 : Int32)) hx (hb hby d38_0) rfl rfl ?_
  refine Go.istore (q := 3) (l' := #[.val (.ref a), .val (.int (0 : Int32)), .val (.ref b), .val (.int (0 : Int32)), .val (.int (2 : Int32)), .val (.int (0 : Int32)), .unset]) hx (hb hby d38_1) rfl rfl ?_
  refine Go.iload (q := 5) hx (hb hby d38_3) rfl rfl ?_
  refine Go.iload (q := 7) hx (hb hby d38_5) rfl rfl ?_
  refine Go.icmp_ge (q := 10) (t := 44) hx (hb hby d38_7) (by decide) rfl rfl (fun hc7 => absurd hc7 (by decide)) (fun hc7 => ?_)
  refine Go.aloadN (q := 11) hx (hb hby d38_10) rfl (by rfl) rfl ?_
  refine Go.iloadN (q := 12) hx (hb hby d38_11) rfl rfl ?_
  refine Go.caload (q := 13) (v := (.int c0)) hx hZ A ⟨by decide, by decide⟩ rfl (hb hby d38_12) rfl ?_
  refine Go.istore (q := 15) (l' := #[.val (.ref a), .val (.int (0 : Int32)), .val (.ref b), .val (.int (0 : Int32)), .val (.int (2 : Int32)), .val (.int (0 : Int32)), .val (.int c0)]) hx (hb hby d38_13) rfl rfl ?_
  refine Go.iload (q := 17) hx (hb hby d38_15) rfl rfl ?_
  refine Go.sipush (q := 20) (z := (255 : Int32)) hx (hb hby d38_17) rfl rfl ?_
  refine Go.icmp_le (q := 23) (t := 26) hx (hb hby d38_20) (by decide) rfl rfl (fun hc20 => ?_) (fun hc20 => absurd hc20 hp0)
  refine Go.aloadN (q := 27) hx (hb hby d38_26) rfl (by rfl) rfl ?_
  refine Go.iloadN (q := 28) hx (hb hby d38_27) rfl rfl ?_
  refine Go.iload (q := 30) hx (hb hby d38_28) rfl rfl ?_
  refine Go.i2b (q := 31) hx (hb hby d38_30) rfl ?_
  refine Go.bastore (q := 32) hx hZ B ⟨by decide, by decide⟩ 0 rfl (ble rfl) gb (by simp) (hb hby d38_31) rfl (fun h283 W284 V285 => ?_)
  refine Go.iinc (q := 35) (l' := #[.val (.ref a), .val (.int ((0 : Int32) + (1 : Int32))), .val (.ref b), .val (.int (0 : Int32)), .val (.int (2 : Int32)), .val (.int (0 : Int32)), .val (.int c0)]) hx (hb hby d38_32) rfl rfl rfl ?_
  refine Go.iinc (q := 38) (l' := #[.val (.ref a), .val (.int ((0 : Int32) + (1 : Int32))), .val (.ref b), .val (.int ((0 : Int32) + (1 : Int32))), .val (.int (2 : Int32)), .val (.int (0 : Int32)), .val (.int c0)]) hx (hb hby d38_35) rfl rfl rfl ?_
  refine Go.iinc (q := 41) (l' := #[.val (.ref a), .val (.int ((0 : Int32) + (1 : Int32))), .val (.ref b), .val (.int ((0 : Int32) + (1 : Int32))), .val (.int (2 : Int32)), .val (.int ((0 : Int32) + (1 : Int32))), .val (.int c0)]) hx (hb hby d38_38) rfl rfl rfl ?_
  refine Go.goto (q := 3) hx (hb hby d38_41) (by decide) rfl ?_
  refine Go.iload (q := 5) hx (hb hby d38_3) rfl rfl ?_
  refine Go.iload (q := 7) hx (hb hby d38_5) rfl rfl ?_
  refine Go.icmp_ge (q := 10) (t := 44) hx (hb hby d38_7) (by decide) rfl rfl (fun hc7_1 => absurd hc7_1 (by decide)) (fun hc7_1 => ?_)
  refine Go.aloadN (q := 11) hx (hb hby d38_10) rfl (by rfl) rfl ?_
  refine Go.iloadN (q := 12) hx (hb hby d38_11) rfl rfl ?_
  refine Go.caload (q := 13) (v := (.int c1)) hx hZ (A.other W284 nab) ⟨by decide, by decide⟩ rfl (hb hby d38_12) rfl ?_
  refine Go.istore (q := 15) (l' := #[.val (.ref a), .val (.int ((0 : Int32) + (1 : Int32))), .val (.ref b), .val (.int ((0 : Int32) + (1 : Int32))), .val (.int (2 : Int32)), .val (.int ((0 : Int32) + (1 : Int32))), .val (.int c1)]) hx (hb hby d38_13) rfl rfl ?_
  refine Go.iload (q := 17) hx (hb hby d38_15) rfl rfl ?_
  refine Go.sipush (q := 20) (z := (255 : Int32)) hx (hb hby d38_17) rfl rfl ?_
  refine Go.icmp_le (q := 23) (t := 26) hx (hb hby d38_20) (by decide) rfl rfl (fun hc20_1 => absurd hk hc20_1) (fun hc20_1 => ?_)
  refine Go.iload (q := 25) hx (hb hby d38_23) rfl rfl ?_
  refine Go.retI hx hret hlk (hb hby d38_25) (by decide) (by decide) ?_
  exact ⟨rfl, ((Keep.refl h0 [b]).wr W284 (Or.inl (by simp)))⟩
theorem rmDU2_1 (l : Launch) (Z : State) (a0 : Array Value) (hw : ∀ d ∈ tables_1, d.before a0 Z = true) (hel : EW Z a0 consts_1) (a : Addr) (ka : ClassId) (c0 c1 : Int32) (h0 : Heap) (n0 : Nat) (Z0 : n0 ≤ h0.size) (A : Arv Z h0 a ka .char (2 : Int32) [.int c0, .int c1] (.int (0 : Int32))) (hq0 : Chr c0) (hq1 : Chr c1) (hp0 : ¬ (255 : Int32) < c0) (hk : (255 : Int32) < c1) (X0 : Old Z n0 h0) (AD : Sta Z Z.heap "java/lang/StringUTF16" "$assertionsDisabled" "Z" (.int (1 : Int32))) (HB : Sta Z Z.heap "java/lang/StringUTF16" "HI_BYTE_SHIFT" "I" (.int (0 : Int32))) (LB : Sta Z Z.heap "java/lang/StringUTF16" "LO_BYTE_SHIFT" "I" (.int (8 : Int32))) :
    Met l Z consts_1 [] (⟨"java/lang/StringUTF16", "compress", "([CII)[B"⟩ : MethodName) jdk_52_method_16_code 6 (Option.some (FieldType.array FieldType.byte)) [] ({ frames := 3, cells := 2, slots := 6, locals := 58 } : Room) #[(.ref a), (.int (0 : Int32)), (.int (2 : Int32))] h0 n0 (fun v h => ∃ b kb, v = some (.ref b) ∧ h0.size ≤ b ∧ Keep h0 h [] ∧ Arv Z h b kb .byte (4 : Int32) [(.int (nar .byte (c0 >>> ((0 : Int32) &&& 31)).toInt8.toInt32)), (.int (nar .byte (c0 >>> ((8 : Int32) &&& 31)).toInt8.toInt32)), (.int (nar .byte (c1 >>> ((0 : Int32) &&& 31)).toInt8.toInt32)), (.int (nar .byte (c1 >>> ((8 : Int32) &&& 31)).toInt8.toInt32))] (.int (0 : Int32))) := by
  refine Met.of (Ls0 := #[.val (.ref a), .val (.int (0 : Int32)), .val (.int (2 : Int32)), .unset, .unset, .unset]) pl_2 (by first | (simp [argsToLocals, Value.category]; done) | rfl) hel ?_
  intro p e s m below meth c hx hby hml hret hlk hown hnm hZ
  refine Go.iloadN (q := 1) hx (hb hby d37_0) rfl rfl ?_
  refine Go.newP (q := 3) (cap := 2) hx hZ (tw hw 7 rfl) (by decide) (by decide) (hb hby d37_1) rfl (by decide) (ce' := 1) (sl' := 2) rfl rfl (by decide) (by decide) (fun h286 a287 k288 g289 E290 A291 => ?_)
  have ne292 : a ≠ a287 := by rw [g289]; exact Nat.ne_of_lt (A).lt
  have gz293 : n0 ≤ a287 := by rw [g289]; exact Z0
  have gk294 : h0.size ≤ a287 := by rw [g289]; exact (Keep.refl h0 []).1
  have V295 : Arv Z h286 a287 k288 .byte (2 : Int32) [(.int (0 : Int32)), (.int (0 : Int32))] (.int (0 : Int32)) := A291.pad (pad_rep [] (.int (0 : Int32)) 2)
  refine Go.astoreN (q := 4) (l' := #[.val (.ref a), .val (.int (0 : Int32)), .val (.int (2 : Int32)), .val (.ref a287), .unset, .unset]) hx (hb hby d37_3) (by rfl) rfl rfl ?_
  refine Go.aloadN (q := 5) hx (hb hby d37_4) rfl (by rfl) rfl ?_
  refine Go.iloadN (q := 6) hx (hb hby d37_5) rfl rfl ?_
  refine Go.aloadN (q := 7) hx (hb hby d37_6) rfl (by rfl) rfl ?_
  refine Go.iconst (q := 8) (z := (0 : Int32)) hx (hb hby d37_7) rfl rfl ?_
  refine Go.iloadN (q := 9) hx (hb hby d37_8) rfl rfl ?_
  refine Go.callS (q := 12) hx hZ (argsL := [(.ref a), (.int (0 : Int32)), (.ref a287), (.int (0 : Int32)), (.int (2 : Int32))]) (rest := []) hown (tw hw 200 rfl) (tw hw 201 rfl) (tw hw 198 rfl) (tw hw 202 rfl) (by decide) (rmCU2_1 l Z a0 hw hel a a287 ka k288 c0 c1 h286 n0 (Nat.le_trans Z0 E290.1) (A.ext E290) V295 gz293 ne292 hp0 hk) (by simp) (by rw [hml]; rfl) pd_0 rfl rfl (hb hby d37_9) rfl (by decide) (ble rfl) (ce' := 1) (sl' := 2) rfl rfl (by decide) (by decide) (fun v296 h297 hQ298 => ?_)
  obtain ⟨rfl, K299⟩ := hQ298
  show Go _ _ _ _ _ _ _ _ _ _ _ _ _ _ _ _ _ _ _ _ 1 2 12 #[.val (.ref a), .val (.int (0 : Int32)), .val (.int (2 : Int32)), .val (.ref a287), .unset, .unset] [(.int (1 : Int32))]
  refine Go.istore (q := 14) (l' := #[.val (.ref a), .val (.int (0 : Int32)), .val (.int (2 : Int32)), .val (.ref a287), .val (.int (1 : Int32)), .unset]) hx (hb hby d37_12) rfl rfl ?_
  refine Go.iload (q := 16) hx (hb hby d37_14) rfl rfl ?_
  refine Go.iloadN (q := 17) hx (hb hby d37_16) rfl rfl ?_
  refine Go.icmp_eq (q := 20) (t := 57) hx (hb hby d37_17) (by decide) rfl rfl (fun hc17 => absurd hc17 (by decide)) (fun hc17 => ?_)
  refine Go.aloadN (q := 21) hx (hb hby d37_20) rfl (by rfl) rfl ?_
  refine Go.iloadN (q := 22) hx (hb hby d37_21) rfl rfl ?_
  refine Go.iloadN (q := 23) hx (hb hby d37_22) rfl rfl ?_
  have gk300 := (Keep.trans ((Keep.refl h0 []).ext E290) K299 (allS (Or.inr gk294) all0)).1
  refine Go.callS (q := 26) hx hZ (argsL := [(.ref a), (.int (0 : Int32)), (.int (2 : Int32))]) (rest := []) hown (tw hw 206 rfl) (tw hw 207 rfl) (tw hw 198 rfl) (tw hw 208 rfl) (by decide) (rmT2 l Z a0 hw hel a ka c0 c1 h297 n0 (Nat.le_trans (Nat.le_trans Z0 E290.1) K299.1) ((A.ext E290).keep K299 (ninS ne292 nin0)) ((X0.ext E290).keep K299 (allS gz293 all0)) AD HB LB) (fun _ hx => nomatch hx) (by rw [hml]; rfl) pd_1 rfl rfl (hb hby d37_23) rfl (by decide) (ble rfl) (ce' := 2) (sl' := 6) rfl rfl (by decide) (by decide) (fun v301 h302 hQ303 => ?_)
  obtain ⟨b304, k305, rfl, g306, K307, V308⟩ := hQ303
  show Go _ _ _ _ _ _ _ _ _ _ _ _ _ _ _ _ _ _ _ _ 2 6 26 #[.val (.ref a), .val (.int (0 : Int32)), .val (.int (2 : Int32)), .val (.ref a287), .val (.int (1 : Int32)), .unset] [(.ref b304)]
  refine Go.astore (q := 28) (l' := #[.val (.ref a), .val (.int (0 : Int32)), .val (.int (2 : Int32)), .val (.ref a287), .val (.int (1 : Int32)), .val (.ref b304)]) hx (hb hby d37_26) (by rfl) rfl rfl ?_
  refine Go.aload (q := 30) hx (hb hby d37_28) rfl (by rfl) rfl ?_
  refine Go.iload (q := 32) hx (hb hby d37_30) rfl rfl ?_
  refine Go.callS (q := 35) hx hZ (argsL := [(.ref b304), (.int (1 : Int32))]) (rest := []) hown (tw hw 222 rfl) (tw hw 223 rfl) (tw hw 198 rfl) (tw hw 224 rfl) (by decide) (rmG2_1 l Z a0 hw hel b304 k305 c0 c1 h302 n0 (Nat.le_trans (Nat.le_trans (Nat.le_trans Z0 E290.1) K299.1) K307.1) V308 hq1 (((X0.ext E290).keep K299 (allS gz293 all0)).keep K307 all0) AD HB LB) (fun _ hx => nomatch hx) (by rw [hml]; rfl) pd_2 rfl rfl (hb hby d37_32) rfl (by decide) (ble rfl) (ce' := 2) (sl' := 6) rfl rfl (by decide) (by decide) (fun v309 h310 hQ311 => ?_)
  obtain ⟨rfl, rfl⟩ := hQ311
  show Go _ _ _ _ _ _ _ _ _ _ _ _ _ _ _ _ _ _ _ _ 2 6 35 #[.val (.ref a), .val (.int (0 : Int32)), .val (.int (2 : Int32)), .val (.ref a287), .val (.int (1 : Int32)), .val (.ref b304)] [(.int c1)]
  refine Go.sipush (q := 38) (z := (255 : Int32)) hx (hb hby d37_35) rfl rfl ?_
  refine Go.icmp_gt (q := 41) (t := 54) hx (hb hby d37_38) (by decide) rfl rfl (fun hc38 => ?_) (fun hc38 => absurd hk hc38)
  refine Go.aload (q := 56) hx (hb hby d37_54) rfl (by rfl) rfl ?_
  refine Go.retA hx hret rfl (by rfl) hlk (hb hby d37_56) (by decide) (by decide) ?_
  exact ⟨b304, _, rfl, (Nat.le_trans gk300 g306), (Keep.trans (Keep.trans ((Keep.refl h0 []).ext E290) K299 (allS (Or.inr gk294) all0)) K307 all0), V308⟩
theorem rmDU2 (l : Launch) (Z : State) (a0 : Array Value) (hw : ∀ d ∈ tables_1, d.before a0 Z = true) (hel : EW Z a0 consts_1) (a : Addr) (ka : ClassId) (c0 c1 : Int32) (h0 : Heap) (n0 : Nat) (Z0 : n0 ≤ h0.size) (A : Arv Z h0 a ka .char (2 : Int32) [.int c0, .int c1] (.int (0 : Int32))) (hq0 : Chr c0) (hq1 : Chr c1) (hU : ((255 : Int32) < c0) ∨ (¬ (255 : Int32) < c0 ∧ (255 : Int32) < c1)) (X0 : Old Z n0 h0) (AD : Sta Z Z.heap "java/lang/StringUTF16" "$assertionsDisabled" "Z" (.int (1 : Int32))) (HB : Sta Z Z.heap "java/lang/StringUTF16" "HI_BYTE_SHIFT" "I" (.int (0 : Int32))) (LB : Sta Z Z.heap "java/lang/StringUTF16" "LO_BYTE_SHIFT" "I" (.int (8 : Int32))) :
    Met l Z consts_1 [] (⟨"java/lang/StringUTF16", "compress", "([CII)[B"⟩ : MethodName) jdk_52_method_16_code 6 (Option.some (FieldType.array FieldType.byte)) [] ({ frames := 3, cells := 2, slots := 6, locals := 58 } : Room) #[(.ref a), (.int (0 : Int32)), (.int (2 : Int32))] h0 n0 (fun v h => ∃ b kb, v = some (.ref b) ∧ h0.size ≤ b ∧ Keep h0 h [] ∧ Arv Z h b kb .byte (4 : Int32) [(.int (nar .byte (c0 >>> ((0 : Int32) &&& 31)).toInt8.toInt32)), (.int (nar .byte (c0 >>> ((8 : Int32) &&& 31)).toInt8.toInt32)), (.int (nar .byte (c1 >>> ((0 : Int32) &&& 31)).toInt8.toInt32)), (.int (nar .byte (c1 >>> ((8 : Int32) &&& 31)).toInt8.toInt32))] (.int (0 : Int32))) := by
  rcases hU with hk | ⟨hp0, hk⟩
  · exact rmDU2_0 l Z a0 hw hel a ka c0 c1 h0 n0 Z0 A hq0 hq1  hk X0 AD HB LB
  · exact rmDU2_1 l Z a0 hw hel a ka c0 c1 h0 n0 Z0 A hq0 hq1 hp0 hk X0 AD HB LB
theorem rmKU2 (l : Launch) (Z : State) (a0 : Array Value) (hw : ∀ d ∈ tables_1, d.before a0 Z = true) (hel : EW Z a0 consts_1) (b : Addr) (kb : ClassId) (vs : List Value) (h0 : Heap) (n0 : Nat) (Z0 : n0 ≤ h0.size) (B : Arv Z h0 b kb .byte (4 : Int32) vs (.int (0 : Int32))) :
    Met l Z consts_1 [] (⟨"java/lang/StringUTF16", "coderFromArrayLen", "([BI)B"⟩ : MethodName) jdk_52_method_15_code 2 (Option.some FieldType.byte) [] ({ frames := 0, cells := 0, slots := 0, locals := 0 } : Room) #[(.ref b), (.int (2 : Int32))] h0 n0 (fun v h => v = some (.int (1 : Int32)) ∧ h0 = h) := by
  refine Met.of (Ls0 := #[.val (.ref b), .val (.int (2 : Int32))]) pl_0 (by first | (simp [argsToLocals, Value.category]; done) | rfl) hel ?_
  intro p e s m below meth c hx hby hml hret hlk hown hnm hZ
  refine Go.iloadN (q := 1) hx (hb hby d39_0) rfl rfl ?_
  refine Go.aloadN (q := 2) hx (hb hby d39_1) rfl (by rfl) rfl ?_
  refine Go.alen (q := 3) hx hZ B (hb hby d39_2) rfl ?_
  refine Go.isub (q := 4) hx (hb hby d39_3) rfl ?_
  refine Go.bipush (q := 6) (z := (31 : Int32)) hx (hb hby d39_4) rfl rfl ?_
  refine Go.iushr (q := 7) hx (hb hby d39_6) rfl ?_
  refine Go.i2b (q := 8) hx (hb hby d39_7) rfl ?_
  refine Go.retN hx (t := .byte) hret (by simp) hlk (hb hby d39_8) (by decide) (by decide) ?_
  exact ⟨congrArg (fun z => some (Value.int z)) (by decide), rfl⟩
theorem rmSU2 (l : Launch) (Z : State) (a0 : Array Value) (hw : ∀ d ∈ tables_1, d.before a0 Z = true) (hel : EW Z a0 consts_1) (sa a : Addr) (ka : ClassId) (cst : Int32) (c0 c1 : Int32) (h0 : Heap) (n0 : Nat) (Z0 : n0 ≤ h0.size) (gs : n0 ≤ sa) (nas : a ≠ sa) (E : Exa Z h0 sa "java/lang/String") (F1 : Fld Z h0 sa "java/lang/String" "value" "[B" .null) (F2 : Fld Z h0 sa "java/lang/String" "coder" "B" (.int (0 : Int32))) (A : Arv Z h0 a ka .char (2 : Int32) [.int c0, .int c1] (.int (0 : Int32))) (hq0 : Chr c0) (hq1 : Chr c1) (hU : ((255 : Int32) < c0) ∨ (¬ (255 : Int32) < c0 ∧ (255 : Int32) < c1)) (X0 : Old Z n0 h0) (SC : Sta Z Z.heap "java/lang/String" "COMPACT_STRINGS" "Z" (.int cst)) (hcs : ¬ cst = (0 : Int32)) (AD : Sta Z Z.heap "java/lang/StringUTF16" "$assertionsDisabled" "Z" (.int (1 : Int32))) (HB : Sta Z Z.heap "java/lang/StringUTF16" "HI_BYTE_SHIFT" "I" (.int (0 : Int32))) (LB : Sta Z Z.heap "java/lang/StringUTF16" "LO_BYTE_SHIFT" "I" (.int (8 : Int32))) :
    Met l Z consts_1 [sa] (⟨"java/lang/String", "<init>", "([CIILjava/lang/Void;)V"⟩ : MethodName) jdk_42_method_149_code 6 (Option.none : Option FieldType) [] ({ frames := 4, cells := 2, slots := 6, locals := 81 } : Room) #[(.ref sa), (.ref a), (.int (0 : Int32)), (.int (2 : Int32)), .null] h0 n0 (fun v h => v = none ∧ Keep h0 h [sa] ∧ ∃ b kb, h0.size ≤ b ∧ Fld Z h sa "java/lang/String" "value" "[B" (.ref b) ∧ Fld Z h sa "java/lang/String" "coder" "B" (.int (1 : Int32)) ∧ Arv Z h b kb .byte (4 : Int32) [(.int (nar .byte (c0 >>> ((0 : Int32) &&& 31)).toInt8.toInt32)), (.int (nar .byte (c0 >>> ((8 : Int32) &&& 31)).toInt8.toInt32)), (.int (nar .byte (c1 >>> ((0 : Int32) &&& 31)).toInt8.toInt32)), (.int (nar .byte (c1 >>> ((8 : Int32) &&& 31)).toInt8.toInt32))] (.int (0 : Int32))) := by
  refine Met.of (Ls0 := #[.val (.ref sa), .val (.ref a), .val (.int (0 : Int32)), .val (.int (2 : Int32)), .val .null, .unset]) pl_3 (by first | (simp [argsToLocals, Value.category]; done) | rfl) hel ?_
  have hSA : ∀ d ∈ Bundle.stringAtoms, d.before a0 Z = true := fun d hd => hw d ((by decide +kernel : ∀ d ∈ Bundle.stringAtoms, d ∈ tables_1) d hd)
  intro p e s m below meth c hx hby hml hret hlk hown hnm hZ
  refine Go.aloadN (q := 1) hx (hb hby d36_0) rfl (by rfl) rfl ?_
  refine Go.initO (q := 4) hx hZ hown (tw hw 133 rfl) (tw hw 19 rfl) (tw hw 20 rfl) (by rw [hml]; rfl) (hb hby d36_1) rfl (by decide) (ble rfl) ?_
  refine Go.iloadN (q := 5) hx (hb hby d36_4) rfl rfl ?_
  refine Go.if_ne (q := 8) (t := 27) hx (hb hby d36_5) (by decide) rfl rfl (fun hc5 => ?_) (fun hc5 => absurd hc5 (by decide))
  refine Go.getS (q := 30) hx hZ hown (host := "") (Or.inl (tw hw 68 rfl)) Via.refl (Sta.ext X0.2 SC) (hb hby d36_27) rfl ?_
  refine Go.if_eq (q := 33) (t := 58) hx (hb hby d36_30) (by decide) rfl rfl (fun hc30 => absurd hc30 hcs) (fun hc30 => ?_)
  refine Go.aloadN (q := 34) hx (hb hby d36_33) rfl (by rfl) rfl ?_
  refine Go.iloadN (q := 35) hx (hb hby d36_34) rfl rfl ?_
  refine Go.iloadN (q := 36) hx (hb hby d36_35) rfl rfl ?_
  refine Go.callS (q := 39) hx hZ (argsL := [(.ref a), (.int (0 : Int32)), (.int (2 : Int32))]) (rest := []) hown (tw hw 196 rfl) (tw hw 197 rfl) (tw hw 198 rfl) (tw hw 199 rfl) (by decide) (rmDU2 l Z a0 hw hel a ka c0 c1 h0 n0 Z0 A hq0 hq1 hU X0 AD HB LB) (fun _ hx => nomatch hx) (by rw [hml]; rfl) pd_1 rfl rfl (hb hby d36_36) rfl (by decide) (ble rfl) (ce' := 2) (sl' := 6) rfl rfl (by decide) (by decide) (fun v312 h313 hQ314 => ?_)
  have lt320 := (E).lt
  obtain ⟨b315, k316, rfl, g317, K318, V319⟩ := hQ314
  have ne321 : sa ≠ b315 := Nat.ne_of_lt (Nat.lt_of_lt_of_le lt320 g317)
  show Go _ _ _ _ _ _ _ _ _ _ _ _ _ _ _ _ _ _ _ _ 2 6 39 #[.val (.ref sa), .val (.ref a), .val (.int (0 : Int32)), .val (.int (2 : Int32)), .val .null, .unset] [(.ref b315)]
  refine Go.astore (q := 41) (l' := #[.val (.ref sa), .val (.ref a), .val (.int (0 : Int32)), .val (.int (2 : Int32)), .val .null, .val (.ref b315)]) hx (hb hby d36_39) (by rfl) rfl rfl ?_
  refine Go.aloadN (q := 42) hx (hb hby d36_41) rfl (by rfl) rfl ?_
  refine Go.aload (q := 44) hx (hb hby d36_42) rfl (by rfl) rfl ?_
  refine Go.iloadN (q := 45) hx (hb hby d36_44) rfl rfl ?_
  refine Go.callS (q := 48) hx hZ (argsL := [(.ref b315), (.int (2 : Int32))]) (rest := [(.ref sa)]) hown (tw hw 203 rfl) (tw hw 204 rfl) (tw hw 198 rfl) (tw hw 205 rfl) (by decide) (rmKU2 l Z a0 hw hel b315 k316 _ h313 n0 (Nat.le_trans Z0 K318.1) V319) (fun _ hx => nomatch hx) (by rw [hml]; rfl) pd_4 rfl rfl (hb hby d36_45) rfl (by decide) (ble rfl) (ce' := 2) (sl' := 6) rfl rfl (by decide) (by decide) (fun v322 h323 hQ324 => ?_)
  obtain ⟨rfl, rfl⟩ := hQ324
  show Go _ _ _ _ _ _ _ _ _ _ _ _ _ _ _ _ _ _ _ _ 2 6 48 #[.val (.ref sa), .val (.ref a), .val (.int (0 : Int32)), .val (.int (2 : Int32)), .val .null, .val (.ref b315)] [(.int (1 : Int32)), (.ref sa)]
  refine Go.putF (q := 51) hx hZ hown (host := "") (Or.inl (tw hw 69 rfl)) Via.refl (F2.keep K318 nin0) (E.keep K318) (Or.inr ⟨(tw hw 9 rfl), rfl, hnm⟩) (tw hw 6 rfl) (ty := .byte) (by decide) rfl rfl gs (by simp) (hb hby d36_48) rfl (fun h325 W326 => ?_)
  refine Go.aloadN (q := 52) hx (hb hby d36_51) rfl (by rfl) rfl ?_
  refine Go.aload (q := 54) hx (hb hby d36_52) rfl (by rfl) rfl ?_
  refine Go.putF (q := 57) hx hZ hown (host := "") (Or.inl (tw hw 62 rfl)) Via.refl (Fld.other W326 (F1.keep K318 nin0) (Or.inr (slot_ne (C := "java/lang/String") (Or.inr (tw hw 8 rfl)) (Or.inr (tw hw 9 rfl)) (by decide) (by decide : _ = some (.array .byte)) (by decide : _ = some .byte)))) (Exa.wr W326 (E.keep K318)) (Or.inr ⟨(tw hw 8 rfl), rfl, hnm⟩) (tw hw 6 rfl) (ty := (.array .byte)) (by decide) rfl rfl gs (by simp) (hb hby d36_54) rfl (fun h327 W328 => ?_)
  refine Go.ret0 hx hret hlk (hb hby d36_57) (by decide) (by decide) ?_
  exact ⟨rfl, (((Keep.trans (Keep.refl h0 [sa]) K318 all0).wr W326 (Or.inl (by simp))).wr W328 (Or.inl (by simp))), b315, k316, g317, (Fld.same W328 (Fld.other W326 (F1.keep K318 nin0) (Or.inr (slot_ne (C := "java/lang/String") (Or.inr (tw hw 8 rfl)) (Or.inr (tw hw 9 rfl)) (by decide) (by decide : _ = some (.array .byte)) (by decide : _ = some .byte))))), (Fld.other W328 (Fld.same W326 (F2.keep K318 nin0)) (Or.inr (slot_ne (C := "java/lang/String") (Or.inr (tw hw 9 rfl)) (Or.inr (tw hw 8 rfl)) (by decide) (by decide : _ = some .byte) (by decide : _ = some (.array .byte))))), ((V319.other W326 ne321.symm).other W328 ne321.symm)⟩
theorem rmIU2 (l : Launch) (Z : State) (a0 : Array Value) (hw : ∀ d ∈ tables_1, d.before a0 Z = true) (hel : EW Z a0 consts_1) (sa a : Addr) (ka : ClassId) (cst : Int32) (c0 c1 : Int32) (h0 : Heap) (n0 : Nat) (Z0 : n0 ≤ h0.size) (gs : n0 ≤ sa) (nas : a ≠ sa) (E : Exa Z h0 sa "java/lang/String") (F1 : Fld Z h0 sa "java/lang/String" "value" "[B" .null) (F2 : Fld Z h0 sa "java/lang/String" "coder" "B" (.int (0 : Int32))) (A : Arv Z h0 a ka .char (2 : Int32) [.int c0, .int c1] (.int (0 : Int32))) (hq0 : Chr c0) (hq1 : Chr c1) (hU : ((255 : Int32) < c0) ∨ (¬ (255 : Int32) < c0 ∧ (255 : Int32) < c1)) (X0 : Old Z n0 h0) (SC : Sta Z Z.heap "java/lang/String" "COMPACT_STRINGS" "Z" (.int cst)) (hcs : ¬ cst = (0 : Int32)) (AD : Sta Z Z.heap "java/lang/StringUTF16" "$assertionsDisabled" "Z" (.int (1 : Int32))) (HB : Sta Z Z.heap "java/lang/StringUTF16" "HI_BYTE_SHIFT" "I" (.int (0 : Int32))) (LB : Sta Z Z.heap "java/lang/StringUTF16" "LO_BYTE_SHIFT" "I" (.int (8 : Int32))) :
    Met l Z consts_1 [sa] (⟨"java/lang/String", "<init>", "([C)V"⟩ : MethodName) jdk_42_method_3_code 2 (Option.none : Option FieldType) [] ({ frames := 5, cells := 2, slots := 6, locals := 104 } : Room) #[(.ref sa), (.ref a)] h0 n0 (fun v h => v = none ∧ Keep h0 h [sa] ∧ ∃ b kb, h0.size ≤ b ∧ Fld Z h sa "java/lang/String" "value" "[B" (.ref b) ∧ Fld Z h sa "java/lang/String" "coder" "B" (.int (1 : Int32)) ∧ Arv Z h b kb .byte (4 : Int32) [(.int (nar .byte (c0 >>> ((0 : Int32) &&& 31)).toInt8.toInt32)), (.int (nar .byte (c0 >>> ((8 : Int32) &&& 31)).toInt8.toInt32)), (.int (nar .byte (c1 >>> ((0 : Int32) &&& 31)).toInt8.toInt32)), (.int (nar .byte (c1 >>> ((8 : Int32) &&& 31)).toInt8.toInt32))] (.int (0 : Int32))) := by
  refine Met.of (Ls0 := #[.val (.ref sa), .val (.ref a)]) pl_4 (by first | (simp [argsToLocals, Value.category]; done) | rfl) hel ?_
  intro p e s m below meth c hx hby hml hret hlk hown hnm hZ
  refine Go.aloadN (q := 1) hx (hb hby d35_0) rfl (by rfl) rfl ?_
  refine Go.aloadN (q := 2) hx (hb hby d35_1) rfl (by rfl) rfl ?_
  refine Go.iconst (q := 3) (z := (0 : Int32)) hx (hb hby d35_2) rfl rfl ?_
  refine Go.aloadN (q := 4) hx (hb hby d35_3) rfl (by rfl) rfl ?_
  refine Go.alen (q := 5) hx hZ A (hb hby d35_4) rfl ?_
  refine Go.aconstNull (q := 6) hx (hb hby d35_5) rfl ?_
  refine Go.callI (q := 9) hx hZ (a := sa) (argsL := [(.ref a), (.int (0 : Int32)), (.int (2 : Int32)), .null]) (rest := []) hown rfl (tw hw 193 rfl) (tw hw 194 rfl) (tw hw 5 rfl) (tw hw 195 rfl) (by decide) (rmSU2 l Z a0 hw hel sa a ka cst c0 c1 h0 n0 Z0 gs nas E F1 F2 A hq0 hq1 hU X0 SC hcs AD HB LB) (by simp) (by rw [hml]; rfl) pd_5 rfl rfl (hb hby d35_6) rfl (by decide) (ble rfl) (ce' := 2) (sl' := 6) rfl rfl (by decide) (by decide) (fun v329 h330 hQ331 => ?_)
  obtain ⟨rfl, K332, Y333⟩ := hQ331
  show Go _ _ _ _ _ _ _ _ _ _ _ _ _ _ _ _ _ _ _ _ 2 6 9 #[.val (.ref sa), .val (.ref a)] []
  refine Go.ret0 hx hret hlk (hb hby d35_9) (by decide) (by decide) ?_
  exact ⟨rfl, (Keep.trans (Keep.refl h0 [sa]) K332 (allS (Or.inl (by simp)) all0)), Y333⟩
theorem lu2 (c0 c1 : Int32) : (¬ (255 : Int32) < c0 ∧ ¬ (255 : Int32) < c1) ∨ (((255 : Int32) < c0) ∨ (¬ (255 : Int32) < c0 ∧ (255 : Int32) < c1)) := if h0 : (255 : Int32) < c0 then Or.inr (Or.inl h0) else if h1 : (255 : Int32) < c1 then Or.inr (Or.inr ⟨h0, h1⟩) else Or.inl ⟨h0, h1⟩
theorem rmNL3 (l : Launch) (Z : State) (a0 : Array Value) (hw : ∀ d ∈ tables_1, d.before a0 Z = true) (hel : EW Z a0 consts_1)  (h0 : Heap) (n0 : Nat) (Z0 : n0 ≤ h0.size)  :
    Met l Z consts_1 [] (⟨"java/lang/StringUTF16", "newBytesLength", "(I)I"⟩ : MethodName) jdk_52_method_3_code 1 (Option.some FieldType.int) [] ({ frames := 0, cells := 0, slots := 0, locals := 0 } : Room) #[(.int (3 : Int32))] h0 n0 (fun v h => v = some (.int (6 : Int32)) ∧ h0 = h) := by
  refine Met.of (Ls0 := #[.val (.int (3 : Int32))]) pl_5 (by first | (simp [argsToLocals, Value.category]; done) | rfl) hel ?_
  have hSA : ∀ d ∈ Bundle.stringAtoms, d.before a0 Z = true := fun d hd => hw d ((by decide +kernel : ∀ d ∈ Bundle.stringAtoms, d ∈ tables_1) d hd)
  intro p e s m below meth c hx hby hml hret hlk hown hnm hZ
  refine Go.iloadN (q := 1) hx (hb hby d42_0) rfl rfl ?_
  refine Go.if_ge (q := 4) (t := 12) hx (hb hby d42_1) (by decide) rfl rfl (fun hc1 => ?_) (fun hc1 => absurd hc1 (by decide))
  refine Go.iloadN (q := 13) hx (hb hby d42_12) rfl rfl ?_
  refine Go.ldcInt (q := 15) hx hZ hown (tw hw 215 rfl) (hb hby d42_13) rfl ?_
  refine Go.icmp_lt (q := 18) (t := 55) hx (hb hby d42_15) (by decide) rfl rfl (fun hc15 => ?_) (fun hc15 => absurd hc15 (by decide))
  refine Go.iloadN (q := 56) hx (hb hby d42_55) rfl rfl ?_
  refine Go.iconst (q := 57) (z := (1 : Int32)) hx (hb hby d42_56) rfl rfl ?_
  refine Go.ishl (q := 58) hx (hb hby d42_57) rfl ?_
  rw [show (3 : Int32) <<< ((1 : Int32) &&& 31) = (6 : Int32) from by decide]
  refine Go.retI hx hret hlk (hb hby d42_58) (by decide) (by decide) ?_
  exact ⟨rfl, rfl⟩
theorem rmNB3 (l : Launch) (Z : State) (a0 : Array Value) (hw : ∀ d ∈ tables_1, d.before a0 Z = true) (hel : EW Z a0 consts_1)  (h0 : Heap) (n0 : Nat) (Z0 : n0 ≤ h0.size)  :
    Met l Z consts_1 [] (⟨"java/lang/StringUTF16", "newBytesFor", "(I)[B"⟩ : MethodName) jdk_52_method_2_code 1 (Option.some (FieldType.array FieldType.byte)) [] ({ frames := 1, cells := 1, slots := 6, locals := 18 } : Room) #[(.int (3 : Int32))] h0 n0 (fun v h => ∃ b kb, v = some (.ref b) ∧ h0.size ≤ b ∧ Keep h0 h [] ∧ Arv Z h b kb .byte (6 : Int32) [(.int (0 : Int32)), (.int (0 : Int32)), (.int (0 : Int32)), (.int (0 : Int32)), (.int (0 : Int32)), (.int (0 : Int32))] (.int (0 : Int32))) := by
  refine Met.of (Ls0 := #[.val (.int (3 : Int32))]) pl_6 (by first | (simp [argsToLocals, Value.category]; done) | rfl) hel ?_
  intro p e s m below meth c hx hby hml hret hlk hown hnm hZ
  refine Go.iloadN (q := 1) hx (hb hby d41_0) rfl rfl ?_
  refine Go.callS (q := 4) hx hZ (argsL := [(.int (3 : Int32))]) (rest := []) hown (tw hw 212 rfl) (tw hw 213 rfl) (tw hw 198 rfl) (tw hw 214 rfl) (by decide) (rmNL3 l Z a0 hw hel h0 n0 Z0) (fun _ hx => nomatch hx) (by rw [hml]; rfl) pd_6 rfl rfl (hb hby d41_1) rfl (by decide) (ble rfl) (ce' := 0) (sl' := 0) rfl rfl (by decide) (by decide) (fun v334 h335 hQ336 => ?_)
  obtain ⟨rfl, rfl⟩ := hQ336
  show Go _ _ _ _ _ _ _ _ _ _ _ _ _ _ _ _ _ _ _ _ 0 0 4 #[.val (.int (3 : Int32))] [(.int (6 : Int32))]
  refine Go.newP (q := 6) (cap := 6) hx hZ (tw hw 7 rfl) (by decide) (by decide) (hb hby d41_4) rfl (by decide) (ce' := 1) (sl' := 6) rfl rfl (by decide) (by decide) (fun h337 a338 k339 g340 E341 A342 => ?_)
  have gz343 : n0 ≤ a338 := by rw [g340]; exact Z0
  have gk344 : h0.size ≤ a338 := by rw [g340]; exact (Keep.refl h0 []).1
  have V345 : Arv Z h337 a338 k339 .byte (6 : Int32) [(.int (0 : Int32)), (.int (0 : Int32)), (.int (0 : Int32)), (.int (0 : Int32)), (.int (0 : Int32)), (.int (0 : Int32))] (.int (0 : Int32)) := A342.pad (pad_rep [] (.int (0 : Int32)) 6)
  refine Go.retA hx hret rfl (by rfl) hlk (hb hby d41_6) (by decide) (by decide) ?_
  exact ⟨a338, _, rfl, gk344, ((Keep.refl h0 []).ext E341), V345⟩
theorem rmP3_0 (l : Launch) (Z : State) (a0 : Array Value) (hw : ∀ d ∈ tables_1, d.before a0 Z = true) (hel : EW Z a0 consts_1) (b : Addr) (kb : ClassId) (x d0 d1 d2 d3 d4 d5 : Int32) (h0 : Heap) (n0 : Nat) (Z0 : n0 ≤ h0.size) (B : Arv Z h0 b kb .byte (6 : Int32) [(.int d0), (.int d1), (.int d2), (.int d3), (.int d4), (.int d5)] (.int (0 : Int32))) (gb : n0 ≤ b) (X0 : Old Z n0 h0) (AD : Sta Z Z.heap "java/lang/StringUTF16" "$assertionsDisabled" "Z" (.int (1 : Int32))) (HB : Sta Z Z.heap "java/lang/StringUTF16" "HI_BYTE_SHIFT" "I" (.int (0 : Int32))) (LB : Sta Z Z.heap "java/lang/StringUTF16" "LO_BYTE_SHIFT" "I" (.int (8 : Int32))) :
    Met l Z consts_1 [b] (⟨"java/lang/StringUTF16", "putChar", "([BII)V"⟩ : MethodName) jdk_52_method_4_code 3 (Option.none : Option FieldType) [] ({ frames := 0, cells := 0, slots := 0, locals := 0 } : Room) #[(.ref b), (.int (0 : Int32)), (.int x)] h0 n0 (fun v h => v = none ∧ Keep h0 h [b] ∧ Arv Z h b kb .byte (6 : Int32) [(.int (nar .byte (x >>> ((0 : Int32) &&& 31)).toInt8.toInt32)), (.int (nar .byte (x >>> ((8 : Int32) &&& 31)).toInt8.toInt32)), (.int d2), (.int d3), (.int d4), (.int d5)] (.int (0 : Int32))) := by
  refine Met.of (Ls0 := #[.val (.ref b), .val (.int (0 : Int32)), .val (.int x)]) pl_7 (by first | (simp [argsToLocals, Value.category]; done) | rfl) hel ?_
  have hSA : ∀ d ∈ Bundle.stringAtoms, d.before a0 Z = true := fun d hd => hw d ((by decide +kernel : ∀ d ∈ Bundle.stringAtoms, d ∈ tables_1) d hd)
  intro p e s m below meth c hx hby hml hret hlk hown hnm hZ
  refine Go.getS (q := 3) hx hZ hown (host := "") (Or.inl (tw hw 219 rfl)) Via.refl (Sta.ext X0.2 AD) (hb hby d43_0) rfl ?_
  refine Go.if_ne (q := 6) (t := 28) hx (hb hby d43_3) (by decide) rfl rfl (fun hc3 => ?_) (fun hc3 => absurd hc3 (by decide))
  refine Go.iloadN (q := 29) hx (hb hby d43_28) rfl rfl ?_
  refine Go.iconst (q := 30) (z := (1 : Int32)) hx (hb hby d43_29) rfl rfl ?_
  refine Go.ishl (q := 31) hx (hb hby d43_30) rfl ?_
  rw [show (0 : Int32) <<< ((1 : Int32) &&& 31) = (0 : Int32) from by decide]
  refine Go.istoreN (q := 32) (l' := #[.val (.ref b), .val (.int (0 : Int32)), .val (.int x)]) hx (hb hby d43_31) rfl rfl ?_
  refine Go.aloadN (q := 33) hx (hb hby d43_32) rfl (by rfl) rfl ?_
  refine Go.iloadN (q := 34) hx (hb hby d43_33) rfl rfl ?_
  refine Go.iinc (q := 37) (l' := #[.val (.ref b), .val (.int ((0 : Int32) + (1 : Int32))), .val (.int x)]) hx (hb hby d43_34) rfl rfl rfl ?_
  refine Go.iloadN (q := 38) hx (hb hby d43_37) rfl rfl ?_
  refine Go.getS (q := 41) hx hZ hown (host := "") (Or.inl (tw hw 220 rfl)) Via.refl (Sta.ext X0.2 HB) (hb hby d43_38) rfl ?_
  refine Go.ishr (q := 42) hx (hb hby d43_41) rfl ?_
  refine Go.i2b (q := 43) hx (hb hby d43_42) rfl ?_
  refine Go.bastore (q := 44) hx hZ B ⟨by decide, by decide⟩ 0 rfl (ble rfl) gb (by simp) (hb hby d43_43) rfl (fun h346 W347 V348 => ?_)
  refine Go.aloadN (q := 45) hx (hb hby d43_44) rfl (by rfl) rfl ?_
  refine Go.iloadN (q := 46) hx (hb hby d43_45) rfl rfl ?_
  refine Go.iloadN (q := 47) hx (hb hby d43_46) rfl rfl ?_
  refine Go.getS (q := 50) hx hZ hown (host := "") (Or.inl (tw hw 221 rfl)) Via.refl (Sta.ext (X0.wr W347 gb).2 LB) (hb hby d43_47) rfl ?_
  refine Go.ishr (q := 51) hx (hb hby d43_50) rfl ?_
  refine Go.i2b (q := 52) hx (hb hby d43_51) rfl ?_
  refine Go.bastore (q := 53) hx hZ V348 ⟨by decide, by decide⟩ 1 rfl (ble rfl) gb (by simp) (hb hby d43_52) rfl (fun h349 W350 V351 => ?_)
  refine Go.ret0 hx hret hlk (hb hby d43_53) (by decide) (by decide) ?_
  exact ⟨rfl, (((Keep.refl h0 [b]).wr W347 (Or.inl (by simp))).wr W350 (Or.inl (by simp))), V351⟩
theorem rmG3_0 (l : Launch) (Z : State) (a0 : Array Value) (hw : ∀ d ∈ tables_1, d.before a0 Z = true) (hel : EW Z a0 consts_1) (b : Addr) (kb : ClassId) (c0 c1 c2 : Int32) (h0 : Heap) (n0 : Nat) (Z0 : n0 ≤ h0.size) (B : Arv Z h0 b kb .byte (6 : Int32) [(.int (nar .byte (c0 >>> ((0 : Int32) &&& 31)).toInt8.toInt32)), (.int (nar .byte (c0 >>> ((8 : Int32) &&& 31)).toInt8.toInt32)), (.int (nar .byte (c1 >>> ((0 : Int32) &&& 31)).toInt8.toInt32)), (.int (nar .byte (c1 >>> ((8 : Int32) &&& 31)).toInt8.toInt32)), (.int (nar .byte (c2 >>> ((0 : Int32) &&& 31)).toInt8.toInt32)), (.int (nar .byte (c2 >>> ((8 : Int32) &&& 31)).toInt8.toInt32))] (.int (0 : Int32))) (hq0 : Chr c0) (X0 : Old Z n0 h0) (AD : Sta Z Z.heap "java/lang/StringUTF16" "$assertionsDisabled" "Z" (.int (1 : Int32))) (HB : Sta Z Z.heap "java/lang/StringUTF16" "HI_BYTE_SHIFT" "I" (.int (0 : Int32))) (LB : Sta Z Z.heap "java/lang/StringUTF16" "LO_BYTE_SHIFT" "I" (.int (8 : Int32))) :
    Met l Z consts_1 [] (⟨"java/lang/StringUTF16", "getChar", "([BI)C"⟩ : MethodName) jdk_52_method_5_code 2 (Option.some FieldType.char) [] ({ frames := 0, cells := 0, slots := 0, locals := 0 } : Room) #[(.ref b), (.int (0 : Int32))] h0 n0 (fun v h => v = some (.int c0) ∧ h0 = h) := by
  refine Met.of (Ls0 := #[.val (.ref b), .val (.int (0 : Int32))]) pl_8 (by first | (simp [argsToLocals, Value.category]; done) | rfl) hel ?_
  have hSA : ∀ d ∈ Bundle.stringAtoms, d.before a0 Z = true := fun d hd => hw d ((by decide +kernel : ∀ d ∈ Bundle.stringAtoms, d ∈ tables_1) d hd)
  intro p e s m below meth c hx hby hml hret hlk hown hnm hZ
  refine Go.getS (q := 3) hx hZ hown (host := "") (Or.inl (tw hw 219 rfl)) Via.refl (Sta.ext X0.2 AD) (hb hby d44_0) rfl ?_
  refine Go.if_ne (q := 6) (t := 28) hx (hb hby d44_3) (by decide) rfl rfl (fun hc3 => ?_) (fun hc3 => absurd hc3 (by decide))
  refine Go.iloadN (q := 29) hx (hb hby d44_28) rfl rfl ?_
  refine Go.iconst (q := 30) (z := (1 : Int32)) hx (hb hby d44_29) rfl rfl ?_
  refine Go.ishl (q := 31) hx (hb hby d44_30) rfl ?_
  rw [show (0 : Int32) <<< ((1 : Int32) &&& 31) = (0 : Int32) from by decide]
  refine Go.istoreN (q := 32) (l' := #[.val (.ref b), .val (.int (0 : Int32))]) hx (hb hby d44_31) rfl rfl ?_
  refine Go.aloadN (q := 33) hx (hb hby d44_32) rfl (by rfl) rfl ?_
  refine Go.iloadN (q := 34) hx (hb hby d44_33) rfl rfl ?_
  refine Go.iinc (q := 37) (l' := #[.val (.ref b), .val (.int ((0 : Int32) + (1 : Int32)))]) hx (hb hby d44_34) rfl rfl rfl ?_
  refine Go.baload (q := 38) (v := (.int (nar .byte (c0 >>> ((0 : Int32) &&& 31)).toInt8.toInt32))) hx hZ B ⟨by decide, by decide⟩ rfl (hb hby d44_37) rfl ?_
  refine Go.sipush (q := 41) (z := (255 : Int32)) hx (hb hby d44_38) rfl rfl ?_
  refine Go.iand (q := 42) hx (hb hby d44_41) rfl ?_
  refine Go.getS (q := 45) hx hZ hown (host := "") (Or.inl (tw hw 220 rfl)) Via.refl (Sta.ext X0.2 HB) (hb hby d44_42) rfl ?_
  refine Go.ishl (q := 46) hx (hb hby d44_45) rfl ?_
  refine Go.aloadN (q := 47) hx (hb hby d44_46) rfl (by rfl) rfl ?_
  refine Go.iloadN (q := 48) hx (hb hby d44_47) rfl rfl ?_
  refine Go.baload (q := 49) (v := (.int (nar .byte (c0 >>> ((8 : Int32) &&& 31)).toInt8.toInt32))) hx hZ B ⟨by decide, by decide⟩ rfl (hb hby d44_48) rfl ?_
  refine Go.sipush (q := 52) (z := (255 : Int32)) hx (hb hby d44_49) rfl rfl ?_
  refine Go.iand (q := 53) hx (hb hby d44_52) rfl ?_
  refine Go.getS (q := 56) hx hZ hown (host := "") (Or.inl (tw hw 221 rfl)) Via.refl (Sta.ext X0.2 LB) (hb hby d44_53) rfl ?_
  refine Go.ishl (q := 57) hx (hb hby d44_56) rfl ?_
  refine Go.ior (q := 58) hx (hb hby d44_57) rfl ?_
  refine Go.i2c (q := 59) hx (hb hby d44_58) rfl ?_
  refine Go.retN hx (t := .char) hret (by simp) hlk (hb hby d44_59) (by decide) (by decide) ?_
  exact ⟨congrArg (fun z => some (Value.int z)) (utf_ok hq0), rfl⟩
theorem rmP3_1 (l : Launch) (Z : State) (a0 : Array Value) (hw : ∀ d ∈ tables_1, d.before a0 Z = true) (hel : EW Z a0 consts_1) (b : Addr) (kb : ClassId) (x d0 d1 d2 d3 d4 d5 : Int32) (h0 : Heap) (n0 : Nat) (Z0 : n0 ≤ h0.size) (B : Arv Z h0 b kb .byte (6 : Int32) [(.int d0), (.int d1), (.int d2), (.int d3), (.int d4), (.int d5)] (.int (0 : Int32))) (gb : n0 ≤ b) (X0 : Old Z n0 h0) (AD : Sta Z Z.heap "java/lang/StringUTF16" "$assertionsDisabled" "Z" (.int (1 : Int32))) (HB : Sta Z Z.heap "java/lang/StringUTF16" "HI_BYTE_SHIFT" "I" (.int (0 : Int32))) (LB : Sta Z Z.heap "java/lang/StringUTF16" "LO_BYTE_SHIFT" "I" (.int (8 : Int32))) :
    Met l Z consts_1 [b] (⟨"java/lang/StringUTF16", "putChar", "([BII)V"⟩ : MethodName) jdk_52_method_4_code 3 (Option.none : Option FieldType) [] ({ frames := 0, cells := 0, slots := 0, locals := 0 } : Room) #[(.ref b), (.int (1 : Int32)), (.int x)] h0 n0 (fun v h => v = none ∧ Keep h0 h [b] ∧ Arv Z h b kb .byte (6 : Int32) [(.int d0), (.int d1), (.int (nar .byte (x >>> ((0 : Int32) &&& 31)).toInt8.toInt32)), (.int (nar .byte (x >>> ((8 : Int32) &&& 31)).toInt8.toInt32)), (.int d4), (.int d5)] (.int (0 : Int32))) := by
  refine Met.of (Ls0 := #[.val (.ref b), .val (.int (1 : Int32)), .val (.int x)]) pl_7 (by first | (simp [argsToLocals, Value.category]; done) | rfl) hel ?_
  have hSA : ∀ d ∈ Bundle.stringAtoms, d.before a0 Z = true := fun d hd => hw d ((by decide +kernel : ∀ d ∈ Bundle.stringAtoms, d ∈ tables_1) d hd)
  intro p e s m below meth c hx hby hml hret hlk hown hnm hZ
  refine Go.getS (q := 3) hx hZ hown (host := "") (Or.inl (tw hw 219 rfl)) Via.refl (Sta.ext X0.2 AD) (hb hby d43_0) rfl ?_
  refine Go.if_ne (q := 6) (t := 28) hx (hb hby d43_3) (by decide) rfl rfl (fun hc3 => ?_) (fun hc3 => absurd hc3 (by decide))
  refine Go.iloadN (q := 29) hx (hb hby d43_28) rfl rfl ?_
  refine Go.iconst (q := 30) (z := (1 : Int32)) hx (hb hby d43_29) rfl rfl ?_
  refine Go.ishl (q := 31) hx (hb hby d43_30) rfl ?_
  rw [show (1 : Int32) <<< ((1 : Int32) &&& 31) = (2 : Int32) from by decide]
  refine Go.istoreN (q := 32) (l' := #[.val (.ref b), .val (.int (2 : Int32)), .val (.int x)]) hx (hb hby d43_31) rfl rfl ?_
  refine Go.aloadN (q := 33) hx (hb hby d43_32) rfl (by rfl) rfl ?_
  refine Go.iloadN (q := 34) hx (hb hby d43_33) rfl rfl ?_
  refine Go.iinc (q := 37) (l' := #[.val (.ref b), .val (.int ((2 : Int32) + (1 : Int32))), .val (.int x)]) hx (hb hby d43_34) rfl rfl rfl ?_
  refine Go.iloadN (q := 38) hx (hb hby d43_37) rfl rfl ?_
  refine Go.getS (q := 41) hx hZ hown (host := "") (Or.inl (tw hw 220 rfl)) Via.refl (Sta.ext X0.2 HB) (hb hby d43_38) rfl ?_
  refine Go.ishr (q := 42) hx (hb hby d43_41) rfl ?_
  refine Go.i2b (q := 43) hx (hb hby d43_42) rfl ?_
  refine Go.bastore (q := 44) hx hZ B ⟨by decide, by decide⟩ 2 rfl (ble rfl) gb (by simp) (hb hby d43_43) rfl (fun h352 W353 V354 => ?_)
  refine Go.aloadN (q := 45) hx (hb hby d43_44) rfl (by rfl) rfl ?_
  refine Go.iloadN (q := 46) hx (hb hby d43_45) rfl rfl ?_
  refine Go.iloadN (q := 47) hx (hb hby d43_46) rfl rfl ?_
  refine Go.getS (q := 50) hx hZ hown (host := "") (Or.inl (tw hw 221 rfl)) Via.refl (Sta.ext (X0.wr W353 gb).2 LB) (hb hby d43_47) rfl ?_
  refine Go.ishr (q := 51) hx (hb hby d43_50) rfl ?_
  refine Go.i2b (q := 52) hx (hb hby d43_51) rfl ?_
  refine Go.bastore (q := 53) hx hZ V354 ⟨by decide, by decide⟩ 3 rfl (ble rfl) gb (by simp) (hb hby d43_52) rfl (fun h355 W356 V357 => ?_)
  refine Go.ret0 hx hret hlk (hb hby d43_53) (by decide) (by decide) ?_
  exact ⟨rfl, (((Keep.refl h0 [b]).wr W353 (Or.inl (by simp))).wr W356 (Or.inl (by simp))), V357⟩
theorem rmG3_1 (l : Launch) (Z : State) (a0 : Array Value) (hw : ∀ d ∈ tables_1, d.before a0 Z = true) (hel : EW Z a0 consts_1) (b : Addr) (kb : ClassId) (c0 c1 c2 : Int32) (h0 : Heap) (n0 : Nat) (Z0 : n0 ≤ h0.size) (B : Arv Z h0 b kb .byte (6 : Int32) [(.int (nar .byte (c0 >>> ((0 : Int32) &&& 31)).toInt8.toInt32)), (.int (nar .byte (c0 >>> ((8 : Int32) &&& 31)).toInt8.toInt32)), (.int (nar .byte (c1 >>> ((0 : Int32) &&& 31)).toInt8.toInt32)), (.int (nar .byte (c1 >>> ((8 : Int32) &&& 31)).toInt8.toInt32)), (.int (nar .byte (c2 >>> ((0 : Int32) &&& 31)).toInt8.toInt32)), (.int (nar .byte (c2 >>> ((8 : Int32) &&& 31)).toInt8.toInt32))] (.int (0 : Int32))) (hq1 : Chr c1) (X0 : Old Z n0 h0) (AD : Sta Z Z.heap "java/lang/StringUTF16" "$assertionsDisabled" "Z" (.int (1 : Int32))) (HB : Sta Z Z.heap "java/lang/StringUTF16" "HI_BYTE_SHIFT" "I" (.int (0 : Int32))) (LB : Sta Z Z.heap "java/lang/StringUTF16" "LO_BYTE_SHIFT" "I" (.int (8 : Int32))) :
    Met l Z consts_1 [] (⟨"java/lang/StringUTF16", "getChar", "([BI)C"⟩ : MethodName) jdk_52_method_5_code 2 (Option.some FieldType.char) [] ({ frames := 0, cells := 0, slots := 0, locals := 0 } : Room) #[(.ref b), (.int (1 : Int32))] h0 n0 (fun v h => v = some (.int c1) ∧ h0 = h) := by
  refine Met.of (Ls0 := #[.val (.ref b), .val (.int (1 : Int32))]) pl_8 (by first | (simp [argsToLocals, Value.category]; done) | rfl) hel ?_
  have hSA : ∀ d ∈ Bundle.stringAtoms, d.before a0 Z = true := fun d hd => hw d ((by decide +kernel : ∀ d ∈ Bundle.stringAtoms, d ∈ tables_1) d hd)
  intro p e s m below meth c hx hby hml hret hlk hown hnm hZ
  refine Go.getS (q := 3) hx hZ hown (host := "") (Or.inl (tw hw 219 rfl)) Via.refl (Sta.ext X0.2 AD) (hb hby d44_0) rfl ?_
  refine Go.if_ne (q := 6) (t := 28) hx (hb hby d44_3) (by decide) rfl rfl (fun hc3 => ?_) (fun hc3 => absurd hc3 (by decide))
  refine Go.iloadN (q := 29) hx (hb hby d44_28) rfl rfl ?_
  refine Go.iconst (q := 30) (z := (1 : Int32)) hx (hb hby d44_29) rfl rfl ?_
  refine Go.ishl (q := 31) hx (hb hby d44_30) rfl ?_
  rw [show (1 : Int32) <<< ((1 : Int32) &&& 31) = (2 : Int32) from by decide]
  refine Go.istoreN (q := 32) (l' := #[.val (.ref b), .val (.int (2 : Int32))]) hx (hb hby d44_31) rfl rfl ?_
  refine Go.aloadN (q := 33) hx (hb hby d44_32) rfl (by rfl) rfl ?_
  refine Go.iloadN (q := 34) hx (hb hby d44_33) rfl rfl ?_
  refine Go.iinc (q := 37) (l' := #[.val (.ref b), .val (.int ((2 : Int32) + (1 : Int32)))]) hx (hb hby d44_34) rfl rfl rfl ?_
  refine Go.baload (q := 38) (v := (.int (nar .byte (c1 >>> ((0 : Int32) &&& 31)).toInt8.toInt32))) hx hZ B ⟨by decide, by decide⟩ rfl (hb hby d44_37) rfl ?_
  refine Go.sipush (q := 41) (z := (255 : Int32)) hx (hb hby d44_38) rfl rfl ?_
  refine Go.iand (q := 42) hx (hb hby d44_41) rfl ?_
  refine Go.getS (q := 45) hx hZ hown (host := "") (Or.inl (tw hw 220 rfl)) Via.refl (Sta.ext X0.2 HB) (hb hby d44_42) rfl ?_
  refine Go.ishl (q := 46) hx (hb hby d44_45) rfl ?_
  refine Go.aloadN (q := 47) hx (hb hby d44_46) rfl (by rfl) rfl ?_
  refine Go.iloadN (q := 48) hx (hb hby d44_47) rfl rfl ?_
  refine Go.baload (q := 49) (v := (.int (nar .byte (c1 >>> ((8 : Int32) &&& 31)).toInt8.toInt32))) hx hZ B ⟨by decide, by decide⟩ rfl (hb hby d44_48) rfl ?_
  refine Go.sipush (q := 52) (z := (255 : Int32)) hx (hb hby d44_49) rfl rfl ?_
  refine Go.iand (q := 53) hx (hb hby d44_52) rfl ?_
  refine Go.getS (q := 56) hx hZ hown (host := "") (Or.inl (tw hw 221 rfl)) Via.refl (Sta.ext X0.2 LB) (hb hby d44_53) rfl ?_
  refine Go.ishl (q := 57) hx (hb hby d44_56) rfl ?_
  refine Go.ior (q := 58) hx (hb hby d44_57) rfl ?_
  refine Go.i2c (q := 59) hx (hb hby d44_58) rfl ?_
  refine Go.retN hx (t := .char) hret (by simp) hlk (hb hby d44_59) (by decide) (by decide) ?_
  exact ⟨congrArg (fun z => some (Value.int z)) (utf_ok hq1), rfl⟩
theorem rmP3_2 (l : Launch) (Z : State) (a0 : Array Value) (hw : ∀ d ∈ tables_1, d.before a0 Z = true) (hel : EW Z a0 consts_1) (b : Addr) (kb : ClassId) (x d0 d1 d2 d3 d4 d5 : Int32) (h0 : Heap) (n0 : Nat) (Z0 : n0 ≤ h0.size) (B : Arv Z h0 b kb .byte (6 : Int32) [(.int d0), (.int d1), (.int d2), (.int d3), (.int d4), (.int d5)] (.int (0 : Int32))) (gb : n0 ≤ b) (X0 : Old Z n0 h0) (AD : Sta Z Z.heap "java/lang/StringUTF16" "$assertionsDisabled" "Z" (.int (1 : Int32))) (HB : Sta Z Z.heap "java/lang/StringUTF16" "HI_BYTE_SHIFT" "I" (.int (0 : Int32))) (LB : Sta Z Z.heap "java/lang/StringUTF16" "LO_BYTE_SHIFT" "I" (.int (8 : Int32))) :
    Met l Z consts_1 [b] (⟨"java/lang/StringUTF16", "putChar", "([BII)V"⟩ : MethodName) jdk_52_method_4_code 3 (Option.none : Option FieldType) [] ({ frames := 0, cells := 0, slots := 0, locals := 0 } : Room) #[(.ref b), (.int (2 : Int32)), (.int x)] h0 n0 (fun v h => v = none ∧ Keep h0 h [b] ∧ Arv Z h b kb .byte (6 : Int32) [(.int d0), (.int d1), (.int d2), (.int d3), (.int (nar .byte (x >>> ((0 : Int32) &&& 31)).toInt8.toInt32)), (.int (nar .byte (x >>> ((8 : Int32) &&& 31)).toInt8.toInt32))] (.int (0 : Int32))) := by
  refine Met.of (Ls0 := #[.val (.ref b), .val (.int (2 : Int32)), .val (.int x)]) pl_7 (by first | (simp [argsToLocals, Value.category]; done) | rfl) hel ?_
  have hSA : ∀ d ∈ Bundle.stringAtoms, d.before a0 Z = true := fun d hd => hw d ((by decide +kernel : ∀ d ∈ Bundle.stringAtoms, d ∈ tables_1) d hd)
  intro p e s m below meth c hx hby hml hret hlk hown hnm hZ
  refine Go.getS (q := 3) hx hZ hown (host := "") (Or.inl (tw hw 219 rfl)) Via.refl (Sta.ext X0.2 AD) (hb hby d43_0) rfl ?_
  refine Go.if_ne (q := 6) (t := 28) hx (hb hby d43_3) (by decide) rfl rfl (fun hc3 => ?_) (fun hc3 => absurd hc3 (by decide))
  refine Go.iloadN (q := 29) hx (hb hby d43_28) rfl rfl ?_
  refine Go.iconst (q := 30) (z := (1 : Int32)) hx (hb hby d43_29) rfl rfl ?_
  refine Go.ishl (q := 31) hx (hb hby d43_30) rfl ?_
  rw [show (2 : Int32) <<< ((1 : Int32) &&& 31) = (4 : Int32) from by decide]
  refine Go.istoreN (q := 32) (l' := #[.val (.ref b), .val (.int (4 : Int32)), .val (.int x)]) hx (hb hby d43_31) rfl rfl ?_
  refine Go.aloadN (q := 33) hx (hb hby d43_32) rfl (by rfl) rfl ?_
  refine Go.iloadN (q := 34) hx (hb hby d43_33) rfl rfl ?_
  refine Go.iinc (q := 37) (l' := #[.val (.ref b), .val (.int ((4 : Int32) + (1 : Int32))), .val (.int x)]) hx (hb hby d43_34) rfl rfl rfl ?_
  refine Go.iloadN (q := 38) hx (hb hby d43_37) rfl rfl ?_
  refine Go.getS (q := 41) hx hZ hown (host := "") (Or.inl (tw hw 220 rfl)) Via.refl (Sta.ext X0.2 HB) (hb hby d43_38) rfl ?_
  refine Go.ishr (q := 42) hx (hb hby d43_41) rfl ?_
  refine Go.i2b (q := 43) hx (hb hby d43_42) rfl ?_
  refine Go.bastore (q := 44) hx hZ B ⟨by decide, by decide⟩ 4 rfl (ble rfl) gb (by simp) (hb hby d43_43) rfl (fun h358 W359 V360 => ?_)
  refine Go.aloadN (q := 45) hx (hb hby d43_44) rfl (by rfl) rfl ?_
  refine Go.iloadN (q := 46) hx (hb hby d43_45) rfl rfl ?_
  refine Go.iloadN (q := 47) hx (hb hby d43_46) rfl rfl ?_
  refine Go.getS (q := 50) hx hZ hown (host := "") (Or.inl (tw hw 221 rfl)) Via.refl (Sta.ext (X0.wr W359 gb).2 LB) (hb hby d43_47) rfl ?_
  refine Go.ishr (q := 51) hx (hb hby d43_50) rfl ?_
  refine Go.i2b (q := 52) hx (hb hby d43_51) rfl ?_
  refine Go.bastore (q := 53) hx hZ V360 ⟨by decide, by decide⟩ 5 rfl (ble rfl) gb (by simp) (hb hby d43_52) rfl (fun h361 W362 V363 => ?_)
  refine Go.ret0 hx hret hlk (hb hby d43_53) (by decide) (by decide) ?_
  exact ⟨rfl, (((Keep.refl h0 [b]).wr W359 (Or.inl (by simp))).wr W362 (Or.inl (by simp))), V363⟩
theorem rmG3_2 (l : Launch) (Z : State) (a0 : Array Value) (hw : ∀ d ∈ tables_1, d.before a0 Z = true) (hel : EW Z a0 consts_1) (b : Addr) (kb : ClassId) (c0 c1 c2 : Int32) (h0 : Heap) (n0 : Nat) (Z0 : n0 ≤ h0.size) (B : Arv Z h0 b kb .byte (6 : Int32) [(.int (nar .byte (c0 >>> ((0 : Int32) &&& 31)).toInt8.toInt32)), (.int (nar .byte (c0 >>> ((8 : Int32) &&& 31)).toInt8.toInt32)), (.int (nar .byte (c1 >>> ((0 : Int32) &&& 31)).toInt8.toInt32)), (.int (nar .byte (c1 >>> ((8 : Int32) &&& 31)).toInt8.toInt32)), (.int (nar .byte (c2 >>> ((0 : Int32) &&& 31)).toInt8.toInt32)), (.int (nar .byte (c2 >>> ((8 : Int32) &&& 31)).toInt8.toInt32))] (.int (0 : Int32))) (hq2 : Chr c2) (X0 : Old Z n0 h0) (AD : Sta Z Z.heap "java/lang/StringUTF16" "$assertionsDisabled" "Z" (.int (1 : Int32))) (HB : Sta Z Z.heap "java/lang/StringUTF16" "HI_BYTE_SHIFT" "I" (.int (0 : Int32))) (LB : Sta Z Z.heap "java/lang/StringUTF16" "LO_BYTE_SHIFT" "I" (.int (8 : Int32))) :
    Met l Z consts_1 [] (⟨"java/lang/StringUTF16", "getChar", "([BI)C"⟩ : MethodName) jdk_52_method_5_code 2 (Option.some FieldType.char) [] ({ frames := 0, cells := 0, slots := 0, locals := 0 } : Room) #[(.ref b), (.int (2 : Int32))] h0 n0 (fun v h => v = some (.int c2) ∧ h0 = h) := by
  refine Met.of (Ls0 := #[.val (.ref b), .val (.int (2 : Int32))]) pl_8 (by first | (simp [argsToLocals, Value.category]; done) | rfl) hel ?_
  have hSA : ∀ d ∈ Bundle.stringAtoms, d.before a0 Z = true := fun d hd => hw d ((by decide +kernel : ∀ d ∈ Bundle.stringAtoms, d ∈ tables_1) d hd)
  intro p e s m below meth c hx hby hml hret hlk hown hnm hZ
  refine Go.getS (q := 3) hx hZ hown (host := "") (Or.inl (tw hw 219 rfl)) Via.refl (Sta.ext X0.2 AD) (hb hby d44_0) rfl ?_
  refine Go.if_ne (q := 6) (t := 28) hx (hb hby d44_3) (by decide) rfl rfl (fun hc3 => ?_) (fun hc3 => absurd hc3 (by decide))
  refine Go.iloadN (q := 29) hx (hb hby d44_28) rfl rfl ?_
  refine Go.iconst (q := 30) (z := (1 : Int32)) hx (hb hby d44_29) rfl rfl ?_
  refine Go.ishl (q := 31) hx (hb hby d44_30) rfl ?_
  rw [show (2 : Int32) <<< ((1 : Int32) &&& 31) = (4 : Int32) from by decide]
  refine Go.istoreN (q := 32) (l' := #[.val (.ref b), .val (.int (4 : Int32))]) hx (hb hby d44_31) rfl rfl ?_
  refine Go.aloadN (q := 33) hx (hb hby d44_32) rfl (by rfl) rfl ?_
  refine Go.iloadN (q := 34) hx (hb hby d44_33) rfl rfl ?_
  refine Go.iinc (q := 37) (l' := #[.val (.ref b), .val (.int ((4 : Int32) + (1 : Int32)))]) hx (hb hby d44_34) rfl rfl rfl ?_
  refine Go.baload (q := 38) (v := (.int (nar .byte (c2 >>> ((0 : Int32) &&& 31)).toInt8.toInt32))) hx hZ B ⟨by decide, by decide⟩ rfl (hb hby d44_37) rfl ?_
  refine Go.sipush (q := 41) (z := (255 : Int32)) hx (hb hby d44_38) rfl rfl ?_
  refine Go.iand (q := 42) hx (hb hby d44_41) rfl ?_
  refine Go.getS (q := 45) hx hZ hown (host := "") (Or.inl (tw hw 220 rfl)) Via.refl (Sta.ext X0.2 HB) (hb hby d44_42) rfl ?_
  refine Go.ishl (q := 46) hx (hb hby d44_45) rfl ?_
  refine Go.aloadN (q := 47) hx (hb hby d44_46) rfl (by rfl) rfl ?_
  refine Go.iloadN (q := 48) hx (hb hby d44_47) rfl rfl ?_
  refine Go.baload (q := 49) (v := (.int (nar .byte (c2 >>> ((8 : Int32) &&& 31)).toInt8.toInt32))) hx hZ B ⟨by decide, by decide⟩ rfl (hb hby d44_48) rfl ?_
  refine Go.sipush (q := 52) (z := (255 : Int32)) hx (hb hby d44_49) rfl rfl ?_
  refine Go.iand (q := 53) hx (hb hby d44_52) rfl ?_
  refine Go.getS (q := 56) hx hZ hown (host := "") (Or.inl (tw hw 221 rfl)) Via.refl (Sta.ext X0.2 LB) (hb hby d44_53) rfl ?_
  refine Go.ishl (q := 57) hx (hb hby d44_56) rfl ?_
  refine Go.ior (q := 58) hx (hb hby d44_57) rfl ?_
  refine Go.i2c (q := 59) hx (hb hby d44_58) rfl ?_
  refine Go.retN hx (t := .char) hret (by simp) hlk (hb hby d44_59) (by decide) (by decide) ?_
  exact ⟨congrArg (fun z => some (Value.int z)) (utf_ok hq2), rfl⟩
theorem rmT3 (l : Launch) (Z : State) (a0 : Array Value) (hw : ∀ d ∈ tables_1, d.before a0 Z = true) (hel : EW Z a0 consts_1) (a : Addr) (ka : ClassId) (c0 c1 c2 : Int32) (h0 : Heap) (n0 : Nat) (Z0 : n0 ≤ h0.size) (A : Arv Z h0 a ka .char (3 : Int32) [.int c0, .int c1, .int c2] (.int (0 : Int32))) (X0 : Old Z n0 h0) (AD : Sta Z Z.heap "java/lang/StringUTF16" "$assertionsDisabled" "Z" (.int (1 : Int32))) (HB : Sta Z Z.heap "java/lang/StringUTF16" "HI_BYTE_SHIFT" "I" (.int (0 : Int32))) (LB : Sta Z Z.heap "java/lang/StringUTF16" "LO_BYTE_SHIFT" "I" (.int (8 : Int32))) :
    Met l Z consts_1 [] (⟨"java/lang/StringUTF16", "toBytes", "([CII)[B"⟩ : MethodName) jdk_52_method_14_code 5 (Option.some (FieldType.array FieldType.byte)) [] ({ frames := 2, cells := 1, slots := 6, locals := 36 } : Room) #[(.ref a), (.int (0 : Int32)), (.int (3 : Int32))] h0 n0 (fun v h => ∃ b kb, v = some (.ref b) ∧ h0.size ≤ b ∧ Keep h0 h [] ∧ Arv Z h b kb .byte (6 : Int32) [(.int (nar .byte (c0 >>> ((0 : Int32) &&& 31)).toInt8.toInt32)), (.int (nar .byte (c0 >>> ((8 : Int32) &&& 31)).toInt8.toInt32)), (.int (nar .byte (c1 >>> ((0 : Int32) &&& 31)).toInt8.toInt32)), (.int (nar .byte (c1 >>> ((8 : Int32) &&& 31)).toInt8.toInt32)), (.int (nar .byte (c2 >>> ((0 : Int32) &&& 31)).toInt8.toInt32)), (.int (nar .byte (c2 >>> ((8 : Int32) &&& 31)).toInt8.toInt32))] (.int (0 : Int32))) := by
  refine Met.of (Ls0 := #[.val (.ref a), .val (.int (0 : Int32)), .val (.int (3 : Int32)), .unset, .unset]) pl_9 (by first | (simp [argsToLocals, Value.category]; done) | rfl) hel ?_
  intro p e s m below meth c hx hby hml hret hlk hown hnm hZ
  refine Go.iloadN (q := 1) hx (hb hby d40_0) rfl rfl ?_
  refine Go.callS (q := 4) hx hZ (argsL := [(.int (3 : Int32))]) (rest := []) hown (tw hw 209 rfl) (tw hw 210 rfl) (tw hw 198 rfl) (tw hw 211 rfl) (by decide) (rmNB3 l Z a0 hw hel h0 n0 Z0) (fun _ hx => nomatch hx) (by rw [hml]; rfl) pd_8 rfl rfl (hb hby d40_1) rfl (by decide) (ble rfl) (ce' := 1) (sl' := 6) rfl rfl (by decide) (by decide) (fun v364 h365 hQ366 => ?_)
  have lt372 := (A).lt
  obtain ⟨b367, k368, rfl, g369, K370, V371⟩ := hQ366
  have ne373 : a ≠ b367 := Nat.ne_of_lt (Nat.lt_of_lt_of_le lt372 g369)
  have gz374 : n0 ≤ b367 := Nat.le_trans Z0 g369
  refine Go.safe (x := b367) V371.lt (fun vm hzv => safe2 hzv (tw hw 46 rfl) (tw hw 4 rfl) V371 (by decide) (Or.inl (by decide))) ?_
  show Go _ _ _ _ _ _ _ _ _ _ _ _ _ _ _ _ _ _ _ _ 1 6 4 #[.val (.ref a), .val (.int (0 : Int32)), .val (.int (3 : Int32)), .unset, .unset] [(.ref b367)]
  refine Go.astoreN (q := 5) (l' := #[.val (.ref a), .val (.int (0 : Int32)), .val (.int (3 : Int32)), .val (.ref b367), .unset]) hx (hb hby d40_4) (by rfl) rfl rfl ?_
  refine Go.iconst (q := 6) (z := (0 : Int32)) hx (hb hby d40_5) rfl rfl ?_
  refine Go.istore (q := 8) (l' := #[.val (.ref a), .val (.int (0 : Int32)), .val (.int (3 : Int32)), .val (.ref b367), .val (.int (0 : Int32))]) hx (hb hby d40_6) rfl rfl ?_
  refine Go.iload (q := 10) hx (hb hby d40_8) rfl rfl ?_
  refine Go.iloadN (q := 11) hx (hb hby d40_10) rfl rfl ?_
  refine Go.icmp_ge (q := 14) (t := 32) hx (hb hby d40_11) (by decide) rfl rfl (fun hc11 => absurd hc11 (by decide)) (fun hc11 => ?_)
  refine Go.aloadN (q := 15) hx (hb hby d40_14) rfl (by rfl) rfl ?_
  refine Go.iload (q := 17) hx (hb hby d40_15) rfl rfl ?_
  refine Go.aloadN (q := 18) hx (hb hby d40_17) rfl (by rfl) rfl ?_
  refine Go.iloadN (q := 19) hx (hb hby d40_18) rfl rfl ?_
  refine Go.caload (q := 20) (v := (.int c0)) hx hZ (A.keep K370 nin0) ⟨by decide, by decide⟩ rfl (hb hby d40_19) rfl ?_
  refine Go.callS (q := 23) hx hZ (argsL := [(.ref b367), (.int (0 : Int32)), (.int c0)]) (rest := []) hown (tw hw 216 rfl) (tw hw 217 rfl) (tw hw 198 rfl) (tw hw 218 rfl) (by decide) (rmP3_0 l Z a0 hw hel b367 k368 c0 (0 : Int32) (0 : Int32) (0 : Int32) (0 : Int32) (0 : Int32) (0 : Int32) h365 n0 (Nat.le_trans Z0 K370.1) V371 gz374 (X0.keep K370 all0) AD HB LB) (by simp) (by rw [hml]; rfl) pd_9 rfl rfl (hb hby d40_20) rfl (by decide) (ble rfl) (ce' := 1) (sl' := 6) rfl rfl (by decide) (by decide) (fun v375 h376 hQ377 => ?_)
  obtain ⟨rfl, K378, V379⟩ := hQ377
  show Go _ _ _ _ _ _ _ _ _ _ _ _ _ _ _ _ _ _ _ _ 1 6 23 #[.val (.ref a), .val (.int (0 : Int32)), .val (.int (3 : Int32)), .val (.ref b367), .val (.int (0 : Int32))] []
  refine Go.iinc (q := 26) (l' := #[.val (.ref a), .val (.int ((0 : Int32) + (1 : Int32))), .val (.int (3 : Int32)), .val (.ref b367), .val (.int (0 : Int32))]) hx (hb hby d40_23) rfl rfl rfl ?_
  refine Go.iinc (q := 29) (l' := #[.val (.ref a), .val (.int ((0 : Int32) + (1 : Int32))), .val (.int (3 : Int32)), .val (.ref b367), .val (.int ((0 : Int32) + (1 : Int32)))]) hx (hb hby d40_26) rfl rfl rfl ?_
  refine Go.goto (q := 8) hx (hb hby d40_29) (by decide) rfl ?_
  rw [show (0 : Int32) + (1 : Int32) = (1 : Int32) from by decide]
  refine Go.iload (q := 10) hx (hb hby d40_8) rfl rfl ?_
  refine Go.iloadN (q := 11) hx (hb hby d40_10) rfl rfl ?_
  refine Go.icmp_ge (q := 14) (t := 32) hx (hb hby d40_11) (by decide) rfl rfl (fun hc11_1 => absurd hc11_1 (by decide)) (fun hc11_1 => ?_)
  refine Go.aloadN (q := 15) hx (hb hby d40_14) rfl (by rfl) rfl ?_
  refine Go.iload (q := 17) hx (hb hby d40_15) rfl rfl ?_
  refine Go.aloadN (q := 18) hx (hb hby d40_17) rfl (by rfl) rfl ?_
  refine Go.iloadN (q := 19) hx (hb hby d40_18) rfl rfl ?_
  refine Go.caload (q := 20) (v := (.int c1)) hx hZ ((A.keep K370 nin0).keep K378 (ninS ne373 nin0)) ⟨by decide, by decide⟩ rfl (hb hby d40_19) rfl ?_
  refine Go.callS (q := 23) hx hZ (argsL := [(.ref b367), (.int (1 : Int32)), (.int c1)]) (rest := []) hown (tw hw 216 rfl) (tw hw 217 rfl) (tw hw 198 rfl) (tw hw 218 rfl) (by decide) (rmP3_1 l Z a0 hw hel b367 k368 c1 (nar .byte (c0 >>> ((0 : Int32) &&& 31)).toInt8.toInt32) (nar .byte (c0 >>> ((8 : Int32) &&& 31)).toInt8.toInt32) (0 : Int32) (0 : Int32) (0 : Int32) (0 : Int32) h376 n0 (Nat.le_trans (Nat.le_trans Z0 K370.1) K378.1) V379 gz374 ((X0.keep K370 all0).keep K378 (allS gz374 all0)) AD HB LB) (by simp) (by rw [hml]; rfl) pd_9 rfl rfl (hb hby d40_20) rfl (by decide) (ble rfl) (ce' := 1) (sl' := 6) rfl rfl (by decide) (by decide) (fun v380 h381 hQ382 => ?_)
  obtain ⟨rfl, K383, V384⟩ := hQ382
  show Go _ _ _ _ _ _ _ _ _ _ _ _ _ _ _ _ _ _ _ _ 1 6 23 #[.val (.ref a), .val (.int (1 : Int32)), .val (.int (3 : Int32)), .val (.ref b367), .val (.int (1 : Int32))] []
  refine Go.iinc (q := 26) (l' := #[.val (.ref a), .val (.int ((1 : Int32) + (1 : Int32))), .val (.int (3 : Int32)), .val (.ref b367), .val (.int (1 : Int32))]) hx (hb hby d40_23) rfl rfl rfl ?_
  refine Go.iinc (q := 29) (l' := #[.val (.ref a), .val (.int ((1 : Int32) + (1 : Int32))), .val (.int (3 : Int32)), .val (.ref b367), .val (.int ((1 : Int32) + (1 : Int32)))]) hx (hb hby d40_26) rfl rfl rfl ?_
  refine Go.goto (q := 8) hx (hb hby d40_29) (by decide) rfl ?_
  rw [show (1 : Int32) + (1 : Int32) = (2 : Int32) from by decide]
  refine Go.iload (q := 10) hx (hb hby d40_8) rfl rfl ?_
  refine Go.iloadN (q := 11) hx (hb hby d40_10) rfl rfl ?_
  refine Go.icmp_ge (q := 14) (t := 32) hx (hb hby d40_11) (by decide) rfl rfl (fun hc11_2 => absurd hc11_2 (by decide)) (fun hc11_2 => ?_)
  refine Go.aloadN (q := 15) hx (hb hby d40_14) rfl (by rfl) rfl ?_
  refine Go.iload (q := 17) hx (hb hby d40_15) rfl rfl ?_
  refine Go.aloadN (q := 18) hx (hb hby d40_17) rfl (by rfl) rfl ?_
  refine Go.iloadN (q := 19) hx (hb hby d40_18) rfl rfl ?_
  refine Go.caload (q := 20) (v := (.int c2)) hx hZ (((A.keep K370 nin0).keep K378 (ninS ne373 nin0)).keep K383 (ninS ne373 nin0)) ⟨by decide, by decide⟩ rfl (hb hby d40_19) rfl ?_
  refine Go.callS (q := 23) hx hZ (argsL := [(.ref b367), (.int (2 : Int32)), (.int c2)]) (rest := []) hown (tw hw 216 rfl) (tw hw 217 rfl) (tw hw 198 rfl) (tw hw 218 rfl) (by decide) (rmP3_2 l Z a0 hw hel b367 k368 c2 (nar .byte (c0 >>> ((0 : Int32) &&& 31)).toInt8.toInt32) (nar .byte (c0 >>> ((8 : Int32) &&& 31)).toInt8.toInt32) (nar .byte (c1 >>> ((0 : Int32) &&& 31)).toInt8.toInt32) (nar .byte (c1 >>> ((8 : Int32) &&& 31)).toInt8.toInt32) (0 : Int32) (0 : Int32) h381 n0 (Nat.le_trans (Nat.le_trans (Nat.le_trans Z0 K370.1) K378.1) K383.1) V384 gz374 (((X0.keep K370 all0).keep K378 (allS gz374 all0)).keep K383 (allS gz374 all0)) AD HB LB) (by simp) (by rw [hml]; rfl) pd_9 rfl rfl (hb hby d40_20) rfl (by decide) (ble rfl) (ce' := 1) (sl' := 6) rfl rfl (by decide) (by decide) (fun v385 h386 hQ387 => ?_)
  obtain ⟨rfl, K388, V389⟩ := hQ387
  show Go _ _ _ _ _ _ _ _ _ _ _ _ _ _ _ _ _ _ _ _ 1 6 23 #[.val (.ref a), .val (.int (2 : Int32)), .val (.int (3 : Int32)), .val (.ref b367), .val (.int (2 : Int32))] []
  refine Go.iinc (q := 26) (l' := #[.val (.ref a), .val (.int ((2 : Int32) + (1 : Int32))), .val (.int (3 : Int32)), .val (.ref b367), .val (.int (2 : Int32))]) hx (hb hby d40_23) rfl rfl rfl ?_
  refine Go.iinc (q := 29) (l' := #[.val (.ref a), .val (.int ((2 : Int32) + (1 : Int32))), .val (.int (3 : Int32)), .val (.ref b367), .val (.int ((2 : Int32) + (1 : Int32)))]) hx (hb hby d40_26) rfl rfl rfl ?_
  refine Go.goto (q := 8) hx (hb hby d40_29) (by decide) rfl ?_
  rw [show (2 : Int32) + (1 : Int32) = (3 : Int32) from by decide]
  refine Go.iload (q := 10) hx (hb hby d40_8) rfl rfl ?_
  refine Go.iloadN (q := 11) hx (hb hby d40_10) rfl rfl ?_
  refine Go.icmp_ge (q := 14) (t := 32) hx (hb hby d40_11) (by decide) rfl rfl (fun hc11_3 => ?_) (fun hc11_3 => absurd hc11_3 (by decide))
  refine Go.aloadN (q := 33) hx (hb hby d40_32) rfl (by rfl) rfl ?_
  refine Go.retA hx hret rfl (by rfl) hlk (hb hby d40_33) (by decide) (by decide) ?_
  exact ⟨b367, _, rfl, g369, (Keep.trans (Keep.trans (Keep.trans (Keep.trans (Keep.refl h0 []) K370 all0) K378 (allS (Or.inr g369) all0)) K383 (allS (Or.inr g369) all0)) K388 (allS (Or.inr g369) all0)), V389⟩
theorem rmCU3_0 (l : Launch) (Z : State) (a0 : Array Value) (hw : ∀ d ∈ tables_1, d.before a0 Z = true) (hel : EW Z a0 consts_1) (a b : Addr) (ka kb : ClassId) (c0 c1 c2 : Int32) (h0 : Heap) (n0 : Nat) (Z0 : n0 ≤ h0.size) (A : Arv Z h0 a ka .char (3 : Int32) [.int c0, .int c1, .int c2] (.int (0 : Int32))) (B : Arv Z h0 b kb .byte (3 : Int32) [(.int (0 : Int32)), (.int (0 : Int32)), (.int (0 : Int32))] (.int (0 : Int32))) (gb : n0 ≤ b) (nab : a ≠ b)  (hk : (255 : Int32) < c0) :
    Met l Z consts_1 [b] (⟨"java/lang/StringUTF16", "compress", "([CI[BII)I"⟩ : MethodName) jdk_52_method_21_code 7 (Option.some FieldType.int) [] ({ frames := 0, cells := 0, slots := 0, locals := 0 } : Room) #[(.ref a), (.int (0 : Int32)), (.ref b), (.int (0 : Int32)), (.int (3 : Int32))] h0 n0 (fun v h => v = some (.int (0 : Int32)) ∧ Keep h0 h [b]) := by
  refine Met.of (Ls0 := #[.val (.ref a), .val (.int (0 : Int32)), .val (.ref b), .val (.int (0 : Int32)), .val (.int (3 : Int32)), .unset, .unset]) pl_1 (by first | (simp [argsToLocals, Value.category]; done) | rfl) hel ?_
  intro p e s m below meth c hx hby hml hret hlk hown hnm hZ
  refine Go.iconst (q := 1) (z := (0 : Int32)) hx (hb hby d38_0) rfl rfl ?_
  refine Go.istore (q := 3) (l' := #[.val (.ref a), .val (.int (0 : Int32)), .val (.ref b), .val (.int (0 : Int32)), .val (.int (3 : Int32)), .val (.int (0 : Int32)), .unset]) hx (hb hby d38_1) rfl rfl ?_
  refine Go.iload (q := 5) hx (hb hby d38_3) rfl rfl ?_
  refine Go.iload (q := 7) hx (hb hby d38_5) rfl rfl ?_
  refine Go.icmp_ge (q := 10) (t := 44) hx (hb hby d38_7) (by decide) rfl rfl (fun hc7 => absurd hc7 (by decide)) (fun hc7 => ?_)
  refine Go.aloadN (q := 11) hx (hb hby d38_10) rfl (by rfl) rfl ?_
  refine Go.iloadN (q := 12) hx (hb hby d38_11) rfl rfl ?_
  refine Go.caload (q := 13) (v := (.int c0)) hx hZ A ⟨by decide, by decide⟩ rfl (hb hby d38_12) rfl ?_
  refine Go.istore (q := 15) (l' := #[.val (.ref a), .val (.int (0 : Int32)), .val (.ref b), .val (.int (0 : Int32)), .val (.int (3 : Int32)), .val (.int (0 : Int32)), .val (.int c0)]) hx (hb hby d38_13) rfl rfl ?_
  refine Go.iload (q := 17) hx (hb hby d38_15) rfl rfl ?_
  refine Go.sipush (q := 20) (z := (255 : Int32)) hx (hb hby d38_17) rfl rfl ?_
  refine Go.icmp_le (q := 23) (t := 26) hx (hb hby d38_20) (by decide) rfl rfl (fun hc20 => absurd hk hc20) (fun hc20 => ?_)
  refine Go.iload (q := 25) hx (hb hby d38_23) rfl rfl ?_
  refine Go.retI hx hret hlk (hb hby d38_25) (by decide) (by decide) ?_
  exact ⟨rfl, (Keep.refl h0 [b])⟩
theorem rmDU3_0 (l : Launch) (Z : State) (a0 : Array Value) (hw : ∀ d ∈ tables_1, d.before a0 Z = true) (hel : EW Z a0 consts_1) (a : Addr) (ka : ClassId) (c0 c1 c2 : Int32) (h0 : Heap) (n0 : Nat) (Z0 : n0 ≤ h0.size) (A : Arv Z h0 a ka .char (3 : Int32) [.int c0, .int c1, .int c2] (.int (0 : Int32))) (hq0 : Chr c0) (hq1 : Chr c1) (hq2 : Chr c2)  (hk : (255 : Int32) < c0) (X0 : Old Z n0 h0) (AD : Sta Z Z.heap "java/lang/StringUTF16" "$assertionsDisabled" "Z" (.int (1 : Int32))) (HB : Sta Z Z.heap "java/lang/StringUTF16" "HI_BYTE_SHIFT" "I" (.int (0 : Int32))) (LB : Sta Z Z.heap "java/lang/StringUTF16" "LO_BYTE_SHIFT" "I" (.int (8 : Int32))) :
    Met l Z consts_1 [] (⟨"java/lang/StringUTF16", "compress", "([CII)[B"⟩ : MethodName) jdk_52_method_16_code 6 (Option.some (FieldType.array FieldType.byte)) [] ({ frames := 3, cells := 2, slots := 9, locals := 58 } : Room) #[(.ref a), (.int (0 : Int32)), (.int (3 : Int32))] h0 n0 (fun v h => ∃ b kb, v = some (.ref b) ∧ h0.size ≤ b ∧ Keep h0 h [] ∧ Arv Z h b kb .byte (6 : Int32) [(.int (nar .byte (c0 >>> ((0 : Int32) &&& 31)).toInt8.toInt32)), (.int (nar .byte (c0 >>> ((8 : Int32) &&& 31)).toInt8.toInt32)), (.int (nar .byte (c1 >>> ((0 : Int32) &&& 31)).toInt8.toInt32)), (.int (nar .byte (c1 >>> ((8 : Int32) &&& 31)).toInt8.toInt32)), (.int (nar .byte (c2 >>> ((0 : Int32) &&& 31)).toInt8.toInt32)), (.int (nar .byte (c2 >>> ((8 : Int32) &&& 31)).toInt8.toInt32))] (.int (0 : Int32))) := by
  refine Met.of (Ls0 := #[.val (.ref a), .val (.int (0 : Int32)), .val (.int (3 : Int32)), .unset, .unset, .unset]) pl_2 (by first | (simp [argsToLocals, Value.category]; done) | rfl) hel ?_
  intro p e s m below meth c hx hby hml hret hlk hown hnm hZ
  refine Go.iloadN (q := 1) hx (hb hby d37_0) rfl rfl ?_
  refine Go.newP (q := 3) (cap := 3) hx hZ (tw hw 7 rfl) (by decide) (by decide) (hb hby d37_1) rfl (by decide) (ce' := 1) (sl' := 3) rfl rfl (by decide) (by decide) (fun h390 a391 k392 g393 E394 A395 => ?_)
  have ne396 : a ≠ a391 := by rw [g393]; exact Nat.ne_of_lt (A).lt
  have gz397 : n0 ≤ a391 := by rw [g393]; exact Z0
  have gk398 : h0.size ≤ a391 := by rw [g393]; exact (Keep.refl h0 []).1
  have V399 : Arv Z h390 a391 k392 .byte (3 : Int32) [(.int (0 : Int32)), (.int (0 : Int32)), (.int (0 : Int32))] (.int (0 : Int32)) := A395.pad (pad_rep [] (.int (0 : Int32)) 3)
  refine Go.astoreN (q := 4) (l' := #[.val (.ref a), .val (.int (0 : Int32)), .val (.int (3 : Int32)), .val (.ref a391), .unset, .unset]) hx (hb hby d37_3) (by rfl) rfl rfl ?_
  refine Go.aloadN (q := 5) hx (hb hby d37_4) rfl (by rfl) rfl ?_
  refine Go.iloadN (q := 6) hx (hb hby d37_5) rfl rfl ?_
  refine Go.aloadN (q := 7) hx (hb hby d37_6) rfl (by rfl) rfl ?_
  refine Go.iconst (q := 8) (z := (0 : Int32)) hx (hb hby d37_7) rfl rfl ?_
  refine Go.iloadN (q := 9) hx (hb hby d37_8) rfl rfl ?_
  refine Go.callS (q := 12) hx hZ (argsL := [(.ref a), (.int (0 : Int32)), (.ref a391), (.int (0 : Int32)), (.int (3 : Int32))]) (rest := []) hown (tw hw 200 rfl) (tw hw 201 rfl) (tw hw 198 rfl) (tw hw 202 rfl) (by decide) (rmCU3_0 l Z a0 hw hel a a391 ka k392 c0 c1 c2 h390 n0 (Nat.le_trans Z0 E394.1) (A.ext E394) V399 gz397 ne396  hk) (by simp) (by rw [hml]; rfl) pd_0 rfl rfl (hb hby d37_9) rfl (by decide) (ble rfl) (ce' := 1) (sl' := 3) rfl rfl (by decide) (by decide) (fun v400 h401 hQ402 => ?_)
  obtain ⟨rfl, K403⟩ := hQ402
  show Go _ _ _ _ _ _ _ _ _ _ _ _ _ _ _ _ _ _ _ _ 1 3 12 #[.val (.ref a), .val (.int (0 : Int32)), .val (.int (3 : Int32)), .val (.ref a391), .unset, .unset] [(.int (0 : Int32))]
  refine Go.istore (q := 14) (l' := #[.val (.ref a), .val (.int (0 : Int32)), .val (.int (3 : Int32)), .val (.ref a391), .val (.int (0 : Int32)), .unset]) hx (hb hby d37_12) rfl rfl ?_
  refine Go.iload (q := 16) hx (hb hby d37_14) rfl rfl ?_
  refine Go.iloadN (q := 17) hx (hb hby d37_16) rfl rfl ?_
  refine Go.icmp_eq (q := 20) (t := 57) hx (hb hby d37_17) (by decide) rfl rfl (fun hc17 => absurd hc17 (by decide)) (fun hc17 => ?_)
  refine Go.aloadN (q := 21) hx (hb hby d37_20) rfl (by rfl) rfl ?_
  refine Go.iloadN (q := 22) hx (hb hby d37_21) rfl rfl ?_
  refine Go.iloadN (q := 23) hx (hb hby d37_22) rfl rfl ?_
  have gk404 := (Keep.trans ((Keep.refl h0 []).ext E394) K403 (allS (Or.inr gk398) all0)).1
  refine Go.callS (q := 26) hx hZ (argsL := [(.ref a), (.int (0 : Int32)), (.int (3 : Int32))]) (rest := []) hown (tw hw 206 rfl) (tw hw 207 rfl) (tw hw 198 rfl) (tw hw 208 rfl) (by decide) (rmT3 l Z a0 hw hel a ka c0 c1 c2 h401 n0 (Nat.le_trans (Nat.le_trans Z0 E394.1) K403.1) ((A.ext E394).keep K403 (ninS ne396 nin0)) ((X0.ext E394).keep K403 (allS gz397 all0)) AD HB LB) (fun _ hx => nomatch hx) (by rw [hml]; rfl) pd_1 rfl rfl (hb hby d37_23) rfl (by decide) (ble rfl) (ce' := 2) (sl' := 9) rfl rfl (by decide) (by decide) (fun v405 h406 hQ407 => ?_)
  obtain ⟨b408, k409, rfl, g410, K411, V412⟩ := hQ407
  show Go _ _ _ _ _ _ _ _ _ _ _ _ _ _ _ _ _ _ _ _ 2 9 26 #[.val (.ref a), .val (.int (0 : Int32)), .val (.int (3 : Int32)), .val (.ref a391), .val (.int (0 : Int32)), .unset] [(.ref b408)]
  refine Go.astore (q := 28) (l' := #[.val (.ref a), .val (.int (0 : Int32)), .val (.int (3 : Int32)), .val (.ref a391), .val (.int (0 : Int32)), .val (.ref b408)]) hx (hb hby d37_26) (by rfl) rfl rfl ?_
  refine Go.aload (q := 30) hx (hb hby d37_28) rfl (by rfl) rfl ?_
  refine Go.iload (q := 32) hx (hb hby d37_30) rfl rfl ?_
  refine Go.callS (q := 35) hx hZ (argsL := [(.ref b408), (.int (0 : Int32))]) (rest := []) hown (tw hw 222 rfl) (tw hw 223 rfl) (tw hw 198 rfl) (tw hw 224 rfl) (by decide) (rmG3_0 l Z a0 hw hel b408 k409 c0 c1 c2 h406 n0 (Nat.le_trans (Nat.le_trans (Nat.le_trans Z0 E394.1) K403.1) K411.1) V412 hq0 (((X0.ext E394).keep K403 (allS gz397 all0)).keep K411 all0) AD HB LB) (fun _ hx => nomatch hx) (by rw [hml]; rfl) pd_2 rfl rfl (hb hby d37_32) rfl (by decide) (ble rfl) (ce' := 2) (sl' := 9) rfl rfl (by decide) (by decide) (fun v413 h414 hQ415 => ?_)
  obtain ⟨rfl, rfl⟩ := hQ415
  show Go _ _ _ _ _ _ _ _ _ _ _ _ _ _ _ _ _ _ _ _ 2 9 35 #[.val (.ref a), .val (.int (0 : Int32)), .val (.int (3 : Int32)), .val (.ref a391), .val (.int (0 : Int32)), .val (.ref b408)] [(.int c0)]
  refine Go.sipush (q := 38) (z := (255 : Int32)) hx (hb hby d37_35) rfl rfl ?_
  refine Go.icmp_gt (q := 41) (t := 54) hx (hb hby d37_38) (by decide) rfl rfl (fun hc38 => ?_) (fun hc38 => absurd hk hc38)
  refine Go.aload (q := 56) hx (hb hby d37_54) rfl (by rfl) rfl ?_
  refine Go.retA hx hret rfl (by rfl) hlk (hb hby d37_56) (by decide) (by decide) ?_
  exact ⟨b408, _, rfl, (Nat.le_trans gk404 g410), (Keep.trans (Keep.trans ((Keep.refl h0 []).ext E394) K403 (allS (Or.inr gk398) all0)) K411 all0), V412⟩
theorem rmCU3_1 (l : Launch) (Z : State) (a0 : Array Value) (hw : ∀ d ∈ tables_1, d.before a0 Z = true) (hel : EW Z a0 consts_1) (a b : Addr) (ka kb : ClassId) (c0 c1 c2 : Int32) (h0 : Heap) (n0 : Nat) (Z0 : n0 ≤ h0.size) (A : Arv Z h0 a ka .char (3 : Int32) [.int c0, .int c1, .int c2] (.int (0 : Int32))) (B : Arv Z h0 b kb .byte (3 : Int32) [(.int (0 : Int32)), (.int (0 : Int32)), (.int (0 : Int32))] (.int (0 : Int32))) (gb : n0 ≤ b) (nab : a ≠ b) (hp0 : ¬ (255 : Int32) < c0) (hk : (255 : Int32) < c1) :
    Met l Z consts_1 [b] (⟨"java/lang/StringUTF16", "compress", "([CI[BII)I"⟩ : MethodName) jdk_52_method_21_code 7 (Option.some FieldType.int) [] ({ frames := 0, cells := 0, slots := 0, locals := 0 } : Room) #[(.ref a), (.int (0 : Int32)), (.ref b), (.int (0 : Int32)), (.int (3 : Int32))] h0 n0 (fun v h => v = some (.int (1 : Int32)) ∧ Keep h0 h [b]) := by
  refine Met.of (Ls0 := #[.val (.ref a), .val (.int (0 : Int32)), .val (.ref b), .val (.int (0 : Int32)), .val (.int (3 : Int32)), .unset, .unset]) pl_1 (by first | (simp [argsToLocals, Value.category]; done) | rfl) hel ?_
  intro p e s m below meth c hx hby hml hret hlk hown hnm hZ
  refine Go.iconst (q := 1) (z := (0 : Int32)) hx (hb hby d38_0) rfl rfl ?_
  refine Go.istore (q := 3) (l' := #[.val (.ref a), .val (.int (0 : Int32)), .val (.ref b), .val (.int (0 : Int32)), .val (.int (3 : Int32)), .val (.int (0 : Int32)), .unset]) hx (hb hby d38_1) rfl rfl ?_
  refine Go.iload (q := 5) hx (hb hby d38_3) rfl rfl ?_
  refine Go.iload (q := 7) hx (hb hby d38_5) rfl rfl ?_
  refine Go.icmp_ge (q := 10) (t := 44) hx (hb hby d38_7) (by decide) rfl rfl (fun hc7 => absurd hc7 (by decide)) (fun hc7 => ?_)
  refine Go.aloadN (q := 11) hx (hb hby d38_10) rfl (by rfl) rfl ?_
  refine Go.iloadN (q := 12) hx (hb hby d38_11) rfl rfl ?_
  refine Go.caload (q := 13) (v := (.int c0)) hx hZ A ⟨by decide, by decide⟩ rfl (hb hby d38_12) rfl ?_
  refine Go.istore (q := 15) (l' := #[.val (.ref a), .val (.int (0 : Int32)), .val (.ref b), .val (.int (0 : Int32)), .val (.int (3 : Int32)), .val (.int (0 : Int32)), .val (.int c0)]) hx (hb hby d38_13) rfl rfl ?_
  refine Go.iload (q := 17) hx (hb hby d38_15) rfl rfl ?_
  refine Go.sipush (q := 20) (z := (255 : Int32)) hx (hb hby d38_17) rfl rfl ?_
  refine Go.icmp_le (q := 23) (t := 26) hx (hb hby d38_20) (by decide) rfl rfl (fun hc20 => ?_) (fun hc20 => absurd hc20 hp0)
  refine Go.aloadN (q := 27) hx (hb hby d38_26) rfl (by rfl) rfl ?_
  refine Go.iloadN (q := 28) hx (hb hby d38_27) rfl rfl ?_
  refine Go.iload (q := 30) hx (hb hby d38_28) rfl rfl ?_
  refine Go.i2b (q := 31) hx (hb hby d38_30) rfl ?_
  refine Go.bastore (q := 32) hx hZ B ⟨by decide, by decide⟩ 0 rfl (ble rfl) gb (by simp) (hb hby d38_31) rfl (fun h416 W417 V418 => ?_)
  refine Go.iinc (q := 35) (l' := #[.val (.ref a), .val (.int ((0 : Int32) + (1 : Int32))), .val (.ref b), .val (.int (0 : Int32)), .val (.int (3 : Int32)), .val (.int (0 : Int32)), .val (.int c0)]) hx (hb hby d38_32) rfl rfl rfl ?_
  refine Go.iinc (q := 38) (l' := #[.val (.ref a), .val (.int ((0 : Int32) + (1 : Int32))), .val (.ref b), .val (.int ((0 : Int32) + (1 : Int32))), .val (.int (3 : Int32)), .val (.int (0 : Int32)), .val (.int c0)]) hx (hb hby d38_35) rfl rfl rfl ?_
  refine Go.iinc (q := 41) (l' := #[.val (.ref a), .val (.int ((0 : Int32) + (1 : Int32))), .val (.ref b), .val (.int ((0 : Int32) + (1 : Int32))), .val (.int (3 : Int32)), .val (.int ((0 : Int32) + (1 : Int32))), .val (.int c0)]) hx (hb hby d38_38) rfl rfl rfl ?_
  refine Go.goto (q := 3) hx (hb hby d38_41) (by decide) rfl ?_
  refine Go.iload (q := 5) hx (hb hby d38_3) rfl rfl ?_
  refine Go.iload (q := 7) hx (hb hby d38_5) rfl rfl ?_
  refine Go.icmp_ge (q := 10) (t := 44) hx (hb hby d38_7) (by decide) rfl rfl (fun hc7_1 => absurd hc7_1 (by decide)) (fun hc7_1 => ?_)
  refine Go.aloadN (q := 11) hx (hb hby d38_10) rfl (by rfl) rfl ?_
  refine Go.iloadN (q := 12) hx (hb hby d38_11) rfl rfl ?_
  refine Go.caload (q := 13) (v := (.int c1)) hx hZ (A.other W417 nab) ⟨by decide, by decide⟩ rfl (hb hby d38_12) rfl ?_
  refine Go.istore (q := 15) (l' := #[.val (.ref a), .val (.int ((0 : Int32) + (1 : Int32))), .val (.ref b), .val (.int ((0 : Int32) + (1 : Int32))), .val (.int (3 : Int32)), .val (.int ((0 : Int32) + (1 : Int32))), .val (.int c1)]) hx (hb hby d38_13) rfl rfl ?_
  refine Go.iload (q := 17) hx (hb hby d38_15) rfl rfl ?_
  refine Go.sipush (q := 20) (z := (255 : Int32)) hx (hb hby d38_17) rfl rfl ?_
  refine Go.icmp_le (q := 23) (t := 26) hx (hb hby d38_20) (by decide) rfl rfl (fun hc20_1 => absurd hk hc20_1) (fun hc20_1 => ?_)
  refine Go.iload (q := 25) hx (hb hby d38_23) rfl rfl ?_
  refine Go.retI hx hret hlk (hb hby d38_25) (by decide) (by decide) ?_
  exact ⟨rfl, ((Keep.refl h0 [b]).wr W417 (Or.inl (by simp)))⟩
theorem rmDU3_1 (l : Launch) (Z : State) (a0 : Array Value) (hw : ∀ d ∈ tables_1, d.before a0 Z = true) (hel : EW Z a0 consts_1) (a : Addr) (ka : ClassId) (c0 c1 c2 : Int32) (h0 : Heap) (n0 : Nat) (Z0 : n0 ≤ h0.size) (A : Arv Z h0 a ka .char (3 : Int32) [.int c0, .int c1, .int c2] (.int (0 : Int32))) (hq0 : Chr c0) (hq1 : Chr c1) (hq2 : Chr c2) (hp0 : ¬ (255 : Int32) < c0) (hk : (255 : Int32) < c1) (X0 : Old Z n0 h0) (AD : Sta Z Z.heap "java/lang/StringUTF16" "$assertionsDisabled" "Z" (.int (1 : Int32))) (HB : Sta Z Z.heap "java/lang/StringUTF16" "HI_BYTE_SHIFT" "I" (.int (0 : Int32))) (LB : Sta Z Z.heap "java/lang/StringUTF16" "LO_BYTE_SHIFT" "I" (.int (8 : Int32))) :
    Met l Z consts_1 [] (⟨"java/lang/StringUTF16", "compress", "([CII)[B"⟩ : MethodName) jdk_52_method_16_code 6 (Option.some (FieldType.array FieldType.byte)) [] ({ frames := 3, cells := 2, slots := 9, locals := 58 } : Room) #[(.ref a), (.int (0 : Int32)), (.int (3 : Int32))] h0 n0 (fun v h => ∃ b kb, v = some (.ref b) ∧ h0.size ≤ b ∧ Keep h0 h [] ∧ Arv Z h b kb .byte (6 : Int32) [(.int (nar .byte (c0 >>> ((0 : Int32) &&& 31)).toInt8.toInt32)), (.int (nar .byte (c0 >>> ((8 : Int32) &&& 31)).toInt8.toInt32)), (.int (nar .byte (c1 >>> ((0 : Int32) &&& 31)).toInt8.toInt32)), (.int (nar .byte (c1 >>> ((8 : Int32) &&& 31)).toInt8.toInt32)), (.int (nar .byte (c2 >>> ((0 : Int32) &&& 31)).toInt8.toInt32)), (.int (nar .byte (c2 >>> ((8 : Int32) &&& 31)).toInt8.toInt32))] (.int (0 : Int32))) := by
  refine Met.of (Ls0 := #[.val (.ref a), .val (.int (0 : Int32)), .val (.int (3 : Int32)), .unset, .unset, .unset]) pl_2 (by first | (simp [argsToLocals, Value.category]; done) | rfl) hel ?_
  intro p e s m below meth c hx hby hml hret hlk hown hnm hZ
  refine Go.iloadN (q := 1) hx (hb hby d37_0) rfl rfl ?_
  refine Go.newP (q := 3) (cap := 3) hx hZ (tw hw 7 rfl) (by decide) (by decide) (hb hby d37_1) rfl (by decide) (ce' := 1) (sl' := 3) rfl rfl (by decide) (by decide) (fun h419 a420 k421 g422 E423 A424 => ?_)
  have ne425 : a ≠ a420 := by rw [g422]; exact Nat.ne_of_lt (A).lt
  have gz426 : n0 ≤ a420 := by rw [g422]; exact Z0
  have gk427 : h0.size ≤ a420 := by rw [g422]; exact (Keep.refl h0 []).1
  have V428 : Arv Z h419 a420 k421 .byte (3 : Int32) [(.int (0 : Int32)), (.int (0 : Int32)), (.int (0 : Int32))] (.int (0 : Int32)) := A424.pad (pad_rep [] (.int (0 : Int32)) 3)
  refine Go.astoreN (q := 4) (l' := #[.val (.ref a), .val (.int (0 : Int32)), .val (.int (3 : Int32)), .val (.ref a420), .unset, .unset]) hx (hb hby d37_3) (by rfl) rfl rfl ?_
  refine Go.aloadN (q := 5) hx (hb hby d37_4) rfl (by rfl) rfl ?_
  refine Go.iloadN (q := 6) hx (hb hby d37_5) rfl rfl ?_
  refine Go.aloadN (q := 7) hx (hb hby d37_6) rfl (by rfl) rfl ?_
  refine Go.iconst (q := 8) (z := (0 : Int32)) hx (hb hby d37_7) rfl rfl ?_
  refine Go.iloadN (q := 9) hx (hb hby d37_8) rfl rfl ?_
  refine Go.callS (q := 12) hx hZ (argsL := [(.ref a), (.int (0 : Int32)), (.ref a420), (.int (0 : Int32)), (.int (3 : Int32))]) (rest := []) hown (tw hw 200 rfl) (tw hw 201 rfl) (tw hw 198 rfl) (tw hw 202 rfl) (by decide) (rmCU3_1 l Z a0 hw hel a a420 ka k421 c0 c1 c2 h419 n0 (Nat.le_trans Z0 E423.1) (A.ext E423) V428 gz426 ne425 hp0 hk) (by simp) (by rw [hml]; rfl) pd_0 rfl rfl (hb hby d37_9) rfl (by decide) (ble rfl) (ce' := 1) (sl' := 3) rfl rfl (by decide) (by decide) (fun v429 h430 hQ431 => ?_)
  obtain ⟨rfl, K432⟩ := hQ431
  show Go _ _ _ _ _ _ _ _ _ _ _ _ _ _ _ _ _ _ _ _ 1 3 12 #[.val (.ref a), .val (.int (0 : Int32)), .val (.int (3 : Int32)), .val (.ref a420), .unset, .unset] [(.int (1 : Int32))]
  refine Go.istore (q := 14) (l' := #[.val (.ref a), .val (.int (0 : Int32)), .val (.int (3 : Int32)), .val (.ref a420), .val (.int (1 : Int32)), .unset]) hx (hb hby d37_12) rfl rfl ?_
  refine Go.iload (q := 16) hx (hb hby d37_14) rfl rfl ?_
  refine Go.iloadN (q := 17) hx (hb hby d37_16) rfl rfl ?_
  refine Go.icmp_eq (q := 20) (t := 57) hx (hb hby d37_17) (by decide) rfl rfl (fun hc17 => absurd hc17 (by decide)) (fun hc17 => ?_)
  refine Go.aloadN (q := 21) hx (hb hby d37_20) rfl (by rfl) rfl ?_
  refine Go.iloadN (q := 22) hx (hb hby d37_21) rfl rfl ?_
  refine Go.iloadN (q := 23) hx (hb hby d37_22) rfl rfl ?_
  have gk433 := (Keep.trans ((Keep.refl h0 []).ext E423) K432 (allS (Or.inr gk427) all0)).1
  refine Go.callS (q := 26) hx hZ (argsL := [(.ref a), (.int (0 : Int32)), (.int (3 : Int32))]) (rest := []) hown (tw hw 206 rfl) (tw hw 207 rfl) (tw hw 198 rfl) (tw hw 208 rfl) (by decide) (rmT3 l Z a0 hw hel a ka c0 c1 c2 h430 n0 (Nat.le_trans (Nat.le_trans Z0 E423.1) K432.1) ((A.ext E423).keep K432 (ninS ne425 nin0)) ((X0.ext E423).keep K432 (allS gz426 all0)) AD HB LB) (fun _ hx => nomatch hx) (by rw [hml]; rfl) pd_1 rfl rfl (hb hby d37_23) rfl (by decide) (ble rfl) (ce' := 2) (sl' := 9) rfl rfl (by decide) (by decide) (fun v434 h435 hQ436 => ?_)
  obtain ⟨b437, k438, rfl, g439, K440, V441⟩ := hQ436
  show Go _ _ _ _ _ _ _ _ _ _ _ _ _ _ _ _ _ _ _ _ 2 9 26 #[.val (.ref a), .val (.int (0 : Int32)), .val (.int (3 : Int32)), .val (.ref a420), .val (.int (1 : Int32)), .unset] [(.ref b437)]
  refine Go.astore (q := 28) (l' := #[.val (.ref a), .val (.int (0 : Int32)), .val (.int (3 : Int32)), .val (.ref a420), .val (.int (1 : Int32)), .val (.ref b437)]) hx (hb hby d37_26) (by rfl) rfl rfl ?_
  refine Go.aload (q := 30) hx (hb hby d37_28) rfl (by rfl) rfl ?_
  refine Go.iload (q := 32) hx (hb hby d37_30) rfl rfl ?_
  refine Go.callS (q := 35) hx hZ (argsL := [(.ref b437), (.int (1 : Int32))]) (rest := []) hown (tw hw 222 rfl) (tw hw 223 rfl) (tw hw 198 rfl) (tw hw 224 rfl) (by decide) (rmG3_1 l Z a0 hw hel b437 k438 c0 c1 c2 h435 n0 (Nat.le_trans (Nat.le_trans (Nat.le_trans Z0 E423.1) K432.1) K440.1) V441 hq1 (((X0.ext E423).keep K432 (allS gz426 all0)).keep K440 all0) AD HB LB) (fun _ hx => nomatch hx) (by rw [hml]; rfl) pd_2 rfl rfl (hb hby d37_32) rfl (by decide) (ble rfl) (ce' := 2) (sl' := 9) rfl rfl (by decide) (by decide) (fun v442 h443 hQ444 => ?_)
  obtain ⟨rfl, rfl⟩ := hQ444
  show Go _ _ _ _ _ _ _ _ _ _ _ _ _ _ _ _ _ _ _ _ 2 9 35 #[.val (.ref a), .val (.int (0 : Int32)), .val (.int (3 : Int32)), .val (.ref a420), .val (.int (1 : Int32)), .val (.ref b437)] [(.int c1)]
  refine Go.sipush (q := 38) (z := (255 : Int32)) hx (hb hby d37_35) rfl rfl ?_
  refine Go.icmp_gt (q := 41) (t := 54) hx (hb hby d37_38) (by decide) rfl rfl (fun hc38 => ?_) (fun hc38 => absurd hk hc38)
  refine Go.aload (q := 56) hx (hb hby d37_54) rfl (by rfl) rfl ?_
  refine Go.retA hx hret rfl (by rfl) hlk (hb hby d37_56) (by decide) (by decide) ?_
  exact ⟨b437, _, rfl, (Nat.le_trans gk433 g439), (Keep.trans (Keep.trans ((Keep.refl h0 []).ext E423) K432 (allS (Or.inr gk427) all0)) K440 all0), V441⟩
theorem rmCU3_2 (l : Launch) (Z : State) (a0 : Array Value) (hw : ∀ d ∈ tables_1, d.before a0 Z = true) (hel : EW Z a0 consts_1) (a b : Addr) (ka kb : ClassId) (c0 c1 c2 : Int32) (h0 : Heap) (n0 : Nat) (Z0 : n0 ≤ h0.size) (A : Arv Z h0 a ka .char (3 : Int32) [.int c0, .int c1, .int c2] (.int (0 : Int32))) (B : Arv Z h0 b kb .byte (3 : Int32) [(.int (0 : Int32)), (.int (0 : Int32)), (.int (0 : Int32))] (.int (0 : Int32))) (gb : n0 ≤ b) (nab : a ≠ b) (hp0 : ¬ (255 : Int32) < c0) (hp1 : ¬ (255 : Int32) < c1) (hk : (255 : Int32) < c2) :
    Met l Z consts_1 [b] (⟨"java/lang/StringUTF16", "compress", "([CI[BII)I"⟩ : MethodName) jdk_52_method_21_code 7 (Option.some FieldType.int) [] ({ frames := 0, cells := 0, slots := 0, locals := 0 } : Room) #[(.ref a), (.int (0 : Int32)), (.ref b), (.int (0 : Int32)), (.int (3 : Int32))] h0 n0 (fun v h => v = some (.int (2 : Int32)) ∧ Keep h0 h [b]) := by
  refine Met.of (Ls0 := #[.val (.ref a), .val (.int (0 : Int32)), .val (.ref b), .val (.int (0 : Int32)), .val (.int (3 : Int32)), .unset, .unset]) pl_1 (by first | (simp [argsToLocals, Value.category]; done) | rfl) hel ?_
  intro p e s m below meth c hx hby hml hret hlk hown hnm hZ
  refine Go.iconst (q := 1) (z := (0 : Int32)) hx (hb hby d38_0) rfl rfl ?_
  refine Go.istore (q := 3) (l' := #[.val (.ref a), .val (.int (0 : Int32)), .val (.ref b), .val (.int (0 : Int32)), .val (.int (3 : Int32)), .val (.int (0 : Int32)), .unset]) hx (hb hby d38_1) rfl rfl ?_
  refine Go.iload (q := 5) hx (hb hby d38_3) rfl rfl ?_
  refine Go.iload (q := 7) hx (hb hby d38_5) rfl rfl ?_
  refine Go.icmp_ge (q := 10) (t := 44) hx (hb hby d38_7) (by decide) rfl rfl (fun hc7 => absurd hc7 (by decide)) (fun hc7 => ?_)
  refine Go.aloadN (q := 11) hx (hb hby d38_10) rfl (by rfl) rfl ?_
  refine Go.iloadN (q := 12) hx (hb hby d38_11) rfl rfl ?_
  refine Go.caload (q := 13) (v := (.int c0)) hx hZ A ⟨by decide, by decide⟩ rfl (hb hby d38_12) rfl ?_
  refine Go.istore (q := 15) (l' := #[.val (.ref a), .val (.int (0 : Int32)), .val (.ref b), .val (.int (0 : Int32)), .val (.int (3 : Int32)), .val (.int (0 : Int32)), .val (.int c0)]) hx (hb hby d38_13) rfl rfl ?_
  refine Go.iload (q := 17) hx (hb hby d38_15) rfl rfl ?_
  refine Go.sipush (q := 20) (z := (255 : Int32)) hx (hb hby d38_17) rfl rfl ?_
  refine Go.icmp_le (q := 23) (t := 26) hx (hb hby d38_20) (by decide) rfl rfl (fun hc20 => ?_) (fun hc20 => absurd hc20 hp0)
  refine Go.aloadN (q := 27) hx (hb hby d38_26) rfl (by rfl) rfl ?_
  refine Go.iloadN (q := 28) hx (hb hby d38_27) rfl rfl ?_
  refine Go.iload (q := 30) hx (hb hby d38_28) rfl rfl ?_
  refine Go.i2b (q := 31) hx (hb hby d38_30) rfl ?_
  refine Go.bastore (q := 32) hx hZ B ⟨by decide, by decide⟩ 0 rfl (ble rfl) gb (by simp) (hb hby d38_31) rfl (fun h445 W446 V447 => ?_)
  refine Go.iinc (q := 35) (l' := #[.val (.ref a), .val (.int ((0 : Int32) + (1 : Int32))), .val (.ref b), .val (.int (0 : Int32)), .val (.int (3 : Int32)), .val (.int (0 : Int32)), .val (.int c0)]) hx (hb hby d38_32) rfl rfl rfl ?_
  refine Go.iinc (q := 38) (l' := #[.val (.ref a), .val (.int ((0 : Int32) + (1 : Int32))), .val (.ref b), .val (.int ((0 : Int32) + (1 : Int32))), .val (.int (3 : Int32)), .val (.int (0 : Int32)), .val (.int c0)]) hx (hb hby d38_35) rfl rfl rfl ?_
  refine Go.iinc (q := 41) (l' := #[.val (.ref a), .val (.int ((0 : Int32) + (1 : Int32))), .val (.ref b), .val (.int ((0 : Int32) + (1 : Int32))), .val (.int (3 : Int32)), .val (.int ((0 : Int32) + (1 : Int32))), .val (.int c0)]) hx (hb hby d38_38) rfl rfl rfl ?_
  refine Go.goto (q := 3) hx (hb hby d38_41) (by decide) rfl ?_
  refine Go.iload (q := 5) hx (hb hby d38_3) rfl rfl ?_
  refine Go.iload (q := 7) hx (hb hby d38_5) rfl rfl ?_
  refine Go.icmp_ge (q := 10) (t := 44) hx (hb hby d38_7) (by decide) rfl rfl (fun hc7_1 => absurd hc7_1 (by decide)) (fun hc7_1 => ?_)
  refine Go.aloadN (q := 11) hx (hb hby d38_10) rfl (by rfl) rfl ?_
  refine Go.iloadN (q := 12) hx (hb hby d38_11) rfl rfl ?_
  refine Go.caload (q := 13) (v := (.int c1)) hx hZ (A.other W446 nab) ⟨by decide, by decide⟩ rfl (hb hby d38_12) rfl ?_
  refine Go.istore (q := 15) (l' := #[.val (.ref a), .val (.int ((0 : Int32) + (1 : Int32))), .val (.ref b), .val (.int ((0 : Int32) + (1 : Int32))), .val (.int (3 : Int32)), .val (.int ((0 : Int32) + (1 : Int32))), .val (.int c1)]) hx (hb hby d38_13) rfl rfl ?_
  refine Go.iload (q := 17) hx (hb hby d38_15) rfl rfl ?_
  refine Go.sipush (q := 20) (z := (255 : Int32)) hx (hb hby d38_17) rfl rfl ?_
  refine Go.icmp_le (q := 23) (t := 26) hx (hb hby d38_20) (by decide) rfl rfl (fun hc20_1 => ?_) (fun hc20_1 => absurd hc20_1 hp1)
  refine Go.aloadN (q := 27) hx (hb hby d38_26) rfl (by rfl) rfl ?_
  refine Go.iloadN (q := 28) hx (hb hby d38_27) rfl rfl ?_
  refine Go.iload (q := 30) hx (hb hby d38_28) rfl rfl ?_
  refine Go.i2b (q := 31) hx (hb hby d38_30) rfl ?_
  refine Go.bastore (q := 32) hx hZ V447 ⟨by decide, by decide⟩ 1 rfl (ble rfl) gb (by simp) (hb hby d38_31) rfl (fun h448 W449 V450 => ?_)
  refine Go.iinc (q := 35) (l' := #[.val (.ref a), .val (.int (((0 : Int32) + (1 : Int32)) + (1 : Int32))), .val (.ref b), .val (.int ((0 : Int32) + (1 : Int32))), .val (.int (3 : Int32)), .val (.int ((0 : Int32) + (1 : Int32))), .val (.int c1)]) hx (hb hby d38_32) rfl rfl rfl ?_
  refine Go.iinc (q := 38) (l' := #[.val (.ref a), .val (.int (((0 : Int32) + (1 : Int32)) + (1 : Int32))), .val (.ref b), .val (.int (((0 : Int32) + (1 : Int32)) + (1 : Int32))), .val (.int (3 : Int32)), .val (.int ((0 : Int32) + (1 : Int32))), .val (.int c1)]) hx (hb hby d38_35) rfl rfl rfl ?_
  refine Go.iinc (q := 41) (l' := #[.val (.ref a), .val (.int (((0 : Int32) + (1 : Int32)) + (1 : Int32))), .val (.ref b), .val (.int (((0 : Int32) + (1 : Int32)) + (1 : Int32))), .val (.int (3 : Int32)), .val (.int (((0 : Int32) + (1 : Int32)) + (1 : Int32))), .val (.int c1)]) hx (hb hby d38_38) rfl rfl rfl ?_
  refine Go.goto (q := 3) hx (hb hby d38_41) (by decide) rfl ?_
  refine Go.iload (q := 5) hx (hb hby d38_3) rfl rfl ?_
  refine Go.iload (q := 7) hx (hb hby d38_5) rfl rfl ?_
  refine Go.icmp_ge (q := 10) (t := 44) hx (hb hby d38_7) (by decide) rfl rfl (fun hc7_2 => absurd hc7_2 (by decide)) (fun hc7_2 => ?_)
  refine Go.aloadN (q := 11) hx (hb hby d38_10) rfl (by rfl) rfl ?_
  refine Go.iloadN (q := 12) hx (hb hby d38_11) rfl rfl ?_
  refine Go.caload (q := 13) (v := (.int c2)) hx hZ ((A.other W446 nab).other W449 nab) ⟨by decide, by decide⟩ rfl (hb hby d38_12) rfl ?_
  refine Go.istore (q := 15) (l' := #[.val (.ref a), .val (.int (((0 : Int32) + (1 : Int32)) + (1 : Int32))), .val (.ref b), .val (.int (((0 : Int32) + (1 : Int32)) + (1 : Int32))), .val (.int (3 : Int32)), .val (.int (((0 : Int32) + (1 : Int32)) + (1 : Int32))), .val (.int c2)]) hx (hb hby d38_13) rfl rfl ?_
  refine Go.iload (q := 17) hx (hb hby d38_15) rfl rfl ?_
  refine Go.sipush (q := 20) (z := (255 : Int32)) hx (hb hby d38_17) rfl rfl ?_
  refine Go.icmp_le (q := 23) (t := 26) hx (hb hby d38_20) (by decide) rfl rfl (fun hc20_2 => absurd hk hc20_2) (fun hc20_2 => ?_)
  refine Go.iload (q := 25) hx (hb hby d38_23) rfl rfl ?_
  refine Go.retI hx hret hlk (hb hby d38_25) (by decide) (by decide) ?_
  exact ⟨rfl, (((Keep.refl h0 [b]).wr W446 (Or.inl (by simp))).wr W449 (Or.inl (by simp)))⟩
theorem rmDU3_2 (l : Launch) (Z : State) (a0 : Array Value) (hw : ∀ d ∈ tables_1, d.before a0 Z = true) (hel : EW Z a0 consts_1) (a : Addr) (ka : ClassId) (c0 c1 c2 : Int32) (h0 : Heap) (n0 : Nat) (Z0 : n0 ≤ h0.size) (A : Arv Z h0 a ka .char (3 : Int32) [.int c0, .int c1, .int c2] (.int (0 : Int32))) (hq0 : Chr c0) (hq1 : Chr c1) (hq2 : Chr c2) (hp0 : ¬ (255 : Int32) < c0) (hp1 : ¬ (255 : Int32) < c1) (hk : (255 : Int32) < c2) (X0 : Old Z n0 h0) (AD : Sta Z Z.heap "java/lang/StringUTF16" "$assertionsDisabled" "Z" (.int (1 : Int32))) (HB : Sta Z Z.heap "java/lang/StringUTF16" "HI_BYTE_SHIFT" "I" (.int (0 : Int32))) (LB : Sta Z Z.heap "java/lang/StringUTF16" "LO_BYTE_SHIFT" "I" (.int (8 : Int32))) :
    Met l Z consts_1 [] (⟨"java/lang/StringUTF16", "compress", "([CII)[B"⟩ : MethodName) jdk_52_method_16_code 6 (Option.some (FieldType.array FieldType.byte)) [] ({ frames := 3, cells := 2, slots := 9, locals := 58 } : Room) #[(.ref a), (.int (0 : Int32)), (.int (3 : Int32))] h0 n0 (fun v h => ∃ b kb, v = some (.ref b) ∧ h0.size ≤ b ∧ Keep h0 h [] ∧ Arv Z h b kb .byte (6 : Int32) [(.int (nar .byte (c0 >>> ((0 : Int32) &&& 31)).toInt8.toInt32)), (.int (nar .byte (c0 >>> ((8 : Int32) &&& 31)).toInt8.toInt32)), (.int (nar .byte (c1 >>> ((0 : Int32) &&& 31)).toInt8.toInt32)), (.int (nar .byte (c1 >>> ((8 : Int32) &&& 31)).toInt8.toInt32)), (.int (nar .byte (c2 >>> ((0 : Int32) &&& 31)).toInt8.toInt32)), (.int (nar .byte (c2 >>> ((8 : Int32) &&& 31)).toInt8.toInt32))] (.int (0 : Int32))) := by
  refine Met.of (Ls0 := #[.val (.ref a), .val (.int (0 : Int32)), .val (.int (3 : Int32)), .unset, .unset, .unset]) pl_2 (by first | (simp [argsToLocals, Value.category]; done) | rfl) hel ?_
  intro p e s m below meth c hx hby hml hret hlk hown hnm hZ
  refine Go.iloadN (q := 1) hx (hb hby d37_0) rfl rfl ?_
  refine Go.newP (q := 3) (cap := 3) hx hZ (tw hw 7 rfl) (by decide) (by decide) (hb hby d37_1) rfl (by decide) (ce' := 1) (sl' := 3) rfl rfl (by decide) (by decide) (fun h451 a452 k453 g454 E455 A456 => ?_)
  have ne457 : a ≠ a452 := by rw [g454]; exact Nat.ne_of_lt (A).lt
  have gz458 : n0 ≤ a452 := by rw [g454]; exact Z0
  have gk459 : h0.size ≤ a452 := by rw [g454]; exact (Keep.refl h0 []).1
  have V460 : Arv Z h451 a452 k453 .byte (3 : Int32) [(.int (0 : Int32)), (.int (0 : Int32)), (.int (0 : Int32))] (.int (0 : Int32)) := A456.pad (pad_rep [] (.int (0 : Int32)) 3)
  refine Go.astoreN (q := 4) (l' := #[.val (.ref a), .val (.int (0 : Int32)), .val (.int (3 : Int32)), .val (.ref a452), .unset, .unset]) hx (hb hby d37_3) (by rfl) rfl rfl ?_
  refine Go.aloadN (q := 5) hx (hb hby d37_4) rfl (by rfl) rfl ?_
  refine Go.iloadN (q := 6) hx (hb hby d37_5) rfl rfl ?_
  refine Go.aloadN (q := 7) hx (hb hby d37_6) rfl (by rfl) rfl ?_
  refine Go.iconst (q := 8) (z := (0 : Int32)) hx (hb hby d37_7) rfl rfl ?_
  refine Go.iloadN (q := 9) hx (hb hby d37_8) rfl rfl ?_
  refine Go.callS (q := 12) hx hZ (argsL := [(.ref a), (.int (0 : Int32)), (.ref a452), (.int (0 : Int32)), (.int (3 : Int32))]) (rest := []) hown (tw hw 200 rfl) (tw hw 201 rfl) (tw hw 198 rfl) (tw hw 202 rfl) (by decide) (rmCU3_2 l Z a0 hw hel a a452 ka k453 c0 c1 c2 h451 n0 (Nat.le_trans Z0 E455.1) (A.ext E455) V460 gz458 ne457 hp0 hp1 hk) (by simp) (by rw [hml]; rfl) pd_0 rfl rfl (hb hby d37_9) rfl (by decide) (ble rfl) (ce' := 1) (sl' := 3) rfl rfl (by decide) (by decide) (fun v461 h462 hQ463 => ?_)
  obtain ⟨rfl, K464⟩ := hQ463
  show Go _ _ _ _ _ _ _ _ _ _ _ _ _ _ _ _ _ _ _ _ 1 3 12 #[.val (.ref a), .val (.int (0 : Int32)), .val (.int (3 : Int32)), .val (.ref a452), .unset, .unset] [(.int (2 : Int32))]
  refine Go.istore (q := 14) (l' := #[.val (.ref a), .val (.int (0 : Int32)), .val (.int (3 : Int32)), .val (.ref a452), .val (.int (2 : Int32)), .unset]) hx (hb hby d37_12) rfl rfl ?_
  refine Go.iload (q := 16) hx (hb hby d37_14) rfl rfl ?_
  refine Go.iloadN (q := 17) hx (hb hby d37_16) rfl rfl ?_
  refine Go.icmp_eq (q := 20) (t := 57) hx (hb hby d37_17) (by decide) rfl rfl (fun hc17 => absurd hc17 (by decide)) (fun hc17 => ?_)
  refine Go.aloadN (q := 21) hx (hb hby d37_20) rfl (by rfl) rfl ?_
  refine Go.iloadN (q := 22) hx (hb hby d37_21) rfl rfl ?_
  refine Go.iloadN (q := 23) hx (hb hby d37_22) rfl rfl ?_
  have gk465 := (Keep.trans ((Keep.refl h0 []).ext E455) K464 (allS (Or.inr gk459) all0)).1
  refine Go.callS (q := 26) hx hZ (argsL := [(.ref a), (.int (0 : Int32)), (.int (3 : Int32))]) (rest := []) hown (tw hw 206 rfl) (tw hw 207 rfl) (tw hw 198 rfl) (tw hw 208 rfl) (by decide) (rmT3 l Z a0 hw hel a ka c0 c1 c2 h462 n0 (Nat.le_trans (Nat.le_trans Z0 E455.1) K464.1) ((A.ext E455).keep K464 (ninS ne457 nin0)) ((X0.ext E455).keep K464 (allS gz458 all0)) AD HB LB) (fun _ hx => nomatch hx) (by rw [hml]; rfl) pd_1 rfl rfl (hb hby d37_23) rfl (by decide) (ble rfl) (ce' := 2) (sl' := 9) rfl rfl (by decide) (by decide) (fun v466 h467 hQ468 => ?_)
  obtain ⟨b469, k470, rfl, g471, K472, V473⟩ := hQ468
  show Go _ _ _ _ _ _ _ _ _ _ _ _ _ _ _ _ _ _ _ _ 2 9 26 #[.val (.ref a), .val (.int (0 : Int32)), .val (.int (3 : Int32)), .val (.ref a452), .val (.int (2 : Int32)), .unset] [(.ref b469)]
  refine Go.astore (q := 28) (l' := #[.val (.ref a), .val (.int (0 : Int32)), .val (.int (3 : Int32)), .val (.ref a452), .val (.int (2 : Int32)), .val (.ref b469)]) hx (hb hby d37_26) (by rfl) rfl rfl ?_
  refine Go.aload (q := 30) hx (hb hby d37_28) rfl (by rfl) rfl ?_
  refine Go.iload (q := 32) hx (hb hby d37_30) rfl rfl ?_
  refine Go.callS (q := 35) hx hZ (argsL := [(.ref b469), (.int (2 : Int32))]) (rest := []) hown (tw hw 222 rfl) (tw hw 223 rfl) (tw hw 198 rfl) (tw hw 224 rfl) (by decide) (rmG3_2 l Z a0 hw hel b469 k470 c0 c1 c2 h467 n0 (Nat.le_trans (Nat.le_trans (Nat.le_trans Z0 E455.1) K464.1) K472.1) V473 hq2 (((X0.ext E455).keep K464 (allS gz458 all0)).keep K472 all0) AD HB LB) (fun _ hx => nomatch hx) (by rw [hml]; rfl) pd_2 rfl rfl (hb hby d37_32) rfl (by decide) (ble rfl) (ce' := 2) (sl' := 9) rfl rfl (by decide) (by decide) (fun v474 h475 hQ476 => ?_)
  obtain ⟨rfl, rfl⟩ := hQ476
  show Go _ _ _ _ _ _ _ _ _ _ _ _ _ _ _ _ _ _ _ _ 2 9 35 #[.val (.ref a), .val (.int (0 : Int32)), .val (.int (3 : Int32)), .val (.ref a452), .val (.int (2 : Int32)), .val (.ref b469)] [(.int c2)]
  refine Go.sipush (q := 38) (z := (255 : Int32)) hx (hb hby d37_35) rfl rfl ?_
  refine Go.icmp_gt (q := 41) (t := 54) hx (hb hby d37_38) (by decide) rfl rfl (fun hc38 => ?_) (fun hc38 => absurd hk hc38)
  refine Go.aload (q := 56) hx (hb hby d37_54) rfl (by rfl) rfl ?_
  refine Go.retA hx hret rfl (by rfl) hlk (hb hby d37_56) (by decide) (by decide) ?_
  exact ⟨b469, _, rfl, (Nat.le_trans gk465 g471), (Keep.trans (Keep.trans ((Keep.refl h0 []).ext E455) K464 (allS (Or.inr gk459) all0)) K472 all0), V473⟩
theorem rmDU3 (l : Launch) (Z : State) (a0 : Array Value) (hw : ∀ d ∈ tables_1, d.before a0 Z = true) (hel : EW Z a0 consts_1) (a : Addr) (ka : ClassId) (c0 c1 c2 : Int32) (h0 : Heap) (n0 : Nat) (Z0 : n0 ≤ h0.size) (A : Arv Z h0 a ka .char (3 : Int32) [.int c0, .int c1, .int c2] (.int (0 : Int32))) (hq0 : Chr c0) (hq1 : Chr c1) (hq2 : Chr c2) (hU : ((255 : Int32) < c0) ∨ (¬ (255 : Int32) < c0 ∧ (255 : Int32) < c1) ∨ (¬ (255 : Int32) < c0 ∧ ¬ (255 : Int32) < c1 ∧ (255 : Int32) < c2)) (X0 : Old Z n0 h0) (AD : Sta Z Z.heap "java/lang/StringUTF16" "$assertionsDisabled" "Z" (.int (1 : Int32))) (HB : Sta Z Z.heap "java/lang/StringUTF16" "HI_BYTE_SHIFT" "I" (.int (0 : Int32))) (LB : Sta Z Z.heap "java/lang/StringUTF16" "LO_BYTE_SHIFT" "I" (.int (8 : Int32))) :
    Met l Z consts_1 [] (⟨"java/lang/StringUTF16", "compress", "([CII)[B"⟩ : MethodName) jdk_52_method_16_code 6 (Option.some (FieldType.array FieldType.byte)) [] ({ frames := 3, cells := 2, slots := 9, locals := 58 } : Room) #[(.ref a), (.int (0 : Int32)), (.int (3 : Int32))] h0 n0 (fun v h => ∃ b kb, v = some (.ref b) ∧ h0.size ≤ b ∧ Keep h0 h [] ∧ Arv Z h b kb .byte (6 : Int32) [(.int (nar .byte (c0 >>> ((0 : Int32) &&& 31)).toInt8.toInt32)), (.int (nar .byte (c0 >>> ((8 : Int32) &&& 31)).toInt8.toInt32)), (.int (nar .byte (c1 >>> ((0 : Int32) &&& 31)).toInt8.toInt32)), (.int (nar .byte (c1 >>> ((8 : Int32) &&& 31)).toInt8.toInt32)), (.int (nar .byte (c2 >>> ((0 : Int32) &&& 31)).toInt8.toInt32)), (.int (nar .byte (c2 >>> ((8 : Int32) &&& 31)).toInt8.toInt32))] (.int (0 : Int32))) := by
  rcases hU with hk | ⟨hp0, hk⟩ | ⟨hp0, hp1, hk⟩
  · exact rmDU3_0 l Z a0 hw hel a ka c0 c1 c2 h0 n0 Z0 A hq0 hq1 hq2  hk X0 AD HB LB
  · exact rmDU3_1 l Z a0 hw hel a ka c0 c1 c2 h0 n0 Z0 A hq0 hq1 hq2 hp0 hk X0 AD HB LB
  · exact rmDU3_2 l Z a0 hw hel a ka c0 c1 c2 h0 n0 Z0 A hq0 hq1 hq2 hp0 hp1 hk X0 AD HB LB
theorem rmKU3 (l : Launch) (Z : State) (a0 : Array Value) (hw : ∀ d ∈ tables_1, d.before a0 Z = true) (hel : EW Z a0 consts_1) (b : Addr) (kb : ClassId) (vs : List Value) (h0 : Heap) (n0 : Nat) (Z0 : n0 ≤ h0.size) (B : Arv Z h0 b kb .byte (6 : Int32) vs (.int (0 : Int32))) :
    Met l Z consts_1 [] (⟨"java/lang/StringUTF16", "coderFromArrayLen", "([BI)B"⟩ : MethodName) jdk_52_method_15_code 2 (Option.some FieldType.byte) [] ({ frames := 0, cells := 0, slots := 0, locals := 0 } : Room) #[(.ref b), (.int (3 : Int32))] h0 n0 (fun v h => v = some (.int (1 : Int32)) ∧ h0 = h) := by
  refine Met.of (Ls0 := #[.val (.ref b), .val (.int (3 : Int32))]) pl_0 (by first | (simp [argsToLocals, Value.category]; done) | rfl) hel ?_
  intro p e s m below meth c hx hby hml hret hlk hown hnm hZ
  refine Go.iloadN (q := 1) hx (hb hby d39_0) rfl rfl ?_
  refine Go.aloadN (q := 2) hx (hb hby d39_1) rfl (by rfl) rfl ?_
  refine Go.alen (q := 3) hx hZ B (hb hby d39_2) rfl ?_
  refine Go.isub (q := 4) hx (hb hby d39_3) rfl ?_
  refine Go.bipush (q := 6) (z := (31 : Int32)) hx (hb hby d39_4) rfl rfl ?_
  refine Go.iushr (q := 7) hx (hb hby d39_6) rfl ?_
  refine Go.i2b (q := 8) hx (hb hby d39_7) rfl ?_
  refine Go.retN hx (t := .byte) hret (by simp) hlk (hb hby d39_8) (by decide) (by decide) ?_
  exact ⟨congrArg (fun z => some (Value.int z)) (by decide), rfl⟩
theorem rmSU3 (l : Launch) (Z : State) (a0 : Array Value) (hw : ∀ d ∈ tables_1, d.before a0 Z = true) (hel : EW Z a0 consts_1) (sa a : Addr) (ka : ClassId) (cst : Int32) (c0 c1 c2 : Int32) (h0 : Heap) (n0 : Nat) (Z0 : n0 ≤ h0.size) (gs : n0 ≤ sa) (nas : a ≠ sa) (E : Exa Z h0 sa "java/lang/String") (F1 : Fld Z h0 sa "java/lang/String" "value" "[B" .null) (F2 : Fld Z h0 sa "java/lang/String" "coder" "B" (.int (0 : Int32))) (A : Arv Z h0 a ka .char (3 : Int32) [.int c0, .int c1, .int c2] (.int (0 : Int32))) (hq0 : Chr c0) (hq1 : Chr c1) (hq2 : Chr c2) (hU : ((255 : Int32) < c0) ∨ (¬ (255 : Int32) < c0 ∧ (255 : Int32) < c1) ∨ (¬ (255 : Int32) < c0 ∧ ¬ (255 : Int32) < c1 ∧ (255 : Int32) < c2)) (X0 : Old Z n0 h0) (SC : Sta Z Z.heap "java/lang/String" "COMPACT_STRINGS" "Z" (.int cst)) (hcs : ¬ cst = (0 : Int32)) (AD : Sta Z Z.heap "java/lang/StringUTF16" "$assertionsDisabled" "Z" (.int (1 : Int32))) (HB : Sta Z Z.heap "java/lang/StringUTF16" "HI_BYTE_SHIFT" "I" (.int (0 : Int32))) (LB : Sta Z Z.heap "java/lang/StringUTF16" "LO_BYTE_SHIFT" "I" (.int (8 : Int32))) :
    Met l Z consts_1 [sa] (⟨"java/lang/String", "<init>", "([CIILjava/lang/Void;)V"⟩ : MethodName) jdk_42_method_149_code 6 (Option.none : Option FieldType) [] ({ frames := 4, cells := 2, slots := 9, locals := 81 } : Room) #[(.ref sa), (.ref a), (.int (0 : Int32)), (.int (3 : Int32)), .null] h0 n0 (fun v h => v = none ∧ Keep h0 h [sa] ∧ ∃ b kb, h0.size ≤ b ∧ Fld Z h sa "java/lang/String" "value" "[B" (.ref b) ∧ Fld Z h sa "java/lang/String" "coder" "B" (.int (1 : Int32)) ∧ Arv Z h b kb .byte (6 : Int32) [(.int (nar .byte (c0 >>> ((0 : Int32) &&& 31)).toInt8.toInt32)), (.int (nar .byte (c0 >>> ((8 : Int32) &&& 31)).toInt8.toInt32)), (.int (nar .byte (c1 >>> ((0 : Int32) &&& 31)).toInt8.toInt32)), (.int (nar .byte (c1 >>> ((8 : Int32) &&& 31)).toInt8.toInt32)), (.int (nar .byte (c2 >>> ((0 : Int32) &&& 31)).toInt8.toInt32)), (.int (nar .byte (c2 >>> ((8 : Int32) &&& 31)).toInt8.toInt32))] (.int (0 : Int32))) := by
  refine Met.of (Ls0 := #[.val (.ref sa), .val (.ref a), .val (.int (0 : Int32)), .val (.int (3 : Int32)), .val .null, .unset]) pl_3 (by first | (simp [argsToLocals, Value.category]; done) | rfl) hel ?_
  have hSA : ∀ d ∈ Bundle.stringAtoms, d.before a0 Z = true := fun d hd => hw d ((by decide +kernel : ∀ d ∈ Bundle.stringAtoms, d ∈ tables_1) d hd)
  intro p e s m below meth c hx hby hml hret hlk hown hnm hZ
  refine Go.aloadN (q := 1) hx (hb hby d36_0) rfl (by rfl) rfl ?_
  refine Go.initO (q := 4) hx hZ hown (tw hw 133 rfl) (tw hw 19 rfl) (tw hw 20 rfl) (by rw [hml]; rfl) (hb hby d36_1) rfl (by decide) (ble rfl) ?_
  refine Go.iloadN (q := 5) hx (hb hby d36_4) rfl rfl ?_
  refine Go.if_ne (q := 8) (t := 27) hx (hb hby d36_5) (by decide) rfl rfl (fun hc5 => ?_) (fun hc5 => absurd hc5 (by decide))
  refine Go.getS (q := 30) hx hZ hown (host := "") (Or.inl (tw hw 68 rfl)) Via.refl (Sta.ext X0.2 SC) (hb hby d36_27) rfl ?_
  refine Go.if_eq (q := 33) (t := 58) hx (hb hby d36_30) (by decide) rfl rfl (fun hc30 => absurd hc30 hcs) (fun hc30 => ?_)
  refine Go.aloadN (q := 34) hx (hb hby d36_33) rfl (by rfl) rfl ?_
  refine Go.iloadN (q := 35) hx (hb hby d36_34) rfl rfl ?_
  refine Go.iloadN (q := 36) hx (hb hby d36_35) rfl rfl ?_
  refine Go.callS (q := 39) hx hZ (argsL := [(.ref a), (.int (0 : Int32)), (.int (3 : Int32))]) (rest := []) hown (tw hw 196 rfl) (tw hw 197 rfl) (tw hw 198 rfl) (tw hw 199 rfl) (by decide) (rmDU3 l Z a0 hw hel a ka c0 c1 c2 h0 n0 Z0 A hq0 hq1 hq2 hU X0 AD HB LB) (fun _ hx => nomatch hx) (by rw [hml]; rfl) pd_1 rfl rfl (hb hby d36_36) rfl (by decide) (ble rfl) (ce' := 2) (sl' := 9) rfl rfl (by decide) (by decide) (fun v477 h478 hQ479 => ?_)
  have lt485 := (E).lt
  obtain ⟨b480, k481, rfl, g482, K483, V484⟩ := hQ479
  have ne486 : sa ≠ b480 := Nat.ne_of_lt (Nat.lt_of_lt_of_le lt485 g482)
  show Go _ _ _ _ _ _ _ _ _ _ _ _ _ _ _ _ _ _ _ _ 2 9 39 #[.val (.ref sa), .val (.ref a), .val (.int (0 : Int32)), .val (.int (3 : Int32)), .val .null, .unset] [(.ref b480)]
  refine Go.astore (q := 41) (l' := #[.val (.ref sa), .val (.ref a), .val (.int (0 : Int32)), .val (.int (3 : Int32)), .val .null, .val (.ref b480)]) hx (hb hby d36_39) (by rfl) rfl rfl ?_
  refine Go.aloadN (q := 42) hx (hb hby d36_41) rfl (by rfl) rfl ?_
  refine Go.aload (q := 44) hx (hb hby d36_42) rfl (by rfl) rfl ?_
  refine Go.iloadN (q := 45) hx (hb hby d36_44) rfl rfl ?_
  refine Go.callS (q := 48) hx hZ (argsL := [(.ref b480), (.int (3 : Int32))]) (rest := [(.ref sa)]) hown (tw hw 203 rfl) (tw hw 204 rfl) (tw hw 198 rfl) (tw hw 205 rfl) (by decide) (rmKU3 l Z a0 hw hel b480 k481 _ h478 n0 (Nat.le_trans Z0 K483.1) V484) (fun _ hx => nomatch hx) (by rw [hml]; rfl) pd_4 rfl rfl (hb hby d36_45) rfl (by decide) (ble rfl) (ce' := 2) (sl' := 9) rfl rfl (by decide) (by decide) (fun v487 h488 hQ489 => ?_)
  obtain ⟨rfl, rfl⟩ := hQ489
  show Go _ _ _ _ _ _ _ _ _ _ _ _ _ _ _ _ _ _ _ _ 2 9 48 #[.val (.ref sa), .val (.ref a), .val (.int (0 : Int32)), .val (.int (3 : Int32)), .val .null, .val (.ref b480)] [(.int (1 : Int32)), (.ref sa)]
  refine Go.putF (q := 51) hx hZ hown (host := "") (Or.inl (tw hw 69 rfl)) Via.refl (F2.keep K483 nin0) (E.keep K483) (Or.inr ⟨(tw hw 9 rfl), rfl, hnm⟩) (tw hw 6 rfl) (ty := .byte) (by decide) rfl rfl gs (by simp) (hb hby d36_48) rfl (fun h490 W491 => ?_)
  refine Go.aloadN (q := 52) hx (hb hby d36_51) rfl (by rfl) rfl ?_
  refine Go.aload (q := 54) hx (hb hby d36_52) rfl (by rfl) rfl ?_
  refine Go.putF (q := 57) hx hZ hown (host := "") (Or.inl (tw hw 62 rfl)) Via.refl (Fld.other W491 (F1.keep K483 nin0) (Or.inr (slot_ne (C := "java/lang/String") (Or.inr (tw hw 8 rfl)) (Or.inr (tw hw 9 rfl)) (by decide) (by decide : _ = some (.array .byte)) (by decide : _ = some .byte)))) (Exa.wr W491 (E.keep K483)) (Or.inr ⟨(tw hw 8 rfl), rfl, hnm⟩) (tw hw 6 rfl) (ty := (.array .byte)) (by decide) rfl rfl gs (by simp) (hb hby d36_54) rfl (fun h492 W493 => ?_)
  refine Go.ret0 hx hret hlk (hb hby d36_57) (by decide) (by decide) ?_
  exact ⟨rfl, (((Keep.trans (Keep.refl h0 [sa]) K483 all0).wr W491 (Or.inl (by simp))).wr W493 (Or.inl (by simp))), b480, k481, g482, (Fld.same W493 (Fld.other W491 (F1.keep K483 nin0) (Or.inr (slot_ne (C := "java/lang/String") (Or.inr (tw hw 8 rfl)) (Or.inr (tw hw 9 rfl)) (by decide) (by decide : _ = some (.array .byte)) (by decide : _ = some .byte))))), (Fld.other W493 (Fld.same W491 (F2.keep K483 nin0)) (Or.inr (slot_ne (C := "java/lang/String") (Or.inr (tw hw 9 rfl)) (Or.inr (tw hw 8 rfl)) (by decide) (by decide : _ = some .byte) (by decide : _ = some (.array .byte))))), ((V484.other W491 ne486.symm).other W493 ne486.symm)⟩
theorem rmIU3 (l : Launch) (Z : State) (a0 : Array Value) (hw : ∀ d ∈ tables_1, d.before a0 Z = true) (hel : EW Z a0 consts_1) (sa a : Addr) (ka : ClassId) (cst : Int32) (c0 c1 c2 : Int32) (h0 : Heap) (n0 : Nat) (Z0 : n0 ≤ h0.size) (gs : n0 ≤ sa) (nas : a ≠ sa) (E : Exa Z h0 sa "java/lang/String") (F1 : Fld Z h0 sa "java/lang/String" "value" "[B" .null) (F2 : Fld Z h0 sa "java/lang/String" "coder" "B" (.int (0 : Int32))) (A : Arv Z h0 a ka .char (3 : Int32) [.int c0, .int c1, .int c2] (.int (0 : Int32))) (hq0 : Chr c0) (hq1 : Chr c1) (hq2 : Chr c2) (hU : ((255 : Int32) < c0) ∨ (¬ (255 : Int32) < c0 ∧ (255 : Int32) < c1) ∨ (¬ (255 : Int32) < c0 ∧ ¬ (255 : Int32) < c1 ∧ (255 : Int32) < c2)) (X0 : Old Z n0 h0) (SC : Sta Z Z.heap "java/lang/String" "COMPACT_STRINGS" "Z" (.int cst)) (hcs : ¬ cst = (0 : Int32)) (AD : Sta Z Z.heap "java/lang/StringUTF16" "$assertionsDisabled" "Z" (.int (1 : Int32))) (HB : Sta Z Z.heap "java/lang/StringUTF16" "HI_BYTE_SHIFT" "I" (.int (0 : Int32))) (LB : Sta Z Z.heap "java/lang/StringUTF16" "LO_BYTE_SHIFT" "I" (.int (8 : Int32))) :
    Met l Z consts_1 [sa] (⟨"java/lang/String", "<init>", "([C)V"⟩ : MethodName) jdk_42_method_3_code 2 (Option.none : Option FieldType) [] ({ frames := 5, cells := 2, slots := 9, locals := 104 } : Room) #[(.ref sa), (.ref a)] h0 n0 (fun v h => v = none ∧ Keep h0 h [sa] ∧ ∃ b kb, h0.size ≤ b ∧ Fld Z h sa "java/lang/String" "value" "[B" (.ref b) ∧ Fld Z h sa "java/lang/String" "coder" "B" (.int (1 : Int32)) ∧ Arv Z h b kb .byte (6 : Int32) [(.int (nar .byte (c0 >>> ((0 : Int32) &&& 31)).toInt8.toInt32)), (.int (nar .byte (c0 >>> ((8 : Int32) &&& 31)).toInt8.toInt32)), (.int (nar .byte (c1 >>> ((0 : Int32) &&& 31)).toInt8.toInt32)), (.int (nar .byte (c1 >>> ((8 : Int32) &&& 31)).toInt8.toInt32)), (.int (nar .byte (c2 >>> ((0 : Int32) &&& 31)).toInt8.toInt32)), (.int (nar .byte (c2 >>> ((8 : Int32) &&& 31)).toInt8.toInt32))] (.int (0 : Int32))) := by
  refine Met.of (Ls0 := #[.val (.ref sa), .val (.ref a)]) pl_4 (by first | (simp [argsToLocals, Value.category]; done) | rfl) hel ?_
  intro p e s m below meth c hx hby hml hret hlk hown hnm hZ
  refine Go.aloadN (q := 1) hx (hb hby d35_0) rfl (by rfl) rfl ?_
  refine Go.aloadN (q := 2) hx (hb hby d35_1) rfl (by rfl) rfl ?_
  refine Go.iconst (q := 3) (z := (0 : Int32)) hx (hb hby d35_2) rfl rfl ?_
  refine Go.aloadN (q := 4) hx (hb hby d35_3) rfl (by rfl) rfl ?_
  refine Go.alen (q := 5) hx hZ A (hb hby d35_4) rfl ?_
  refine Go.aconstNull (q := 6) hx (hb hby d35_5) rfl ?_
  refine Go.callI (q := 9) hx hZ (a := sa) (argsL := [(.ref a), (.int (0 : Int32)), (.int (3 : Int32)), .null]) (rest := []) hown rfl (tw hw 193 rfl) (tw hw 194 rfl) (tw hw 5 rfl) (tw hw 195 rfl) (by decide) (rmSU3 l Z a0 hw hel sa a ka cst c0 c1 c2 h0 n0 Z0 gs nas E F1 F2 A hq0 hq1 hq2 hU X0 SC hcs AD HB LB) (by simp) (by rw [hml]; rfl) pd_5 rfl rfl (hb hby d35_6) rfl (by decide) (ble rfl) (ce' := 2) (sl' := 9) rfl rfl (by decide) (by decide) (fun v494 h495 hQ496 => ?_)
  obtain ⟨rfl, K497, Y498⟩ := hQ496
  show Go _ _ _ _ _ _ _ _ _ _ _ _ _ _ _ _ _ _ _ _ 2 9 9 #[.val (.ref sa), .val (.ref a)] []
  refine Go.ret0 hx hret hlk (hb hby d35_9) (by decide) (by decide) ?_
  exact ⟨rfl, (Keep.trans (Keep.refl h0 [sa]) K497 (allS (Or.inl (by simp)) all0)), Y498⟩
theorem lu3 (c0 c1 c2 : Int32) : (¬ (255 : Int32) < c0 ∧ ¬ (255 : Int32) < c1 ∧ ¬ (255 : Int32) < c2) ∨ (((255 : Int32) < c0) ∨ (¬ (255 : Int32) < c0 ∧ (255 : Int32) < c1) ∨ (¬ (255 : Int32) < c0 ∧ ¬ (255 : Int32) < c1 ∧ (255 : Int32) < c2)) := if h0 : (255 : Int32) < c0 then Or.inr (Or.inl h0) else if h1 : (255 : Int32) < c1 then Or.inr (Or.inr (Or.inl ⟨h0, h1⟩)) else if h2 : (255 : Int32) < c2 then Or.inr (Or.inr (Or.inr ⟨h0, h1, h2⟩)) else Or.inl ⟨h0, h1, h2⟩
theorem d34_0 : decode jdk_41_method_11_code 0 = .ok (.iload_n 0, 1) := by decide +kernel
theorem d34_1 : decode jdk_41_method_11_code 1 = .ok (.ifCond .lt 8, 3) := by decide +kernel
theorem d34_4 : decode jdk_41_method_11_code 4 = .ok (.iload_n 0, 1) := by decide +kernel
theorem d34_5 : decode jdk_41_method_11_code 5 = .ok (.iload_n 1, 1) := by decide +kernel
theorem d34_6 : decode jdk_41_method_11_code 6 = .ok (.if_icmp .lt 10, 3) := by decide +kernel
theorem d34_9 : decode jdk_41_method_11_code 9 = .ok (.aload_n 2, 1) := by decide +kernel
theorem d34_10 : decode jdk_41_method_11_code 10 = .ok (.iload_n 0, 1) := by decide +kernel
theorem d34_11 : decode jdk_41_method_11_code 11 = .ok (.iload_n 1, 1) := by decide +kernel
theorem d34_12 : decode jdk_41_method_11_code 12 = .ok (.invokestatic 95, 3) := by decide +kernel
theorem d34_15 : decode jdk_41_method_11_code 15 = .ok (.athrow, 1) := by decide +kernel
theorem d34_16 : decode jdk_41_method_11_code 16 = .ok (.iload_n 0, 1) := by decide +kernel
theorem d34_17 : decode jdk_41_method_11_code 17 = .ok (.ireturn, 1) := by decide +kernel
theorem pl_10 : plainFor (⟨"jdk/internal/util/Preconditions", "checkIndex", "(IILjava/util/function/BiFunction;)I"⟩ : MethodName) = true := plainFor_of_name (by first | (simp [plainName, overriddenIn]; done) | decide +kernel)
theorem rmPC (l : Launch) (Z : State) (a0 : Array Value) (hw : ∀ d ∈ tables_1, d.before a0 Z = true) (hel : EW Z a0 consts_1) (i n : Int32) (fv : Value) (h0 : Heap) (n0 : Nat) (Z0 : n0 ≤ h0.size) (h1 : ¬ i < 0) (h2 : i < n) (hfv : fv.isRef = true) :
    Met l Z consts_1 [] (⟨"jdk/internal/util/Preconditions", "checkIndex", "(IILjava/util/function/BiFunction;)I"⟩ : MethodName) jdk_41_method_11_code 3 (Option.some FieldType.int) [] ({ frames := 0, cells := 0, slots := 0, locals := 0 } : Room) #[(.int i), (.int n), fv] h0 n0 (fun v h => v = some (.int i) ∧ h0 = h) := by
  refine Met.of (Ls0 := #[.val (.int i), .val (.int n), .val fv]) pl_10 (by rcases ref_cases hfv with rfl | ⟨_, rfl⟩ <;> first | (simp [argsToLocals, Value.category]; done) | rfl) hel ?_
  intro p e s m below meth c hx hby hml hret hlk hown hnm hZ
  refine Go.iloadN (q := 1) hx (hb hby d34_0) rfl rfl ?_
  refine Go.if_lt (q := 4) (t := 9) hx (hb hby d34_1) (by decide) rfl rfl (fun hc1 => absurd hc1 h1) (fun hc1 => ?_)
  refine Go.iloadN (q := 5) hx (hb hby d34_4) rfl rfl ?_
  refine Go.iloadN (q := 6) hx (hb hby d34_5) rfl rfl ?_
  refine Go.icmp_lt (q := 9) (t := 16) hx (hb hby d34_6) (by decide) rfl rfl (fun hc6 => ?_) (fun hc6 => absurd h2 hc6)
  refine Go.iloadN (q := 17) hx (hb hby d34_16) rfl rfl ?_
  refine Go.retI hx hret hlk (hb hby d34_17) (by decide) (by decide) ?_
  exact ⟨rfl, rfl⟩
theorem d33_0 : decode jdk_42_method_155_code 0 = .ok (.iload_n 0, 1) := by decide +kernel
theorem d33_1 : decode jdk_42_method_155_code 1 = .ok (.iload_n 1, 1) := by decide +kernel
theorem d33_2 : decode jdk_42_method_155_code 2 = .ok (.getstatic 1053, 3) := by decide +kernel
theorem d33_5 : decode jdk_42_method_155_code 5 = .ok (.invokestatic 1059, 3) := by decide +kernel
theorem d33_8 : decode jdk_42_method_155_code 8 = .ok (.pop, 1) := by decide +kernel
theorem d33_9 : decode jdk_42_method_155_code 9 = .ok (.return_, 1) := by decide +kernel
theorem pl_11 : plainFor (⟨"java/lang/String", "checkIndex", "(II)V"⟩ : MethodName) = true := plainFor_of_name (by first | (simp [plainName, overriddenIn]; done) | decide +kernel)
theorem pd_10 : parseMethodDescriptor "(IILjava/util/function/BiFunction;)I" = some ⟨[.int, .int, (.object "java/util/function/BiFunction")], some .int⟩ := by decide +kernel
theorem rmX (l : Launch) (Z : State) (a0 : Array Value) (hw : ∀ d ∈ tables_1, d.before a0 Z = true) (hel : EW Z a0 consts_1) (i n : Int32) (fv : Value) (h0 : Heap) (n0 : Nat) (Z0 : n0 ≤ h0.size) (h1 : ¬ i < 0) (h2 : i < n) (X0 : Old Z n0 h0) (PF : Sta Z Z.heap "jdk/internal/util/Preconditions" "SIOOBE_FORMATTER" "Ljava/util/function/BiFunction;" fv) (hfv : fv.isRef = true) :
    Met l Z consts_1 [] (⟨"java/lang/String", "checkIndex", "(II)V"⟩ : MethodName) jdk_42_method_155_code 2 (Option.none : Option FieldType) [] ({ frames := 1, cells := 0, slots := 0, locals := 20 } : Room) #[(.int i), (.int n)] h0 n0 (fun v h => v = none ∧ h0 = h) := by
  refine Met.of (Ls0 := #[.val (.int i), .val (.int n)]) pl_11 (by first | (simp [argsToLocals, Value.category]; done) | rfl) hel ?_
  intro p e s m below meth c hx hby hml hret hlk hown hnm hZ
  refine Go.iloadN (q := 1) hx (hb hby d33_0) rfl rfl ?_
  refine Go.iloadN (q := 2) hx (hb hby d33_1) rfl rfl ?_
  refine Go.getS (q := 5) hx hZ hown (host := "") (Or.inl (tw hw 183 rfl)) Via.refl (Sta.ext X0.2 PF) (hb hby d33_2) rfl ?_
  refine Go.callS (q := 8) hx hZ (argsL := [(.int i), (.int n), fv]) (rest := []) hown (tw hw 185 rfl) (tw hw 186 rfl) (tw hw 184 rfl) (tw hw 187 rfl) (by decide) (rmPC l Z a0 hw hel i n fv h0 n0 Z0 h1 h2 hfv) (fun _ hx => nomatch hx) (by rw [hml]; rfl) pd_10 rfl rfl (hb hby d33_5) rfl (by decide) (ble rfl) (ce' := 0) (sl' := 0) rfl rfl (by decide) (by decide) (fun v499 h500 hQ501 => ?_)
  obtain ⟨rfl, rfl⟩ := hQ501
  show Go _ _ _ _ _ _ _ _ _ _ _ _ _ _ _ _ _ _ _ _ 0 0 8 #[.val (.int i), .val (.int n)] [(.int i)]
  refine Go.pop (q := 9) hx (hb hby d33_8) rfl rfl ?_
  refine Go.ret0 hx hret hlk (hb hby d33_9) (by decide) (by decide) ?_
  exact ⟨rfl, rfl⟩
theorem d49_0 : decode jdk_52_method_6_code 0 = .ok (.aload_n 0, 1) := by decide +kernel
theorem d49_1 : decode jdk_52_method_6_code 1 = .ok (.arraylength, 1) := by decide +kernel
theorem d49_2 : decode jdk_52_method_6_code 2 = .ok (.iconst 1, 1) := by decide +kernel
theorem d49_3 : decode jdk_52_method_6_code 3 = .ok (.ishr, 1) := by decide +kernel
theorem d49_4 : decode jdk_52_method_6_code 4 = .ok (.ireturn, 1) := by decide +kernel
theorem pl_12 : plainFor (⟨"java/lang/StringUTF16", "length", "([B)I"⟩ : MethodName) = true := plainFor_of_name (by first | (simp [plainName, overriddenIn]; done) | decide +kernel)
theorem rmUL (l : Launch) (Z : State) (a0 : Array Value) (hw : ∀ d ∈ tables_1, d.before a0 Z = true) (hel : EW Z a0 consts_1) (b : Addr) (kb : ClassId) (z n : Int32) (vs : List Value) (h0 : Heap) (n0 : Nat) (Z0 : n0 ≤ h0.size) (B : Arv Z h0 b kb .byte z vs (.int (0 : Int32))) (hn : z >>> ((1 : Int32) &&& 31) = n) :
    Met l Z consts_1 [] (⟨"java/lang/StringUTF16", "length", "([B)I"⟩ : MethodName) jdk_52_method_6_code 1 (Option.some FieldType.int) [] ({ frames := 0, cells := 0, slots := 0, locals := 0 } : Room) #[(.ref b)] h0 n0 (fun v h => v = some (.int n) ∧ h0 = h) := by
  refine Met.of (Ls0 := #[.val (.ref b)]) pl_12 (by first | (simp [argsToLocals, Value.category]; done) | rfl) hel ?_
  intro p e s m below meth c hx hby hml hret hlk hown hnm hZ
  refine Go.aloadN (q := 1) hx (hb hby d49_0) rfl (by rfl) rfl ?_
  refine Go.alen (q := 2) hx hZ B (hb hby d49_1) rfl ?_
  refine Go.iconst (q := 3) (z := (1 : Int32)) hx (hb hby d49_2) rfl rfl ?_
  refine Go.ishr (q := 4) hx (hb hby d49_3) rfl ?_
  rw [hn]
  refine Go.retI hx hret hlk (hb hby d49_4) (by decide) (by decide) ?_
  exact ⟨rfl, rfl⟩
theorem rmGet (l : Launch) (Z : State) (a0 : Array Value) (hw : ∀ d ∈ tables_1, d.before a0 Z = true) (hel : EW Z a0 consts_1) (b : Addr) (kb : ClassId) (z i j cc : Int32) (vs : List Value) (h0 : Heap) (n0 : Nat) (Z0 : n0 ≤ h0.size) (B : Arv Z h0 b kb .byte z vs (.int (0 : Int32))) (e1 : i <<< ((1 : Int32) &&& 31) = j) (b1 : ¬ j < 0 ∧ j < z) (b2 : ¬ j + (1 : Int32) < 0 ∧ j + (1 : Int32) < z) (g1 : vs.getD j.toNatClampNeg (.int (0 : Int32)) = .int (nar .byte (cc >>> ((0 : Int32) &&& 31)).toInt8.toInt32)) (g2 : vs.getD (j + (1 : Int32)).toNatClampNeg (.int (0 : Int32)) = .int (nar .byte (cc >>> ((8 : Int32) &&& 31)).toInt8.toInt32)) (hq : Chr cc) (X0 : Old Z n0 h0) (AD : Sta Z Z.heap "java/lang/StringUTF16" "$assertionsDisabled" "Z" (.int (1 : Int32))) (HB : Sta Z Z.heap "java/lang/StringUTF16" "HI_BYTE_SHIFT" "I" (.int (0 : Int32))) (LB : Sta Z Z.heap "java/lang/StringUTF16" "LO_BYTE_SHIFT" "I" (.int (8 : Int32))) :
    Met l Z consts_1 [] (⟨"java/lang/StringUTF16", "getChar", "([BI)C"⟩ : MethodName) jdk_52_method_5_code 2 (Option.some FieldType.char) [] ({ frames := 0, cells := 0, slots := 0, locals := 0 } : Room) #[(.ref b), (.int i)] h0 n0 (fun v h => v = some (.int cc) ∧ h0 = h) := by
  refine Met.of (Ls0 := #[.val (.ref b), .val (.int i)]) pl_8 (by first | (simp [argsToLocals, Value.category]; done) | rfl) hel ?_
  have hSA : ∀ d ∈ Bundle.stringAtoms, d.before a0 Z = true := fun d hd => hw d ((by decide +kernel : ∀ d ∈ Bundle.stringAtoms, d ∈ tables_1) d hd)
  intro p e s m below meth c hx hby hml hret hlk hown hnm hZ
  refine Go.getS (q := 3) hx hZ hown (host := "") (Or.inl (tw hw 219 rfl)) Via.refl (Sta.ext X0.2 AD) (hb hby d44_0) rfl ?_
  refine Go.if_ne (q := 6) (t := 28) hx (hb hby d44_3) (by decide) rfl rfl (fun hc3 => ?_) (fun hc3 => absurd hc3 (by decide))
  refine Go.iloadN (q := 29) hx (hb hby d44_28) rfl rfl ?_
  refine Go.iconst (q := 30) (z := (1 : Int32)) hx (hb hby d44_29) rfl rfl ?_
  refine Go.ishl (q := 31) hx (hb hby d44_30) rfl ?_
  rw [e1]
  refine Go.istoreN (q := 32) (l' := #[.val (.ref b), .val (.int j)]) hx (hb hby d44_31) rfl rfl ?_
  refine Go.aloadN (q := 33) hx (hb hby d44_32) rfl (by rfl) rfl ?_
  refine Go.iloadN (q := 34) hx (hb hby d44_33) rfl rfl ?_
  refine Go.iinc (q := 37) (l' := #[.val (.ref b), .val (.int (j + (1 : Int32)))]) hx (hb hby d44_34) rfl rfl rfl ?_
  refine Go.baload (q := 38) (v := (.int (nar .byte (cc >>> ((0 : Int32) &&& 31)).toInt8.toInt32))) hx hZ B b1 g1 (hb hby d44_37) rfl ?_
  refine Go.sipush (q := 41) (z := (255 : Int32)) hx (hb hby d44_38) rfl rfl ?_
  refine Go.iand (q := 42) hx (hb hby d44_41) rfl ?_
  refine Go.getS (q := 45) hx hZ hown (host := "") (Or.inl (tw hw 220 rfl)) Via.refl (Sta.ext X0.2 HB) (hb hby d44_42) rfl ?_
  refine Go.ishl (q := 46) hx (hb hby d44_45) rfl ?_
  refine Go.aloadN (q := 47) hx (hb hby d44_46) rfl (by rfl) rfl ?_
  refine Go.iloadN (q := 48) hx (hb hby d44_47) rfl rfl ?_
  refine Go.baload (q := 49) (v := (.int (nar .byte (cc >>> ((8 : Int32) &&& 31)).toInt8.toInt32))) hx hZ B b2 g2 (hb hby d44_48) rfl ?_
  refine Go.sipush (q := 52) (z := (255 : Int32)) hx (hb hby d44_49) rfl rfl ?_
  refine Go.iand (q := 53) hx (hb hby d44_52) rfl ?_
  refine Go.getS (q := 56) hx hZ hown (host := "") (Or.inl (tw hw 221 rfl)) Via.refl (Sta.ext X0.2 LB) (hb hby d44_53) rfl ?_
  refine Go.ishl (q := 57) hx (hb hby d44_56) rfl ?_
  refine Go.ior (q := 58) hx (hb hby d44_57) rfl ?_
  refine Go.i2c (q := 59) hx (hb hby d44_58) rfl ?_
  refine Go.retN hx (t := .char) hret (by simp) hlk (hb hby d44_59) (by decide) (by decide) ?_
  exact ⟨congrArg (fun z => some (Value.int z)) (utf_ok hq), rfl⟩
theorem rmPut (l : Launch) (Z : State) (a0 : Array Value) (hw : ∀ d ∈ tables_1, d.before a0 Z = true) (hel : EW Z a0 consts_1) (b : Addr) (kb : ClassId) (z i j x : Int32) (np : Nat) (vs vr : List Value) (h0 : Heap) (n0 : Nat) (Z0 : n0 ≤ h0.size) (B : Arv Z h0 b kb .byte z vs (.int (0 : Int32))) (gb : n0 ≤ b) (e1 : i <<< ((1 : Int32) &&& 31) = j) (b1 : ¬ j < 0 ∧ j < z) (b2 : ¬ j + (1 : Int32) < 0 ∧ j + (1 : Int32) < z) (e2 : j.toNatClampNeg = np) (e3 : (j + (1 : Int32)).toNatClampNeg = np + 1) (hl : np + 1 < vs.length) (hvr : (vs.set np (.int (nar .byte (x >>> ((0 : Int32) &&& 31)).toInt8.toInt32))).set (np + 1) (.int (nar .byte (x >>> ((8 : Int32) &&& 31)).toInt8.toInt32)) = vr) (X0 : Old Z n0 h0) (AD : Sta Z Z.heap "java/lang/StringUTF16" "$assertionsDisabled" "Z" (.int (1 : Int32))) (HB : Sta Z Z.heap "java/lang/StringUTF16" "HI_BYTE_SHIFT" "I" (.int (0 : Int32))) (LB : Sta Z Z.heap "java/lang/StringUTF16" "LO_BYTE_SHIFT" "I" (.int (8 : Int32))) :
    Met l Z consts_1 [b] (⟨"java/lang/StringUTF16", "putChar", "([BII)V"⟩ : MethodName) jdk_52_method_4_code 3 (Option.none : Option FieldType) [] ({ frames := 0, cells := 0, slots := 0, locals := 0 } : Room) #[(.ref b), (.int i), (.int x)] h0 n0 (fun v h => v = none ∧ Keep h0 h [b] ∧ Arv Z h b kb .byte z vr (.int (0 : Int32))) := by
  refine Met.of (Ls0 := #[.val (.ref b), .val (.int i), .val (.int x)]) pl_7 (by first | (simp [argsToLocals, Value.category]; done) | rfl) hel ?_
  have hSA : ∀ d ∈ Bundle.stringAtoms, d.before a0 Z = true := fun d hd => hw d ((by decide +kernel : ∀ d ∈ Bundle.stringAtoms, d ∈ tables_1) d hd)
  intro p e s m below meth c hx hby hml hret hlk hown hnm hZ
  refine Go.getS (q := 3) hx hZ hown (host := "") (Or.inl (tw hw 219 rfl)) Via.refl (Sta.ext X0.2 AD) (hb hby d43_0) rfl ?_
  refine Go.if_ne (q := 6) (t := 28) hx (hb hby d43_3) (by decide) rfl rfl (fun hc3 => ?_) (fun hc3 => absurd hc3 (by decide))
  refine Go.iloadN (q := 29) hx (hb hby d43_28) rfl rfl ?_
  refine Go.iconst (q := 30) (z := (1 : Int32)) hx (hb hby d43_29) rfl rfl ?_
  refine Go.ishl (q := 31) hx (hb hby d43_30) rfl ?_
  rw [e1]
  refine Go.istoreN (q := 32) (l' := #[.val (.ref b), .val (.int j), .val (.int x)]) hx (hb hby d43_31) rfl rfl ?_
  refine Go.aloadN (q := 33) hx (hb hby d43_32) rfl (by rfl) rfl ?_
  refine Go.iloadN (q := 34) hx (hb hby d43_33) rfl rfl ?_
  refine Go.iinc (q := 37) (l' := #[.val (.ref b), .val (.int (j + (1 : Int32))), .val (.int x)]) hx (hb hby d43_34) rfl rfl rfl ?_
  refine Go.iloadN (q := 38) hx (hb hby d43_37) rfl rfl ?_
  refine Go.getS (q := 41) hx hZ hown (host := "") (Or.inl (tw hw 220 rfl)) Via.refl (Sta.ext X0.2 HB) (hb hby d43_38) rfl ?_
  refine Go.ishr (q := 42) hx (hb hby d43_41) rfl ?_
  refine Go.i2b (q := 43) hx (hb hby d43_42) rfl ?_
  refine Go.bastore (q := 44) hx hZ B b1 np e2 (Nat.lt_of_succ_lt hl) gb (by simp) (hb hby d43_43) rfl (fun h502 W503 V504 => ?_)
  refine Go.aloadN (q := 45) hx (hb hby d43_44) rfl (by rfl) rfl ?_
  refine Go.iloadN (q := 46) hx (hb hby d43_45) rfl rfl ?_
  refine Go.iloadN (q := 47) hx (hb hby d43_46) rfl rfl ?_
  refine Go.getS (q := 50) hx hZ hown (host := "") (Or.inl (tw hw 221 rfl)) Via.refl (Sta.ext (X0.wr W503 gb).2 LB) (hb hby d43_47) rfl ?_
  refine Go.ishr (q := 51) hx (hb hby d43_50) rfl ?_
  refine Go.i2b (q := 52) hx (hb hby d43_51) rfl ?_
  refine Go.bastore (q := 53) hx hZ V504 b2 (np + 1) e3 (by rw [List.length_set]; exact hl) gb (by simp) (hb hby d43_52) rfl (fun h505 W506 V507 => ?_)
  refine Go.ret0 hx hret hlk (hb hby d43_53) (by decide) (by decide) ?_
  exact ⟨rfl, (((Keep.refl h0 [b]).wr W503 (Or.inl (by simp))).wr W506 (Or.inl (by simp))), hvr ▸ V507⟩
def CP (mm zt z : Int32) (es vs vr : List Value) : Prop := ¬ mm < 0 ∧ ¬ zt < 0 ∧ mm.toNatClampNeg + zt.toNatClampNeg ≤ z.toNatClampNeg ∧ mm.toNatClampNeg + zt.toNatClampNeg ≤ vs.length ∧ vs.take mm.toNatClampNeg ++ ((List.range zt.toNatClampNeg).map fun i => es.getD ((0 : Int32).toNatClampNeg + i) (.int (0 : Int32))) ++ vs.drop (mm.toNatClampNeg + zt.toNatClampNeg) = vr
def IX (i j : Int32) (np : Nat) (z : Int32) : Prop := i <<< ((1 : Int32) &&& 31) = j ∧ (¬ j < 0 ∧ j < z) ∧ (¬ j + (1 : Int32) < 0 ∧ j + (1 : Int32) < z) ∧ j.toNatClampNeg = np ∧ (j + (1 : Int32)).toNatClampNeg = np + 1
def setU (vs : List Value) (np : Nat) (x : Int32) : List Value := (vs.set np (.int (nar .byte (x >>> ((0 : Int32) &&& 31)).toInt8.toInt32))).set (np + 1) (.int (nar .byte (x >>> ((8 : Int32) &&& 31)).toInt8.toInt32))
theorem setU_len (vs : List Value) (np : Nat) (x : Int32) : (setU vs np x).length = vs.length := by simp [setU]
theorem d10_0 : decode jdk_68_method_9_code 0 = .ok (.aload_n 0, 1) := by decide +kernel
theorem d10_1 : decode jdk_68_method_9_code 1 = .ok (.getfield 15, 3) := by decide +kernel
theorem d10_4 : decode jdk_68_method_9_code 4 = .ok (.arraylength, 1) := by decide +kernel
theorem d10_5 : decode jdk_68_method_9_code 5 = .ok (.aload_n 0, 1) := by decide +kernel
theorem d10_6 : decode jdk_68_method_9_code 6 = .ok (.getfield 22, 3) := by decide +kernel
theorem d10_9 : decode jdk_68_method_9_code 9 = .ok (.ishr, 1) := by decide +kernel
theorem d10_10 : decode jdk_68_method_9_code 10 = .ok (.istore_n 2, 1) := by decide +kernel
theorem d10_11 : decode jdk_68_method_9_code 11 = .ok (.iload_n 1, 1) := by decide +kernel
theorem d10_12 : decode jdk_68_method_9_code 12 = .ok (.iload_n 2, 1) := by decide +kernel
theorem d10_13 : decode jdk_68_method_9_code 13 = .ok (.isub, 1) := by decide +kernel
theorem d10_14 : decode jdk_68_method_9_code 14 = .ok (.ifCond .le 24, 3) := by decide +kernel
theorem d10_17 : decode jdk_68_method_9_code 17 = .ok (.aload_n 0, 1) := by decide +kernel
theorem d10_18 : decode jdk_68_method_9_code 18 = .ok (.aload_n 0, 1) := by decide +kernel
theorem d10_19 : decode jdk_68_method_9_code 19 = .ok (.getfield 15, 3) := by decide +kernel
theorem d10_22 : decode jdk_68_method_9_code 22 = .ok (.aload_n 0, 1) := by decide +kernel
theorem d10_23 : decode jdk_68_method_9_code 23 = .ok (.iload_n 1, 1) := by decide +kernel
theorem d10_24 : decode jdk_68_method_9_code 24 = .ok (.invokevirtual 104, 3) := by decide +kernel
theorem d10_27 : decode jdk_68_method_9_code 27 = .ok (.aload_n 0, 1) := by decide +kernel
theorem d10_28 : decode jdk_68_method_9_code 28 = .ok (.getfield 22, 3) := by decide +kernel
theorem d10_31 : decode jdk_68_method_9_code 31 = .ok (.ishl, 1) := by decide +kernel
theorem d10_32 : decode jdk_68_method_9_code 32 = .ok (.invokestatic 108, 3) := by decide +kernel
theorem d10_35 : decode jdk_68_method_9_code 35 = .ok (.putfield 15, 3) := by decide +kernel
theorem d10_38 : decode jdk_68_method_9_code 38 = .ok (.return_, 1) := by decide +kernel
theorem pl_13 : plainFor (⟨"java/lang/AbstractStringBuilder", "ensureCapacityInternal", "(I)V"⟩ : MethodName) = true := plainFor_of_name (by first | (simp [plainName, overriddenIn]; done) | decide +kernel)
theorem rmEC0 (l : Launch) (Z : State) (a0 : Array Value) (hw : ∀ d ∈ tables_1, d.before a0 Z = true) (hel : EW Z a0 consts_1) (sb b : Addr) (kb : ClassId) (x : Int32) (vs : List Value) (h0 : Heap) (n0 : Nat) (Z0 : n0 ≤ h0.size) (F1 : Fld Z h0 sb "java/lang/AbstractStringBuilder" "value" "[B" (.ref b)) (F2 : Fld Z h0 sb "java/lang/AbstractStringBuilder" "coder" "B" (.int (0 : Int32))) (B : Arv Z h0 b kb .byte (8192 : Int32) vs (.int (0 : Int32))) (hx8 : ¬ (0 : Int32) < x - (8192 : Int32)) :
    Met l Z consts_1 [] (⟨"java/lang/AbstractStringBuilder", "ensureCapacityInternal", "(I)V"⟩ : MethodName) jdk_68_method_9_code 3 (Option.none : Option FieldType) [] ({ frames := 0, cells := 0, slots := 0, locals := 0 } : Room) #[(.ref sb), (.int x)] h0 n0 (fun v h => v = none ∧ h0 = h) := by
  refine Met.of (Ls0 := #[.val (.ref sb), .val (.int x), .unset]) pl_13 (by first | (simp [argsToLocals, Value.category]; done) | rfl) hel ?_
  intro p e s m below meth c hx hby hml hret hlk hown hnm hZ
  refine Go.aloadN (q := 1) hx (hb hby d10_0) rfl (by rfl) rfl ?_
  refine Go.getF (q := 4) hx hZ hown (host := "") (Or.inl (tw hw 35 rfl)) Via.refl F1 (hb hby d10_1) rfl ?_
  refine Go.alen (q := 5) hx hZ B (hb hby d10_4) rfl ?_
  refine Go.aloadN (q := 6) hx (hb hby d10_5) rfl (by rfl) rfl ?_
  refine Go.getF (q := 9) hx hZ hown (host := "") (Or.inl (tw hw 37 rfl)) Via.refl F2 (hb hby d10_6) rfl ?_
  refine Go.ishr (q := 10) hx (hb hby d10_9) rfl ?_
  rw [show (8192 : Int32) >>> ((0 : Int32) &&& 31) = (8192 : Int32) from by decide]
  refine Go.istoreN (q := 11) (l' := #[.val (.ref sb), .val (.int x), .val (.int (8192 : Int32))]) hx (hb hby d10_10) rfl rfl ?_
  refine Go.iloadN (q := 12) hx (hb hby d10_11) rfl rfl ?_
  refine Go.iloadN (q := 13) hx (hb hby d10_12) rfl rfl ?_
  refine Go.isub (q := 14) hx (hb hby d10_13) rfl ?_
  refine Go.if_le (q := 17) (t := 38) hx (hb hby d10_14) (by decide) rfl rfl (fun hc14 => ?_) (fun hc14 => absurd hc14 hx8)
  refine Go.ret0 hx hret hlk (hb hby d10_38) (by decide) (by decide) ?_
  exact ⟨rfl, rfl⟩
theorem d9_0 : decode jdk_42_method_152_code 0 = .ok (.getstatic 38, 3) := by decide +kernel
theorem d9_3 : decode jdk_42_method_152_code 3 = .ok (.ifCond .eq 10, 3) := by decide +kernel
theorem d9_6 : decode jdk_42_method_152_code 6 = .ok (.aload_n 0, 1) := by decide +kernel
theorem d9_7 : decode jdk_42_method_152_code 7 = .ok (.getfield 15, 3) := by decide +kernel
theorem d9_10 : decode jdk_42_method_152_code 10 = .ok (.goto 4, 3) := by decide +kernel
theorem d9_13 : decode jdk_42_method_152_code 13 = .ok (.iconst 1, 1) := by decide +kernel
theorem d9_14 : decode jdk_42_method_152_code 14 = .ok (.ireturn, 1) := by decide +kernel
theorem pl_14 : plainFor (⟨"java/lang/String", "coder", "()B"⟩ : MethodName) = true := plainFor_of_name (by first | (simp [plainName, overriddenIn]; done) | decide +kernel)
theorem rmCo0 (l : Launch) (Z : State) (a0 : Array Value) (hw : ∀ d ∈ tables_1, d.before a0 Z = true) (hel : EW Z a0 consts_1) (ts : Addr) (cst : Int32) (h0 : Heap) (n0 : Nat) (Z0 : n0 ≤ h0.size) (T2 : Fld Z h0 ts "java/lang/String" "coder" "B" (.int (0 : Int32))) (X0 : Old Z n0 h0) (SC : Sta Z Z.heap "java/lang/String" "COMPACT_STRINGS" "Z" (.int cst)) (hcs : ¬ cst = (0 : Int32)) :
    Met l Z consts_1 [] (⟨"java/lang/String", "coder", "()B"⟩ : MethodName) jdk_42_method_152_code 1 (Option.some FieldType.byte) [] ({ frames := 0, cells := 0, slots := 0, locals := 0 } : Room) #[(.ref ts)] h0 n0 (fun v h => v = some (.int (0 : Int32)) ∧ h0 = h) := by
  refine Met.of (Ls0 := #[.val (.ref ts)]) pl_14 (by first | (simp [argsToLocals, Value.category]; done) | rfl) hel ?_
  intro p e s m below meth c hx hby hml hret hlk hown hnm hZ
  refine Go.getS (q := 3) hx hZ hown (host := "") (Or.inl (tw hw 68 rfl)) Via.refl (Sta.ext X0.2 SC) (hb hby d9_0) rfl ?_
  refine Go.if_eq (q := 6) (t := 13) hx (hb hby d9_3) (by decide) rfl rfl (fun hc3 => absurd hc3 hcs) (fun hc3 => ?_)
  refine Go.aloadN (q := 7) hx (hb hby d9_6) rfl (by rfl) rfl ?_
  refine Go.getF (q := 10) hx hZ hown (host := "") (Or.inl (tw hw 69 rfl)) Via.refl T2 (hb hby d9_7) rfl ?_
  refine Go.goto (q := 14) hx (hb hby d9_10) (by decide) rfl ?_
  refine Go.retN hx (t := .byte) hret (by simp) hlk (hb hby d9_14) (by decide) (by decide) ?_
  exact ⟨rfl, rfl⟩
theorem d31_0 : decode jdk_42_method_154_code 0 = .ok (.getstatic 38, 3) := by decide +kernel
theorem d31_3 : decode jdk_42_method_154_code 3 = .ok (.ifCond .eq 14, 3) := by decide +kernel
theorem d31_6 : decode jdk_42_method_154_code 6 = .ok (.aload_n 0, 1) := by decide +kernel
theorem d31_7 : decode jdk_42_method_154_code 7 = .ok (.getfield 15, 3) := by decide +kernel
theorem d31_10 : decode jdk_42_method_154_code 10 = .ok (.ifCond .ne 7, 3) := by decide +kernel
theorem d31_13 : decode jdk_42_method_154_code 13 = .ok (.iconst 1, 1) := by decide +kernel
theorem d31_14 : decode jdk_42_method_154_code 14 = .ok (.goto 4, 3) := by decide +kernel
theorem d31_17 : decode jdk_42_method_154_code 17 = .ok (.iconst 0, 1) := by decide +kernel
theorem d31_18 : decode jdk_42_method_154_code 18 = .ok (.ireturn, 1) := by decide +kernel
theorem pl_15 : plainFor (⟨"java/lang/String", "isLatin1", "()Z"⟩ : MethodName) = true := plainFor_of_name (by first | (simp [plainName, overriddenIn]; done) | decide +kernel)
theorem rmIs0 (l : Launch) (Z : State) (a0 : Array Value) (hw : ∀ d ∈ tables_1, d.before a0 Z = true) (hel : EW Z a0 consts_1) (ts : Addr) (cst : Int32) (h0 : Heap) (n0 : Nat) (Z0 : n0 ≤ h0.size) (T2 : Fld Z h0 ts "java/lang/String" "coder" "B" (.int (0 : Int32))) (X0 : Old Z n0 h0) (SC : Sta Z Z.heap "java/lang/String" "COMPACT_STRINGS" "Z" (.int cst)) (hcs : ¬ cst = (0 : Int32)) :
    Met l Z consts_1 [] (⟨"java/lang/String", "isLatin1", "()Z"⟩ : MethodName) jdk_42_method_154_code 1 (Option.some FieldType.boolean) [] ({ frames := 0, cells := 0, slots := 0, locals := 0 } : Room) #[(.ref ts)] h0 n0 (fun v h => v = some (.int (1 : Int32)) ∧ h0 = h) := by
  refine Met.of (Ls0 := #[.val (.ref ts)]) pl_15 (by first | (simp [argsToLocals, Value.category]; done) | rfl) hel ?_
  intro p e s m below meth c hx hby hml hret hlk hown hnm hZ
  refine Go.getS (q := 3) hx hZ hown (host := "") (Or.inl (tw hw 68 rfl)) Via.refl (Sta.ext X0.2 SC) (hb hby d31_0) rfl ?_
  refine Go.if_eq (q := 6) (t := 17) hx (hb hby d31_3) (by decide) rfl rfl (fun hc3 => absurd hc3 hcs) (fun hc3 => ?_)
  refine Go.aloadN (q := 7) hx (hb hby d31_6) rfl (by rfl) rfl ?_
  refine Go.getF (q := 10) hx hZ hown (host := "") (Or.inl (tw hw 69 rfl)) Via.refl T2 (hb hby d31_7) rfl ?_
  refine Go.if_ne (q := 13) (t := 17) hx (hb hby d31_10) (by decide) rfl rfl (fun hc10 => absurd hc10 (by decide)) (fun hc10 => ?_)
  refine Go.iconst (q := 14) (z := (1 : Int32)) hx (hb hby d31_13) rfl rfl ?_
  refine Go.goto (q := 18) hx (hb hby d31_14) (by decide) rfl ?_
  refine Go.retN hx (t := .boolean) hret (by simp) hlk (hb hby d31_18) (by decide) (by decide) ?_
  exact ⟨rfl, rfl⟩
theorem d16_0 : decode jdk_68_method_68_code 0 = .ok (.getstatic 18, 3) := by decide +kernel
theorem d16_3 : decode jdk_68_method_68_code 3 = .ok (.ifCond .eq 14, 3) := by decide +kernel
theorem d16_6 : decode jdk_68_method_68_code 6 = .ok (.aload_n 0, 1) := by decide +kernel
theorem d16_7 : decode jdk_68_method_68_code 7 = .ok (.getfield 22, 3) := by decide +kernel
theorem d16_10 : decode jdk_68_method_68_code 10 = .ok (.ifCond .ne 7, 3) := by decide +kernel
theorem d16_13 : decode jdk_68_method_68_code 13 = .ok (.iconst 1, 1) := by decide +kernel
theorem d16_14 : decode jdk_68_method_68_code 14 = .ok (.goto 4, 3) := by decide +kernel
theorem d16_17 : decode jdk_68_method_68_code 17 = .ok (.iconst 0, 1) := by decide +kernel
theorem d16_18 : decode jdk_68_method_68_code 18 = .ok (.ireturn, 1) := by decide +kernel
theorem pl_16 : plainFor (⟨"java/lang/AbstractStringBuilder", "isLatin1", "()Z"⟩ : MethodName) = true := plainFor_of_name (by first | (simp [plainName, overriddenIn]; done) | decide +kernel)
theorem rmBL0 (l : Launch) (Z : State) (a0 : Array Value) (hw : ∀ d ∈ tables_1, d.before a0 Z = true) (hel : EW Z a0 consts_1) (sb : Addr) (cst : Int32) (h0 : Heap) (n0 : Nat) (Z0 : n0 ≤ h0.size) (F2 : Fld Z h0 sb "java/lang/AbstractStringBuilder" "coder" "B" (.int (0 : Int32))) (X0 : Old Z n0 h0) (SC : Sta Z Z.heap "java/lang/String" "COMPACT_STRINGS" "Z" (.int cst)) (hcs : ¬ cst = (0 : Int32)) :
    Met l Z consts_1 [] (⟨"java/lang/AbstractStringBuilder", "isLatin1", "()Z"⟩ : MethodName) jdk_68_method_68_code 1 (Option.some FieldType.boolean) [] ({ frames := 0, cells := 0, slots := 0, locals := 0 } : Room) #[(.ref sb)] h0 n0 (fun v h => v = some (.int (1 : Int32)) ∧ h0 = h) := by
  refine Met.of (Ls0 := #[.val (.ref sb)]) pl_16 (by first | (simp [argsToLocals, Value.category]; done) | rfl) hel ?_
  intro p e s m below meth c hx hby hml hret hlk hown hnm hZ
  refine Go.getS (q := 3) hx hZ hown (host := "") (Or.inl (tw hw 34 rfl)) Via.refl (Sta.ext X0.2 SC) (hb hby d16_0) rfl ?_
  refine Go.if_eq (q := 6) (t := 17) hx (hb hby d16_3) (by decide) rfl rfl (fun hc3 => absurd hc3 hcs) (fun hc3 => ?_)
  refine Go.aloadN (q := 7) hx (hb hby d16_6) rfl (by rfl) rfl ?_
  refine Go.getF (q := 10) hx hZ hown (host := "") (Or.inl (tw hw 37 rfl)) Via.refl F2 (hb hby d16_7) rfl ?_
  refine Go.if_ne (q := 13) (t := 17) hx (hb hby d16_10) (by decide) rfl rfl (fun hc10 => absurd hc10 (by decide)) (fun hc10 => ?_)
  refine Go.iconst (q := 14) (z := (1 : Int32)) hx (hb hby d16_13) rfl rfl ?_
  refine Go.goto (q := 18) hx (hb hby d16_14) (by decide) rfl ?_
  refine Go.retN hx (t := .boolean) hret (by simp) hlk (hb hby d16_18) (by decide) (by decide) ?_
  exact ⟨rfl, rfl⟩
theorem d8_0 : decode jdk_42_method_54_code 0 = .ok (.aload_n 0, 1) := by decide +kernel
theorem d8_1 : decode jdk_42_method_54_code 1 = .ok (.getfield 9, 3) := by decide +kernel
theorem d8_4 : decode jdk_42_method_54_code 4 = .ok (.arraylength, 1) := by decide +kernel
theorem d8_5 : decode jdk_42_method_54_code 5 = .ok (.aload_n 0, 1) := by decide +kernel
theorem d8_6 : decode jdk_42_method_54_code 6 = .ok (.invokevirtual 335, 3) := by decide +kernel
theorem d8_9 : decode jdk_42_method_54_code 9 = .ok (.ishr, 1) := by decide +kernel
theorem d8_10 : decode jdk_42_method_54_code 10 = .ok (.ireturn, 1) := by decide +kernel
theorem pl_17 : plainFor (⟨"java/lang/String", "length", "()I"⟩ : MethodName) = true := plainFor_of_name (by first | (simp [plainName, overriddenIn]; done) | decide +kernel)
theorem pd_11 : parseMethodDescriptor "()B" = some ⟨[], some .byte⟩ := by decide +kernel
theorem rmLe0 (l : Launch) (Z : State) (a0 : Array Value) (hw : ∀ d ∈ tables_1, d.before a0 Z = true) (hel : EW Z a0 consts_1) (ts tb : Addr) (kt : ClassId) (cst zt k : Int32) (es : List Value) (h0 : Heap) (n0 : Nat) (Z0 : n0 ≤ h0.size) (TE : Exa Z h0 ts "java/lang/String") (T1 : Fld Z h0 ts "java/lang/String" "value" "[B" (.ref tb)) (T2 : Fld Z h0 ts "java/lang/String" "coder" "B" (.int (0 : Int32))) (TB : Arv Z h0 tb kt .byte zt es (.int (0 : Int32))) (hk : zt >>> ((0 : Int32) &&& 31) = k) (X0 : Old Z n0 h0) (SC : Sta Z Z.heap "java/lang/String" "COMPACT_STRINGS" "Z" (.int cst)) (hcs : ¬ cst = (0 : Int32)) :
    Met l Z consts_1 [] (⟨"java/lang/String", "length", "()I"⟩ : MethodName) jdk_42_method_54_code 1 (Option.some FieldType.int) [] ({ frames := 1, cells := 0, slots := 0, locals := 18 } : Room) #[(.ref ts)] h0 n0 (fun v h => v = some (.int k) ∧ h0 = h) := by
  refine Met.of (Ls0 := #[.val (.ref ts)]) pl_17 (by first | (simp [argsToLocals, Value.category]; done) | rfl) hel ?_
  intro p e s m below meth c hx hby hml hret hlk hown hnm hZ
  refine Go.aloadN (q := 1) hx (hb hby d8_0) rfl (by rfl) rfl ?_
  refine Go.getF (q := 4) hx hZ hown (host := "") (Or.inl (tw hw 62 rfl)) Via.refl T1 (hb hby d8_1) rfl ?_
  refine Go.alen (q := 5) hx hZ TB (hb hby d8_4) rfl ?_
  refine Go.aloadN (q := 6) hx (hb hby d8_5) rfl (by rfl) rfl ?_
  refine Go.callV (q := 9) hx hZ (a := ts) (argsL := []) (rest := [(.int zt)]) hown (tw hw 63 rfl) (tw hw 64 rfl) (fun vm hzv => notFace_of_selects (args := #[]) (mvT hzv (tw hw 66 rfl))) (tw hw 66 rfl) (tw hw 65 rfl) (tw hw 5 rfl) (tw hw 67 rfl) (by decide) TE (rmCo0 l Z a0 hw hel ts cst h0 n0 Z0 T2 X0 SC hcs) (fun _ hx => nomatch hx) (by rw [hml]; rfl) pd_11 rfl rfl (hb hby d8_6) rfl (by decide) (ble rfl) (ce' := 0) (sl' := 0) rfl rfl (by decide) (by decide) (fun v508 h509 hQ510 => ?_)
  obtain ⟨rfl, rfl⟩ := hQ510
  show Go _ _ _ _ _ _ _ _ _ _ _ _ _ _ _ _ _ _ _ _ 0 0 9 #[.val (.ref ts)] [(.int (0 : Int32)), (.int zt)]
  refine Go.ishr (q := 10) hx (hb hby d8_9) rfl ?_
  rw [hk]
  refine Go.retI hx hret hlk (hb hby d8_10) (by decide) (by decide) ?_
  exact ⟨rfl, rfl⟩
theorem d13_0 : decode jdk_42_method_147_code 0 = .ok (.aload_n 0, 1) := by decide +kernel
theorem d13_1 : decode jdk_42_method_147_code 1 = .ok (.invokevirtual 335, 3) := by decide +kernel
theorem d13_4 : decode jdk_42_method_147_code 4 = .ok (.iload_n 3, 1) := by decide +kernel
theorem d13_5 : decode jdk_42_method_147_code 5 = .ok (.if_icmp .ne 23, 3) := by decide +kernel
theorem d13_8 : decode jdk_42_method_147_code 8 = .ok (.aload_n 0, 1) := by decide +kernel
theorem d13_9 : decode jdk_42_method_147_code 9 = .ok (.getfield 9, 3) := by decide +kernel
theorem d13_12 : decode jdk_42_method_147_code 12 = .ok (.iconst 0, 1) := by decide +kernel
theorem d13_13 : decode jdk_42_method_147_code 13 = .ok (.aload_n 1, 1) := by decide +kernel
theorem d13_14 : decode jdk_42_method_147_code 14 = .ok (.iload_n 2, 1) := by decide +kernel
theorem d13_15 : decode jdk_42_method_147_code 15 = .ok (.iload_n 3, 1) := by decide +kernel
theorem d13_16 : decode jdk_42_method_147_code 16 = .ok (.ishl, 1) := by decide +kernel
theorem d13_17 : decode jdk_42_method_147_code 17 = .ok (.aload_n 0, 1) := by decide +kernel
theorem d13_18 : decode jdk_42_method_147_code 18 = .ok (.getfield 9, 3) := by decide +kernel
theorem d13_21 : decode jdk_42_method_147_code 21 = .ok (.arraylength, 1) := by decide +kernel
theorem d13_22 : decode jdk_42_method_147_code 22 = .ok (.invokestatic 212, 3) := by decide +kernel
theorem d13_25 : decode jdk_42_method_147_code 25 = .ok (.goto 18, 3) := by decide +kernel
theorem d13_28 : decode jdk_42_method_147_code 28 = .ok (.aload_n 0, 1) := by decide +kernel
theorem d13_29 : decode jdk_42_method_147_code 29 = .ok (.getfield 9, 3) := by decide +kernel
theorem d13_32 : decode jdk_42_method_147_code 32 = .ok (.iconst 0, 1) := by decide +kernel
theorem d13_33 : decode jdk_42_method_147_code 33 = .ok (.aload_n 1, 1) := by decide +kernel
theorem d13_34 : decode jdk_42_method_147_code 34 = .ok (.iload_n 2, 1) := by decide +kernel
theorem d13_35 : decode jdk_42_method_147_code 35 = .ok (.aload_n 0, 1) := by decide +kernel
theorem d13_36 : decode jdk_42_method_147_code 36 = .ok (.getfield 9, 3) := by decide +kernel
theorem d13_39 : decode jdk_42_method_147_code 39 = .ok (.arraylength, 1) := by decide +kernel
theorem d13_40 : decode jdk_42_method_147_code 40 = .ok (.invokestatic 106, 3) := by decide +kernel
theorem d13_43 : decode jdk_42_method_147_code 43 = .ok (.return_, 1) := by decide +kernel
theorem pl_18 : plainFor (⟨"java/lang/String", "getBytes", "([BIB)V"⟩ : MethodName) = true := plainFor_of_name (by first | (simp [plainName, overriddenIn]; done) | decide +kernel)
theorem pd_12 : parseMethodDescriptor "(Ljava/lang/Object;ILjava/lang/Object;II)V" = some ⟨[(.object "java/lang/Object"), .int, (.object "java/lang/Object"), .int, .int], none⟩ := by decide +kernel
theorem pd_13 : parseMethodDescriptor "([BI[BII)V" = some ⟨[(.array .byte), .int, (.array .byte), .int, .int], none⟩ := by decide +kernel
theorem rmGB0 (l : Launch) (Z : State) (a0 : Array Value) (hw : ∀ d ∈ tables_1, d.before a0 Z = true) (hel : EW Z a0 consts_1) (ts tb : Addr) (kt : ClassId) (b : Addr) (kb : ClassId) (cst mc mm zt z : Int32) (es vs vr : List Value) (h0 : Heap) (n0 : Nat) (Z0 : n0 ≤ h0.size) (TE : Exa Z h0 ts "java/lang/String") (T1 : Fld Z h0 ts "java/lang/String" "value" "[B" (.ref tb)) (T2 : Fld Z h0 ts "java/lang/String" "coder" "B" (.int (0 : Int32))) (TB : Arv Z h0 tb kt .byte zt es (.int (0 : Int32))) (gb : n0 ≤ b) (B : Arv Z h0 b kb .byte z vs (.int (0 : Int32))) (hmm : mc <<< ((0 : Int32) &&& 31) = mm) (cp : CP mm zt z es vs vr) (X0 : Old Z n0 h0) (SC : Sta Z Z.heap "java/lang/String" "COMPACT_STRINGS" "Z" (.int cst)) (hcs : ¬ cst = (0 : Int32)) :
    Met l Z consts_1 [b] (⟨"java/lang/String", "getBytes", "([BIB)V"⟩ : MethodName) jdk_42_method_147_code 4 (Option.none : Option FieldType) [] ({ frames := 1, cells := 0, slots := 0, locals := 60 } : Room) #[(.ref ts), (.ref b), (.int mc), (.int (0 : Int32))] h0 n0 (fun v h => v = none ∧ Keep h0 h [b] ∧ Arv Z h b kb .byte z vr (.int (0 : Int32))) := by
  refine Met.of (Ls0 := #[.val (.ref ts), .val (.ref b), .val (.int mc), .val (.int (0 : Int32))]) pl_18 (by first | (simp [argsToLocals, Value.category]; done) | rfl) hel ?_
  intro p e s m below meth c hx hby hml hret hlk hown hnm hZ
  refine Go.aloadN (q := 1) hx (hb hby d13_0) rfl (by rfl) rfl ?_
  refine Go.callV (q := 4) hx hZ (a := ts) (argsL := []) (rest := []) hown (tw hw 63 rfl) (tw hw 64 rfl) (fun vm hzv => notFace_of_selects (args := #[]) (mvT hzv (tw hw 66 rfl))) (tw hw 66 rfl) (tw hw 65 rfl) (tw hw 5 rfl) (tw hw 67 rfl) (by decide) TE (rmCo0 l Z a0 hw hel ts cst h0 n0 Z0 T2 X0 SC hcs) (fun _ hx => nomatch hx) (by rw [hml]; rfl) pd_11 rfl rfl (hb hby d13_1) rfl (by decide) (ble rfl) (ce' := 0) (sl' := 0) rfl rfl (by decide) (by decide) (fun v511 h512 hQ513 => ?_)
  obtain ⟨rfl, rfl⟩ := hQ513
  show Go _ _ _ _ _ _ _ _ _ _ _ _ _ _ _ _ _ _ _ _ 0 0 4 #[.val (.ref ts), .val (.ref b), .val (.int mc), .val (.int (0 : Int32))] [(.int (0 : Int32))]
  refine Go.iloadN (q := 5) hx (hb hby d13_4) rfl rfl ?_
  refine Go.icmp_ne (q := 8) (t := 28) hx (hb hby d13_5) (by decide) rfl rfl (fun hc5 => absurd hc5 (by decide)) (fun hc5 => ?_)
  refine Go.aloadN (q := 9) hx (hb hby d13_8) rfl (by rfl) rfl ?_
  refine Go.getF (q := 12) hx hZ hown (host := "") (Or.inl (tw hw 62 rfl)) Via.refl T1 (hb hby d13_9) rfl ?_
  refine Go.iconst (q := 13) (z := (0 : Int32)) hx (hb hby d13_12) rfl rfl ?_
  refine Go.aloadN (q := 14) hx (hb hby d13_13) rfl (by rfl) rfl ?_
  refine Go.iloadN (q := 15) hx (hb hby d13_14) rfl rfl ?_
  refine Go.iloadN (q := 16) hx (hb hby d13_15) rfl rfl ?_
  refine Go.ishl (q := 17) hx (hb hby d13_16) rfl ?_
  rw [hmm]
  refine Go.aloadN (q := 18) hx (hb hby d13_17) rfl (by rfl) rfl ?_
  refine Go.getF (q := 21) hx hZ hown (host := "") (Or.inl (tw hw 62 rfl)) Via.refl T1 (hb hby d13_18) rfl ?_
  refine Go.alen (q := 22) hx hZ TB (hb hby d13_21) rfl ?_
  refine Go.acopy (q := 25) (us := _) (vr := vr) hx hZ hown (tw hw 93 rfl) (tw hw 96 rfl) (tw hw 94 rfl) (tw hw 95 rfl) TB B rfl (by decide) cp.1 cp.2.1 (by simp) cp.2.2.1 rfl cp.2.2.2.1 cp.2.2.2.2 gb (by simp) (by rw [hml]; rfl) (hb hby d13_22) rfl (by decide) (ble rfl) (fun h514 K515 V516 => ?_)
  refine Go.goto (q := 43) hx (hb hby d13_25) (by decide) rfl ?_
  refine Go.ret0 hx hret hlk (hb hby d13_43) (by decide) (by decide) ?_
  exact ⟨rfl, (Keep.trans (Keep.refl h0 [b]) K515 (allS (Or.inl (by simp)) all0)), V516⟩
theorem d12_0 : decode jdk_68_method_71_code 0 = .ok (.getstatic 18, 3) := by decide +kernel
theorem d12_3 : decode jdk_68_method_71_code 3 = .ok (.ifCond .eq 18, 3) := by decide +kernel
theorem d12_6 : decode jdk_68_method_71_code 6 = .ok (.aload_n 0, 1) := by decide +kernel
theorem d12_7 : decode jdk_68_method_71_code 7 = .ok (.getfield 22, 3) := by decide +kernel
theorem d12_10 : decode jdk_68_method_71_code 10 = .ok (.aload_n 1, 1) := by decide +kernel
theorem d12_11 : decode jdk_68_method_71_code 11 = .ok (.invokevirtual 40, 3) := by decide +kernel
theorem d12_14 : decode jdk_68_method_71_code 14 = .ok (.if_icmp .eq 7, 3) := by decide +kernel
theorem d12_17 : decode jdk_68_method_71_code 17 = .ok (.aload_n 0, 1) := by decide +kernel
theorem d12_18 : decode jdk_68_method_71_code 18 = .ok (.invokevirtual 195, 3) := by decide +kernel
theorem d12_21 : decode jdk_68_method_71_code 21 = .ok (.return_, 1) := by decide +kernel
theorem pl_19 : plainFor (⟨"java/lang/AbstractStringBuilder", "inflateIfNeededFor", "(Ljava/lang/String;)V"⟩ : MethodName) = true := plainFor_of_name (by first | (simp [plainName, overriddenIn]; done) | decide +kernel)
theorem rmIN0 (l : Launch) (Z : State) (a0 : Array Value) (hw : ∀ d ∈ tables_1, d.before a0 Z = true) (hel : EW Z a0 consts_1) (sb ts : Addr) (cst : Int32) (h0 : Heap) (n0 : Nat) (Z0 : n0 ≤ h0.size) (TE : Exa Z h0 ts "java/lang/String") (T2 : Fld Z h0 ts "java/lang/String" "coder" "B" (.int (0 : Int32))) (F2 : Fld Z h0 sb "java/lang/AbstractStringBuilder" "coder" "B" (.int (0 : Int32))) (X0 : Old Z n0 h0) (SC : Sta Z Z.heap "java/lang/String" "COMPACT_STRINGS" "Z" (.int cst)) (hcs : ¬ cst = (0 : Int32)) :
    Met l Z consts_1 [] (⟨"java/lang/AbstractStringBuilder", "inflateIfNeededFor", "(Ljava/lang/String;)V"⟩ : MethodName) jdk_68_method_71_code 2 (Option.none : Option FieldType) [] ({ frames := 1, cells := 0, slots := 0, locals := 18 } : Room) #[(.ref sb), (.ref ts)] h0 n0 (fun v h => v = none ∧ h0 = h) := by
  refine Met.of (Ls0 := #[.val (.ref sb), .val (.ref ts)]) pl_19 (by first | (simp [argsToLocals, Value.category]; done) | rfl) hel ?_
  intro p e s m below meth c hx hby hml hret hlk hown hnm hZ
  refine Go.getS (q := 3) hx hZ hown (host := "") (Or.inl (tw hw 34 rfl)) Via.refl (Sta.ext X0.2 SC) (hb hby d12_0) rfl ?_
  refine Go.if_eq (q := 6) (t := 21) hx (hb hby d12_3) (by decide) rfl rfl (fun hc3 => absurd hc3 hcs) (fun hc3 => ?_)
  refine Go.aloadN (q := 7) hx (hb hby d12_6) rfl (by rfl) rfl ?_
  refine Go.getF (q := 10) hx hZ hown (host := "") (Or.inl (tw hw 37 rfl)) Via.refl F2 (hb hby d12_7) rfl ?_
  refine Go.aloadN (q := 11) hx (hb hby d12_10) rfl (by rfl) rfl ?_
  refine Go.callV (q := 14) hx hZ (a := ts) (argsL := []) (rest := [(.int (0 : Int32))]) hown (tw hw 87 rfl) (tw hw 64 rfl) (fun vm hzv => notFace_of_selects (args := #[]) (mvT hzv (tw hw 66 rfl))) (tw hw 66 rfl) (tw hw 65 rfl) (tw hw 5 rfl) (tw hw 67 rfl) (by decide) TE (rmCo0 l Z a0 hw hel ts cst h0 n0 Z0 T2 X0 SC hcs) (fun _ hx => nomatch hx) (by rw [hml]; rfl) pd_11 rfl rfl (hb hby d12_11) rfl (by decide) (ble rfl) (ce' := 0) (sl' := 0) rfl rfl (by decide) (by decide) (fun v517 h518 hQ519 => ?_)
  obtain ⟨rfl, rfl⟩ := hQ519
  show Go _ _ _ _ _ _ _ _ _ _ _ _ _ _ _ _ _ _ _ _ 0 0 14 #[.val (.ref sb), .val (.ref ts)] [(.int (0 : Int32)), (.int (0 : Int32))]
  refine Go.icmp_eq (q := 17) (t := 21) hx (hb hby d12_14) (by decide) rfl rfl (fun hc14 => ?_) (fun hc14 => absurd hc14 (by decide))
  refine Go.ret0 hx hret hlk (hb hby d12_21) (by decide) (by decide) ?_
  exact ⟨rfl, rfl⟩
theorem d11_0 : decode jdk_68_method_73_code 0 = .ok (.aload_n 0, 1) := by decide +kernel
theorem d11_1 : decode jdk_68_method_73_code 1 = .ok (.aload_n 2, 1) := by decide +kernel
theorem d11_2 : decode jdk_68_method_73_code 2 = .ok (.invokevirtual 397, 3) := by decide +kernel
theorem d11_5 : decode jdk_68_method_73_code 5 = .ok (.aload_n 2, 1) := by decide +kernel
theorem d11_6 : decode jdk_68_method_73_code 6 = .ok (.aload_n 0, 1) := by decide +kernel
theorem d11_7 : decode jdk_68_method_73_code 7 = .ok (.getfield 15, 3) := by decide +kernel
theorem d11_10 : decode jdk_68_method_73_code 10 = .ok (.iload_n 1, 1) := by decide +kernel
theorem d11_11 : decode jdk_68_method_73_code 11 = .ok (.aload_n 0, 1) := by decide +kernel
theorem d11_12 : decode jdk_68_method_73_code 12 = .ok (.getfield 22, 3) := by decide +kernel
theorem d11_15 : decode jdk_68_method_73_code 15 = .ok (.invokevirtual 399, 3) := by decide +kernel
theorem d11_18 : decode jdk_68_method_73_code 18 = .ok (.return_, 1) := by decide +kernel
theorem pl_20 : plainFor (⟨"java/lang/AbstractStringBuilder", "putStringAt", "(ILjava/lang/String;)V"⟩ : MethodName) = true := plainFor_of_name (by first | (simp [plainName, overriddenIn]; done) | decide +kernel)
theorem pd_14 : parseMethodDescriptor "(Ljava/lang/String;)V" = some ⟨[(.object "java/lang/String")], none⟩ := by decide +kernel
theorem pd_15 : parseMethodDescriptor "([BIB)V" = some ⟨[(.array .byte), .int, .byte], none⟩ := by decide +kernel
theorem rmPS0 (l : Launch) (Z : State) (a0 : Array Value) (hw : ∀ d ∈ tables_1, d.before a0 Z = true) (hel : EW Z a0 consts_1) (sb b : Addr) (kb : ClassId) (ts tb : Addr) (kt : ClassId) (cst mc mm zt : Int32) (es vs vr : List Value) (h0 : Heap) (n0 : Nat) (Z0 : n0 ≤ h0.size) (nsb : sb ≠ b) (gs : n0 ≤ sb) (gb : n0 ≤ b) (E : Exa Z h0 sb "java/lang/StringBuilder") (F1 : Fld Z h0 sb "java/lang/AbstractStringBuilder" "value" "[B" (.ref b)) (F2 : Fld Z h0 sb "java/lang/AbstractStringBuilder" "coder" "B" (.int (0 : Int32))) (F3 : Fld Z h0 sb "java/lang/AbstractStringBuilder" "count" "I" (.int mc)) (F4 : Fld Z h0 sb "java/lang/AbstractStringBuilder" "maybeLatin1" "Z" (.int (0 : Int32))) (B : Arv Z h0 b kb .byte (8192 : Int32) vs (.int (0 : Int32))) (TE : Exa Z h0 ts "java/lang/String") (T1 : Fld Z h0 ts "java/lang/String" "value" "[B" (.ref tb)) (T2 : Fld Z h0 ts "java/lang/String" "coder" "B" (.int (0 : Int32))) (TB : Arv Z h0 tb kt .byte zt es (.int (0 : Int32))) (hmm : mc <<< ((0 : Int32) &&& 31) = mm) (cp : CP mm zt (8192 : Int32) es vs vr) (X0 : Old Z n0 h0) (SC : Sta Z Z.heap "java/lang/String" "COMPACT_STRINGS" "Z" (.int cst)) (hcs : ¬ cst = (0 : Int32)) :
    Met l Z consts_1 [b] (⟨"java/lang/AbstractStringBuilder", "putStringAt", "(ILjava/lang/String;)V"⟩ : MethodName) jdk_68_method_73_code 3 (Option.none : Option FieldType) [] ({ frames := 2, cells := 0, slots := 0, locals := 81 } : Room) #[(.ref sb), (.int mc), (.ref ts)] h0 n0 (fun v h => v = none ∧ Keep h0 h [b] ∧ Arv Z h b kb .byte (8192 : Int32) vr (.int (0 : Int32))) := by
  refine Met.of (Ls0 := #[.val (.ref sb), .val (.int mc), .val (.ref ts)]) pl_20 (by first | (simp [argsToLocals, Value.category]; done) | rfl) hel ?_
  intro p e s m below meth c hx hby hml hret hlk hown hnm hZ
  refine Go.aloadN (q := 1) hx (hb hby d11_0) rfl (by rfl) rfl ?_
  refine Go.aloadN (q := 2) hx (hb hby d11_1) rfl (by rfl) rfl ?_
  refine Go.callP (q := 5) hx hZ (a := sb) (argsL := [(.ref ts)]) (rest := []) hown (tw hw 82 rfl) (tw hw 84 rfl) (own_selPriv (tw hw 85 rfl) (tw hw 84 rfl) (tw hw 83 rfl) (by decide)) (tw hw 83 rfl) (tw hw 31 rfl) (tw hw 86 rfl) (by decide) E (rmIN0 l Z a0 hw hel sb ts cst h0 n0 Z0 TE T2 F2 X0 SC hcs) (fun _ hx => nomatch hx) (by rw [hml]; rfl) pd_14 rfl rfl (hb hby d11_2) rfl (by decide) (ble rfl) (ce' := 0) (sl' := 0) rfl rfl (by decide) (by decide) (fun v520 h521 hQ522 => ?_)
  obtain ⟨rfl, rfl⟩ := hQ522
  show Go _ _ _ _ _ _ _ _ _ _ _ _ _ _ _ _ _ _ _ _ 0 0 5 #[.val (.ref sb), .val (.int mc), .val (.ref ts)] []
  refine Go.aloadN (q := 6) hx (hb hby d11_5) rfl (by rfl) rfl ?_
  refine Go.aloadN (q := 7) hx (hb hby d11_6) rfl (by rfl) rfl ?_
  refine Go.getF (q := 10) hx hZ hown (host := "") (Or.inl (tw hw 35 rfl)) Via.refl F1 (hb hby d11_7) rfl ?_
  refine Go.iloadN (q := 11) hx (hb hby d11_10) rfl rfl ?_
  refine Go.aloadN (q := 12) hx (hb hby d11_11) rfl (by rfl) rfl ?_
  refine Go.getF (q := 15) hx hZ hown (host := "") (Or.inl (tw hw 37 rfl)) Via.refl F2 (hb hby d11_12) rfl ?_
  refine Go.callV (q := 18) hx hZ (a := ts) (argsL := [(.ref b), (.int mc), (.int (0 : Int32))]) (rest := []) hown (tw hw 88 rfl) (tw hw 89 rfl) (fun vm hzv => notFace_of_selects (args := #[]) (mvT hzv (tw hw 91 rfl))) (tw hw 91 rfl) (tw hw 90 rfl) (tw hw 5 rfl) (tw hw 92 rfl) (by decide) TE (rmGB0 l Z a0 hw hel ts tb kt b kb cst mc mm zt (8192 : Int32) es vs vr h0 n0 Z0 TE T1 T2 TB gb B hmm cp X0 SC hcs) (by simp) (by rw [hml]; rfl) pd_15 rfl rfl (hb hby d11_15) rfl (by decide) (ble rfl) (ce' := 0) (sl' := 0) rfl rfl (by decide) (by decide) (fun v523 h524 hQ525 => ?_)
  obtain ⟨rfl, K526, V527⟩ := hQ525
  show Go _ _ _ _ _ _ _ _ _ _ _ _ _ _ _ _ _ _ _ _ 0 0 18 #[.val (.ref sb), .val (.int mc), .val (.ref ts)] []
  refine Go.ret0 hx hret hlk (hb hby d11_18) (by decide) (by decide) ?_
  exact ⟨rfl, (Keep.trans (Keep.refl h0 [b]) K526 (allS (Or.inl (by simp)) all0)), V527⟩
theorem d7_0 : decode jdk_68_method_22_code 0 = .ok (.aload_n 1, 1) := by decide +kernel
theorem d7_1 : decode jdk_68_method_22_code 1 = .ok (.ifnonnull 8, 3) := by decide +kernel
theorem d7_4 : decode jdk_68_method_22_code 4 = .ok (.aload_n 0, 1) := by decide +kernel
theorem d7_5 : decode jdk_68_method_22_code 5 = .ok (.invokevirtual 204, 3) := by decide +kernel
theorem d7_8 : decode jdk_68_method_22_code 8 = .ok (.areturn, 1) := by decide +kernel
theorem d7_9 : decode jdk_68_method_22_code 9 = .ok (.aload_n 1, 1) := by decide +kernel
theorem d7_10 : decode jdk_68_method_22_code 10 = .ok (.invokevirtual 32, 3) := by decide +kernel
theorem d7_13 : decode jdk_68_method_22_code 13 = .ok (.istore_n 2, 1) := by decide +kernel
theorem d7_14 : decode jdk_68_method_22_code 14 = .ok (.aload_n 0, 1) := by decide +kernel
theorem d7_15 : decode jdk_68_method_22_code 15 = .ok (.aload_n 0, 1) := by decide +kernel
theorem d7_16 : decode jdk_68_method_22_code 16 = .ok (.getfield 79, 3) := by decide +kernel
theorem d7_19 : decode jdk_68_method_22_code 19 = .ok (.iload_n 2, 1) := by decide +kernel
theorem d7_20 : decode jdk_68_method_22_code 20 = .ok (.iadd, 1) := by decide +kernel
theorem d7_21 : decode jdk_68_method_22_code 21 = .ok (.invokevirtual 100, 3) := by decide +kernel
theorem d7_24 : decode jdk_68_method_22_code 24 = .ok (.aload_n 0, 1) := by decide +kernel
theorem d7_25 : decode jdk_68_method_22_code 25 = .ok (.aload_n 0, 1) := by decide +kernel
theorem d7_26 : decode jdk_68_method_22_code 26 = .ok (.getfield 79, 3) := by decide +kernel
theorem d7_29 : decode jdk_68_method_22_code 29 = .ok (.aload_n 1, 1) := by decide +kernel
theorem d7_30 : decode jdk_68_method_22_code 30 = .ok (.invokevirtual 208, 3) := by decide +kernel
theorem d7_33 : decode jdk_68_method_22_code 33 = .ok (.aload_n 0, 1) := by decide +kernel
theorem d7_34 : decode jdk_68_method_22_code 34 = .ok (.dup, 1) := by decide +kernel
theorem d7_35 : decode jdk_68_method_22_code 35 = .ok (.getfield 79, 3) := by decide +kernel
theorem d7_38 : decode jdk_68_method_22_code 38 = .ok (.iload_n 2, 1) := by decide +kernel
theorem d7_39 : decode jdk_68_method_22_code 39 = .ok (.iadd, 1) := by decide +kernel
theorem d7_40 : decode jdk_68_method_22_code 40 = .ok (.putfield 79, 3) := by decide +kernel
theorem d7_43 : decode jdk_68_method_22_code 43 = .ok (.aload_n 0, 1) := by decide +kernel
theorem d7_44 : decode jdk_68_method_22_code 44 = .ok (.areturn, 1) := by decide +kernel
theorem pl_21 : plainFor (⟨"java/lang/AbstractStringBuilder", "append", "(Ljava/lang/String;)Ljava/lang/AbstractStringBuilder;"⟩ : MethodName) = true := plainFor_of_name (by first | (simp [plainName, overriddenIn]; done) | decide +kernel)
theorem pd_16 : parseMethodDescriptor "()I" = some ⟨[], some .int⟩ := by decide +kernel
theorem pd_17 : parseMethodDescriptor "(I)V" = some ⟨[.int], none⟩ := by decide +kernel
theorem pd_18 : parseMethodDescriptor "(ILjava/lang/String;)V" = some ⟨[.int, (.object "java/lang/String")], none⟩ := by decide +kernel
theorem rmAS0 (l : Launch) (Z : State) (a0 : Array Value) (hw : ∀ d ∈ tables_1, d.before a0 Z = true) (hel : EW Z a0 consts_1) (sb b : Addr) (kb : ClassId) (ts tb : Addr) (kt : ClassId) (cst mc mm zt k mk : Int32) (es vs vr : List Value) (h0 : Heap) (n0 : Nat) (Z0 : n0 ≤ h0.size) (nsb : sb ≠ b) (gs : n0 ≤ sb) (gb : n0 ≤ b) (E : Exa Z h0 sb "java/lang/StringBuilder") (F1 : Fld Z h0 sb "java/lang/AbstractStringBuilder" "value" "[B" (.ref b)) (F2 : Fld Z h0 sb "java/lang/AbstractStringBuilder" "coder" "B" (.int (0 : Int32))) (F3 : Fld Z h0 sb "java/lang/AbstractStringBuilder" "count" "I" (.int mc)) (F4 : Fld Z h0 sb "java/lang/AbstractStringBuilder" "maybeLatin1" "Z" (.int (0 : Int32))) (B : Arv Z h0 b kb .byte (8192 : Int32) vs (.int (0 : Int32))) (TE : Exa Z h0 ts "java/lang/String") (T1 : Fld Z h0 ts "java/lang/String" "value" "[B" (.ref tb)) (T2 : Fld Z h0 ts "java/lang/String" "coder" "B" (.int (0 : Int32))) (TB : Arv Z h0 tb kt .byte zt es (.int (0 : Int32))) (hmm : mc <<< ((0 : Int32) &&& 31) = mm) (cp : CP mm zt (8192 : Int32) es vs vr) (hk : zt >>> ((0 : Int32) &&& 31) = k) (hmk : mc + k = mk) (hx8 : ¬ (0 : Int32) < mk - (8192 : Int32)) (X0 : Old Z n0 h0) (SC : Sta Z Z.heap "java/lang/String" "COMPACT_STRINGS" "Z" (.int cst)) (hcs : ¬ cst = (0 : Int32)) :
    Met l Z consts_1 [sb, b] (⟨"java/lang/AbstractStringBuilder", "append", "(Ljava/lang/String;)Ljava/lang/AbstractStringBuilder;"⟩ : MethodName) jdk_68_method_22_code 3 (Option.some (FieldType.object "java/lang/AbstractStringBuilder")) [] ({ frames := 3, cells := 0, slots := 0, locals := 101 } : Room) #[(.ref sb), (.ref ts)] h0 n0 (fun v h => v = some (.ref sb) ∧ Keep h0 h [sb, b] ∧ Fld Z h sb "java/lang/AbstractStringBuilder" "value" "[B" (.ref b) ∧ Fld Z h sb "java/lang/AbstractStringBuilder" "coder" "B" (.int (0 : Int32)) ∧ Fld Z h sb "java/lang/AbstractStringBuilder" "count" "I" (.int mk) ∧ Fld Z h sb "java/lang/AbstractStringBuilder" "maybeLatin1" "Z" (.int (0 : Int32)) ∧ Arv Z h b kb .byte (8192 : Int32) vr (.int (0 : Int32))) := by
  refine Met.of (Ls0 := #[.val (.ref sb), .val (.ref ts), .unset]) pl_21 (by first | (simp [argsToLocals, Value.category]; done) | rfl) hel ?_
  intro p e s m below meth c hx hby hml hret hlk hown hnm hZ
  refine Go.aloadN (q := 1) hx (hb hby d7_0) rfl (by rfl) rfl ?_
  refine Go.ifnonnullT (t := 9) hx (hb hby d7_1) (by decide) rfl ?_
  refine Go.aloadN (q := 10) hx (hb hby d7_9) rfl (by rfl) rfl ?_
  refine Go.callV (q := 13) hx hZ (a := ts) (argsL := []) (rest := []) hown (tw hw 57 rfl) (tw hw 58 rfl) (fun vm hzv => notFace_of_selects (args := #[]) (mvT hzv (tw hw 60 rfl))) (tw hw 60 rfl) (tw hw 59 rfl) (tw hw 5 rfl) (tw hw 61 rfl) (by decide) TE (rmLe0 l Z a0 hw hel ts tb kt cst zt k es h0 n0 Z0 TE T1 T2 TB hk X0 SC hcs) (fun _ hx => nomatch hx) (by rw [hml]; rfl) pd_16 rfl rfl (hb hby d7_10) rfl (by decide) (ble rfl) (ce' := 0) (sl' := 0) rfl rfl (by decide) (by decide) (fun v528 h529 hQ530 => ?_)
  obtain ⟨rfl, rfl⟩ := hQ530
  show Go _ _ _ _ _ _ _ _ _ _ _ _ _ _ _ _ _ _ _ _ 0 0 13 #[.val (.ref sb), .val (.ref ts), .unset] [(.int k)]
  refine Go.istoreN (q := 14) (l' := #[.val (.ref sb), .val (.ref ts), .val (.int k)]) hx (hb hby d7_13) rfl rfl ?_
  refine Go.aloadN (q := 15) hx (hb hby d7_14) rfl (by rfl) rfl ?_
  refine Go.aloadN (q := 16) hx (hb hby d7_15) rfl (by rfl) rfl ?_
  refine Go.getF (q := 19) hx hZ hown (host := "") (Or.inl (tw hw 70 rfl)) Via.refl F3 (hb hby d7_16) rfl ?_
  refine Go.iloadN (q := 20) hx (hb hby d7_19) rfl rfl ?_
  refine Go.iadd (q := 21) hx (hb hby d7_20) rfl ?_
  rw [hmk]
  refine Go.callP (q := 24) hx hZ (a := sb) (argsL := [(.int mk)]) (rest := []) hown (tw hw 72 rfl) (tw hw 74 rfl) (own_selPriv (tw hw 75 rfl) (tw hw 74 rfl) (tw hw 73 rfl) (by decide)) (tw hw 73 rfl) (tw hw 31 rfl) (tw hw 76 rfl) (by decide) E (rmEC0 l Z a0 hw hel sb b kb mk vs h0 n0 Z0 F1 F2 B hx8) (fun _ hx => nomatch hx) (by rw [hml]; rfl) pd_17 rfl rfl (hb hby d7_21) rfl (by decide) (ble rfl) (ce' := 0) (sl' := 0) rfl rfl (by decide) (by decide) (fun v531 h532 hQ533 => ?_)
  obtain ⟨rfl, rfl⟩ := hQ533
  show Go _ _ _ _ _ _ _ _ _ _ _ _ _ _ _ _ _ _ _ _ 0 0 24 #[.val (.ref sb), .val (.ref ts), .val (.int k)] []
  refine Go.aloadN (q := 25) hx (hb hby d7_24) rfl (by rfl) rfl ?_
  refine Go.aloadN (q := 26) hx (hb hby d7_25) rfl (by rfl) rfl ?_
  refine Go.getF (q := 29) hx hZ hown (host := "") (Or.inl (tw hw 70 rfl)) Via.refl F3 (hb hby d7_26) rfl ?_
  refine Go.aloadN (q := 30) hx (hb hby d7_29) rfl (by rfl) rfl ?_
  refine Go.callP (q := 33) hx hZ (a := sb) (argsL := [(.int mc), (.ref ts)]) (rest := []) hown (tw hw 77 rfl) (tw hw 79 rfl) (own_selPriv (tw hw 80 rfl) (tw hw 79 rfl) (tw hw 78 rfl) (by decide)) (tw hw 78 rfl) (tw hw 31 rfl) (tw hw 81 rfl) (by decide) E (rmPS0 l Z a0 hw hel sb b kb ts tb kt cst mc mm zt es vs vr h0 n0 Z0 nsb gs gb E F1 F2 F3 F4 B TE T1 T2 TB hmm cp X0 SC hcs) (by simp) (by rw [hml]; rfl) pd_18 rfl rfl (hb hby d7_30) rfl (by decide) (ble rfl) (ce' := 0) (sl' := 0) rfl rfl (by decide) (by decide) (fun v534 h535 hQ536 => ?_)
  obtain ⟨rfl, K537, V538⟩ := hQ536
  show Go _ _ _ _ _ _ _ _ _ _ _ _ _ _ _ _ _ _ _ _ 0 0 33 #[.val (.ref sb), .val (.ref ts), .val (.int k)] []
  refine Go.aloadN (q := 34) hx (hb hby d7_33) rfl (by rfl) rfl ?_
  refine Go.dup (q := 35) hx (hb hby d7_34) rfl rfl ?_
  refine Go.getF (q := 38) hx hZ hown (host := "") (Or.inl (tw hw 70 rfl)) Via.refl (F3.keep K537 (ninS nsb nin0)) (hb hby d7_35) rfl ?_
  refine Go.iloadN (q := 39) hx (hb hby d7_38) rfl rfl ?_
  refine Go.iadd (q := 40) hx (hb hby d7_39) rfl ?_
  rw [hmk]
  refine Go.putF (q := 43) hx hZ hown (host := "") (Or.inl (tw hw 70 rfl)) Via.refl (F3.keep K537 (ninS nsb nin0)) (E.keep K537) (Or.inl (tw hw 71 rfl)) (tw hw 22 rfl) (ty := .int) (by decide) rfl rfl gs (by simp) (hb hby d7_40) rfl (fun h539 W540 => ?_)
  refine Go.aloadN (q := 44) hx (hb hby d7_43) rfl (by rfl) rfl ?_
  refine Go.retA hx hret rfl (by rfl) hlk (hb hby d7_44) (by decide) (by decide) ?_
  exact ⟨rfl, ((Keep.trans (Keep.refl h0 [sb, b]) K537 (allS (Or.inl (by simp)) all0)).wr W540 (Or.inl (by simp))), (Fld.other W540 (F1.keep K537 (ninS nsb nin0)) (Or.inr (slot_ne (C := "java/lang/StringBuilder") (Or.inl (tw hw 36 rfl)) (Or.inl (tw hw 71 rfl)) (by decide) (by decide : _ = some (.array .byte)) (by decide : _ = some .int)))), (Fld.other W540 (F2.keep K537 (ninS nsb nin0)) (Or.inr (slot_ne (C := "java/lang/StringBuilder") (Or.inl (tw hw 38 rfl)) (Or.inl (tw hw 71 rfl)) (by decide) (by decide : _ = some .byte) (by decide : _ = some .int)))), (Fld.same W540 (F3.keep K537 (ninS nsb nin0))), (Fld.other W540 (F4.keep K537 (ninS nsb nin0)) (Or.inr (slot_ne (C := "java/lang/StringBuilder") (Or.inl (tw hw 257 rfl)) (Or.inl (tw hw 71 rfl)) (by decide) (by decide : _ = some .boolean) (by decide : _ = some .int)))), (V538.other W540 nsb.symm)⟩
theorem rmEC1 (l : Launch) (Z : State) (a0 : Array Value) (hw : ∀ d ∈ tables_1, d.before a0 Z = true) (hel : EW Z a0 consts_1) (sb b : Addr) (kb : ClassId) (x : Int32) (vs : List Value) (h0 : Heap) (n0 : Nat) (Z0 : n0 ≤ h0.size) (F1 : Fld Z h0 sb "java/lang/AbstractStringBuilder" "value" "[B" (.ref b)) (F2 : Fld Z h0 sb "java/lang/AbstractStringBuilder" "coder" "B" (.int (1 : Int32))) (B : Arv Z h0 b kb .byte (16384 : Int32) vs (.int (0 : Int32))) (hx8 : ¬ (0 : Int32) < x - (8192 : Int32)) :
    Met l Z consts_1 [] (⟨"java/lang/AbstractStringBuilder", "ensureCapacityInternal", "(I)V"⟩ : MethodName) jdk_68_method_9_code 3 (Option.none : Option FieldType) [] ({ frames := 0, cells := 0, slots := 0, locals := 0 } : Room) #[(.ref sb), (.int x)] h0 n0 (fun v h => v = none ∧ h0 = h) := by
  refine Met.of (Ls0 := #[.val (.ref sb), .val (.int x), .unset]) pl_13 (by first | (simp [argsToLocals, Value.category]; done) | rfl) hel ?_
  intro p e s m below meth c hx hby hml hret hlk hown hnm hZ
  refine Go.aloadN (q := 1) hx (hb hby d10_0) rfl (by rfl) rfl ?_
  refine Go.getF (q := 4) hx hZ hown (host := "") (Or.inl (tw hw 35 rfl)) Via.refl F1 (hb hby d10_1) rfl ?_
  refine Go.alen (q := 5) hx hZ B (hb hby d10_4) rfl ?_
  refine Go.aloadN (q := 6) hx (hb hby d10_5) rfl (by rfl) rfl ?_
  refine Go.getF (q := 9) hx hZ hown (host := "") (Or.inl (tw hw 37 rfl)) Via.refl F2 (hb hby d10_6) rfl ?_
  refine Go.ishr (q := 10) hx (hb hby d10_9) rfl ?_
  rw [show (16384 : Int32) >>> ((1 : Int32) &&& 31) = (8192 : Int32) from by decide]
  refine Go.istoreN (q := 11) (l' := #[.val (.ref sb), .val (.int x), .val (.int (8192 : Int32))]) hx (hb hby d10_10) rfl rfl ?_
  refine Go.iloadN (q := 12) hx (hb hby d10_11) rfl rfl ?_
  refine Go.iloadN (q := 13) hx (hb hby d10_12) rfl rfl ?_
  refine Go.isub (q := 14) hx (hb hby d10_13) rfl ?_
  refine Go.if_le (q := 17) (t := 38) hx (hb hby d10_14) (by decide) rfl rfl (fun hc14 => ?_) (fun hc14 => absurd hc14 hx8)
  refine Go.ret0 hx hret hlk (hb hby d10_38) (by decide) (by decide) ?_
  exact ⟨rfl, rfl⟩
theorem rmCo1 (l : Launch) (Z : State) (a0 : Array Value) (hw : ∀ d ∈ tables_1, d.before a0 Z = true) (hel : EW Z a0 consts_1) (ts : Addr) (cst : Int32) (h0 : Heap) (n0 : Nat) (Z0 : n0 ≤ h0.size) (T2 : Fld Z h0 ts "java/lang/String" "coder" "B" (.int (1 : Int32))) (X0 : Old Z n0 h0) (SC : Sta Z Z.heap "java/lang/String" "COMPACT_STRINGS" "Z" (.int cst)) (hcs : ¬ cst = (0 : Int32)) :
    Met l Z consts_1 [] (⟨"java/lang/String", "coder", "()B"⟩ : MethodName) jdk_42_method_152_code 1 (Option.some FieldType.byte) [] ({ frames := 0, cells := 0, slots := 0, locals := 0 } : Room) #[(.ref ts)] h0 n0 (fun v h => v = some (.int (1 : Int32)) ∧ h0 = h) := by
  refine Met.of (Ls0 := #[.val (.ref ts)]) pl_14 (by first | (simp [argsToLocals, Value.category]; done) | rfl) hel ?_
  intro p e s m below meth c hx hby hml hret hlk hown hnm hZ
  refine Go.getS (q := 3) hx hZ hown (host := "") (Or.inl (tw hw 68 rfl)) Via.refl (Sta.ext X0.2 SC) (hb hby d9_0) rfl ?_
  refine Go.if_eq (q := 6) (t := 13) hx (hb hby d9_3) (by decide) rfl rfl (fun hc3 => absurd hc3 hcs) (fun hc3 => ?_)
  refine Go.aloadN (q := 7) hx (hb hby d9_6) rfl (by rfl) rfl ?_
  refine Go.getF (q := 10) hx hZ hown (host := "") (Or.inl (tw hw 69 rfl)) Via.refl T2 (hb hby d9_7) rfl ?_
  refine Go.goto (q := 14) hx (hb hby d9_10) (by decide) rfl ?_
  refine Go.retN hx (t := .byte) hret (by simp) hlk (hb hby d9_14) (by decide) (by decide) ?_
  exact ⟨rfl, rfl⟩
theorem rmIs1 (l : Launch) (Z : State) (a0 : Array Value) (hw : ∀ d ∈ tables_1, d.before a0 Z = true) (hel : EW Z a0 consts_1) (ts : Addr) (cst : Int32) (h0 : Heap) (n0 : Nat) (Z0 : n0 ≤ h0.size) (T2 : Fld Z h0 ts "java/lang/String" "coder" "B" (.int (1 : Int32))) (X0 : Old Z n0 h0) (SC : Sta Z Z.heap "java/lang/String" "COMPACT_STRINGS" "Z" (.int cst)) (hcs : ¬ cst = (0 : Int32)) :
    Met l Z consts_1 [] (⟨"java/lang/String", "isLatin1", "()Z"⟩ : MethodName) jdk_42_method_154_code 1 (Option.some FieldType.boolean) [] ({ frames := 0, cells := 0, slots := 0, locals := 0 } : Room) #[(.ref ts)] h0 n0 (fun v h => v = some (.int (0 : Int32)) ∧ h0 = h) := by
  refine Met.of (Ls0 := #[.val (.ref ts)]) pl_15 (by first | (simp [argsToLocals, Value.category]; done) | rfl) hel ?_
  intro p e s m below meth c hx hby hml hret hlk hown hnm hZ
  refine Go.getS (q := 3) hx hZ hown (host := "") (Or.inl (tw hw 68 rfl)) Via.refl (Sta.ext X0.2 SC) (hb hby d31_0) rfl ?_
  refine Go.if_eq (q := 6) (t := 17) hx (hb hby d31_3) (by decide) rfl rfl (fun hc3 => absurd hc3 hcs) (fun hc3 => ?_)
  refine Go.aloadN (q := 7) hx (hb hby d31_6) rfl (by rfl) rfl ?_
  refine Go.getF (q := 10) hx hZ hown (host := "") (Or.inl (tw hw 69 rfl)) Via.refl T2 (hb hby d31_7) rfl ?_
  refine Go.if_ne (q := 13) (t := 17) hx (hb hby d31_10) (by decide) rfl rfl (fun hc10 => ?_) (fun hc10 => absurd hc10 (by decide))
  refine Go.iconst (q := 18) (z := (0 : Int32)) hx (hb hby d31_17) rfl rfl ?_
  refine Go.retN hx (t := .boolean) hret (by simp) hlk (hb hby d31_18) (by decide) (by decide) ?_
  exact ⟨rfl, rfl⟩
theorem rmBL1 (l : Launch) (Z : State) (a0 : Array Value) (hw : ∀ d ∈ tables_1, d.before a0 Z = true) (hel : EW Z a0 consts_1) (sb : Addr) (cst : Int32) (h0 : Heap) (n0 : Nat) (Z0 : n0 ≤ h0.size) (F2 : Fld Z h0 sb "java/lang/AbstractStringBuilder" "coder" "B" (.int (1 : Int32))) (X0 : Old Z n0 h0) (SC : Sta Z Z.heap "java/lang/String" "COMPACT_STRINGS" "Z" (.int cst)) (hcs : ¬ cst = (0 : Int32)) :
    Met l Z consts_1 [] (⟨"java/lang/AbstractStringBuilder", "isLatin1", "()Z"⟩ : MethodName) jdk_68_method_68_code 1 (Option.some FieldType.boolean) [] ({ frames := 0, cells := 0, slots := 0, locals := 0 } : Room) #[(.ref sb)] h0 n0 (fun v h => v = some (.int (0 : Int32)) ∧ h0 = h) := by
  refine Met.of (Ls0 := #[.val (.ref sb)]) pl_16 (by first | (simp [argsToLocals, Value.category]; done) | rfl) hel ?_
  intro p e s m below meth c hx hby hml hret hlk hown hnm hZ
  refine Go.getS (q := 3) hx hZ hown (host := "") (Or.inl (tw hw 34 rfl)) Via.refl (Sta.ext X0.2 SC) (hb hby d16_0) rfl ?_
  refine Go.if_eq (q := 6) (t := 17) hx (hb hby d16_3) (by decide) rfl rfl (fun hc3 => absurd hc3 hcs) (fun hc3 => ?_)
  refine Go.aloadN (q := 7) hx (hb hby d16_6) rfl (by rfl) rfl ?_
  refine Go.getF (q := 10) hx hZ hown (host := "") (Or.inl (tw hw 37 rfl)) Via.refl F2 (hb hby d16_7) rfl ?_
  refine Go.if_ne (q := 13) (t := 17) hx (hb hby d16_10) (by decide) rfl rfl (fun hc10 => ?_) (fun hc10 => absurd hc10 (by decide))
  refine Go.iconst (q := 18) (z := (0 : Int32)) hx (hb hby d16_17) rfl rfl ?_
  refine Go.retN hx (t := .boolean) hret (by simp) hlk (hb hby d16_18) (by decide) (by decide) ?_
  exact ⟨rfl, rfl⟩
theorem rmLe1 (l : Launch) (Z : State) (a0 : Array Value) (hw : ∀ d ∈ tables_1, d.before a0 Z = true) (hel : EW Z a0 consts_1) (ts tb : Addr) (kt : ClassId) (cst zt k : Int32) (es : List Value) (h0 : Heap) (n0 : Nat) (Z0 : n0 ≤ h0.size) (TE : Exa Z h0 ts "java/lang/String") (T1 : Fld Z h0 ts "java/lang/String" "value" "[B" (.ref tb)) (T2 : Fld Z h0 ts "java/lang/String" "coder" "B" (.int (1 : Int32))) (TB : Arv Z h0 tb kt .byte zt es (.int (0 : Int32))) (hk : zt >>> ((1 : Int32) &&& 31) = k) (X0 : Old Z n0 h0) (SC : Sta Z Z.heap "java/lang/String" "COMPACT_STRINGS" "Z" (.int cst)) (hcs : ¬ cst = (0 : Int32)) :
    Met l Z consts_1 [] (⟨"java/lang/String", "length", "()I"⟩ : MethodName) jdk_42_method_54_code 1 (Option.some FieldType.int) [] ({ frames := 1, cells := 0, slots := 0, locals := 18 } : Room) #[(.ref ts)] h0 n0 (fun v h => v = some (.int k) ∧ h0 = h) := by
  refine Met.of (Ls0 := #[.val (.ref ts)]) pl_17 (by first | (simp [argsToLocals, Value.category]; done) | rfl) hel ?_
  intro p e s m below meth c hx hby hml hret hlk hown hnm hZ
  refine Go.aloadN (q := 1) hx (hb hby d8_0) rfl (by rfl) rfl ?_
  refine Go.getF (q := 4) hx hZ hown (host := "") (Or.inl (tw hw 62 rfl)) Via.refl T1 (hb hby d8_1) rfl ?_
  refine Go.alen (q := 5) hx hZ TB (hb hby d8_4) rfl ?_
  refine Go.aloadN (q := 6) hx (hb hby d8_5) rfl (by rfl) rfl ?_
  refine Go.callV (q := 9) hx hZ (a := ts) (argsL := []) (rest := [(.int zt)]) hown (tw hw 63 rfl) (tw hw 64 rfl) (fun vm hzv => notFace_of_selects (args := #[]) (mvT hzv (tw hw 66 rfl))) (tw hw 66 rfl) (tw hw 65 rfl) (tw hw 5 rfl) (tw hw 67 rfl) (by decide) TE (rmCo1 l Z a0 hw hel ts cst h0 n0 Z0 T2 X0 SC hcs) (fun _ hx => nomatch hx) (by rw [hml]; rfl) pd_11 rfl rfl (hb hby d8_6) rfl (by decide) (ble rfl) (ce' := 0) (sl' := 0) rfl rfl (by decide) (by decide) (fun v541 h542 hQ543 => ?_)
  obtain ⟨rfl, rfl⟩ := hQ543
  show Go _ _ _ _ _ _ _ _ _ _ _ _ _ _ _ _ _ _ _ _ 0 0 9 #[.val (.ref ts)] [(.int (1 : Int32)), (.int zt)]
  refine Go.ishr (q := 10) hx (hb hby d8_9) rfl ?_
  rw [hk]
  refine Go.retI hx hret hlk (hb hby d8_10) (by decide) (by decide) ?_
  exact ⟨rfl, rfl⟩
theorem rmGB1 (l : Launch) (Z : State) (a0 : Array Value) (hw : ∀ d ∈ tables_1, d.before a0 Z = true) (hel : EW Z a0 consts_1) (ts tb : Addr) (kt : ClassId) (b : Addr) (kb : ClassId) (cst mc mm zt z : Int32) (es vs vr : List Value) (h0 : Heap) (n0 : Nat) (Z0 : n0 ≤ h0.size) (TE : Exa Z h0 ts "java/lang/String") (T1 : Fld Z h0 ts "java/lang/String" "value" "[B" (.ref tb)) (T2 : Fld Z h0 ts "java/lang/String" "coder" "B" (.int (1 : Int32))) (TB : Arv Z h0 tb kt .byte zt es (.int (0 : Int32))) (gb : n0 ≤ b) (B : Arv Z h0 b kb .byte z vs (.int (0 : Int32))) (hmm : mc <<< ((1 : Int32) &&& 31) = mm) (cp : CP mm zt z es vs vr) (X0 : Old Z n0 h0) (SC : Sta Z Z.heap "java/lang/String" "COMPACT_STRINGS" "Z" (.int cst)) (hcs : ¬ cst = (0 : Int32)) :
    Met l Z consts_1 [b] (⟨"java/lang/String", "getBytes", "([BIB)V"⟩ : MethodName) jdk_42_method_147_code 4 (Option.none : Option FieldType) [] ({ frames := 1, cells := 0, slots := 0, locals := 60 } : Room) #[(.ref ts), (.ref b), (.int mc), (.int (1 : Int32))] h0 n0 (fun v h => v = none ∧ Keep h0 h [b] ∧ Arv Z h b kb .byte z vr (.int (0 : Int32))) := by
  refine Met.of (Ls0 := #[.val (.ref ts), .val (.ref b), .val (.int mc), .val (.int (1 : Int32))]) pl_18 (by first | (simp [argsToLocals, Value.category]; done) | rfl) hel ?_
  intro p e s m below meth c hx hby hml hret hlk hown hnm hZ
  refine Go.aloadN (q := 1) hx (hb hby d13_0) rfl (by rfl) rfl ?_
  refine Go.callV (q := 4) hx hZ (a := ts) (argsL := []) (rest := []) hown (tw hw 63 rfl) (tw hw 64 rfl) (fun vm hzv => notFace_of_selects (args := #[]) (mvT hzv (tw hw 66 rfl))) (tw hw 66 rfl) (tw hw 65 rfl) (tw hw 5 rfl) (tw hw 67 rfl) (by decide) TE (rmCo1 l Z a0 hw hel ts cst h0 n0 Z0 T2 X0 SC hcs) (fun _ hx => nomatch hx) (by rw [hml]; rfl) pd_11 rfl rfl (hb hby d13_1) rfl (by decide) (ble rfl) (ce' := 0) (sl' := 0) rfl rfl (by decide) (by decide) (fun v544 h545 hQ546 => ?_)
  obtain ⟨rfl, rfl⟩ := hQ546
  show Go _ _ _ _ _ _ _ _ _ _ _ _ _ _ _ _ _ _ _ _ 0 0 4 #[.val (.ref ts), .val (.ref b), .val (.int mc), .val (.int (1 : Int32))] [(.int (1 : Int32))]
  refine Go.iloadN (q := 5) hx (hb hby d13_4) rfl rfl ?_
  refine Go.icmp_ne (q := 8) (t := 28) hx (hb hby d13_5) (by decide) rfl rfl (fun hc5 => absurd hc5 (by decide)) (fun hc5 => ?_)
  refine Go.aloadN (q := 9) hx (hb hby d13_8) rfl (by rfl) rfl ?_
  refine Go.getF (q := 12) hx hZ hown (host := "") (Or.inl (tw hw 62 rfl)) Via.refl T1 (hb hby d13_9) rfl ?_
  refine Go.iconst (q := 13) (z := (0 : Int32)) hx (hb hby d13_12) rfl rfl ?_
  refine Go.aloadN (q := 14) hx (hb hby d13_13) rfl (by rfl) rfl ?_
  refine Go.iloadN (q := 15) hx (hb hby d13_14) rfl rfl ?_
  refine Go.iloadN (q := 16) hx (hb hby d13_15) rfl rfl ?_
  refine Go.ishl (q := 17) hx (hb hby d13_16) rfl ?_
  rw [hmm]
  refine Go.aloadN (q := 18) hx (hb hby d13_17) rfl (by rfl) rfl ?_
  refine Go.getF (q := 21) hx hZ hown (host := "") (Or.inl (tw hw 62 rfl)) Via.refl T1 (hb hby d13_18) rfl ?_
  refine Go.alen (q := 22) hx hZ TB (hb hby d13_21) rfl ?_
  refine Go.acopy (q := 25) (us := _) (vr := vr) hx hZ hown (tw hw 93 rfl) (tw hw 96 rfl) (tw hw 94 rfl) (tw hw 95 rfl) TB B rfl (by decide) cp.1 cp.2.1 (by simp) cp.2.2.1 rfl cp.2.2.2.1 cp.2.2.2.2 gb (by simp) (by rw [hml]; rfl) (hb hby d13_22) rfl (by decide) (ble rfl) (fun h547 K548 V549 => ?_)
  refine Go.goto (q := 43) hx (hb hby d13_25) (by decide) rfl ?_
  refine Go.ret0 hx hret hlk (hb hby d13_43) (by decide) (by decide) ?_
  exact ⟨rfl, (Keep.trans (Keep.refl h0 [b]) K548 (allS (Or.inl (by simp)) all0)), V549⟩
theorem rmIN1 (l : Launch) (Z : State) (a0 : Array Value) (hw : ∀ d ∈ tables_1, d.before a0 Z = true) (hel : EW Z a0 consts_1) (sb ts : Addr) (cst : Int32) (h0 : Heap) (n0 : Nat) (Z0 : n0 ≤ h0.size) (TE : Exa Z h0 ts "java/lang/String") (T2 : Fld Z h0 ts "java/lang/String" "coder" "B" (.int (1 : Int32))) (F2 : Fld Z h0 sb "java/lang/AbstractStringBuilder" "coder" "B" (.int (1 : Int32))) (X0 : Old Z n0 h0) (SC : Sta Z Z.heap "java/lang/String" "COMPACT_STRINGS" "Z" (.int cst)) (hcs : ¬ cst = (0 : Int32)) :
    Met l Z consts_1 [] (⟨"java/lang/AbstractStringBuilder", "inflateIfNeededFor", "(Ljava/lang/String;)V"⟩ : MethodName) jdk_68_method_71_code 2 (Option.none : Option FieldType) [] ({ frames := 1, cells := 0, slots := 0, locals := 18 } : Room) #[(.ref sb), (.ref ts)] h0 n0 (fun v h => v = none ∧ h0 = h) := by
  refine Met.of (Ls0 := #[.val (.ref sb), .val (.ref ts)]) pl_19 (by first | (simp [argsToLocals, Value.category]; done) | rfl) hel ?_
  intro p e s m below meth c hx hby hml hret hlk hown hnm hZ
  refine Go.getS (q := 3) hx hZ hown (host := "") (Or.inl (tw hw 34 rfl)) Via.refl (Sta.ext X0.2 SC) (hb hby d12_0) rfl ?_
  refine Go.if_eq (q := 6) (t := 21) hx (hb hby d12_3) (by decide) rfl rfl (fun hc3 => absurd hc3 hcs) (fun hc3 => ?_)
  refine Go.aloadN (q := 7) hx (hb hby d12_6) rfl (by rfl) rfl ?_
  refine Go.getF (q := 10) hx hZ hown (host := "") (Or.inl (tw hw 37 rfl)) Via.refl F2 (hb hby d12_7) rfl ?_
  refine Go.aloadN (q := 11) hx (hb hby d12_10) rfl (by rfl) rfl ?_
  refine Go.callV (q := 14) hx hZ (a := ts) (argsL := []) (rest := [(.int (1 : Int32))]) hown (tw hw 87 rfl) (tw hw 64 rfl) (fun vm hzv => notFace_of_selects (args := #[]) (mvT hzv (tw hw 66 rfl))) (tw hw 66 rfl) (tw hw 65 rfl) (tw hw 5 rfl) (tw hw 67 rfl) (by decide) TE (rmCo1 l Z a0 hw hel ts cst h0 n0 Z0 T2 X0 SC hcs) (fun _ hx => nomatch hx) (by rw [hml]; rfl) pd_11 rfl rfl (hb hby d12_11) rfl (by decide) (ble rfl) (ce' := 0) (sl' := 0) rfl rfl (by decide) (by decide) (fun v550 h551 hQ552 => ?_)
  obtain ⟨rfl, rfl⟩ := hQ552
  show Go _ _ _ _ _ _ _ _ _ _ _ _ _ _ _ _ _ _ _ _ 0 0 14 #[.val (.ref sb), .val (.ref ts)] [(.int (1 : Int32)), (.int (1 : Int32))]
  refine Go.icmp_eq (q := 17) (t := 21) hx (hb hby d12_14) (by decide) rfl rfl (fun hc14 => ?_) (fun hc14 => absurd hc14 (by decide))
  refine Go.ret0 hx hret hlk (hb hby d12_21) (by decide) (by decide) ?_
  exact ⟨rfl, rfl⟩
theorem rmPS1 (l : Launch) (Z : State) (a0 : Array Value) (hw : ∀ d ∈ tables_1, d.before a0 Z = true) (hel : EW Z a0 consts_1) (sb b : Addr) (kb : ClassId) (ts tb : Addr) (kt : ClassId) (cst mc mm zt : Int32) (es vs vr : List Value) (h0 : Heap) (n0 : Nat) (Z0 : n0 ≤ h0.size) (nsb : sb ≠ b) (gs : n0 ≤ sb) (gb : n0 ≤ b) (E : Exa Z h0 sb "java/lang/StringBuilder") (F1 : Fld Z h0 sb "java/lang/AbstractStringBuilder" "value" "[B" (.ref b)) (F2 : Fld Z h0 sb "java/lang/AbstractStringBuilder" "coder" "B" (.int (1 : Int32))) (F3 : Fld Z h0 sb "java/lang/AbstractStringBuilder" "count" "I" (.int mc)) (F4 : Fld Z h0 sb "java/lang/AbstractStringBuilder" "maybeLatin1" "Z" (.int (0 : Int32))) (B : Arv Z h0 b kb .byte (16384 : Int32) vs (.int (0 : Int32))) (TE : Exa Z h0 ts "java/lang/String") (T1 : Fld Z h0 ts "java/lang/String" "value" "[B" (.ref tb)) (T2 : Fld Z h0 ts "java/lang/String" "coder" "B" (.int (1 : Int32))) (TB : Arv Z h0 tb kt .byte zt es (.int (0 : Int32))) (hmm : mc <<< ((1 : Int32) &&& 31) = mm) (cp : CP mm zt (16384 : Int32) es vs vr) (X0 : Old Z n0 h0) (SC : Sta Z Z.heap "java/lang/String" "COMPACT_STRINGS" "Z" (.int cst)) (hcs : ¬ cst = (0 : Int32)) :
    Met l Z consts_1 [b] (⟨"java/lang/AbstractStringBuilder", "putStringAt", "(ILjava/lang/String;)V"⟩ : MethodName) jdk_68_method_73_code 3 (Option.none : Option FieldType) [] ({ frames := 2, cells := 0, slots := 0, locals := 81 } : Room) #[(.ref sb), (.int mc), (.ref ts)] h0 n0 (fun v h => v = none ∧ Keep h0 h [b] ∧ Arv Z h b kb .byte (16384 : Int32) vr (.int (0 : Int32))) := by
  refine Met.of (Ls0 := #[.val (.ref sb), .val (.int mc), .val (.ref ts)]) pl_20 (by first | (simp [argsToLocals, Value.category]; done) | rfl) hel ?_
  intro p e s m below meth c hx hby hml hret hlk hown hnm hZ
  refine Go.aloadN (q := 1) hx (hb hby d11_0) rfl (by rfl) rfl ?_
  refine Go.aloadN (q := 2) hx (hb hby d11_1) rfl (by rfl) rfl ?_
  refine Go.callP (q := 5) hx hZ (a := sb) (argsL := [(.ref ts)]) (rest := []) hown (tw hw 82 rfl) (tw hw 84 rfl) (own_selPriv (tw hw 85 rfl) (tw hw 84 rfl) (tw hw 83 rfl) (by decide)) (tw hw 83 rfl) (tw hw 31 rfl) (tw hw 86 rfl) (by decide) E (rmIN1 l Z a0 hw hel sb ts cst h0 n0 Z0 TE T2 F2 X0 SC hcs) (fun _ hx => nomatch hx) (by rw [hml]; rfl) pd_14 rfl rfl (hb hby d11_2) rfl (by decide) (ble rfl) (ce' := 0) (sl' := 0) rfl rfl (by decide) (by decide) (fun v553 h554 hQ555 => ?_)
  obtain ⟨rfl, rfl⟩ := hQ555
  show Go _ _ _ _ _ _ _ _ _ _ _ _ _ _ _ _ _ _ _ _ 0 0 5 #[.val (.ref sb), .val (.int mc), .val (.ref ts)] []
  refine Go.aloadN (q := 6) hx (hb hby d11_5) rfl (by rfl) rfl ?_
  refine Go.aloadN (q := 7) hx (hb hby d11_6) rfl (by rfl) rfl ?_
  refine Go.getF (q := 10) hx hZ hown (host := "") (Or.inl (tw hw 35 rfl)) Via.refl F1 (hb hby d11_7) rfl ?_
  refine Go.iloadN (q := 11) hx (hb hby d11_10) rfl rfl ?_
  refine Go.aloadN (q := 12) hx (hb hby d11_11) rfl (by rfl) rfl ?_
  refine Go.getF (q := 15) hx hZ hown (host := "") (Or.inl (tw hw 37 rfl)) Via.refl F2 (hb hby d11_12) rfl ?_
  refine Go.callV (q := 18) hx hZ (a := ts) (argsL := [(.ref b), (.int mc), (.int (1 : Int32))]) (rest := []) hown (tw hw 88 rfl) (tw hw 89 rfl) (fun vm hzv => notFace_of_selects (args := #[]) (mvT hzv (tw hw 91 rfl))) (tw hw 91 rfl) (tw hw 90 rfl) (tw hw 5 rfl) (tw hw 92 rfl) (by decide) TE (rmGB1 l Z a0 hw hel ts tb kt b kb cst mc mm zt (16384 : Int32) es vs vr h0 n0 Z0 TE T1 T2 TB gb B hmm cp X0 SC hcs) (by simp) (by rw [hml]; rfl) pd_15 rfl rfl (hb hby d11_15) rfl (by decide) (ble rfl) (ce' := 0) (sl' := 0) rfl rfl (by decide) (by decide) (fun v556 h557 hQ558 => ?_)
  obtain ⟨rfl, K559, V560⟩ := hQ558
  show Go _ _ _ _ _ _ _ _ _ _ _ _ _ _ _ _ _ _ _ _ 0 0 18 #[.val (.ref sb), .val (.int mc), .val (.ref ts)] []
  refine Go.ret0 hx hret hlk (hb hby d11_18) (by decide) (by decide) ?_
  exact ⟨rfl, (Keep.trans (Keep.refl h0 [b]) K559 (allS (Or.inl (by simp)) all0)), V560⟩
theorem rmAS1 (l : Launch) (Z : State) (a0 : Array Value) (hw : ∀ d ∈ tables_1, d.before a0 Z = true) (hel : EW Z a0 consts_1) (sb b : Addr) (kb : ClassId) (ts tb : Addr) (kt : ClassId) (cst mc mm zt k mk : Int32) (es vs vr : List Value) (h0 : Heap) (n0 : Nat) (Z0 : n0 ≤ h0.size) (nsb : sb ≠ b) (gs : n0 ≤ sb) (gb : n0 ≤ b) (E : Exa Z h0 sb "java/lang/StringBuilder") (F1 : Fld Z h0 sb "java/lang/AbstractStringBuilder" "value" "[B" (.ref b)) (F2 : Fld Z h0 sb "java/lang/AbstractStringBuilder" "coder" "B" (.int (1 : Int32))) (F3 : Fld Z h0 sb "java/lang/AbstractStringBuilder" "count" "I" (.int mc)) (F4 : Fld Z h0 sb "java/lang/AbstractStringBuilder" "maybeLatin1" "Z" (.int (0 : Int32))) (B : Arv Z h0 b kb .byte (16384 : Int32) vs (.int (0 : Int32))) (TE : Exa Z h0 ts "java/lang/String") (T1 : Fld Z h0 ts "java/lang/String" "value" "[B" (.ref tb)) (T2 : Fld Z h0 ts "java/lang/String" "coder" "B" (.int (1 : Int32))) (TB : Arv Z h0 tb kt .byte zt es (.int (0 : Int32))) (hmm : mc <<< ((1 : Int32) &&& 31) = mm) (cp : CP mm zt (16384 : Int32) es vs vr) (hk : zt >>> ((1 : Int32) &&& 31) = k) (hmk : mc + k = mk) (hx8 : ¬ (0 : Int32) < mk - (8192 : Int32)) (X0 : Old Z n0 h0) (SC : Sta Z Z.heap "java/lang/String" "COMPACT_STRINGS" "Z" (.int cst)) (hcs : ¬ cst = (0 : Int32)) :
    Met l Z consts_1 [sb, b] (⟨"java/lang/AbstractStringBuilder", "append", "(Ljava/lang/String;)Ljava/lang/AbstractStringBuilder;"⟩ : MethodName) jdk_68_method_22_code 3 (Option.some (FieldType.object "java/lang/AbstractStringBuilder")) [] ({ frames := 3, cells := 0, slots := 0, locals := 101 } : Room) #[(.ref sb), (.ref ts)] h0 n0 (fun v h => v = some (.ref sb) ∧ Keep h0 h [sb, b] ∧ Fld Z h sb "java/lang/AbstractStringBuilder" "value" "[B" (.ref b) ∧ Fld Z h sb "java/lang/AbstractStringBuilder" "coder" "B" (.int (1 : Int32)) ∧ Fld Z h sb "java/lang/AbstractStringBuilder" "count" "I" (.int mk) ∧ Fld Z h sb "java/lang/AbstractStringBuilder" "maybeLatin1" "Z" (.int (0 : Int32)) ∧ Arv Z h b kb .byte (16384 : Int32) vr (.int (0 : Int32))) := by
  refine Met.of (Ls0 := #[.val (.ref sb), .val (.ref ts), .unset]) pl_21 (by first | (simp [argsToLocals, Value.category]; done) | rfl) hel ?_
  intro p e s m below meth c hx hby hml hret hlk hown hnm hZ
  refine Go.aloadN (q := 1) hx (hb hby d7_0) rfl (by rfl) rfl ?_
  refine Go.ifnonnullT (t := 9) hx (hb hby d7_1) (by decide) rfl ?_
  refine Go.aloadN (q := 10) hx (hb hby d7_9) rfl (by rfl) rfl ?_
  refine Go.callV (q := 13) hx hZ (a := ts) (argsL := []) (rest := []) hown (tw hw 57 rfl) (tw hw 58 rfl) (fun vm hzv => notFace_of_selects (args := #[]) (mvT hzv (tw hw 60 rfl))) (tw hw 60 rfl) (tw hw 59 rfl) (tw hw 5 rfl) (tw hw 61 rfl) (by decide) TE (rmLe1 l Z a0 hw hel ts tb kt cst zt k es h0 n0 Z0 TE T1 T2 TB hk X0 SC hcs) (fun _ hx => nomatch hx) (by rw [hml]; rfl) pd_16 rfl rfl (hb hby d7_10) rfl (by decide) (ble rfl) (ce' := 0) (sl' := 0) rfl rfl (by decide) (by decide) (fun v561 h562 hQ563 => ?_)
  obtain ⟨rfl, rfl⟩ := hQ563
  show Go _ _ _ _ _ _ _ _ _ _ _ _ _ _ _ _ _ _ _ _ 0 0 13 #[.val (.ref sb), .val (.ref ts), .unset] [(.int k)]
  refine Go.istoreN (q := 14) (l' := #[.val (.ref sb), .val (.ref ts), .val (.int k)]) hx (hb hby d7_13) rfl rfl ?_
  refine Go.aloadN (q := 15) hx (hb hby d7_14) rfl (by rfl) rfl ?_
  refine Go.aloadN (q := 16) hx (hb hby d7_15) rfl (by rfl) rfl ?_
  refine Go.getF (q := 19) hx hZ hown (host := "") (Or.inl (tw hw 70 rfl)) Via.refl F3 (hb hby d7_16) rfl ?_
  refine Go.iloadN (q := 20) hx (hb hby d7_19) rfl rfl ?_
  refine Go.iadd (q := 21) hx (hb hby d7_20) rfl ?_
  rw [hmk]
  refine Go.callP (q := 24) hx hZ (a := sb) (argsL := [(.int mk)]) (rest := []) hown (tw hw 72 rfl) (tw hw 74 rfl) (own_selPriv (tw hw 75 rfl) (tw hw 74 rfl) (tw hw 73 rfl) (by decide)) (tw hw 73 rfl) (tw hw 31 rfl) (tw hw 76 rfl) (by decide) E (rmEC1 l Z a0 hw hel sb b kb mk vs h0 n0 Z0 F1 F2 B hx8) (fun _ hx => nomatch hx) (by rw [hml]; rfl) pd_17 rfl rfl (hb hby d7_21) rfl (by decide) (ble rfl) (ce' := 0) (sl' := 0) rfl rfl (by decide) (by decide) (fun v564 h565 hQ566 => ?_)
  obtain ⟨rfl, rfl⟩ := hQ566
  show Go _ _ _ _ _ _ _ _ _ _ _ _ _ _ _ _ _ _ _ _ 0 0 24 #[.val (.ref sb), .val (.ref ts), .val (.int k)] []
  refine Go.aloadN (q := 25) hx (hb hby d7_24) rfl (by rfl) rfl ?_
  refine Go.aloadN (q := 26) hx (hb hby d7_25) rfl (by rfl) rfl ?_
  refine Go.getF (q := 29) hx hZ hown (host := "") (Or.inl (tw hw 70 rfl)) Via.refl F3 (hb hby d7_26) rfl ?_
  refine Go.aloadN (q := 30) hx (hb hby d7_29) rfl (by rfl) rfl ?_
  refine Go.callP (q := 33) hx hZ (a := sb) (argsL := [(.int mc), (.ref ts)]) (rest := []) hown (tw hw 77 rfl) (tw hw 79 rfl) (own_selPriv (tw hw 80 rfl) (tw hw 79 rfl) (tw hw 78 rfl) (by decide)) (tw hw 78 rfl) (tw hw 31 rfl) (tw hw 81 rfl) (by decide) E (rmPS1 l Z a0 hw hel sb b kb ts tb kt cst mc mm zt es vs vr h0 n0 Z0 nsb gs gb E F1 F2 F3 F4 B TE T1 T2 TB hmm cp X0 SC hcs) (by simp) (by rw [hml]; rfl) pd_18 rfl rfl (hb hby d7_30) rfl (by decide) (ble rfl) (ce' := 0) (sl' := 0) rfl rfl (by decide) (by decide) (fun v567 h568 hQ569 => ?_)
  obtain ⟨rfl, K570, V571⟩ := hQ569
  show Go _ _ _ _ _ _ _ _ _ _ _ _ _ _ _ _ _ _ _ _ 0 0 33 #[.val (.ref sb), .val (.ref ts), .val (.int k)] []
  refine Go.aloadN (q := 34) hx (hb hby d7_33) rfl (by rfl) rfl ?_
  refine Go.dup (q := 35) hx (hb hby d7_34) rfl rfl ?_
  refine Go.getF (q := 38) hx hZ hown (host := "") (Or.inl (tw hw 70 rfl)) Via.refl (F3.keep K570 (ninS nsb nin0)) (hb hby d7_35) rfl ?_
  refine Go.iloadN (q := 39) hx (hb hby d7_38) rfl rfl ?_
  refine Go.iadd (q := 40) hx (hb hby d7_39) rfl ?_
  rw [hmk]
  refine Go.putF (q := 43) hx hZ hown (host := "") (Or.inl (tw hw 70 rfl)) Via.refl (F3.keep K570 (ninS nsb nin0)) (E.keep K570) (Or.inl (tw hw 71 rfl)) (tw hw 22 rfl) (ty := .int) (by decide) rfl rfl gs (by simp) (hb hby d7_40) rfl (fun h572 W573 => ?_)
  refine Go.aloadN (q := 44) hx (hb hby d7_43) rfl (by rfl) rfl ?_
  refine Go.retA hx hret rfl (by rfl) hlk (hb hby d7_44) (by decide) (by decide) ?_
  exact ⟨rfl, ((Keep.trans (Keep.refl h0 [sb, b]) K570 (allS (Or.inl (by simp)) all0)).wr W573 (Or.inl (by simp))), (Fld.other W573 (F1.keep K570 (ninS nsb nin0)) (Or.inr (slot_ne (C := "java/lang/StringBuilder") (Or.inl (tw hw 36 rfl)) (Or.inl (tw hw 71 rfl)) (by decide) (by decide : _ = some (.array .byte)) (by decide : _ = some .int)))), (Fld.other W573 (F2.keep K570 (ninS nsb nin0)) (Or.inr (slot_ne (C := "java/lang/StringBuilder") (Or.inl (tw hw 38 rfl)) (Or.inl (tw hw 71 rfl)) (by decide) (by decide : _ = some .byte) (by decide : _ = some .int)))), (Fld.same W573 (F3.keep K570 (ninS nsb nin0))), (Fld.other W573 (F4.keep K570 (ninS nsb nin0)) (Or.inr (slot_ne (C := "java/lang/StringBuilder") (Or.inl (tw hw 257 rfl)) (Or.inl (tw hw 71 rfl)) (by decide) (by decide : _ = some .boolean) (by decide : _ = some .int)))), (V571.other W573 nsb.symm)⟩
abbrev iN (n : Nat) : Int32 := Int32.ofNat n
def lbv (c : Int32) : Value := .int (nar .byte c.toInt8.toInt32)
def lov (c : Int32) : Value := .int (nar .byte (c >>> ((0 : Int32) &&& 31)).toInt8.toInt32)
def hiv (c : Int32) : Value := .int (nar .byte (c >>> ((8 : Int32) &&& 31)).toInt8.toInt32)
def bL (cs : List Int32) : List Value := cs.map lbv
def bU : List Int32 → List Value
  | [] => []
  | c :: t => lov c :: hiv c :: bU t
def AC (cs : List Int32) : Prop := ∀ c ∈ cs, Chr c
def A8 (cs : List Int32) : Prop := ∀ c ∈ cs, ¬ (255 : Int32) < c
theorem ac0 : AC [] := fun _ h => nomatch h
theorem acS {c : Int32} {t : List Int32} (h : Chr c) (ht : AC t) : AC (c :: t) := fun x hx => by
  rcases List.mem_cons.mp hx with rfl | hx
  · exact h
  · exact ht x hx
theorem a80 : A8 [] := fun _ h => nomatch h
theorem a8S {c : Int32} {t : List Int32} (h : ¬ (255 : Int32) < c) (ht : A8 t) : A8 (c :: t) := fun x hx => by
  rcases List.mem_cons.mp hx with rfl | hx
  · exact h
  · exact ht x hx
theorem iN_a (a b : Nat) : iN a + iN b = iN (a + b) := (Int32.ofNat_add a b).symm
theorem iN_s (n : Nat) : iN n + (1 : Int32) = iN (n + 1) := (Int32.ofNat_add n 1).symm
theorem iN_nat : ∀ n, n < 64 → (iN n).toNatClampNeg = n := by decide +kernel
theorem iN_neg : ∀ n, n < 64 → ¬ iN n < 0 := by decide +kernel
theorem iN_int : ∀ n, n < 64 → (iN n).toInt = (n : Int) := by decide +kernel
theorem iN_lt8 : ∀ n, n < 64 → iN n < (8192 : Int32) := by decide +kernel
theorem iN_lt16 : ∀ n, n < 64 → iN n < (16384 : Int32) := by decide +kernel
theorem iN_ne8 : ∀ n, n < 64 → ¬ iN n = (8192 : Int32) := by decide +kernel
theorem iN_ne16 : ∀ n, n < 64 → ¬ iN n = (16384 : Int32) := by decide +kernel
theorem iN_shl : ∀ n, n < 32 → iN n <<< ((1 : Int32) &&& 31) = iN (2 * n) := by decide +kernel
theorem iN_shl0 : ∀ n, n < 32 → iN n <<< ((0 : Int32) &&& 31) = iN n := by decide +kernel
theorem iN_shr : ∀ n, n < 32 → iN (2 * n) >>> ((1 : Int32) &&& 31) = iN n := by decide +kernel
theorem iN_shr0 : ∀ n, n < 32 → iN n >>> ((0 : Int32) &&& 31) = iN n := by decide +kernel
theorem iN_x8 : ∀ n, n < 64 → ¬ (0 : Int32) < iN n - (8192 : Int32) := by decide +kernel
theorem iN_or : ∀ a, a < 32 → ∀ b, b < 32 → ¬ ((8192 : Int32) ||| iN a) ||| iN b < 0 := by decide +kernel
theorem iN_sub : ∀ a, a < 32 → ∀ b, b < 32 → ¬ (8192 : Int32) - iN a < iN b := by decide +kernel
theorem IX_all : ∀ n, n < 32 → IX (iN n) (iN (2 * n)) (2 * n) (16384 : Int32) := by unfold IX; decide +kernel
theorem iN_lt {a b : Nat} (hb : b < 64) (h : a < b) : iN a < iN b := by
  rw [Int32.lt_iff_toInt_lt, iN_int a (by omega), iN_int b hb]; omega
theorem bL_len (cs : List Int32) : (bL cs).length = cs.length := by simp [bL]
theorem bL_app (a b : List Int32) : bL (a ++ b) = bL a ++ bL b := by simp [bL]
theorem bU_len : ∀ cs : List Int32, (bU cs).length = 2 * cs.length
  | [] => rfl
  | c :: t => by
    have := bU_len t
    show (bU t).length + 1 + 1 = 2 * (t.length + 1)
    omega
theorem bU_app : ∀ a b : List Int32, bU (a ++ b) = bU a ++ bU b
  | [], _ => rfl
  | c :: t, b => congrArg (fun z => lov c :: hiv c :: z) (bU_app t b)
theorem set1 (u a : Value) : ∀ xs : List Value, (xs ++ [u]).set xs.length a = xs ++ [a]
  | [] => rfl
  | h :: t => congrArg (fun z => h :: z) (set1 u a t)
theorem set2 (u v a b : Value) : ∀ xs : List Value, ((xs ++ [u, v]).set xs.length a).set (xs.length + 1) b = xs ++ [a, b]
  | [] => rfl
  | h :: t => congrArg (fun z => h :: z) (set2 u v a b t)
theorem put_len (L : List Int32) : 2 * L.length + 1 < (bU L ++ List.replicate 2 (Value.int (0 : Int32))).length := by
  rw [List.length_append, bU_len, List.length_replicate]; omega
theorem put_set (L : List Int32) (x : Int32) : setU (bU L ++ List.replicate 2 (Value.int (0 : Int32))) (2 * L.length) x = bU (L ++ [x]) := by
  have h := set2 (Value.int (0 : Int32)) (Value.int (0 : Int32)) (lov x) (hiv x) (bU L)
  rw [bU_len] at h
  rw [bU_app]
  exact h
theorem putL_len (L : List Int32) : L.length < (bL L ++ List.replicate 1 (Value.int (0 : Int32))).length := by
  rw [List.length_append, bL_len, List.length_replicate]; omega
theorem putL_set (L : List Int32) (x : Int32) : (bL L ++ List.replicate 1 (Value.int (0 : Int32))).set L.length (.int (nar .byte x.toInt8.toInt32)) = bL (L ++ [x]) := by
  have h := set1 (Value.int (0 : Int32)) (lbv x) (bL L)
  rw [bL_len] at h
  rw [bL_app]
  exact h
theorem bL_get : ∀ (cs : List Int32) (k : Nat) (c : Int32) (d : Value), cs[k]? = some c → (bL cs).getD k d = lbv c
  | [], k, c, d, h => by simp at h
  | a :: t, 0, c, d, h => by
    have : a = c := by simpa using h
    subst this; rfl
  | a :: t, k + 1, c, d, h => bL_get t k c d (by simpa using h)
theorem bU_get : ∀ (cs : List Int32) (k : Nat) (c : Int32) (d : Value), cs[k]? = some c → (bU cs).getD (2 * k) d = lov c ∧ (bU cs).getD (2 * k + 1) d = hiv c
  | [], k, c, d, h => by simp at h
  | a :: t, 0, c, d, h => by
    have : a = c := by simpa using h
    subst this; exact ⟨rfl, rfl⟩
  | a :: t, k + 1, c, d, h => by
    have e := bU_get t k c d (by simpa using h)
    have e2 : 2 * (k + 1) = 2 * k + 1 + 1 := by omega
    rw [e2]
    exact e
theorem at_len (a : List Int32) (x : Int32) (b : List Int32) : (a ++ x :: b)[a.length]? = some x := by simp
theorem ld_get {done rest cs : List Int32} {x : Int32} (hd : done ++ x :: rest = cs) (h : done.length < 64) : (bL cs).getD (iN done.length).toNatClampNeg (Value.int (0 : Int32)) = .int (nar .byte x.toInt8.toInt32) := by
  rw [iN_nat _ h, ← hd]
  exact bL_get _ _ _ _ (at_len done x rest)
theorem map_getD (es : List Value) (d : Value) : ((List.range es.length).map fun i => es.getD ((0 : Int32).toNatClampNeg + i) d) = es := by
  have e : (0 : Int32).toNatClampNeg = 0 := by decide
  rw [e]
  apply List.ext_getElem
  · simp
  · intro i h1 h2
    simp [List.getD, List.getElem?_eq_getElem h2]
theorem own_take (ys : List Value) : ∀ xs : List Value, (xs ++ ys).take xs.length = xs
  | [] => rfl
  | h :: t => congrArg (fun z => h :: z) (own_take ys t)
theorem own_drop (ys : List Value) (k : Nat) : ∀ xs : List Value, (xs ++ ys).drop (xs.length + k) = ys.drop k
  | [] => by simp
  | h :: t => by
    have := own_drop ys k t
    rw [List.length_cons, Nat.add_right_comm]
    exact this
theorem CP_ok (xs es : List Value) (q : Nat) (mm zt z : Int32) (hm : mm.toNatClampNeg = xs.length) (hz : zt.toNatClampNeg = es.length) (h1 : ¬ mm < 0) (h2 : ¬ zt < 0) (h3 : xs.length + es.length ≤ z.toNatClampNeg) : CP mm zt z es (xs ++ List.replicate (es.length + q) (Value.int (0 : Int32))) (xs ++ es ++ List.replicate q (Value.int (0 : Int32))) := by
  refine ⟨h1, h2, by rw [hm, hz]; exact h3, by rw [hm, hz, List.length_append, List.length_replicate]; omega, ?_⟩
  rw [hm, hz, map_getD, own_take, own_drop, List.drop_replicate]
  rw [Nat.add_sub_cancel_left]
theorem CP0 (cs ds : List Int32) (h : (cs ++ ds).length < 30) : CP (iN cs.length) (iN ds.length) (8192 : Int32) (bL ds) (bL cs ++ List.replicate ds.length (Value.int (0 : Int32))) (bL (cs ++ ds)) := by
  rw [List.length_append] at h
  have e := CP_ok (bL cs) (bL ds) 0 (iN cs.length) (iN ds.length) (8192 : Int32) (by rw [iN_nat _ (by omega), bL_len]) (by rw [iN_nat _ (by omega), bL_len]) (iN_neg _ (by omega)) (iN_neg _ (by omega)) (by rw [bL_len, bL_len, show (8192 : Int32).toNatClampNeg = 8192 from by decide]; omega)
  rw [Nat.add_zero, bL_len, List.replicate_zero, List.append_nil, ← bL_app] at e
  exact e
theorem CP1 (cs ds : List Int32) (h : (cs ++ ds).length < 30) : CP (iN (2 * cs.length)) (iN (2 * ds.length)) (16384 : Int32) (bU ds) (bU cs ++ List.replicate (2 * ds.length) (Value.int (0 : Int32))) (bU (cs ++ ds)) := by
  rw [List.length_append] at h
  have e := CP_ok (bU cs) (bU ds) 0 (iN (2 * cs.length)) (iN (2 * ds.length)) (16384 : Int32) (by rw [iN_nat _ (by omega), bU_len]) (by rw [iN_nat _ (by omega), bU_len]) (iN_neg _ (by omega)) (iN_neg _ (by omega)) (by rw [bU_len, bU_len, show (16384 : Int32).toNatClampNeg = 16384 from by decide]; omega)
  rw [Nat.add_zero, bU_len, List.replicate_zero, List.append_nil, ← bU_app] at e
  exact e
theorem CPT (xs : List Value) (n : Int32) (hn : n.toNatClampNeg = xs.length) (h1 : ¬ n < 0) (h : xs.length ≤ 24) : CP (0 : Int32) n n xs (List.replicate 24 (Value.int (0 : Int32))) (xs ++ List.replicate (24 - xs.length) (Value.int (0 : Int32))) := by
  have e := CP_ok [] xs (24 - xs.length) (0 : Int32) n n (by decide) hn (by decide) h1 (by rw [hn]; exact Nat.le_of_eq (Nat.zero_add _))
  rw [show xs.length + (24 - xs.length) = 24 from by omega, List.nil_append, List.nil_append] at e
  exact e
def cap : Nat → Int32
  | 0 => (8192 : Int32)
  | _ + 1 => (16384 : Int32)
def bb : Nat → List Int32 → List Value
  | 0, cs => bL cs
  | _ + 1, cs => bU cs
def ln : Nat → List Int32 → Nat
  | 0, cs => cs.length
  | _ + 1, cs => 2 * cs.length
def mx : Nat → Nat → Nat
  | 0, t => t
  | _ + 1, _ => 1
theorem cap0 : ∀ cd, (cap cd).toNatClampNeg ≠ 0
  | 0 => by show (8192 : Int32).toNatClampNeg ≠ 0; decide
  | _ + 1 => by show (16384 : Int32).toNatClampNeg ≠ 0; decide
theorem cap2 : ∀ cd, (cap cd).toNatClampNeg ≠ 2
  | 0 => by show (8192 : Int32).toNatClampNeg ≠ 2; decide
  | _ + 1 => by show (16384 : Int32).toNatClampNeg ≠ 2; decide
abbrev OKc (cd : Nat) (cs : List Int32) : Prop := AC cs ∧ (cd = 0 ∧ A8 cs ∨ cd = 1)
theorem OKc_app {cd td : Nat} {cs ds : List Int32} (h : OKc cd cs) (k : OKc td ds) : OKc (mx cd td) (cs ++ ds) := by
  refine ⟨fun x hx => (List.mem_append.mp hx).elim (h.1 x) (k.1 x), ?_⟩
  rcases h.2 with ⟨rfl, h8⟩ | rfl
  · rcases k.2 with ⟨rfl, k8⟩ | rfl
    · exact Or.inl ⟨rfl, fun x hx => (List.mem_append.mp hx).elim (h8 x) (k8 x)⟩
    · exact Or.inr rfl
  · exact Or.inr rfl
theorem OKc_one {cd : Nat} {cs : List Int32} {x : Int32} (h : OKc cd cs) (hx : Chr x) (h8 : ¬ (255 : Int32) < x) : OKc cd (cs ++ [x]) := by
  refine ⟨fun y hy => (List.mem_append.mp hy).elim (h.1 y) (acS hx ac0 y), ?_⟩
  rcases h.2 with ⟨rfl, k8⟩ | rfl
  · exact Or.inl ⟨rfl, fun y hy => (List.mem_append.mp hy).elim (k8 y) (a8S h8 a80 y)⟩
  · exact Or.inr rfl
abbrev SBf (Z : State) (h : Heap) (sb b : Addr) (kb : ClassId) (cd : Nat) (cs : List Int32) : Prop := Exa Z h sb "java/lang/StringBuilder" ∧ Fld Z h sb "java/lang/AbstractStringBuilder" "value" "[B" (.ref b) ∧ Fld Z h sb "java/lang/AbstractStringBuilder" "coder" "B" (.int (iN cd)) ∧ Fld Z h sb "java/lang/AbstractStringBuilder" "count" "I" (.int (iN cs.length)) ∧ Fld Z h sb "java/lang/AbstractStringBuilder" "maybeLatin1" "Z" (Value.int (0 : Int32)) ∧ Arv Z h b kb .byte (cap cd) (bb cd cs) (Value.int (0 : Int32))
abbrev STf (Z : State) (h : Heap) (ts tb : Addr) (kt : ClassId) (cd : Nat) (cs : List Int32) : Prop := Exa Z h ts "java/lang/String" ∧ Fld Z h ts "java/lang/String" "value" "[B" (.ref tb) ∧ Fld Z h ts "java/lang/String" "coder" "B" (.int (iN cd)) ∧ Arv Z h tb kt .byte (iN (ln cd cs)) (bb cd cs) (Value.int (0 : Int32))
theorem fr_ne {x b b2 : Addr} {n : Nat} (g : b2 = b ∨ n ≤ b2) (h : x ≠ b) (hl : x < n) : x ≠ b2 := by
  rcases g with rfl | g
  · exact h
  · exact Nat.ne_of_lt (Nat.lt_of_lt_of_le hl g)
theorem fr_ge {b b2 : Addr} {n n0 : Nat} (g : b2 = b ∨ n ≤ b2) (h : n0 ≤ b) (hn : n0 ≤ n) : n0 ≤ b2 := by
  rcases g with rfl | g
  · exact h
  · exact Nat.le_trans hn g
theorem fr_mem {b b2 : Addr} {n k : Nat} {ws : List Addr} (g : b2 = b ∨ n ≤ b2) (h : b ∈ ws ∨ k ≤ b) (hn : k ≤ n) : b2 ∈ ws ∨ k ≤ b2 := by
  rcases g with rfl | g
  · exact h
  · exact Or.inr (Nat.le_trans hn g)
theorem fr_or {b b2 b3 : Addr} {n k : Nat} (g : b3 = b2 ∨ n ≤ b3) (h : b2 = b ∨ k ≤ b2) (hn : k ≤ n) : b3 = b ∨ k ≤ b3 := by
  rcases g with rfl | g
  · exact h
  · exact Or.inr (Nat.le_trans hn g)
abbrev RdU (cs : List Int32) (i c : Int32) : Prop := ∃ q, i = iN q ∧ cs[q]? = some c
theorem rd_at (P R : List Int32) (j : Nat) (c : Int32) (h : R[j]? = some c) : RdU (P ++ R) (iN P.length + iN j) c := ⟨P.length + j, iN_a _ _, by
  rw [List.getElem?_append_right (Nat.le_add_right _ _), Nat.add_sub_cancel_left]; exact h⟩
theorem rd_at0 (P R : List Int32) (c : Int32) (h : R[0]? = some c) : RdU (P ++ R) (iN P.length) c := ⟨P.length, rfl, by
  rw [List.getElem?_append_right (Nat.le_refl _), Nat.sub_self]; exact h⟩
theorem rd_lt {cs : List Int32} {q : Nat} {c : Int32} (h : cs[q]? = some c) : q < cs.length := (List.getElem?_eq_some_iff.mp h).1
theorem and3N (x : Int32) : ∃ k, k ≤ 3 ∧ x &&& (3 : Int32) = iN k := by
  rcases and3 x with h | h | h | h
  · exact ⟨0, by decide, h⟩
  · exact ⟨1, by decide, h⟩
  · exact ⟨2, by decide, h⟩
  · exact ⟨3, by decide, h⟩
theorem d51_0 : decode jdk_41_method_13_code 0 = .ok (.iload_n 2, 1) := by decide +kernel
theorem d51_1 : decode jdk_41_method_13_code 1 = .ok (.iload_n 0, 1) := by decide +kernel
theorem d51_2 : decode jdk_41_method_13_code 2 = .ok (.ior, 1) := by decide +kernel
theorem d51_3 : decode jdk_41_method_13_code 3 = .ok (.iload_n 1, 1) := by decide +kernel
theorem d51_4 : decode jdk_41_method_13_code 4 = .ok (.ior, 1) := by decide +kernel
theorem d51_5 : decode jdk_41_method_13_code 5 = .ok (.ifCond .lt 10, 3) := by decide +kernel
theorem d51_8 : decode jdk_41_method_13_code 8 = .ok (.iload_n 1, 1) := by decide +kernel
theorem d51_9 : decode jdk_41_method_13_code 9 = .ok (.iload_n 2, 1) := by decide +kernel
theorem d51_10 : decode jdk_41_method_13_code 10 = .ok (.iload_n 0, 1) := by decide +kernel
theorem d51_11 : decode jdk_41_method_13_code 11 = .ok (.isub, 1) := by decide +kernel
theorem d51_12 : decode jdk_41_method_13_code 12 = .ok (.if_icmp .le 11, 3) := by decide +kernel
theorem d51_15 : decode jdk_41_method_13_code 15 = .ok (.aload_n 3, 1) := by decide +kernel
theorem d51_16 : decode jdk_41_method_13_code 16 = .ok (.iload_n 0, 1) := by decide +kernel
theorem d51_17 : decode jdk_41_method_13_code 17 = .ok (.iload_n 1, 1) := by decide +kernel
theorem d51_18 : decode jdk_41_method_13_code 18 = .ok (.iload_n 2, 1) := by decide +kernel
theorem d51_19 : decode jdk_41_method_13_code 19 = .ok (.invokestatic 103, 3) := by decide +kernel
theorem d51_22 : decode jdk_41_method_13_code 22 = .ok (.athrow, 1) := by decide +kernel
theorem d51_23 : decode jdk_41_method_13_code 23 = .ok (.iload_n 0, 1) := by decide +kernel
theorem d51_24 : decode jdk_41_method_13_code 24 = .ok (.ireturn, 1) := by decide +kernel
theorem pl_22 : plainFor (⟨"jdk/internal/util/Preconditions", "checkFromIndexSize", "(IIILjava/util/function/BiFunction;)I"⟩ : MethodName) = true := plainFor_of_name (by first | (simp [plainName, overriddenIn]; done) | decide +kernel)
theorem rmFS (l : Launch) (Z : State) (a0 : Array Value) (hw : ∀ d ∈ tables_1, d.before a0 Z = true) (hel : EW Z a0 consts_1) (o sz len : Int32) (fv : Value) (h0 : Heap) (n0 : Nat) (Z0 : n0 ≤ h0.size) (hA : ¬ (len ||| o) ||| sz < 0) (hB : ¬ len - o < sz) (hfv : fv.isRef = true) :
    Met l Z consts_1 [] (⟨"jdk/internal/util/Preconditions", "checkFromIndexSize", "(IIILjava/util/function/BiFunction;)I"⟩ : MethodName) jdk_41_method_13_code 4 (Option.some FieldType.int) [] ({ frames := 0, cells := 0, slots := 0, locals := 0 } : Room) #[(.int o), (.int sz), (.int len), fv] h0 n0 (fun v h => v = some (.int o) ∧ h0 = h) := by
  refine Met.of (Ls0 := #[.val (.int o), .val (.int sz), .val (.int len), .val fv]) pl_22 (by rcases ref_cases hfv with rfl | ⟨_, rfl⟩ <;> first | (simp [argsToLocals, Value.category]; done) | rfl) hel ?_
  intro p e s m below meth c hx hby hml hret hlk hown hnm hZ
  refine Go.iloadN (q := 1) hx (hb hby d51_0) rfl rfl ?_
  refine Go.iloadN (q := 2) hx (hb hby d51_1) rfl rfl ?_
  refine Go.ior (q := 3) hx (hb hby d51_2) rfl ?_
  refine Go.iloadN (q := 4) hx (hb hby d51_3) rfl rfl ?_
  refine Go.ior (q := 5) hx (hb hby d51_4) rfl ?_
  refine Go.if_lt (q := 8) (t := 15) hx (hb hby d51_5) (by decide) rfl rfl (fun hc5 => absurd hc5 hA) (fun hc5 => ?_)
  refine Go.iloadN (q := 9) hx (hb hby d51_8) rfl rfl ?_
  refine Go.iloadN (q := 10) hx (hb hby d51_9) rfl rfl ?_
  refine Go.iloadN (q := 11) hx (hb hby d51_10) rfl rfl ?_
  refine Go.isub (q := 12) hx (hb hby d51_11) rfl ?_
  refine Go.icmp_le (q := 15) (t := 23) hx (hb hby d51_12) (by decide) rfl rfl (fun hc12 => ?_) (fun hc12 => absurd hc12 hB)
  refine Go.iloadN (q := 24) hx (hb hby d51_23) rfl rfl ?_
  refine Go.retI hx hret hlk (hb hby d51_24) (by decide) (by decide) ?_
  exact ⟨rfl, rfl⟩
theorem d50_0 : decode jdk_42_method_157_code 0 = .ok (.iload_n 0, 1) := by decide +kernel
theorem d50_1 : decode jdk_42_method_157_code 1 = .ok (.iload_n 1, 1) := by decide +kernel
theorem d50_2 : decode jdk_42_method_157_code 2 = .ok (.iload_n 2, 1) := by decide +kernel
theorem d50_3 : decode jdk_42_method_157_code 3 = .ok (.getstatic 1053, 3) := by decide +kernel
theorem d50_6 : decode jdk_42_method_157_code 6 = .ok (.invokestatic 1065, 3) := by decide +kernel
theorem d50_9 : decode jdk_42_method_157_code 9 = .ok (.ireturn, 1) := by decide +kernel
theorem pl_23 : plainFor (⟨"java/lang/String", "checkBoundsOffCount", "(III)I"⟩ : MethodName) = true := plainFor_of_name (by first | (simp [plainName, overriddenIn]; done) | decide +kernel)
theorem pd_19 : parseMethodDescriptor "(IIILjava/util/function/BiFunction;)I" = some ⟨[.int, .int, .int, (.object "java/util/function/BiFunction")], some .int⟩ := by decide +kernel
theorem rmSBC (l : Launch) (Z : State) (a0 : Array Value) (hw : ∀ d ∈ tables_1, d.before a0 Z = true) (hel : EW Z a0 consts_1) (o sz len : Int32) (fv : Value) (h0 : Heap) (n0 : Nat) (Z0 : n0 ≤ h0.size) (hA : ¬ (len ||| o) ||| sz < 0) (hB : ¬ len - o < sz) (X0 : Old Z n0 h0) (PF : Sta Z Z.heap "jdk/internal/util/Preconditions" "SIOOBE_FORMATTER" "Ljava/util/function/BiFunction;" fv) (hfv : fv.isRef = true) :
    Met l Z consts_1 [] (⟨"java/lang/String", "checkBoundsOffCount", "(III)I"⟩ : MethodName) jdk_42_method_157_code 3 (Option.some FieldType.int) [] ({ frames := 1, cells := 0, slots := 0, locals := 21 } : Room) #[(.int o), (.int sz), (.int len)] h0 n0 (fun v h => v = some (.int o) ∧ h0 = h) := by
  refine Met.of (Ls0 := #[.val (.int o), .val (.int sz), .val (.int len)]) pl_23 (by first | (simp [argsToLocals, Value.category]; done) | rfl) hel ?_
  intro p e s m below meth c hx hby hml hret hlk hown hnm hZ
  refine Go.iloadN (q := 1) hx (hb hby d50_0) rfl rfl ?_
  refine Go.iloadN (q := 2) hx (hb hby d50_1) rfl rfl ?_
  refine Go.iloadN (q := 3) hx (hb hby d50_2) rfl rfl ?_
  refine Go.getS (q := 6) hx hZ hown (host := "") (Or.inl (tw hw 183 rfl)) Via.refl (Sta.ext X0.2 PF) (hb hby d50_3) rfl ?_
  refine Go.callS (q := 9) hx hZ (argsL := [(.int o), (.int sz), (.int len), fv]) (rest := []) hown (tw hw 246 rfl) (tw hw 247 rfl) (tw hw 184 rfl) (tw hw 248 rfl) (by decide) (rmFS l Z a0 hw hel o sz len fv h0 n0 Z0 hA hB hfv) (fun _ hx => nomatch hx) (by rw [hml]; rfl) pd_19 rfl rfl (hb hby d50_6) rfl (by decide) (ble rfl) (ce' := 0) (sl' := 0) rfl rfl (by decide) (by decide) (fun v574 h575 hQ576 => ?_)
  obtain ⟨rfl, rfl⟩ := hQ576
  show Go _ _ _ _ _ _ _ _ _ _ _ _ _ _ _ _ _ _ _ _ 0 0 9 #[.val (.int o), .val (.int sz), .val (.int len)] [(.int o)]
  refine Go.retI hx hret hlk (hb hby d50_9) (by decide) (by decide) ?_
  exact ⟨rfl, rfl⟩
theorem d48_0 : decode jdk_52_method_94_code 0 = .ok (.iload_n 0, 1) := by decide +kernel
theorem d48_1 : decode jdk_52_method_94_code 1 = .ok (.iload_n 1, 1) := by decide +kernel
theorem d48_2 : decode jdk_52_method_94_code 2 = .ok (.aload_n 2, 1) := by decide +kernel
theorem d48_3 : decode jdk_52_method_94_code 3 = .ok (.invokestatic 48, 3) := by decide +kernel
theorem d48_6 : decode jdk_52_method_94_code 6 = .ok (.invokestatic 419, 3) := by decide +kernel
theorem d48_9 : decode jdk_52_method_94_code 9 = .ok (.pop, 1) := by decide +kernel
theorem d48_10 : decode jdk_52_method_94_code 10 = .ok (.return_, 1) := by decide +kernel
theorem pl_24 : plainFor (⟨"java/lang/StringUTF16", "checkBoundsOffCount", "(II[B)V"⟩ : MethodName) = true := plainFor_of_name (by first | (simp [plainName, overriddenIn]; done) | decide +kernel)
theorem pd_20 : parseMethodDescriptor "(III)I" = some ⟨[.int, .int, .int], some .int⟩ := by decide +kernel
theorem rmUB (l : Launch) (Z : State) (a0 : Array Value) (hw : ∀ d ∈ tables_1, d.before a0 Z = true) (hel : EW Z a0 consts_1) (o sz : Int32) (b : Addr) (kb : ClassId) (vs : List Value) (fv : Value) (h0 : Heap) (n0 : Nat) (Z0 : n0 ≤ h0.size) (B : Arv Z h0 b kb .byte (16384 : Int32) vs (.int (0 : Int32))) (hA : ¬ ((8192 : Int32) ||| o) ||| sz < 0) (hB : ¬ (8192 : Int32) - o < sz) (X0 : Old Z n0 h0) (PF : Sta Z Z.heap "jdk/internal/util/Preconditions" "SIOOBE_FORMATTER" "Ljava/util/function/BiFunction;" fv) (hfv : fv.isRef = true) :
    Met l Z consts_1 [] (⟨"java/lang/StringUTF16", "checkBoundsOffCount", "(II[B)V"⟩ : MethodName) jdk_52_method_94_code 3 (Option.none : Option FieldType) [] ({ frames := 2, cells := 0, slots := 0, locals := 41 } : Room) #[(.int o), (.int sz), (.ref b)] h0 n0 (fun v h => v = none ∧ h0 = h) := by
  refine Met.of (Ls0 := #[.val (.int o), .val (.int sz), .val (.ref b)]) pl_24 (by first | (simp [argsToLocals, Value.category]; done) | rfl) hel ?_
  intro p e s m below meth c hx hby hml hret hlk hown hnm hZ
  refine Go.iloadN (q := 1) hx (hb hby d48_0) rfl rfl ?_
  refine Go.iloadN (q := 2) hx (hb hby d48_1) rfl rfl ?_
  refine Go.aloadN (q := 3) hx (hb hby d48_2) rfl (by rfl) rfl ?_
  refine Go.callS (q := 6) hx hZ (argsL := [(.ref b)]) (rest := [(.int sz), (.int o)]) hown (tw hw 240 rfl) (tw hw 241 rfl) (tw hw 198 rfl) (tw hw 242 rfl) (by decide) (rmUL l Z a0 hw hel b kb (16384 : Int32) (8192 : Int32) vs h0 n0 Z0 B (by decide)) (fun _ hx => nomatch hx) (by rw [hml]; rfl) pd_7 rfl rfl (hb hby d48_3) rfl (by decide) (ble rfl) (ce' := 0) (sl' := 0) rfl rfl (by decide) (by decide) (fun v577 h578 hQ579 => ?_)
  obtain ⟨rfl, rfl⟩ := hQ579
  show Go _ _ _ _ _ _ _ _ _ _ _ _ _ _ _ _ _ _ _ _ 0 0 6 #[.val (.int o), .val (.int sz), .val (.ref b)] [(.int (8192 : Int32)), (.int sz), (.int o)]
  refine Go.callS (q := 9) hx hZ (argsL := [(.int o), (.int sz), (.int (8192 : Int32))]) (rest := []) hown (tw hw 243 rfl) (tw hw 244 rfl) (tw hw 5 rfl) (tw hw 245 rfl) (by decide) (rmSBC l Z a0 hw hel o sz (8192 : Int32) fv h0 n0 Z0 hA hB X0 PF hfv) (fun _ hx => nomatch hx) (by rw [hml]; rfl) pd_20 rfl rfl (hb hby d48_6) rfl (by decide) (ble rfl) (ce' := 0) (sl' := 0) rfl rfl (by decide) (by decide) (fun v580 h581 hQ582 => ?_)
  obtain ⟨rfl, rfl⟩ := hQ582
  show Go _ _ _ _ _ _ _ _ _ _ _ _ _ _ _ _ _ _ _ _ 0 0 9 #[.val (.int o), .val (.int sz), .val (.ref b)] [(.int o)]
  refine Go.pop (q := 10) hx (hb hby d48_9) rfl rfl ?_
  refine Go.ret0 hx hret hlk (hb hby d48_10) (by decide) (by decide) ?_
  exact ⟨rfl, rfl⟩
theorem d47_0 : decode jdk_52_method_86_code 0 = .ok (.iload_n 3, 1) := by decide +kernel
theorem d47_1 : decode jdk_52_method_86_code 1 = .ok (.iload 4, 2) := by decide +kernel
theorem d47_3 : decode jdk_52_method_86_code 3 = .ok (.aload_n 2, 1) := by decide +kernel
theorem d47_4 : decode jdk_52_method_86_code 4 = .ok (.invokestatic 173, 3) := by decide +kernel
theorem d47_7 : decode jdk_52_method_86_code 7 = .ok (.iconst 0, 1) := by decide +kernel
theorem d47_8 : decode jdk_52_method_86_code 8 = .ok (.istore 5, 2) := by decide +kernel
theorem d47_10 : decode jdk_52_method_86_code 10 = .ok (.iload 5, 2) := by decide +kernel
theorem d47_12 : decode jdk_52_method_86_code 12 = .ok (.iload 4, 2) := by decide +kernel
theorem d47_14 : decode jdk_52_method_86_code 14 = .ok (.if_icmp .ge 27, 3) := by decide +kernel
theorem d47_17 : decode jdk_52_method_86_code 17 = .ok (.aload_n 2, 1) := by decide +kernel
theorem d47_18 : decode jdk_52_method_86_code 18 = .ok (.iload_n 3, 1) := by decide +kernel
theorem d47_19 : decode jdk_52_method_86_code 19 = .ok (.iinc 3 1, 3) := by decide +kernel
theorem d47_22 : decode jdk_52_method_86_code 22 = .ok (.aload_n 0, 1) := by decide +kernel
theorem d47_23 : decode jdk_52_method_86_code 23 = .ok (.iload_n 1, 1) := by decide +kernel
theorem d47_24 : decode jdk_52_method_86_code 24 = .ok (.iinc 1 1, 3) := by decide +kernel
theorem d47_27 : decode jdk_52_method_86_code 27 = .ok (.baload, 1) := by decide +kernel
theorem d47_28 : decode jdk_52_method_86_code 28 = .ok (.sipush 255, 3) := by decide +kernel
theorem d47_31 : decode jdk_52_method_86_code 31 = .ok (.iand, 1) := by decide +kernel
theorem d47_32 : decode jdk_52_method_86_code 32 = .ok (.invokestatic 111, 3) := by decide +kernel
theorem d47_35 : decode jdk_52_method_86_code 35 = .ok (.iinc 5 1, 3) := by decide +kernel
theorem d47_38 : decode jdk_52_method_86_code 38 = .ok (.goto (-28), 3) := by decide +kernel
theorem d47_41 : decode jdk_52_method_86_code 41 = .ok (.return_, 1) := by decide +kernel
theorem pl_25 : plainFor (⟨"java/lang/StringUTF16", "inflate", "([BI[BII)V"⟩ : MethodName) = true := plainFor_of_name (by first | (simp [plainName, overriddenIn]; done) | decide +kernel)
theorem pd_21 : parseMethodDescriptor "(II[B)V" = some ⟨[.int, .int, (.array .byte)], none⟩ := by decide +kernel
theorem rmInf (l : Launch) (Z : State) (a0 : Array Value) (hw : ∀ d ∈ tables_1, d.before a0 Z = true) (hel : EW Z a0 consts_1) (a b : Addr) (ka kb : ClassId) (za : Int32) (pr cs : List Int32) (fv : Value) (h0 : Heap) (n0 : Nat) (Z0 : n0 ≤ h0.size) (A : Arv Z h0 a ka .byte za (bL cs) (.int (0 : Int32))) (B : Arv Z h0 b kb .byte (16384 : Int32) (bU pr) (.int (0 : Int32))) (gb : n0 ≤ b) (nab : a ≠ b) (hza : ∀ t, t < cs.length → iN t < za) (hl : (pr ++ cs).length < 30) (hq : AC cs) (h8 : A8 cs) (X0 : Old Z n0 h0) (AD : Sta Z Z.heap "java/lang/StringUTF16" "$assertionsDisabled" "Z" (.int (1 : Int32))) (HB : Sta Z Z.heap "java/lang/StringUTF16" "HI_BYTE_SHIFT" "I" (.int (0 : Int32))) (LB : Sta Z Z.heap "java/lang/StringUTF16" "LO_BYTE_SHIFT" "I" (.int (8 : Int32))) (PF : Sta Z Z.heap "jdk/internal/util/Preconditions" "SIOOBE_FORMATTER" "Ljava/util/function/BiFunction;" fv) (hfv : fv.isRef = true) :
    Met l Z consts_1 [b] (⟨"java/lang/StringUTF16", "inflate", "([BI[BII)V"⟩ : MethodName) jdk_52_method_86_code 6 (Option.none : Option FieldType) [] ({ frames := 3, cells := 0, slots := 0, locals := 61 } : Room) #[(.ref a), (.int (0 : Int32)), (.ref b), (.int (iN pr.length)), (.int (iN cs.length))] h0 n0 (fun v h => v = none ∧ Keep h0 h [b] ∧ Arv Z h b kb .byte (16384 : Int32) (bU (pr ++ cs)) (.int (0 : Int32))) := by
  refine Met.of (Ls0 := #[.val (.ref a), .val (.int (0 : Int32)), .val (.ref b), .val (.int (iN pr.length)), .val (.int (iN cs.length)), .unset]) pl_25 (by first | (simp [argsToLocals, Value.category]; done) | rfl) hel ?_
  intro p e s m below meth c hx hby hml hret hlk hown hnm hZ
  have hl2 : pr.length + cs.length < 30 := by rw [← List.length_append]; exact hl
  refine Go.iloadN (q := 1) hx (hb hby d47_0) rfl rfl ?_
  refine Go.iload (q := 3) hx (hb hby d47_1) rfl rfl ?_
  refine Go.aloadN (q := 4) hx (hb hby d47_3) rfl (by rfl) rfl ?_
  refine Go.callS (q := 7) hx hZ (argsL := [(.int (iN pr.length)), (.int (iN cs.length)), (.ref b)]) (rest := []) hown (tw hw 237 rfl) (tw hw 238 rfl) (tw hw 198 rfl) (tw hw 239 rfl) (by decide) (rmUB l Z a0 hw hel (iN pr.length) (iN cs.length) b kb _ fv h0 n0 Z0 B (iN_or _ (by omega) _ (by omega)) (iN_sub _ (by omega) _ (by omega)) X0 PF hfv) (fun _ hx => nomatch hx) (by rw [hml]; rfl) pd_21 rfl rfl (hb hby d47_4) rfl (by decide) (ble rfl) (ce' := 0) (sl' := 0) rfl rfl (by decide) (by decide) (fun v583 h584 hQ585 => ?_)
  obtain ⟨rfl, rfl⟩ := hQ585
  show Go _ _ _ _ _ _ _ _ _ _ _ _ _ _ _ _ _ _ _ _ 0 0 7 #[.val (.ref a), .val (.int (0 : Int32)), .val (.ref b), .val (.int (iN pr.length)), .val (.int (iN cs.length)), .unset] []
  refine Go.iconst (q := 8) (z := (0 : Int32)) hx (hb hby d47_7) rfl rfl ?_
  refine Go.istore (q := 10) (l' := #[.val (.ref a), .val (.int (0 : Int32)), .val (.ref b), .val (.int (iN pr.length)), .val (.int (iN cs.length)), .val (.int (0 : Int32))]) hx (hb hby d47_8) rfl rfl ?_
  have loop : ∀ (rest done : List Int32), done ++ rest = cs → ∀ (hp : Heap) (K : Keep h0 hp [b]) (V : Arv Z hp b kb .byte (16384 : Int32) (bU (pr ++ done)) (.int (0 : Int32))), Go p l e ({ frames := 3, cells := 0, slots := 0, locals := 61 } : Room) s m #[(.ref a), (.int (0 : Int32)), (.ref b), (.int (iN pr.length)), (.int (iN cs.length))] below meth c n0 ({ frames := 3, cells := 0, slots := 0, locals := 61 } : Room).cells ({ frames := 3, cells := 0, slots := 0, locals := 61 } : Room).slots (fun v h => v = none ∧ Keep h0 h [b] ∧ Arv Z h b kb .byte (16384 : Int32) (bU (pr ++ cs)) (.int (0 : Int32))) Z a0 consts_1 h0 [b] hp 0 0 10 #[.val (.ref a), .val (.int (iN done.length)), .val (.ref b), .val (.int (iN (pr ++ done).length)), .val (.int (iN cs.length)), .val (.int (iN done.length))] [] := by
    intro rest
    induction rest with
    | nil =>
      intro done hd hp K V
      rw [List.append_nil] at hd
      refine Go.iload (q := 12) hx (hb hby d47_10) rfl rfl ?_
      refine Go.iload (q := 14) hx (hb hby d47_12) rfl rfl ?_
      refine Go.icmp_ge (q := 17) (t := 41) hx (hb hby d47_14) (by decide) rfl rfl (fun hc14 => ?_) (fun hc14 => absurd hc14 (by rw [hd]; exact Int32.lt_irrefl))
      refine Go.ret0 hx hret hlk (hb hby d47_41) (by decide) (by decide) ?_
      exact ⟨rfl, K, hd ▸ V⟩
    | cons cx rest ih =>
      intro done hd hp K V
      have hdl : done.length < cs.length := by rw [← hd, List.length_append, List.length_cons]; omega
      have hmem : cx ∈ cs := by rw [← hd]; simp
      have px := IX_all (pr ++ done).length (by rw [List.length_append]; omega)
      refine Go.iload (q := 12) hx (hb hby d47_10) rfl rfl ?_
      refine Go.iload (q := 14) hx (hb hby d47_12) rfl rfl ?_
      refine Go.icmp_ge (q := 17) (t := 41) hx (hb hby d47_14) (by decide) rfl rfl (fun hc14 => absurd (iN_lt (by omega) hdl) hc14) (fun hc14 => ?_)
      refine Go.aloadN (q := 18) hx (hb hby d47_17) rfl (by rfl) rfl ?_
      refine Go.iloadN (q := 19) hx (hb hby d47_18) rfl rfl ?_
      refine Go.iinc (q := 22) (l' := #[.val (.ref a), .val (.int (iN done.length)), .val (.ref b), .val (.int ((iN (pr ++ done).length) + (1 : Int32))), .val (.int (iN cs.length)), .val (.int (iN done.length))]) hx (hb hby d47_19) rfl rfl rfl ?_
      refine Go.aloadN (q := 23) hx (hb hby d47_22) rfl (by rfl) rfl ?_
      refine Go.iloadN (q := 24) hx (hb hby d47_23) rfl rfl ?_
      refine Go.iinc (q := 27) (l' := #[.val (.ref a), .val (.int ((iN done.length) + (1 : Int32))), .val (.ref b), .val (.int ((iN (pr ++ done).length) + (1 : Int32))), .val (.int (iN cs.length)), .val (.int (iN done.length))]) hx (hb hby d47_24) rfl rfl rfl ?_
      refine Go.baload (q := 28) (v := (.int (nar .byte cx.toInt8.toInt32))) hx hZ (A.keep K (ninS nab nin0)) ⟨iN_neg _ (by omega), hza _ hdl⟩ (ld_get hd (by omega)) (hb hby d47_27) rfl ?_
      refine Go.sipush (q := 31) (z := (255 : Int32)) hx (hb hby d47_28) rfl rfl ?_
      refine Go.iand (q := 32) hx (hb hby d47_31) rfl ?_
      rw [lat_and (hq cx hmem) (h8 cx hmem)]
      refine Go.callS (q := 35) hx hZ (argsL := [(.ref b), (.int (iN (pr ++ done).length)), (.int cx)]) (rest := []) hown (tw hw 216 rfl) (tw hw 217 rfl) (tw hw 198 rfl) (tw hw 218 rfl) (by decide) (rmPut l Z a0 hw hel b kb (16384 : Int32) (iN (pr ++ done).length) (iN (2 * (pr ++ done).length)) cx (2 * (pr ++ done).length) (bU (pr ++ done) ++ List.replicate 2 (Value.int (0 : Int32))) (bU ((pr ++ done) ++ [cx])) hp n0 (Nat.le_trans Z0 K.1) (V.pad (pad_rep _ _ 2)) gb px.1 px.2.1 px.2.2.1 px.2.2.2.1 px.2.2.2.2 (put_len _) (put_set _ _) (X0.keep K (allS gb all0)) AD HB LB) (by simp) (by rw [hml]; rfl) pd_9 rfl rfl (hb hby d47_32) rfl (by decide) (ble rfl) (ce' := 0) (sl' := 0) rfl rfl (by decide) (by decide) (fun v586 h587 hQ588 => ?_)
      obtain ⟨rfl, K589, V590⟩ := hQ588
      show Go _ _ _ _ _ _ _ _ _ _ _ _ _ _ _ _ _ _ _ _ 0 0 35 #[.val (.ref a), .val (.int ((iN done.length) + (1 : Int32))), .val (.ref b), .val (.int ((iN (pr ++ done).length) + (1 : Int32))), .val (.int (iN cs.length)), .val (.int (iN done.length))] []
      refine Go.iinc (q := 38) (l' := #[.val (.ref a), .val (.int ((iN done.length) + (1 : Int32))), .val (.ref b), .val (.int ((iN (pr ++ done).length) + (1 : Int32))), .val (.int (iN cs.length)), .val (.int ((iN done.length) + (1 : Int32)))]) hx (hb hby d47_35) rfl rfl rfl ?_
      refine Go.goto (q := 10) hx (hb hby d47_38) (by decide) rfl ?_
      have G := ih (done ++ [cx]) (by rw [List.append_assoc]; exact hd) h587 (Keep.trans K K589 (allS (Or.inl (by simp)) all0)) (by rw [← List.append_assoc]; exact V590)
      rw [show (done ++ [cx]).length = done.length + 1 from by simp, show (pr ++ (done ++ [cx])).length = (pr ++ done).length + 1 from by simp only [List.length_append, List.length_cons, List.length_nil]; omega, ← iN_s, ← iN_s] at G
      exact G
  have G := loop cs [] rfl h0 (Keep.refl h0 [b]) (by rw [List.append_nil]; exact B)
  rw [List.append_nil] at G
  exact G
theorem d46_0 : decode jdk_43_method_50_code 0 = .ok (.aload_n 0, 1) := by decide +kernel
theorem d46_1 : decode jdk_43_method_50_code 1 = .ok (.iload_n 1, 1) := by decide +kernel
theorem d46_2 : decode jdk_43_method_50_code 2 = .ok (.aload_n 2, 1) := by decide +kernel
theorem d46_3 : decode jdk_43_method_50_code 3 = .ok (.iload_n 3, 1) := by decide +kernel
theorem d46_4 : decode jdk_43_method_50_code 4 = .ok (.iload 4, 2) := by decide +kernel
theorem d46_6 : decode jdk_43_method_50_code 6 = .ok (.invokestatic 240, 3) := by decide +kernel
theorem d46_9 : decode jdk_43_method_50_code 9 = .ok (.return_, 1) := by decide +kernel
theorem pl_26 : plainFor (⟨"java/lang/StringLatin1", "inflate", "([BI[BII)V"⟩ : MethodName) = true := plainFor_of_name (by first | (simp [plainName, overriddenIn]; done) | decide +kernel)
theorem rmLI (l : Launch) (Z : State) (a0 : Array Value) (hw : ∀ d ∈ tables_1, d.before a0 Z = true) (hel : EW Z a0 consts_1) (a b : Addr) (ka kb : ClassId) (za : Int32) (pr cs : List Int32) (fv : Value) (h0 : Heap) (n0 : Nat) (Z0 : n0 ≤ h0.size) (A : Arv Z h0 a ka .byte za (bL cs) (.int (0 : Int32))) (B : Arv Z h0 b kb .byte (16384 : Int32) (bU pr) (.int (0 : Int32))) (gb : n0 ≤ b) (nab : a ≠ b) (hza : ∀ t, t < cs.length → iN t < za) (hl : (pr ++ cs).length < 30) (hq : AC cs) (h8 : A8 cs) (X0 : Old Z n0 h0) (AD : Sta Z Z.heap "java/lang/StringUTF16" "$assertionsDisabled" "Z" (.int (1 : Int32))) (HB : Sta Z Z.heap "java/lang/StringUTF16" "HI_BYTE_SHIFT" "I" (.int (0 : Int32))) (LB : Sta Z Z.heap "java/lang/StringUTF16" "LO_BYTE_SHIFT" "I" (.int (8 : Int32))) (PF : Sta Z Z.heap "jdk/internal/util/Preconditions" "SIOOBE_FORMATTER" "Ljava/util/function/BiFunction;" fv) (hfv : fv.isRef = true) :
    Met l Z consts_1 [b] (⟨"java/lang/StringLatin1", "inflate", "([BI[BII)V"⟩ : MethodName) jdk_43_method_50_code 5 (Option.none : Option FieldType) [] ({ frames := 4, cells := 0, slots := 0, locals := 84 } : Room) #[(.ref a), (.int (0 : Int32)), (.ref b), (.int (iN pr.length)), (.int (iN cs.length))] h0 n0 (fun v h => v = none ∧ Keep h0 h [b] ∧ Arv Z h b kb .byte (16384 : Int32) (bU (pr ++ cs)) (.int (0 : Int32))) := by
  refine Met.of (Ls0 := #[.val (.ref a), .val (.int (0 : Int32)), .val (.ref b), .val (.int (iN pr.length)), .val (.int (iN cs.length))]) pl_26 (by first | (simp [argsToLocals, Value.category]; done) | rfl) hel ?_
  intro p e s m below meth c hx hby hml hret hlk hown hnm hZ
  have hl2 : pr.length + cs.length < 30 := by rw [← List.length_append]; exact hl
  refine Go.aloadN (q := 1) hx (hb hby d46_0) rfl (by rfl) rfl ?_
  refine Go.iloadN (q := 2) hx (hb hby d46_1) rfl rfl ?_
  refine Go.aloadN (q := 3) hx (hb hby d46_2) rfl (by rfl) rfl ?_
  refine Go.iloadN (q := 4) hx (hb hby d46_3) rfl rfl ?_
  refine Go.iload (q := 6) hx (hb hby d46_4) rfl rfl ?_
  refine Go.callS (q := 9) hx hZ (argsL := [(.ref a), (.int (0 : Int32)), (.ref b), (.int (iN pr.length)), (.int (iN cs.length))]) (rest := []) hown (tw hw 234 rfl) (tw hw 235 rfl) (tw hw 198 rfl) (tw hw 236 rfl) (by decide) (rmInf l Z a0 hw hel a b ka kb za pr cs fv h0 n0 Z0 A B gb nab hza hl hq h8 X0 AD HB LB PF hfv) (by simp) (by rw [hml]; rfl) pd_13 rfl rfl (hb hby d46_6) rfl (by decide) (ble rfl) (ce' := 0) (sl' := 0) rfl rfl (by decide) (by decide) (fun v591 h592 hQ593 => ?_)
  obtain ⟨rfl, Y⟩ := hQ593
  show Go _ _ _ _ _ _ _ _ _ _ _ _ _ _ _ _ _ _ _ _ 0 0 9 #[.val (.ref a), .val (.int (0 : Int32)), .val (.ref b), .val (.int (iN pr.length)), .val (.int (iN cs.length))] []
  refine Go.ret0 hx hret hlk (hb hby d46_9) (by decide) (by decide) ?_
  exact ⟨rfl, Y⟩
theorem d45_0 : decode jdk_68_method_11_code 0 = .ok (.aload_n 0, 1) := by decide +kernel
theorem d45_1 : decode jdk_68_method_11_code 1 = .ok (.invokevirtual 83, 3) := by decide +kernel
theorem d45_4 : decode jdk_68_method_11_code 4 = .ok (.ifCond .ne 4, 3) := by decide +kernel
theorem d45_7 : decode jdk_68_method_11_code 7 = .ok (.return_, 1) := by decide +kernel
theorem d45_8 : decode jdk_68_method_11_code 8 = .ok (.aload_n 0, 1) := by decide +kernel
theorem d45_9 : decode jdk_68_method_11_code 9 = .ok (.getfield 15, 3) := by decide +kernel
theorem d45_12 : decode jdk_68_method_11_code 12 = .ok (.arraylength, 1) := by decide +kernel
theorem d45_13 : decode jdk_68_method_11_code 13 = .ok (.invokestatic 26, 3) := by decide +kernel
theorem d45_16 : decode jdk_68_method_11_code 16 = .ok (.astore_n 1, 1) := by decide +kernel
theorem d45_17 : decode jdk_68_method_11_code 17 = .ok (.aload_n 0, 1) := by decide +kernel
theorem d45_18 : decode jdk_68_method_11_code 18 = .ok (.getfield 15, 3) := by decide +kernel
theorem d45_21 : decode jdk_68_method_11_code 21 = .ok (.iconst 0, 1) := by decide +kernel
theorem d45_22 : decode jdk_68_method_11_code 22 = .ok (.aload_n 1, 1) := by decide +kernel
theorem d45_23 : decode jdk_68_method_11_code 23 = .ok (.iconst 0, 1) := by decide +kernel
theorem d45_24 : decode jdk_68_method_11_code 24 = .ok (.aload_n 0, 1) := by decide +kernel
theorem d45_25 : decode jdk_68_method_11_code 25 = .ok (.getfield 79, 3) := by decide +kernel
theorem d45_28 : decode jdk_68_method_11_code 28 = .ok (.invokestatic 125, 3) := by decide +kernel
theorem d45_31 : decode jdk_68_method_11_code 31 = .ok (.aload_n 0, 1) := by decide +kernel
theorem d45_32 : decode jdk_68_method_11_code 32 = .ok (.aload_n 1, 1) := by decide +kernel
theorem d45_33 : decode jdk_68_method_11_code 33 = .ok (.putfield 15, 3) := by decide +kernel
theorem d45_36 : decode jdk_68_method_11_code 36 = .ok (.aload_n 0, 1) := by decide +kernel
theorem d45_37 : decode jdk_68_method_11_code 37 = .ok (.iconst 1, 1) := by decide +kernel
theorem d45_38 : decode jdk_68_method_11_code 38 = .ok (.putfield 22, 3) := by decide +kernel
theorem d45_41 : decode jdk_68_method_11_code 41 = .ok (.return_, 1) := by decide +kernel
theorem pl_27 : plainFor (⟨"java/lang/AbstractStringBuilder", "inflate", "()V"⟩ : MethodName) = true := plainFor_of_name (by first | (simp [plainName, overriddenIn]; done) | decide +kernel)
theorem pd_22 : parseMethodDescriptor "()Z" = some ⟨[], some .boolean⟩ := by decide +kernel
theorem rmIFU (l : Launch) (Z : State) (a0 : Array Value) (hw : ∀ d ∈ tables_1, d.before a0 Z = true) (hel : EW Z a0 consts_1) (sb : Addr) (cst : Int32) (h0 : Heap) (n0 : Nat) (Z0 : n0 ≤ h0.size) (E : Exa Z h0 sb "java/lang/StringBuilder") (F2 : Fld Z h0 sb "java/lang/AbstractStringBuilder" "coder" "B" (.int (1 : Int32))) (X0 : Old Z n0 h0) (SC : Sta Z Z.heap "java/lang/String" "COMPACT_STRINGS" "Z" (.int cst)) (hcs : ¬ cst = (0 : Int32)) :
    Met l Z consts_1 [] (⟨"java/lang/AbstractStringBuilder", "inflate", "()V"⟩ : MethodName) jdk_68_method_11_code 2 (Option.none : Option FieldType) [] ({ frames := 1, cells := 0, slots := 0, locals := 18 } : Room) #[(.ref sb)] h0 n0 (fun v h => v = none ∧ h0 = h) := by
  refine Met.of (Ls0 := #[.val (.ref sb), .unset]) pl_27 (by first | (simp [argsToLocals, Value.category]; done) | rfl) hel ?_
  intro p e s m below meth c hx hby hml hret hlk hown hnm hZ
  refine Go.aloadN (q := 1) hx (hb hby d45_0) rfl (by rfl) rfl ?_
  refine Go.callV (q := 4) hx hZ (a := sb) (argsL := []) (rest := []) hown (tw hw 106 rfl) (tw hw 107 rfl) (fun vm hzv => notFace_of_selects (args := #[]) (mvT hzv (tw hw 109 rfl))) (tw hw 109 rfl) (tw hw 108 rfl) (tw hw 31 rfl) (tw hw 110 rfl) (by decide) E (rmBL1 l Z a0 hw hel sb cst h0 n0 Z0 F2 X0 SC hcs) (fun _ hx => nomatch hx) (by rw [hml]; rfl) pd_22 rfl rfl (hb hby d45_1) rfl (by decide) (ble rfl) (ce' := 0) (sl' := 0) rfl rfl (by decide) (by decide) (fun v594 h595 hQ596 => ?_)
  obtain ⟨rfl, rfl⟩ := hQ596
  show Go _ _ _ _ _ _ _ _ _ _ _ _ _ _ _ _ _ _ _ _ 0 0 4 #[.val (.ref sb), .unset] [(.int (0 : Int32))]
  refine Go.if_ne (q := 7) (t := 8) hx (hb hby d45_4) (by decide) rfl rfl (fun hc4 => absurd hc4 (by decide)) (fun hc4 => ?_)
  refine Go.ret0 hx hret hlk (hb hby d45_7) (by decide) (by decide) ?_
  exact ⟨rfl, rfl⟩
theorem rmINX (l : Launch) (Z : State) (a0 : Array Value) (hw : ∀ d ∈ tables_1, d.before a0 Z = true) (hel : EW Z a0 consts_1) (sb ts : Addr) (cst : Int32) (h0 : Heap) (n0 : Nat) (Z0 : n0 ≤ h0.size) (E : Exa Z h0 sb "java/lang/StringBuilder") (F2 : Fld Z h0 sb "java/lang/AbstractStringBuilder" "coder" "B" (.int (1 : Int32))) (TE : Exa Z h0 ts "java/lang/String") (T2 : Fld Z h0 ts "java/lang/String" "coder" "B" (.int (0 : Int32))) (X0 : Old Z n0 h0) (SC : Sta Z Z.heap "java/lang/String" "COMPACT_STRINGS" "Z" (.int cst)) (hcs : ¬ cst = (0 : Int32)) :
    Met l Z consts_1 [] (⟨"java/lang/AbstractStringBuilder", "inflateIfNeededFor", "(Ljava/lang/String;)V"⟩ : MethodName) jdk_68_method_71_code 2 (Option.none : Option FieldType) [] ({ frames := 2, cells := 0, slots := 0, locals := 37 } : Room) #[(.ref sb), (.ref ts)] h0 n0 (fun v h => v = none ∧ h0 = h) := by
  refine Met.of (Ls0 := #[.val (.ref sb), .val (.ref ts)]) pl_19 (by first | (simp [argsToLocals, Value.category]; done) | rfl) hel ?_
  intro p e s m below meth c hx hby hml hret hlk hown hnm hZ
  refine Go.getS (q := 3) hx hZ hown (host := "") (Or.inl (tw hw 34 rfl)) Via.refl (Sta.ext X0.2 SC) (hb hby d12_0) rfl ?_
  refine Go.if_eq (q := 6) (t := 21) hx (hb hby d12_3) (by decide) rfl rfl (fun hc3 => absurd hc3 hcs) (fun hc3 => ?_)
  refine Go.aloadN (q := 7) hx (hb hby d12_6) rfl (by rfl) rfl ?_
  refine Go.getF (q := 10) hx hZ hown (host := "") (Or.inl (tw hw 37 rfl)) Via.refl F2 (hb hby d12_7) rfl ?_
  refine Go.aloadN (q := 11) hx (hb hby d12_10) rfl (by rfl) rfl ?_
  refine Go.callV (q := 14) hx hZ (a := ts) (argsL := []) (rest := [(.int (1 : Int32))]) hown (tw hw 87 rfl) (tw hw 64 rfl) (fun vm hzv => notFace_of_selects (args := #[]) (mvT hzv (tw hw 66 rfl))) (tw hw 66 rfl) (tw hw 65 rfl) (tw hw 5 rfl) (tw hw 67 rfl) (by decide) TE (rmCo0 l Z a0 hw hel ts cst h0 n0 Z0 T2 X0 SC hcs) (fun _ hx => nomatch hx) (by rw [hml]; rfl) pd_11 rfl rfl (hb hby d12_11) rfl (by decide) (ble rfl) (ce' := 0) (sl' := 0) rfl rfl (by decide) (by decide) (fun v597 h598 hQ599 => ?_)
  obtain ⟨rfl, rfl⟩ := hQ599
  show Go _ _ _ _ _ _ _ _ _ _ _ _ _ _ _ _ _ _ _ _ 0 0 14 #[.val (.ref sb), .val (.ref ts)] [(.int (0 : Int32)), (.int (1 : Int32))]
  refine Go.icmp_eq (q := 17) (t := 21) hx (hb hby d12_14) (by decide) rfl rfl (fun hc14 => absurd hc14 (by decide)) (fun hc14 => ?_)
  refine Go.aloadN (q := 18) hx (hb hby d12_17) rfl (by rfl) rfl ?_
  refine Go.callP (q := 21) hx hZ (a := sb) (argsL := []) (rest := []) hown (tw hw 225 rfl) (tw hw 227 rfl) (own_selPriv (tw hw 228 rfl) (tw hw 227 rfl) (tw hw 226 rfl) (by decide)) (tw hw 226 rfl) (tw hw 31 rfl) (tw hw 229 rfl) (by decide) E (rmIFU l Z a0 hw hel sb cst h0 n0 Z0 E F2 X0 SC hcs) (fun _ hx => nomatch hx) (by rw [hml]; rfl) pd_3 rfl rfl (hb hby d12_18) rfl (by decide) (ble rfl) (ce' := 0) (sl' := 0) rfl rfl (by decide) (by decide) (fun v600 h601 hQ602 => ?_)
  obtain ⟨rfl, rfl⟩ := hQ602
  show Go _ _ _ _ _ _ _ _ _ _ _ _ _ _ _ _ _ _ _ _ 0 0 21 #[.val (.ref sb), .val (.ref ts)] []
  refine Go.ret0 hx hret hlk (hb hby d12_21) (by decide) (by decide) ?_
  exact ⟨rfl, rfl⟩
theorem rmGX (l : Launch) (Z : State) (a0 : Array Value) (hw : ∀ d ∈ tables_1, d.before a0 Z = true) (hel : EW Z a0 consts_1) (ts tb : Addr) (kt : ClassId) (b : Addr) (kb : ClassId) (cst : Int32) (fv : Value) (cs ds : List Int32) (h0 : Heap) (n0 : Nat) (Z0 : n0 ≤ h0.size) (TE : Exa Z h0 ts "java/lang/String") (T1 : Fld Z h0 ts "java/lang/String" "value" "[B" (.ref tb)) (T2 : Fld Z h0 ts "java/lang/String" "coder" "B" (.int (0 : Int32))) (TB : Arv Z h0 tb kt .byte (iN ds.length) (bL ds) (.int (0 : Int32))) (gb : n0 ≤ b) (B : Arv Z h0 b kb .byte (16384 : Int32) (bU cs) (.int (0 : Int32))) (ntb : tb ≠ b) (hl : (cs ++ ds).length < 30) (hq : AC ds) (h8 : A8 ds) (X0 : Old Z n0 h0) (SC : Sta Z Z.heap "java/lang/String" "COMPACT_STRINGS" "Z" (.int cst)) (hcs : ¬ cst = (0 : Int32)) (AD : Sta Z Z.heap "java/lang/StringUTF16" "$assertionsDisabled" "Z" (.int (1 : Int32))) (HB : Sta Z Z.heap "java/lang/StringUTF16" "HI_BYTE_SHIFT" "I" (.int (0 : Int32))) (LB : Sta Z Z.heap "java/lang/StringUTF16" "LO_BYTE_SHIFT" "I" (.int (8 : Int32))) (PF : Sta Z Z.heap "jdk/internal/util/Preconditions" "SIOOBE_FORMATTER" "Ljava/util/function/BiFunction;" fv) (hfv : fv.isRef = true) :
    Met l Z consts_1 [b] (⟨"java/lang/String", "getBytes", "([BIB)V"⟩ : MethodName) jdk_42_method_147_code 4 (Option.none : Option FieldType) [] ({ frames := 5, cells := 0, slots := 0, locals := 106 } : Room) #[(.ref ts), (.ref b), (.int (iN cs.length)), (.int (1 : Int32))] h0 n0 (fun v h => v = none ∧ Keep h0 h [b] ∧ Arv Z h b kb .byte (16384 : Int32) (bU (cs ++ ds)) (.int (0 : Int32))) := by
  refine Met.of (Ls0 := #[.val (.ref ts), .val (.ref b), .val (.int (iN cs.length)), .val (.int (1 : Int32))]) pl_18 (by first | (simp [argsToLocals, Value.category]; done) | rfl) hel ?_
  intro p e s m below meth c hx hby hml hret hlk hown hnm hZ
  have hl2 : cs.length + ds.length < 30 := by rw [← List.length_append]; exact hl
  refine Go.aloadN (q := 1) hx (hb hby d13_0) rfl (by rfl) rfl ?_
  refine Go.callV (q := 4) hx hZ (a := ts) (argsL := []) (rest := []) hown (tw hw 63 rfl) (tw hw 64 rfl) (fun vm hzv => notFace_of_selects (args := #[]) (mvT hzv (tw hw 66 rfl))) (tw hw 66 rfl) (tw hw 65 rfl) (tw hw 5 rfl) (tw hw 67 rfl) (by decide) TE (rmCo0 l Z a0 hw hel ts cst h0 n0 Z0 T2 X0 SC hcs) (fun _ hx => nomatch hx) (by rw [hml]; rfl) pd_11 rfl rfl (hb hby d13_1) rfl (by decide) (ble rfl) (ce' := 0) (sl' := 0) rfl rfl (by decide) (by decide) (fun v603 h604 hQ605 => ?_)
  obtain ⟨rfl, rfl⟩ := hQ605
  show Go _ _ _ _ _ _ _ _ _ _ _ _ _ _ _ _ _ _ _ _ 0 0 4 #[.val (.ref ts), .val (.ref b), .val (.int (iN cs.length)), .val (.int (1 : Int32))] [(.int (0 : Int32))]
  refine Go.iloadN (q := 5) hx (hb hby d13_4) rfl rfl ?_
  refine Go.icmp_ne (q := 8) (t := 28) hx (hb hby d13_5) (by decide) rfl rfl (fun hc5 => ?_) (fun hc5 => absurd hc5 (by decide))
  refine Go.aloadN (q := 29) hx (hb hby d13_28) rfl (by rfl) rfl ?_
  refine Go.getF (q := 32) hx hZ hown (host := "") (Or.inl (tw hw 62 rfl)) Via.refl T1 (hb hby d13_29) rfl ?_
  refine Go.iconst (q := 33) (z := (0 : Int32)) hx (hb hby d13_32) rfl rfl ?_
  refine Go.aloadN (q := 34) hx (hb hby d13_33) rfl (by rfl) rfl ?_
  refine Go.iloadN (q := 35) hx (hb hby d13_34) rfl rfl ?_
  refine Go.aloadN (q := 36) hx (hb hby d13_35) rfl (by rfl) rfl ?_
  refine Go.getF (q := 39) hx hZ hown (host := "") (Or.inl (tw hw 62 rfl)) Via.refl T1 (hb hby d13_36) rfl ?_
  refine Go.alen (q := 40) hx hZ TB (hb hby d13_39) rfl ?_
  refine Go.callS (q := 43) hx hZ (argsL := [(.ref tb), (.int (0 : Int32)), (.ref b), (.int (iN cs.length)), (.int (iN ds.length))]) (rest := []) hown (tw hw 258 rfl) (tw hw 232 rfl) (tw hw 113 rfl) (tw hw 233 rfl) (by decide) (rmLI l Z a0 hw hel tb b kt kb (iN ds.length) cs ds fv h0 n0 Z0 TB B gb ntb (fun t ht => iN_lt (by omega) ht) hl hq h8 X0 AD HB LB PF hfv) (by simp) (by rw [hml]; rfl) pd_13 rfl rfl (hb hby d13_40) rfl (by decide) (ble rfl) (ce' := 0) (sl' := 0) rfl rfl (by decide) (by decide) (fun v606 h607 hQ608 => ?_)
  obtain ⟨rfl, Y⟩ := hQ608
  show Go _ _ _ _ _ _ _ _ _ _ _ _ _ _ _ _ _ _ _ _ 0 0 43 #[.val (.ref ts), .val (.ref b), .val (.int (iN cs.length)), .val (.int (1 : Int32))] []
  refine Go.ret0 hx hret hlk (hb hby d13_43) (by decide) (by decide) ?_
  exact ⟨rfl, Y⟩
theorem rmPX (l : Launch) (Z : State) (a0 : Array Value) (hw : ∀ d ∈ tables_1, d.before a0 Z = true) (hel : EW Z a0 consts_1) (sb b : Addr) (kb : ClassId) (ts tb : Addr) (kt : ClassId) (cst : Int32) (fv : Value) (cs ds : List Int32) (h0 : Heap) (n0 : Nat) (Z0 : n0 ≤ h0.size) (nsb : sb ≠ b) (gs : n0 ≤ sb) (gb : n0 ≤ b) (E : Exa Z h0 sb "java/lang/StringBuilder") (F1 : Fld Z h0 sb "java/lang/AbstractStringBuilder" "value" "[B" (.ref b)) (F2 : Fld Z h0 sb "java/lang/AbstractStringBuilder" "coder" "B" (.int (1 : Int32))) (F3 : Fld Z h0 sb "java/lang/AbstractStringBuilder" "count" "I" (.int (iN cs.length))) (F4 : Fld Z h0 sb "java/lang/AbstractStringBuilder" "maybeLatin1" "Z" (.int (0 : Int32))) (B : Arv Z h0 b kb .byte (16384 : Int32) (bU cs) (.int (0 : Int32))) (TE : Exa Z h0 ts "java/lang/String") (T1 : Fld Z h0 ts "java/lang/String" "value" "[B" (.ref tb)) (T2 : Fld Z h0 ts "java/lang/String" "coder" "B" (.int (0 : Int32))) (TB : Arv Z h0 tb kt .byte (iN ds.length) (bL ds) (.int (0 : Int32))) (ntb : tb ≠ b) (hl : (cs ++ ds).length < 30) (hq : AC ds) (h8 : A8 ds) (X0 : Old Z n0 h0) (SC : Sta Z Z.heap "java/lang/String" "COMPACT_STRINGS" "Z" (.int cst)) (hcs : ¬ cst = (0 : Int32)) (AD : Sta Z Z.heap "java/lang/StringUTF16" "$assertionsDisabled" "Z" (.int (1 : Int32))) (HB : Sta Z Z.heap "java/lang/StringUTF16" "HI_BYTE_SHIFT" "I" (.int (0 : Int32))) (LB : Sta Z Z.heap "java/lang/StringUTF16" "LO_BYTE_SHIFT" "I" (.int (8 : Int32))) (PF : Sta Z Z.heap "jdk/internal/util/Preconditions" "SIOOBE_FORMATTER" "Ljava/util/function/BiFunction;" fv) (hfv : fv.isRef = true) :
    Met l Z consts_1 [b] (⟨"java/lang/AbstractStringBuilder", "putStringAt", "(ILjava/lang/String;)V"⟩ : MethodName) jdk_68_method_73_code 3 (Option.none : Option FieldType) [] ({ frames := 6, cells := 0, slots := 0, locals := 127 } : Room) #[(.ref sb), (.int (iN cs.length)), (.ref ts)] h0 n0 (fun v h => v = none ∧ Keep h0 h [b] ∧ Arv Z h b kb .byte (16384 : Int32) (bU (cs ++ ds)) (.int (0 : Int32))) := by
  refine Met.of (Ls0 := #[.val (.ref sb), .val (.int (iN cs.length)), .val (.ref ts)]) pl_20 (by first | (simp [argsToLocals, Value.category]; done) | rfl) hel ?_
  intro p e s m below meth c hx hby hml hret hlk hown hnm hZ
  refine Go.aloadN (q := 1) hx (hb hby d11_0) rfl (by rfl) rfl ?_
  refine Go.aloadN (q := 2) hx (hb hby d11_1) rfl (by rfl) rfl ?_
  refine Go.callP (q := 5) hx hZ (a := sb) (argsL := [(.ref ts)]) (rest := []) hown (tw hw 82 rfl) (tw hw 84 rfl) (own_selPriv (tw hw 85 rfl) (tw hw 84 rfl) (tw hw 83 rfl) (by decide)) (tw hw 83 rfl) (tw hw 31 rfl) (tw hw 86 rfl) (by decide) E (rmINX l Z a0 hw hel sb ts cst h0 n0 Z0 E F2 TE T2 X0 SC hcs) (fun _ hx => nomatch hx) (by rw [hml]; rfl) pd_14 rfl rfl (hb hby d11_2) rfl (by decide) (ble rfl) (ce' := 0) (sl' := 0) rfl rfl (by decide) (by decide) (fun v609 h610 hQ611 => ?_)
  obtain ⟨rfl, rfl⟩ := hQ611
  show Go _ _ _ _ _ _ _ _ _ _ _ _ _ _ _ _ _ _ _ _ 0 0 5 #[.val (.ref sb), .val (.int (iN cs.length)), .val (.ref ts)] []
  refine Go.aloadN (q := 6) hx (hb hby d11_5) rfl (by rfl) rfl ?_
  refine Go.aloadN (q := 7) hx (hb hby d11_6) rfl (by rfl) rfl ?_
  refine Go.getF (q := 10) hx hZ hown (host := "") (Or.inl (tw hw 35 rfl)) Via.refl F1 (hb hby d11_7) rfl ?_
  refine Go.iloadN (q := 11) hx (hb hby d11_10) rfl rfl ?_
  refine Go.aloadN (q := 12) hx (hb hby d11_11) rfl (by rfl) rfl ?_
  refine Go.getF (q := 15) hx hZ hown (host := "") (Or.inl (tw hw 37 rfl)) Via.refl F2 (hb hby d11_12) rfl ?_
  refine Go.callV (q := 18) hx hZ (a := ts) (argsL := [(.ref b), (.int (iN cs.length)), (.int (1 : Int32))]) (rest := []) hown (tw hw 88 rfl) (tw hw 89 rfl) (fun vm hzv => notFace_of_selects (args := #[]) (mvT hzv (tw hw 91 rfl))) (tw hw 91 rfl) (tw hw 90 rfl) (tw hw 5 rfl) (tw hw 92 rfl) (by decide) TE (rmGX l Z a0 hw hel ts tb kt b kb cst fv cs ds h0 n0 Z0 TE T1 T2 TB gb B ntb hl hq h8 X0 SC hcs AD HB LB PF hfv) (by simp) (by rw [hml]; rfl) pd_15 rfl rfl (hb hby d11_15) rfl (by decide) (ble rfl) (ce' := 0) (sl' := 0) rfl rfl (by decide) (by decide) (fun v612 h613 hQ614 => ?_)
  obtain ⟨rfl, Y⟩ := hQ614
  show Go _ _ _ _ _ _ _ _ _ _ _ _ _ _ _ _ _ _ _ _ 0 0 18 #[.val (.ref sb), .val (.int (iN cs.length)), .val (.ref ts)] []
  refine Go.ret0 hx hret hlk (hb hby d11_18) (by decide) (by decide) ?_
  exact ⟨rfl, Y⟩
theorem rmAX (l : Launch) (Z : State) (a0 : Array Value) (hw : ∀ d ∈ tables_1, d.before a0 Z = true) (hel : EW Z a0 consts_1) (sb b : Addr) (kb : ClassId) (ts tb : Addr) (kt : ClassId) (cst : Int32) (fv : Value) (cs ds : List Int32) (h0 : Heap) (n0 : Nat) (Z0 : n0 ≤ h0.size) (nsb : sb ≠ b) (gs : n0 ≤ sb) (gb : n0 ≤ b) (E : Exa Z h0 sb "java/lang/StringBuilder") (F1 : Fld Z h0 sb "java/lang/AbstractStringBuilder" "value" "[B" (.ref b)) (F2 : Fld Z h0 sb "java/lang/AbstractStringBuilder" "coder" "B" (.int (1 : Int32))) (F3 : Fld Z h0 sb "java/lang/AbstractStringBuilder" "count" "I" (.int (iN cs.length))) (F4 : Fld Z h0 sb "java/lang/AbstractStringBuilder" "maybeLatin1" "Z" (.int (0 : Int32))) (B : Arv Z h0 b kb .byte (16384 : Int32) (bU cs) (.int (0 : Int32))) (TE : Exa Z h0 ts "java/lang/String") (T1 : Fld Z h0 ts "java/lang/String" "value" "[B" (.ref tb)) (T2 : Fld Z h0 ts "java/lang/String" "coder" "B" (.int (0 : Int32))) (TB : Arv Z h0 tb kt .byte (iN ds.length) (bL ds) (.int (0 : Int32))) (ntb : tb ≠ b) (hl : (cs ++ ds).length < 30) (hq : AC ds) (h8 : A8 ds) (X0 : Old Z n0 h0) (SC : Sta Z Z.heap "java/lang/String" "COMPACT_STRINGS" "Z" (.int cst)) (hcs : ¬ cst = (0 : Int32)) (AD : Sta Z Z.heap "java/lang/StringUTF16" "$assertionsDisabled" "Z" (.int (1 : Int32))) (HB : Sta Z Z.heap "java/lang/StringUTF16" "HI_BYTE_SHIFT" "I" (.int (0 : Int32))) (LB : Sta Z Z.heap "java/lang/StringUTF16" "LO_BYTE_SHIFT" "I" (.int (8 : Int32))) (PF : Sta Z Z.heap "jdk/internal/util/Preconditions" "SIOOBE_FORMATTER" "Ljava/util/function/BiFunction;" fv) (hfv : fv.isRef = true) :
    Met l Z consts_1 [sb, b] (⟨"java/lang/AbstractStringBuilder", "append", "(Ljava/lang/String;)Ljava/lang/AbstractStringBuilder;"⟩ : MethodName) jdk_68_method_22_code 3 (Option.some (FieldType.object "java/lang/AbstractStringBuilder")) [] ({ frames := 7, cells := 0, slots := 0, locals := 147 } : Room) #[(.ref sb), (.ref ts)] h0 n0 (fun v h => v = some (.ref sb) ∧ Keep h0 h [sb, b] ∧ Fld Z h sb "java/lang/AbstractStringBuilder" "value" "[B" (.ref b) ∧ Fld Z h sb "java/lang/AbstractStringBuilder" "coder" "B" (.int (1 : Int32)) ∧ Fld Z h sb "java/lang/AbstractStringBuilder" "count" "I" (.int (iN (cs ++ ds).length)) ∧ Fld Z h sb "java/lang/AbstractStringBuilder" "maybeLatin1" "Z" (.int (0 : Int32)) ∧ Arv Z h b kb .byte (16384 : Int32) (bU (cs ++ ds)) (.int (0 : Int32))) := by
  refine Met.of (Ls0 := #[.val (.ref sb), .val (.ref ts), .unset]) pl_21 (by first | (simp [argsToLocals, Value.category]; done) | rfl) hel ?_
  intro p e s m below meth c hx hby hml hret hlk hown hnm hZ
  have hl2 : cs.length + ds.length < 30 := by rw [← List.length_append]; exact hl
  have hmk : iN cs.length + iN ds.length = iN (cs ++ ds).length := by rw [iN_a, List.length_append]
  have hx8 := iN_x8 (cs ++ ds).length (by omega)
  refine Go.aloadN (q := 1) hx (hb hby d7_0) rfl (by rfl) rfl ?_
  refine Go.ifnonnullT (t := 9) hx (hb hby d7_1) (by decide) rfl ?_
  refine Go.aloadN (q := 10) hx (hb hby d7_9) rfl (by rfl) rfl ?_
  refine Go.callV (q := 13) hx hZ (a := ts) (argsL := []) (rest := []) hown (tw hw 57 rfl) (tw hw 58 rfl) (fun vm hzv => notFace_of_selects (args := #[]) (mvT hzv (tw hw 60 rfl))) (tw hw 60 rfl) (tw hw 59 rfl) (tw hw 5 rfl) (tw hw 61 rfl) (by decide) TE (rmLe0 l Z a0 hw hel ts tb kt cst (iN ds.length) (iN ds.length) _ h0 n0 Z0 TE T1 T2 TB (iN_shr0 _ (by omega)) X0 SC hcs) (fun _ hx => nomatch hx) (by rw [hml]; rfl) pd_16 rfl rfl (hb hby d7_10) rfl (by decide) (ble rfl) (ce' := 0) (sl' := 0) rfl rfl (by decide) (by decide) (fun v615 h616 hQ617 => ?_)
  obtain ⟨rfl, rfl⟩ := hQ617
  show Go _ _ _ _ _ _ _ _ _ _ _ _ _ _ _ _ _ _ _ _ 0 0 13 #[.val (.ref sb), .val (.ref ts), .unset] [(.int (iN ds.length))]
  refine Go.istoreN (q := 14) (l' := #[.val (.ref sb), .val (.ref ts), .val (.int (iN ds.length))]) hx (hb hby d7_13) rfl rfl ?_
  refine Go.aloadN (q := 15) hx (hb hby d7_14) rfl (by rfl) rfl ?_
  refine Go.aloadN (q := 16) hx (hb hby d7_15) rfl (by rfl) rfl ?_
  refine Go.getF (q := 19) hx hZ hown (host := "") (Or.inl (tw hw 70 rfl)) Via.refl F3 (hb hby d7_16) rfl ?_
  refine Go.iloadN (q := 20) hx (hb hby d7_19) rfl rfl ?_
  refine Go.iadd (q := 21) hx (hb hby d7_20) rfl ?_
  rw [hmk]
  refine Go.callP (q := 24) hx hZ (a := sb) (argsL := [(.int (iN (cs ++ ds).length))]) (rest := []) hown (tw hw 72 rfl) (tw hw 74 rfl) (own_selPriv (tw hw 75 rfl) (tw hw 74 rfl) (tw hw 73 rfl) (by decide)) (tw hw 73 rfl) (tw hw 31 rfl) (tw hw 76 rfl) (by decide) E (rmEC1 l Z a0 hw hel sb b kb (iN (cs ++ ds).length) _ h0 n0 Z0 F1 F2 B hx8) (fun _ hx => nomatch hx) (by rw [hml]; rfl) pd_17 rfl rfl (hb hby d7_21) rfl (by decide) (ble rfl) (ce' := 0) (sl' := 0) rfl rfl (by decide) (by decide) (fun v618 h619 hQ620 => ?_)
  obtain ⟨rfl, rfl⟩ := hQ620
  show Go _ _ _ _ _ _ _ _ _ _ _ _ _ _ _ _ _ _ _ _ 0 0 24 #[.val (.ref sb), .val (.ref ts), .val (.int (iN ds.length))] []
  refine Go.aloadN (q := 25) hx (hb hby d7_24) rfl (by rfl) rfl ?_
  refine Go.aloadN (q := 26) hx (hb hby d7_25) rfl (by rfl) rfl ?_
  refine Go.getF (q := 29) hx hZ hown (host := "") (Or.inl (tw hw 70 rfl)) Via.refl F3 (hb hby d7_26) rfl ?_
  refine Go.aloadN (q := 30) hx (hb hby d7_29) rfl (by rfl) rfl ?_
  refine Go.callP (q := 33) hx hZ (a := sb) (argsL := [(.int (iN cs.length)), (.ref ts)]) (rest := []) hown (tw hw 77 rfl) (tw hw 79 rfl) (own_selPriv (tw hw 80 rfl) (tw hw 79 rfl) (tw hw 78 rfl) (by decide)) (tw hw 78 rfl) (tw hw 31 rfl) (tw hw 81 rfl) (by decide) E (rmPX l Z a0 hw hel sb b kb ts tb kt cst fv cs ds h0 n0 Z0 nsb gs gb E F1 F2 F3 F4 B TE T1 T2 TB ntb hl hq h8 X0 SC hcs AD HB LB PF hfv) (by simp) (by rw [hml]; rfl) pd_18 rfl rfl (hb hby d7_30) rfl (by decide) (ble rfl) (ce' := 0) (sl' := 0) rfl rfl (by decide) (by decide) (fun v621 h622 hQ623 => ?_)
  obtain ⟨rfl, K624, V625⟩ := hQ623
  show Go _ _ _ _ _ _ _ _ _ _ _ _ _ _ _ _ _ _ _ _ 0 0 33 #[.val (.ref sb), .val (.ref ts), .val (.int (iN ds.length))] []
  refine Go.aloadN (q := 34) hx (hb hby d7_33) rfl (by rfl) rfl ?_
  refine Go.dup (q := 35) hx (hb hby d7_34) rfl rfl ?_
  refine Go.getF (q := 38) hx hZ hown (host := "") (Or.inl (tw hw 70 rfl)) Via.refl (F3.keep K624 (ninS nsb nin0)) (hb hby d7_35) rfl ?_
  refine Go.iloadN (q := 39) hx (hb hby d7_38) rfl rfl ?_
  refine Go.iadd (q := 40) hx (hb hby d7_39) rfl ?_
  rw [hmk]
  refine Go.putF (q := 43) hx hZ hown (host := "") (Or.inl (tw hw 70 rfl)) Via.refl (F3.keep K624 (ninS nsb nin0)) (E.keep K624) (Or.inl (tw hw 71 rfl)) (tw hw 22 rfl) (ty := .int) (by decide) rfl rfl gs (by simp) (hb hby d7_40) rfl (fun h626 W627 => ?_)
  refine Go.aloadN (q := 44) hx (hb hby d7_43) rfl (by rfl) rfl ?_
  refine Go.retA hx hret rfl (by rfl) hlk (hb hby d7_44) (by decide) (by decide) ?_
  exact ⟨rfl, ((Keep.trans (Keep.refl h0 [sb, b]) K624 (allS (Or.inl (by simp)) all0)).wr W627 (Or.inl (by simp))), (Fld.other W627 (F1.keep K624 (ninS nsb nin0)) (Or.inr (slot_ne (C := "java/lang/StringBuilder") (Or.inl (tw hw 36 rfl)) (Or.inl (tw hw 71 rfl)) (by decide) (by decide : _ = some (.array .byte)) (by decide : _ = some .int)))), (Fld.other W627 (F2.keep K624 (ninS nsb nin0)) (Or.inr (slot_ne (C := "java/lang/StringBuilder") (Or.inl (tw hw 38 rfl)) (Or.inl (tw hw 71 rfl)) (by decide) (by decide : _ = some .byte) (by decide : _ = some .int)))), (Fld.same W627 (F3.keep K624 (ninS nsb nin0))), (Fld.other W627 (F4.keep K624 (ninS nsb nin0)) (Or.inr (slot_ne (C := "java/lang/StringBuilder") (Or.inl (tw hw 257 rfl)) (Or.inl (tw hw 71 rfl)) (by decide) (by decide : _ = some .boolean) (by decide : _ = some .int)))), (V625.other W627 nsb.symm)⟩
theorem rmNL8 (l : Launch) (Z : State) (a0 : Array Value) (hw : ∀ d ∈ tables_1, d.before a0 Z = true) (hel : EW Z a0 consts_1)  (h0 : Heap) (n0 : Nat) (Z0 : n0 ≤ h0.size)  :
    Met l Z consts_1 [] (⟨"java/lang/StringUTF16", "newBytesLength", "(I)I"⟩ : MethodName) jdk_52_method_3_code 1 (Option.some FieldType.int) [] ({ frames := 0, cells := 0, slots := 0, locals := 0 } : Room) #[(.int (8192 : Int32))] h0 n0 (fun v h => v = some (.int (16384 : Int32)) ∧ h0 = h) := by
  refine Met.of (Ls0 := #[.val (.int (8192 : Int32))]) pl_5 (by first | (simp [argsToLocals, Value.category]; done) | rfl) hel ?_
  have hSA : ∀ d ∈ Bundle.stringAtoms, d.before a0 Z = true := fun d hd => hw d ((by decide +kernel : ∀ d ∈ Bundle.stringAtoms, d ∈ tables_1) d hd)
  intro p e s m below meth c hx hby hml hret hlk hown hnm hZ
  refine Go.iloadN (q := 1) hx (hb hby d42_0) rfl rfl ?_
  refine Go.if_ge (q := 4) (t := 12) hx (hb hby d42_1) (by decide) rfl rfl (fun hc1 => ?_) (fun hc1 => absurd hc1 (by decide))
  refine Go.iloadN (q := 13) hx (hb hby d42_12) rfl rfl ?_
  refine Go.ldcInt (q := 15) hx hZ hown (tw hw 215 rfl) (hb hby d42_13) rfl ?_
  refine Go.icmp_lt (q := 18) (t := 55) hx (hb hby d42_15) (by decide) rfl rfl (fun hc15 => ?_) (fun hc15 => absurd hc15 (by decide))
  refine Go.iloadN (q := 56) hx (hb hby d42_55) rfl rfl ?_
  refine Go.iconst (q := 57) (z := (1 : Int32)) hx (hb hby d42_56) rfl rfl ?_
  refine Go.ishl (q := 58) hx (hb hby d42_57) rfl ?_
  rw [show (8192 : Int32) <<< ((1 : Int32) &&& 31) = (16384 : Int32) from by decide]
  refine Go.retI hx hret hlk (hb hby d42_58) (by decide) (by decide) ?_
  exact ⟨rfl, rfl⟩
theorem rmNB8 (l : Launch) (Z : State) (a0 : Array Value) (hw : ∀ d ∈ tables_1, d.before a0 Z = true) (hel : EW Z a0 consts_1)  (h0 : Heap) (n0 : Nat) (Z0 : n0 ≤ h0.size)  :
    Met l Z consts_1 [] (⟨"java/lang/StringUTF16", "newBytesFor", "(I)[B"⟩ : MethodName) jdk_52_method_2_code 1 (Option.some (FieldType.array FieldType.byte)) [] ({ frames := 1, cells := 1, slots := 16384, locals := 18 } : Room) #[(.int (8192 : Int32))] h0 n0 (fun v h => ∃ b kb, v = some (.ref b) ∧ h0.size ≤ b ∧ Keep h0 h [] ∧ Arv Z h b kb .byte (16384 : Int32) [] (.int (0 : Int32))) := by
  refine Met.of (Ls0 := #[.val (.int (8192 : Int32))]) pl_6 (by first | (simp [argsToLocals, Value.category]; done) | rfl) hel ?_
  intro p e s m below meth c hx hby hml hret hlk hown hnm hZ
  refine Go.iloadN (q := 1) hx (hb hby d41_0) rfl rfl ?_
  refine Go.callS (q := 4) hx hZ (argsL := [(.int (8192 : Int32))]) (rest := []) hown (tw hw 212 rfl) (tw hw 213 rfl) (tw hw 198 rfl) (tw hw 214 rfl) (by decide) (rmNL8 l Z a0 hw hel h0 n0 Z0) (fun _ hx => nomatch hx) (by rw [hml]; rfl) pd_6 rfl rfl (hb hby d41_1) rfl (by decide) (ble rfl) (ce' := 0) (sl' := 0) rfl rfl (by decide) (by decide) (fun v628 h629 hQ630 => ?_)
  obtain ⟨rfl, rfl⟩ := hQ630
  show Go _ _ _ _ _ _ _ _ _ _ _ _ _ _ _ _ _ _ _ _ 0 0 4 #[.val (.int (8192 : Int32))] [(.int (16384 : Int32))]
  refine Go.newP (q := 6) (cap := 16384) hx hZ (tw hw 7 rfl) (by decide) (by decide) (hb hby d41_4) rfl (by decide) (ce' := 1) (sl' := 16384) rfl rfl (by decide) (by decide) (fun h631 a632 k633 g634 E635 A636 => ?_)
  have gz637 : n0 ≤ a632 := by rw [g634]; exact Z0
  have gk638 : h0.size ≤ a632 := by rw [g634]; exact (Keep.refl h0 []).1
  refine Go.retA hx hret rfl (by rfl) hlk (hb hby d41_6) (by decide) (by decide) ?_
  exact ⟨a632, _, rfl, gk638, ((Keep.refl h0 []).ext E635), A636⟩
theorem rmIL (l : Launch) (Z : State) (a0 : Array Value) (hw : ∀ d ∈ tables_1, d.before a0 Z = true) (hel : EW Z a0 consts_1) (sb b : Addr) (kb : ClassId) (cst : Int32) (fv : Value) (cs : List Int32) (h0 : Heap) (n0 : Nat) (Z0 : n0 ≤ h0.size) (nsb : sb ≠ b) (gs : n0 ≤ sb) (gb : n0 ≤ b) (E : Exa Z h0 sb "java/lang/StringBuilder") (F1 : Fld Z h0 sb "java/lang/AbstractStringBuilder" "value" "[B" (.ref b)) (F2 : Fld Z h0 sb "java/lang/AbstractStringBuilder" "coder" "B" (.int (0 : Int32))) (F3 : Fld Z h0 sb "java/lang/AbstractStringBuilder" "count" "I" (.int (iN cs.length))) (F4 : Fld Z h0 sb "java/lang/AbstractStringBuilder" "maybeLatin1" "Z" (.int (0 : Int32))) (B : Arv Z h0 b kb .byte (8192 : Int32) (bL cs) (.int (0 : Int32))) (hlc : cs.length < 30) (hq : AC cs) (h8 : A8 cs) (X0 : Old Z n0 h0) (SC : Sta Z Z.heap "java/lang/String" "COMPACT_STRINGS" "Z" (.int cst)) (hcs : ¬ cst = (0 : Int32)) (AD : Sta Z Z.heap "java/lang/StringUTF16" "$assertionsDisabled" "Z" (.int (1 : Int32))) (HB : Sta Z Z.heap "java/lang/StringUTF16" "HI_BYTE_SHIFT" "I" (.int (0 : Int32))) (LB : Sta Z Z.heap "java/lang/StringUTF16" "LO_BYTE_SHIFT" "I" (.int (8 : Int32))) (PF : Sta Z Z.heap "jdk/internal/util/Preconditions" "SIOOBE_FORMATTER" "Ljava/util/function/BiFunction;" fv) (hfv : fv.isRef = true) :
    Met l Z consts_1 [sb] (⟨"java/lang/AbstractStringBuilder", "inflate", "()V"⟩ : MethodName) jdk_68_method_11_code 2 (Option.none : Option FieldType) [] ({ frames := 5, cells := 1, slots := 16384, locals := 106 } : Room) #[(.ref sb)] h0 n0 (fun v h => v = none ∧ Keep h0 h [sb] ∧ ∃ b2 k2, h0.size ≤ b2 ∧ Fld Z h sb "java/lang/AbstractStringBuilder" "value" "[B" (.ref b2) ∧ Fld Z h sb "java/lang/AbstractStringBuilder" "coder" "B" (.int (1 : Int32)) ∧ Fld Z h sb "java/lang/AbstractStringBuilder" "count" "I" (.int (iN cs.length)) ∧ Fld Z h sb "java/lang/AbstractStringBuilder" "maybeLatin1" "Z" (.int (0 : Int32)) ∧ Arv Z h b2 k2 .byte (16384 : Int32) (bU cs) (.int (0 : Int32))) := by
  refine Met.of (Ls0 := #[.val (.ref sb), .unset]) pl_27 (by first | (simp [argsToLocals, Value.category]; done) | rfl) hel ?_
  intro p e s m below meth c hx hby hml hret hlk hown hnm hZ
  refine Go.aloadN (q := 1) hx (hb hby d45_0) rfl (by rfl) rfl ?_
  refine Go.callV (q := 4) hx hZ (a := sb) (argsL := []) (rest := []) hown (tw hw 106 rfl) (tw hw 107 rfl) (fun vm hzv => notFace_of_selects (args := #[]) (mvT hzv (tw hw 109 rfl))) (tw hw 109 rfl) (tw hw 108 rfl) (tw hw 31 rfl) (tw hw 110 rfl) (by decide) E (rmBL0 l Z a0 hw hel sb cst h0 n0 Z0 F2 X0 SC hcs) (fun _ hx => nomatch hx) (by rw [hml]; rfl) pd_22 rfl rfl (hb hby d45_1) rfl (by decide) (ble rfl) (ce' := 0) (sl' := 0) rfl rfl (by decide) (by decide) (fun v639 h640 hQ641 => ?_)
  obtain ⟨rfl, rfl⟩ := hQ641
  show Go _ _ _ _ _ _ _ _ _ _ _ _ _ _ _ _ _ _ _ _ 0 0 4 #[.val (.ref sb), .unset] [(.int (1 : Int32))]
  refine Go.if_ne (q := 7) (t := 8) hx (hb hby d45_4) (by decide) rfl rfl (fun hc4 => ?_) (fun hc4 => absurd hc4 (by decide))
  refine Go.aloadN (q := 9) hx (hb hby d45_8) rfl (by rfl) rfl ?_
  refine Go.getF (q := 12) hx hZ hown (host := "") (Or.inl (tw hw 35 rfl)) Via.refl F1 (hb hby d45_9) rfl ?_
  refine Go.alen (q := 13) hx hZ B (hb hby d45_12) rfl ?_
  refine Go.callS (q := 16) hx hZ (argsL := [(.int (8192 : Int32))]) (rest := []) hown (tw hw 230 rfl) (tw hw 210 rfl) (tw hw 198 rfl) (tw hw 211 rfl) (by decide) (rmNB8 l Z a0 hw hel h0 n0 Z0) (fun _ hx => nomatch hx) (by rw [hml]; rfl) pd_8 rfl rfl (hb hby d45_13) rfl (by decide) (ble rfl) (ce' := 1) (sl' := 16384) rfl rfl (by decide) (by decide) (fun v642 h643 hQ644 => ?_)
  have gk645 := (Keep.refl h0 [sb]).1
  have gn646 := Z0
  have lt647 := (B).lt
  have lt648 := (E).lt
  obtain ⟨b649, k650, rfl, g651, K652, V653⟩ := hQ644
  have ne654 : b ≠ b649 := Nat.ne_of_lt (Nat.lt_of_lt_of_le lt647 g651)
  have ne655 : sb ≠ b649 := Nat.ne_of_lt (Nat.lt_of_lt_of_le lt648 g651)
  have gz656 : n0 ≤ b649 := Nat.le_trans gn646 g651
  refine Go.safe (x := b649) (V653).lt (fun vm hzv => safe2 hzv (tw hw 46 rfl) (tw hw 4 rfl) V653 (by decide) (Or.inl (by decide))) ?_
  show Go _ _ _ _ _ _ _ _ _ _ _ _ _ _ _ _ _ _ _ _ 1 16384 16 #[.val (.ref sb), .unset] [(.ref b649)]
  refine Go.astoreN (q := 17) (l' := #[.val (.ref sb), .val (.ref b649)]) hx (hb hby d45_16) (by rfl) rfl rfl ?_
  refine Go.aloadN (q := 18) hx (hb hby d45_17) rfl (by rfl) rfl ?_
  refine Go.getF (q := 21) hx hZ hown (host := "") (Or.inl (tw hw 35 rfl)) Via.refl (F1.keep K652 nin0) (hb hby d45_18) rfl ?_
  refine Go.iconst (q := 22) (z := (0 : Int32)) hx (hb hby d45_21) rfl rfl ?_
  refine Go.aloadN (q := 23) hx (hb hby d45_22) rfl (by rfl) rfl ?_
  refine Go.iconst (q := 24) (z := (0 : Int32)) hx (hb hby d45_23) rfl rfl ?_
  refine Go.aloadN (q := 25) hx (hb hby d45_24) rfl (by rfl) rfl ?_
  refine Go.getF (q := 28) hx hZ hown (host := "") (Or.inl (tw hw 70 rfl)) Via.refl (F3.keep K652 nin0) (hb hby d45_25) rfl ?_
  refine Go.callS (q := 31) hx hZ (argsL := [(.ref b), (.int (0 : Int32)), (.ref b649), (.int (0 : Int32)), (.int (iN cs.length))]) (rest := []) hown (tw hw 231 rfl) (tw hw 232 rfl) (tw hw 113 rfl) (tw hw 233 rfl) (by decide) (rmLI l Z a0 hw hel b b649 kb k650 (8192 : Int32) [] cs fv h643 n0 (Nat.le_trans Z0 K652.1) (B.keep K652 nin0) V653 gz656 ne654 (fun t ht => iN_lt8 _ (by omega)) hlc hq h8 (X0.keep K652 all0) AD HB LB PF hfv) (by simp) (by rw [hml]; rfl) pd_13 rfl rfl (hb hby d45_28) rfl (by decide) (ble rfl) (ce' := 1) (sl' := 16384) rfl rfl (by decide) (by decide) (fun v657 h658 hQ659 => ?_)
  obtain ⟨rfl, K660, V661⟩ := hQ659
  show Go _ _ _ _ _ _ _ _ _ _ _ _ _ _ _ _ _ _ _ _ 1 16384 31 #[.val (.ref sb), .val (.ref b649)] []
  refine Go.aloadN (q := 32) hx (hb hby d45_31) rfl (by rfl) rfl ?_
  refine Go.aloadN (q := 33) hx (hb hby d45_32) rfl (by rfl) rfl ?_
  refine Go.putF (q := 36) hx hZ hown (host := "") (Or.inl (tw hw 35 rfl)) Via.refl ((F1.keep K652 nin0).keep K660 (ninS ne655 nin0)) ((E.keep K652).keep K660) (Or.inl (tw hw 36 rfl)) (tw hw 22 rfl) (ty := (.array .byte)) (by decide) rfl rfl gs (by simp) (hb hby d45_33) rfl (fun h662 W663 => ?_)
  refine Go.aloadN (q := 37) hx (hb hby d45_36) rfl (by rfl) rfl ?_
  refine Go.iconst (q := 38) (z := (1 : Int32)) hx (hb hby d45_37) rfl rfl ?_
  refine Go.putF (q := 41) hx hZ hown (host := "") (Or.inl (tw hw 37 rfl)) Via.refl (Fld.other W663 ((F2.keep K652 nin0).keep K660 (ninS ne655 nin0)) (Or.inr (slot_ne (C := "java/lang/StringBuilder") (Or.inl (tw hw 38 rfl)) (Or.inl (tw hw 36 rfl)) (by decide) (by decide : _ = some .byte) (by decide : _ = some (.array .byte))))) (Exa.wr W663 ((E.keep K652).keep K660)) (Or.inl (tw hw 38 rfl)) (tw hw 22 rfl) (ty := .byte) (by decide) rfl rfl gs (by simp) (hb hby d45_38) rfl (fun h664 W665 => ?_)
  refine Go.ret0 hx hret hlk (hb hby d45_41) (by decide) (by decide) ?_
  exact ⟨rfl, (((Keep.trans (Keep.trans (Keep.refl h0 [sb]) K652 all0) K660 (allS (Or.inr (Nat.le_trans gk645 g651)) all0)).wr W663 (Or.inl (by simp))).wr W665 (Or.inl (by simp))), b649, k650, (Nat.le_trans gk645 g651), (Fld.other W665 (Fld.same W663 ((F1.keep K652 nin0).keep K660 (ninS ne655 nin0))) (Or.inr (slot_ne (C := "java/lang/StringBuilder") (Or.inl (tw hw 36 rfl)) (Or.inl (tw hw 38 rfl)) (by decide) (by decide : _ = some (.array .byte)) (by decide : _ = some .byte)))), (Fld.same W665 (Fld.other W663 ((F2.keep K652 nin0).keep K660 (ninS ne655 nin0)) (Or.inr (slot_ne (C := "java/lang/StringBuilder") (Or.inl (tw hw 38 rfl)) (Or.inl (tw hw 36 rfl)) (by decide) (by decide : _ = some .byte) (by decide : _ = some (.array .byte)))))), (Fld.other W665 (Fld.other W663 ((F3.keep K652 nin0).keep K660 (ninS ne655 nin0)) (Or.inr (slot_ne (C := "java/lang/StringBuilder") (Or.inl (tw hw 71 rfl)) (Or.inl (tw hw 36 rfl)) (by decide) (by decide : _ = some .int) (by decide : _ = some (.array .byte))))) (Or.inr (slot_ne (C := "java/lang/StringBuilder") (Or.inl (tw hw 71 rfl)) (Or.inl (tw hw 38 rfl)) (by decide) (by decide : _ = some .int) (by decide : _ = some .byte)))), (Fld.other W665 (Fld.other W663 ((F4.keep K652 nin0).keep K660 (ninS ne655 nin0)) (Or.inr (slot_ne (C := "java/lang/StringBuilder") (Or.inl (tw hw 257 rfl)) (Or.inl (tw hw 36 rfl)) (by decide) (by decide : _ = some .boolean) (by decide : _ = some (.array .byte))))) (Or.inr (slot_ne (C := "java/lang/StringBuilder") (Or.inl (tw hw 257 rfl)) (Or.inl (tw hw 38 rfl)) (by decide) (by decide : _ = some .boolean) (by decide : _ = some .byte)))), ((V661.other W663 ne655.symm).other W665 ne655.symm)⟩
theorem rmIY (l : Launch) (Z : State) (a0 : Array Value) (hw : ∀ d ∈ tables_1, d.before a0 Z = true) (hel : EW Z a0 consts_1) (sb b : Addr) (kb : ClassId) (ts : Addr) (cst : Int32) (fv : Value) (cs : List Int32) (h0 : Heap) (n0 : Nat) (Z0 : n0 ≤ h0.size) (nsb : sb ≠ b) (gs : n0 ≤ sb) (gb : n0 ≤ b) (E : Exa Z h0 sb "java/lang/StringBuilder") (F1 : Fld Z h0 sb "java/lang/AbstractStringBuilder" "value" "[B" (.ref b)) (F2 : Fld Z h0 sb "java/lang/AbstractStringBuilder" "coder" "B" (.int (0 : Int32))) (F3 : Fld Z h0 sb "java/lang/AbstractStringBuilder" "count" "I" (.int (iN cs.length))) (F4 : Fld Z h0 sb "java/lang/AbstractStringBuilder" "maybeLatin1" "Z" (.int (0 : Int32))) (B : Arv Z h0 b kb .byte (8192 : Int32) (bL cs) (.int (0 : Int32))) (hlc : cs.length < 30) (hq : AC cs) (h8 : A8 cs) (TE : Exa Z h0 ts "java/lang/String") (T2 : Fld Z h0 ts "java/lang/String" "coder" "B" (.int (1 : Int32))) (X0 : Old Z n0 h0) (SC : Sta Z Z.heap "java/lang/String" "COMPACT_STRINGS" "Z" (.int cst)) (hcs : ¬ cst = (0 : Int32)) (AD : Sta Z Z.heap "java/lang/StringUTF16" "$assertionsDisabled" "Z" (.int (1 : Int32))) (HB : Sta Z Z.heap "java/lang/StringUTF16" "HI_BYTE_SHIFT" "I" (.int (0 : Int32))) (LB : Sta Z Z.heap "java/lang/StringUTF16" "LO_BYTE_SHIFT" "I" (.int (8 : Int32))) (PF : Sta Z Z.heap "jdk/internal/util/Preconditions" "SIOOBE_FORMATTER" "Ljava/util/function/BiFunction;" fv) (hfv : fv.isRef = true) :
    Met l Z consts_1 [sb] (⟨"java/lang/AbstractStringBuilder", "inflateIfNeededFor", "(Ljava/lang/String;)V"⟩ : MethodName) jdk_68_method_71_code 2 (Option.none : Option FieldType) [] ({ frames := 6, cells := 1, slots := 16384, locals := 125 } : Room) #[(.ref sb), (.ref ts)] h0 n0 (fun v h => v = none ∧ Keep h0 h [sb] ∧ ∃ b2 k2, h0.size ≤ b2 ∧ Fld Z h sb "java/lang/AbstractStringBuilder" "value" "[B" (.ref b2) ∧ Fld Z h sb "java/lang/AbstractStringBuilder" "coder" "B" (.int (1 : Int32)) ∧ Fld Z h sb "java/lang/AbstractStringBuilder" "count" "I" (.int (iN cs.length)) ∧ Fld Z h sb "java/lang/AbstractStringBuilder" "maybeLatin1" "Z" (.int (0 : Int32)) ∧ Arv Z h b2 k2 .byte (16384 : Int32) (bU cs) (.int (0 : Int32))) := by
  refine Met.of (Ls0 := #[.val (.ref sb), .val (.ref ts)]) pl_19 (by first | (simp [argsToLocals, Value.category]; done) | rfl) hel ?_
  intro p e s m below meth c hx hby hml hret hlk hown hnm hZ
  refine Go.getS (q := 3) hx hZ hown (host := "") (Or.inl (tw hw 34 rfl)) Via.refl (Sta.ext X0.2 SC) (hb hby d12_0) rfl ?_
  refine Go.if_eq (q := 6) (t := 21) hx (hb hby d12_3) (by decide) rfl rfl (fun hc3 => absurd hc3 hcs) (fun hc3 => ?_)
  refine Go.aloadN (q := 7) hx (hb hby d12_6) rfl (by rfl) rfl ?_
  refine Go.getF (q := 10) hx hZ hown (host := "") (Or.inl (tw hw 37 rfl)) Via.refl F2 (hb hby d12_7) rfl ?_
  refine Go.aloadN (q := 11) hx (hb hby d12_10) rfl (by rfl) rfl ?_
  refine Go.callV (q := 14) hx hZ (a := ts) (argsL := []) (rest := [(.int (0 : Int32))]) hown (tw hw 87 rfl) (tw hw 64 rfl) (fun vm hzv => notFace_of_selects (args := #[]) (mvT hzv (tw hw 66 rfl))) (tw hw 66 rfl) (tw hw 65 rfl) (tw hw 5 rfl) (tw hw 67 rfl) (by decide) TE (rmCo1 l Z a0 hw hel ts cst h0 n0 Z0 T2 X0 SC hcs) (fun _ hx => nomatch hx) (by rw [hml]; rfl) pd_11 rfl rfl (hb hby d12_11) rfl (by decide) (ble rfl) (ce' := 0) (sl' := 0) rfl rfl (by decide) (by decide) (fun v666 h667 hQ668 => ?_)
  obtain ⟨rfl, rfl⟩ := hQ668
  show Go _ _ _ _ _ _ _ _ _ _ _ _ _ _ _ _ _ _ _ _ 0 0 14 #[.val (.ref sb), .val (.ref ts)] [(.int (1 : Int32)), (.int (0 : Int32))]
  refine Go.icmp_eq (q := 17) (t := 21) hx (hb hby d12_14) (by decide) rfl rfl (fun hc14 => absurd hc14 (by decide)) (fun hc14 => ?_)
  refine Go.aloadN (q := 18) hx (hb hby d12_17) rfl (by rfl) rfl ?_
  refine Go.callP (q := 21) hx hZ (a := sb) (argsL := []) (rest := []) hown (tw hw 225 rfl) (tw hw 227 rfl) (own_selPriv (tw hw 228 rfl) (tw hw 227 rfl) (tw hw 226 rfl) (by decide)) (tw hw 226 rfl) (tw hw 31 rfl) (tw hw 229 rfl) (by decide) E (rmIL l Z a0 hw hel sb b kb cst fv cs h0 n0 Z0 nsb gs gb E F1 F2 F3 F4 B hlc hq h8 X0 SC hcs AD HB LB PF hfv) (by simp) (by rw [hml]; rfl) pd_3 rfl rfl (hb hby d12_18) rfl (by decide) (ble rfl) (ce' := 1) (sl' := 16384) rfl rfl (by decide) (by decide) (fun v669 h670 hQ671 => ?_)
  obtain ⟨rfl, Y⟩ := hQ671
  show Go _ _ _ _ _ _ _ _ _ _ _ _ _ _ _ _ _ _ _ _ 1 16384 21 #[.val (.ref sb), .val (.ref ts)] []
  refine Go.ret0 hx hret hlk (hb hby d12_21) (by decide) (by decide) ?_
  exact ⟨rfl, Y⟩
theorem rmPY (l : Launch) (Z : State) (a0 : Array Value) (hw : ∀ d ∈ tables_1, d.before a0 Z = true) (hel : EW Z a0 consts_1) (sb b : Addr) (kb : ClassId) (ts tb : Addr) (kt : ClassId) (cst : Int32) (fv : Value) (cs ds : List Int32) (h0 : Heap) (n0 : Nat) (Z0 : n0 ≤ h0.size) (nsb : sb ≠ b) (gs : n0 ≤ sb) (gb : n0 ≤ b) (E : Exa Z h0 sb "java/lang/StringBuilder") (F1 : Fld Z h0 sb "java/lang/AbstractStringBuilder" "value" "[B" (.ref b)) (F2 : Fld Z h0 sb "java/lang/AbstractStringBuilder" "coder" "B" (.int (0 : Int32))) (F3 : Fld Z h0 sb "java/lang/AbstractStringBuilder" "count" "I" (.int (iN cs.length))) (F4 : Fld Z h0 sb "java/lang/AbstractStringBuilder" "maybeLatin1" "Z" (.int (0 : Int32))) (B : Arv Z h0 b kb .byte (8192 : Int32) (bL cs) (.int (0 : Int32))) (TE : Exa Z h0 ts "java/lang/String") (T1 : Fld Z h0 ts "java/lang/String" "value" "[B" (.ref tb)) (T2 : Fld Z h0 ts "java/lang/String" "coder" "B" (.int (1 : Int32))) (TB : Arv Z h0 tb kt .byte (iN (2 * ds.length)) (bU ds) (.int (0 : Int32))) (nts : ts ≠ sb) (ntbs : tb ≠ sb) (hl : (cs ++ ds).length < 30) (hq : AC cs) (h8 : A8 cs) (X0 : Old Z n0 h0) (SC : Sta Z Z.heap "java/lang/String" "COMPACT_STRINGS" "Z" (.int cst)) (hcs : ¬ cst = (0 : Int32)) (AD : Sta Z Z.heap "java/lang/StringUTF16" "$assertionsDisabled" "Z" (.int (1 : Int32))) (HB : Sta Z Z.heap "java/lang/StringUTF16" "HI_BYTE_SHIFT" "I" (.int (0 : Int32))) (LB : Sta Z Z.heap "java/lang/StringUTF16" "LO_BYTE_SHIFT" "I" (.int (8 : Int32))) (PF : Sta Z Z.heap "jdk/internal/util/Preconditions" "SIOOBE_FORMATTER" "Ljava/util/function/BiFunction;" fv) (hfv : fv.isRef = true) :
    Met l Z consts_1 [sb] (⟨"java/lang/AbstractStringBuilder", "putStringAt", "(ILjava/lang/String;)V"⟩ : MethodName) jdk_68_method_73_code 3 (Option.none : Option FieldType) [] ({ frames := 7, cells := 1, slots := 16384, locals := 144 } : Room) #[(.ref sb), (.int (iN cs.length)), (.ref ts)] h0 n0 (fun v h => v = none ∧ Keep h0 h [sb] ∧ ∃ b2 k2, h0.size ≤ b2 ∧ Fld Z h sb "java/lang/AbstractStringBuilder" "value" "[B" (.ref b2) ∧ Fld Z h sb "java/lang/AbstractStringBuilder" "coder" "B" (.int (1 : Int32)) ∧ Fld Z h sb "java/lang/AbstractStringBuilder" "count" "I" (.int (iN cs.length)) ∧ Fld Z h sb "java/lang/AbstractStringBuilder" "maybeLatin1" "Z" (.int (0 : Int32)) ∧ Arv Z h b2 k2 .byte (16384 : Int32) (bU (cs ++ ds)) (.int (0 : Int32))) := by
  refine Met.of (Ls0 := #[.val (.ref sb), .val (.int (iN cs.length)), .val (.ref ts)]) pl_20 (by first | (simp [argsToLocals, Value.category]; done) | rfl) hel ?_
  intro p e s m below meth c hx hby hml hret hlk hown hnm hZ
  have hl2 : cs.length + ds.length < 30 := by rw [← List.length_append]; exact hl
  have hmk : iN cs.length + iN ds.length = iN (cs ++ ds).length := by rw [iN_a, List.length_append]
  have hx8 := iN_x8 (cs ++ ds).length (by omega)
  refine Go.aloadN (q := 1) hx (hb hby d11_0) rfl (by rfl) rfl ?_
  refine Go.aloadN (q := 2) hx (hb hby d11_1) rfl (by rfl) rfl ?_
  refine Go.callP (q := 5) hx hZ (a := sb) (argsL := [(.ref ts)]) (rest := []) hown (tw hw 82 rfl) (tw hw 84 rfl) (own_selPriv (tw hw 85 rfl) (tw hw 84 rfl) (tw hw 83 rfl) (by decide)) (tw hw 83 rfl) (tw hw 31 rfl) (tw hw 86 rfl) (by decide) E (rmIY l Z a0 hw hel sb b kb ts cst fv cs h0 n0 Z0 nsb gs gb E F1 F2 F3 F4 B (by omega) hq h8 TE T2 X0 SC hcs AD HB LB PF hfv) (by simp) (by rw [hml]; rfl) pd_14 rfl rfl (hb hby d11_2) rfl (by decide) (ble rfl) (ce' := 1) (sl' := 16384) rfl rfl (by decide) (by decide) (fun v672 h673 hQ674 => ?_)
  have gk675 := (Keep.refl h0 [sb]).1
  have gn676 := Z0
  have lt677 := (B).lt
  have lt678 := (E).lt
  have lt679 := (TB).lt
  have lt680 := (TE).lt
  obtain ⟨rfl, K689, b681, k682, g683, F684, F685, F686, F687, V688⟩ := hQ674
  have ne690 : b ≠ b681 := Nat.ne_of_lt (Nat.lt_of_lt_of_le lt677 g683)
  have ne691 : sb ≠ b681 := Nat.ne_of_lt (Nat.lt_of_lt_of_le lt678 g683)
  have ne692 : tb ≠ b681 := Nat.ne_of_lt (Nat.lt_of_lt_of_le lt679 g683)
  have ne693 : ts ≠ b681 := Nat.ne_of_lt (Nat.lt_of_lt_of_le lt680 g683)
  have gz694 : n0 ≤ b681 := Nat.le_trans gn676 g683
  refine Go.safe (x := b681) (V688).lt (fun vm hzv => safe2 hzv (tw hw 46 rfl) (tw hw 4 rfl) V688 (by decide) (Or.inl (by decide))) ?_
  show Go _ _ _ _ _ _ _ _ _ _ _ _ _ _ _ _ _ _ _ _ 1 16384 5 #[.val (.ref sb), .val (.int (iN cs.length)), .val (.ref ts)] []
  refine Go.aloadN (q := 6) hx (hb hby d11_5) rfl (by rfl) rfl ?_
  refine Go.aloadN (q := 7) hx (hb hby d11_6) rfl (by rfl) rfl ?_
  refine Go.getF (q := 10) hx hZ hown (host := "") (Or.inl (tw hw 35 rfl)) Via.refl F684 (hb hby d11_7) rfl ?_
  refine Go.iloadN (q := 11) hx (hb hby d11_10) rfl rfl ?_
  refine Go.aloadN (q := 12) hx (hb hby d11_11) rfl (by rfl) rfl ?_
  refine Go.getF (q := 15) hx hZ hown (host := "") (Or.inl (tw hw 37 rfl)) Via.refl F685 (hb hby d11_12) rfl ?_
  refine Go.callV (q := 18) hx hZ (a := ts) (argsL := [(.ref b681), (.int (iN cs.length)), (.int (1 : Int32))]) (rest := []) hown (tw hw 88 rfl) (tw hw 89 rfl) (fun vm hzv => notFace_of_selects (args := #[]) (mvT hzv (tw hw 91 rfl))) (tw hw 91 rfl) (tw hw 90 rfl) (tw hw 5 rfl) (tw hw 92 rfl) (by decide) (TE.keep K689) (rmGB1 l Z a0 hw hel ts tb kt b681 k682 cst (iN cs.length) (iN (2 * cs.length)) (iN (2 * ds.length)) (16384 : Int32) (bU ds) (bU cs ++ List.replicate (2 * ds.length) (Value.int (0 : Int32))) (bU (cs ++ ds)) h673 n0 (Nat.le_trans Z0 K689.1) (TE.keep K689) (T1.keep K689 (ninS nts nin0)) (T2.keep K689 (ninS nts nin0)) (TB.keep K689 (ninS ntbs nin0)) gz694 (V688.pad (pad_rep _ _ _)) (iN_shl _ (by omega)) (CP1 cs ds hl) (X0.keep K689 (allS gs all0)) SC hcs) (by simp) (by rw [hml]; rfl) pd_15 rfl rfl (hb hby d11_15) rfl (by decide) (ble rfl) (ce' := 1) (sl' := 16384) rfl rfl (by decide) (by decide) (fun v695 h696 hQ697 => ?_)
  obtain ⟨rfl, K698, V699⟩ := hQ697
  show Go _ _ _ _ _ _ _ _ _ _ _ _ _ _ _ _ _ _ _ _ 1 16384 18 #[.val (.ref sb), .val (.int (iN cs.length)), .val (.ref ts)] []
  refine Go.ret0 hx hret hlk (hb hby d11_18) (by decide) (by decide) ?_
  exact ⟨rfl, (Keep.trans (Keep.trans (Keep.refl h0 [sb]) K689 (allS (Or.inl (by simp)) all0)) K698 (allS (Or.inr (Nat.le_trans gk675 g683)) all0)), b681, k682, (Nat.le_trans gk675 g683), (F684.keep K698 (ninS ne691 nin0)), (F685.keep K698 (ninS ne691 nin0)), (F686.keep K698 (ninS ne691 nin0)), (F687.keep K698 (ninS ne691 nin0)), V699⟩
theorem rmAY (l : Launch) (Z : State) (a0 : Array Value) (hw : ∀ d ∈ tables_1, d.before a0 Z = true) (hel : EW Z a0 consts_1) (sb b : Addr) (kb : ClassId) (ts tb : Addr) (kt : ClassId) (cst : Int32) (fv : Value) (cs ds : List Int32) (h0 : Heap) (n0 : Nat) (Z0 : n0 ≤ h0.size) (nsb : sb ≠ b) (gs : n0 ≤ sb) (gb : n0 ≤ b) (E : Exa Z h0 sb "java/lang/StringBuilder") (F1 : Fld Z h0 sb "java/lang/AbstractStringBuilder" "value" "[B" (.ref b)) (F2 : Fld Z h0 sb "java/lang/AbstractStringBuilder" "coder" "B" (.int (0 : Int32))) (F3 : Fld Z h0 sb "java/lang/AbstractStringBuilder" "count" "I" (.int (iN cs.length))) (F4 : Fld Z h0 sb "java/lang/AbstractStringBuilder" "maybeLatin1" "Z" (.int (0 : Int32))) (B : Arv Z h0 b kb .byte (8192 : Int32) (bL cs) (.int (0 : Int32))) (TE : Exa Z h0 ts "java/lang/String") (T1 : Fld Z h0 ts "java/lang/String" "value" "[B" (.ref tb)) (T2 : Fld Z h0 ts "java/lang/String" "coder" "B" (.int (1 : Int32))) (TB : Arv Z h0 tb kt .byte (iN (2 * ds.length)) (bU ds) (.int (0 : Int32))) (nts : ts ≠ sb) (ntbs : tb ≠ sb) (hl : (cs ++ ds).length < 30) (hq : AC cs) (h8 : A8 cs) (X0 : Old Z n0 h0) (SC : Sta Z Z.heap "java/lang/String" "COMPACT_STRINGS" "Z" (.int cst)) (hcs : ¬ cst = (0 : Int32)) (AD : Sta Z Z.heap "java/lang/StringUTF16" "$assertionsDisabled" "Z" (.int (1 : Int32))) (HB : Sta Z Z.heap "java/lang/StringUTF16" "HI_BYTE_SHIFT" "I" (.int (0 : Int32))) (LB : Sta Z Z.heap "java/lang/StringUTF16" "LO_BYTE_SHIFT" "I" (.int (8 : Int32))) (PF : Sta Z Z.heap "jdk/internal/util/Preconditions" "SIOOBE_FORMATTER" "Ljava/util/function/BiFunction;" fv) (hfv : fv.isRef = true) :
    Met l Z consts_1 [sb] (⟨"java/lang/AbstractStringBuilder", "append", "(Ljava/lang/String;)Ljava/lang/AbstractStringBuilder;"⟩ : MethodName) jdk_68_method_22_code 3 (Option.some (FieldType.object "java/lang/AbstractStringBuilder")) [] ({ frames := 8, cells := 1, slots := 16384, locals := 164 } : Room) #[(.ref sb), (.ref ts)] h0 n0 (fun v h => v = some (.ref sb) ∧ Keep h0 h [sb] ∧ ∃ b2 k2, h0.size ≤ b2 ∧ Fld Z h sb "java/lang/AbstractStringBuilder" "value" "[B" (.ref b2) ∧ Fld Z h sb "java/lang/AbstractStringBuilder" "coder" "B" (.int (1 : Int32)) ∧ Fld Z h sb "java/lang/AbstractStringBuilder" "count" "I" (.int (iN (cs ++ ds).length)) ∧ Fld Z h sb "java/lang/AbstractStringBuilder" "maybeLatin1" "Z" (.int (0 : Int32)) ∧ Arv Z h b2 k2 .byte (16384 : Int32) (bU (cs ++ ds)) (.int (0 : Int32))) := by
  refine Met.of (Ls0 := #[.val (.ref sb), .val (.ref ts), .unset]) pl_21 (by first | (simp [argsToLocals, Value.category]; done) | rfl) hel ?_
  intro p e s m below meth c hx hby hml hret hlk hown hnm hZ
  have hl2 : cs.length + ds.length < 30 := by rw [← List.length_append]; exact hl
  have hmk : iN cs.length + iN ds.length = iN (cs ++ ds).length := by rw [iN_a, List.length_append]
  have hx8 := iN_x8 (cs ++ ds).length (by omega)
  refine Go.aloadN (q := 1) hx (hb hby d7_0) rfl (by rfl) rfl ?_
  refine Go.ifnonnullT (t := 9) hx (hb hby d7_1) (by decide) rfl ?_
  refine Go.aloadN (q := 10) hx (hb hby d7_9) rfl (by rfl) rfl ?_
  refine Go.callV (q := 13) hx hZ (a := ts) (argsL := []) (rest := []) hown (tw hw 57 rfl) (tw hw 58 rfl) (fun vm hzv => notFace_of_selects (args := #[]) (mvT hzv (tw hw 60 rfl))) (tw hw 60 rfl) (tw hw 59 rfl) (tw hw 5 rfl) (tw hw 61 rfl) (by decide) TE (rmLe1 l Z a0 hw hel ts tb kt cst (iN (2 * ds.length)) (iN ds.length) _ h0 n0 Z0 TE T1 T2 TB (iN_shr _ (by omega)) X0 SC hcs) (fun _ hx => nomatch hx) (by rw [hml]; rfl) pd_16 rfl rfl (hb hby d7_10) rfl (by decide) (ble rfl) (ce' := 0) (sl' := 0) rfl rfl (by decide) (by decide) (fun v700 h701 hQ702 => ?_)
  obtain ⟨rfl, rfl⟩ := hQ702
  show Go _ _ _ _ _ _ _ _ _ _ _ _ _ _ _ _ _ _ _ _ 0 0 13 #[.val (.ref sb), .val (.ref ts), .unset] [(.int (iN ds.length))]
  refine Go.istoreN (q := 14) (l' := #[.val (.ref sb), .val (.ref ts), .val (.int (iN ds.length))]) hx (hb hby d7_13) rfl rfl ?_
  refine Go.aloadN (q := 15) hx (hb hby d7_14) rfl (by rfl) rfl ?_
  refine Go.aloadN (q := 16) hx (hb hby d7_15) rfl (by rfl) rfl ?_
  refine Go.getF (q := 19) hx hZ hown (host := "") (Or.inl (tw hw 70 rfl)) Via.refl F3 (hb hby d7_16) rfl ?_
  refine Go.iloadN (q := 20) hx (hb hby d7_19) rfl rfl ?_
  refine Go.iadd (q := 21) hx (hb hby d7_20) rfl ?_
  rw [hmk]
  refine Go.callP (q := 24) hx hZ (a := sb) (argsL := [(.int (iN (cs ++ ds).length))]) (rest := []) hown (tw hw 72 rfl) (tw hw 74 rfl) (own_selPriv (tw hw 75 rfl) (tw hw 74 rfl) (tw hw 73 rfl) (by decide)) (tw hw 73 rfl) (tw hw 31 rfl) (tw hw 76 rfl) (by decide) E (rmEC0 l Z a0 hw hel sb b kb (iN (cs ++ ds).length) _ h0 n0 Z0 F1 F2 B hx8) (fun _ hx => nomatch hx) (by rw [hml]; rfl) pd_17 rfl rfl (hb hby d7_21) rfl (by decide) (ble rfl) (ce' := 0) (sl' := 0) rfl rfl (by decide) (by decide) (fun v703 h704 hQ705 => ?_)
  obtain ⟨rfl, rfl⟩ := hQ705
  show Go _ _ _ _ _ _ _ _ _ _ _ _ _ _ _ _ _ _ _ _ 0 0 24 #[.val (.ref sb), .val (.ref ts), .val (.int (iN ds.length))] []
  refine Go.aloadN (q := 25) hx (hb hby d7_24) rfl (by rfl) rfl ?_
  refine Go.aloadN (q := 26) hx (hb hby d7_25) rfl (by rfl) rfl ?_
  refine Go.getF (q := 29) hx hZ hown (host := "") (Or.inl (tw hw 70 rfl)) Via.refl F3 (hb hby d7_26) rfl ?_
  refine Go.aloadN (q := 30) hx (hb hby d7_29) rfl (by rfl) rfl ?_
  refine Go.callP (q := 33) hx hZ (a := sb) (argsL := [(.int (iN cs.length)), (.ref ts)]) (rest := []) hown (tw hw 77 rfl) (tw hw 79 rfl) (own_selPriv (tw hw 80 rfl) (tw hw 79 rfl) (tw hw 78 rfl) (by decide)) (tw hw 78 rfl) (tw hw 31 rfl) (tw hw 81 rfl) (by decide) E (rmPY l Z a0 hw hel sb b kb ts tb kt cst fv cs ds h0 n0 Z0 nsb gs gb E F1 F2 F3 F4 B TE T1 T2 TB nts ntbs hl hq h8 X0 SC hcs AD HB LB PF hfv) (by simp) (by rw [hml]; rfl) pd_18 rfl rfl (hb hby d7_30) rfl (by decide) (ble rfl) (ce' := 1) (sl' := 16384) rfl rfl (by decide) (by decide) (fun v706 h707 hQ708 => ?_)
  have gk709 := (Keep.refl h0 [sb]).1
  have gn710 := Z0
  have lt711 := (B).lt
  have lt712 := (E).lt
  have lt713 := (TB).lt
  have lt714 := (TE).lt
  obtain ⟨rfl, K723, b715, k716, g717, F718, F719, F720, F721, V722⟩ := hQ708
  have ne724 : b ≠ b715 := Nat.ne_of_lt (Nat.lt_of_lt_of_le lt711 g717)
  have ne725 : sb ≠ b715 := Nat.ne_of_lt (Nat.lt_of_lt_of_le lt712 g717)
  have ne726 : tb ≠ b715 := Nat.ne_of_lt (Nat.lt_of_lt_of_le lt713 g717)
  have ne727 : ts ≠ b715 := Nat.ne_of_lt (Nat.lt_of_lt_of_le lt714 g717)
  have gz728 : n0 ≤ b715 := Nat.le_trans gn710 g717
  show Go _ _ _ _ _ _ _ _ _ _ _ _ _ _ _ _ _ _ _ _ 1 16384 33 #[.val (.ref sb), .val (.ref ts), .val (.int (iN ds.length))] []
  refine Go.aloadN (q := 34) hx (hb hby d7_33) rfl (by rfl) rfl ?_
  refine Go.dup (q := 35) hx (hb hby d7_34) rfl rfl ?_
  refine Go.getF (q := 38) hx hZ hown (host := "") (Or.inl (tw hw 70 rfl)) Via.refl F720 (hb hby d7_35) rfl ?_
  refine Go.iloadN (q := 39) hx (hb hby d7_38) rfl rfl ?_
  refine Go.iadd (q := 40) hx (hb hby d7_39) rfl ?_
  rw [hmk]
  refine Go.putF (q := 43) hx hZ hown (host := "") (Or.inl (tw hw 70 rfl)) Via.refl F720 (E.keep K723) (Or.inl (tw hw 71 rfl)) (tw hw 22 rfl) (ty := .int) (by decide) rfl rfl gs (by simp) (hb hby d7_40) rfl (fun h729 W730 => ?_)
  refine Go.aloadN (q := 44) hx (hb hby d7_43) rfl (by rfl) rfl ?_
  refine Go.retA hx hret rfl (by rfl) hlk (hb hby d7_44) (by decide) (by decide) ?_
  exact ⟨rfl, ((Keep.trans (Keep.refl h0 [sb]) K723 (allS (Or.inl (by simp)) all0)).wr W730 (Or.inl (by simp))), b715, k716, (Nat.le_trans gk709 g717), (Fld.other W730 F718 (Or.inr (slot_ne (C := "java/lang/StringBuilder") (Or.inl (tw hw 36 rfl)) (Or.inl (tw hw 71 rfl)) (by decide) (by decide : _ = some (.array .byte)) (by decide : _ = some .int)))), (Fld.other W730 F719 (Or.inr (slot_ne (C := "java/lang/StringBuilder") (Or.inl (tw hw 38 rfl)) (Or.inl (tw hw 71 rfl)) (by decide) (by decide : _ = some .byte) (by decide : _ = some .int)))), (Fld.same W730 F720), (Fld.other W730 F721 (Or.inr (slot_ne (C := "java/lang/StringBuilder") (Or.inl (tw hw 257 rfl)) (Or.inl (tw hw 71 rfl)) (by decide) (by decide : _ = some .boolean) (by decide : _ = some .int)))), (V722.other W730 ne725.symm)⟩
theorem d6_0 : decode jdk_67_method_7_code 0 = .ok (.aload_n 0, 1) := by decide +kernel
theorem d6_1 : decode jdk_67_method_7_code 1 = .ok (.aload_n 1, 1) := by decide +kernel
theorem d6_2 : decode jdk_67_method_7_code 2 = .ok (.invokespecial 29, 3) := by decide +kernel
theorem d6_5 : decode jdk_67_method_7_code 5 = .ok (.pop, 1) := by decide +kernel
theorem d6_6 : decode jdk_67_method_7_code 6 = .ok (.aload_n 0, 1) := by decide +kernel
theorem d6_7 : decode jdk_67_method_7_code 7 = .ok (.areturn, 1) := by decide +kernel
theorem pl_28 : plainFor (⟨"java/lang/StringBuilder", "append", "(Ljava/lang/String;)Ljava/lang/StringBuilder;"⟩ : MethodName) = true := plainFor_of_name (by first | (simp [plainName, overriddenIn]; done) | decide +kernel)
theorem pd_23 : parseMethodDescriptor "(Ljava/lang/String;)Ljava/lang/AbstractStringBuilder;" = some ⟨[(.object "java/lang/String")], some (.object "java/lang/AbstractStringBuilder")⟩ := by decide +kernel
theorem rmB00z (l : Launch) (Z : State) (a0 : Array Value) (hw : ∀ d ∈ tables_1, d.before a0 Z = true) (hel : EW Z a0 consts_1) (sb b : Addr) (kb : ClassId) (ts tb : Addr) (kt : ClassId) (cst : Int32) (fv : Value) (cs ds : List Int32) (h0 : Heap) (n0 : Nat) (Z0 : n0 ≤ h0.size) (nsb : sb ≠ b) (gs : n0 ≤ sb) (gb : n0 ≤ b) (S : SBf Z h0 sb b kb 0 cs) (T : STf Z h0 ts tb kt 0 ds) (ok : OKc 0 cs) (okT : OKc 0 ds) (hl : (cs ++ ds).length < 30) (nx1 : ts ≠ sb) (nx2 : tb ≠ sb) (nx3 : tb ≠ b) (X0 : Old Z n0 h0) (SC : Sta Z Z.heap "java/lang/String" "COMPACT_STRINGS" "Z" (.int cst)) (hcs : ¬ cst = (0 : Int32)) (AD : Sta Z Z.heap "java/lang/StringUTF16" "$assertionsDisabled" "Z" (.int (1 : Int32))) (HB : Sta Z Z.heap "java/lang/StringUTF16" "HI_BYTE_SHIFT" "I" (.int (0 : Int32))) (LB : Sta Z Z.heap "java/lang/StringUTF16" "LO_BYTE_SHIFT" "I" (.int (8 : Int32))) (PF : Sta Z Z.heap "jdk/internal/util/Preconditions" "SIOOBE_FORMATTER" "Ljava/util/function/BiFunction;" fv) (hfv : fv.isRef = true) :
    Met l Z consts_1 [sb, b] (⟨"java/lang/StringBuilder", "append", "(Ljava/lang/String;)Ljava/lang/StringBuilder;"⟩ : MethodName) jdk_67_method_7_code 2 (Option.some (FieldType.object "java/lang/StringBuilder")) [] ({ frames := 8, cells := 0, slots := 0, locals := 167 } : Room) #[(.ref sb), (.ref ts)] h0 n0 (fun v h => v = some (.ref sb) ∧ Keep h0 h [sb, b] ∧ ∃ b2 k2, (b2 = b ∨ h0.size ≤ b2) ∧ SBf Z h sb b2 k2 0 (cs ++ ds)) := by
  refine Met.of (Ls0 := #[.val (.ref sb), .val (.ref ts)]) pl_28 (by first | (simp [argsToLocals, Value.category]; done) | rfl) hel ?_
  intro p e s m below meth c hx hby hml hret hlk hown hnm hZ
  obtain ⟨E, F1, F2, F3, F4, B⟩ := S
  obtain ⟨TE, T1, T2, TB⟩ := T
  have hl2 : cs.length + ds.length < 30 := by rw [← List.length_append]; exact hl
  have hl2 : cs.length + ds.length < 30 := by rw [← List.length_append]; exact hl
  have hmk : iN cs.length + iN ds.length = iN (cs ++ ds).length := by rw [iN_a, List.length_append]
  have hx8 := iN_x8 (cs ++ ds).length (by omega)
  refine Go.aloadN (q := 1) hx (hb hby d6_0) rfl (by rfl) rfl ?_
  refine Go.aloadN (q := 2) hx (hb hby d6_1) rfl (by rfl) rfl ?_
  refine Go.callU (q := 5) hx hZ (a := sb) (argsL := [(.ref ts)]) (rest := []) hown (tw hw 52 rfl) (own_same (z := (⟨"java/lang/AbstractStringBuilder", "ensureCapacityInternal", "(I)V"⟩ : MethodName)) rfl (tw hw 75 rfl) (tw hw 53 rfl) (by decide)) (tw hw 53 rfl) (tw hw 54 rfl) (by decide) (tw hw 31 rfl) (tw hw 56 rfl) (Ins.self E) (rmAS0 l Z a0 hw hel sb b kb ts tb kt cst (iN cs.length) (iN (cs.length)) (iN (ds.length)) (iN ds.length) (iN (cs ++ ds).length) (bL ds) (bL cs ++ List.replicate (ds.length) (Value.int (0 : Int32))) (bL (cs ++ ds)) h0 n0 Z0 nsb gs gb E F1 F2 F3 F4 (B.pad (pad_rep _ _ _)) TE T1 T2 TB (iN_shl0 _ (by omega)) (CP0 cs ds hl) (iN_shr0 _ (by omega)) hmk hx8 X0 SC hcs) (by simp) (by rw [hml]; rfl) pd_23 rfl rfl (hb hby d6_2) rfl (by decide) (ble rfl) (ce' := 0) (sl' := 0) rfl rfl (by decide) (by decide) (fun v731 h732 hQ733 => ?_)
  obtain ⟨rfl, K734, F735, F736, F737, F738, V739⟩ := hQ733
  show Go _ _ _ _ _ _ _ _ _ _ _ _ _ _ _ _ _ _ _ _ 0 0 5 #[.val (.ref sb), .val (.ref ts)] [(.ref sb)]
  refine Go.pop (q := 6) hx (hb hby d6_5) rfl rfl ?_
  refine Go.aloadN (q := 7) hx (hb hby d6_6) rfl (by rfl) rfl ?_
  refine Go.retA hx hret rfl (by rfl) hlk (hb hby d6_7) (by decide) (by decide) ?_
  exact ⟨rfl, K734, b, kb, Or.inl rfl, (E.keep K734), F735, F736, F737, F738, V739⟩
theorem rmB10z (l : Launch) (Z : State) (a0 : Array Value) (hw : ∀ d ∈ tables_1, d.before a0 Z = true) (hel : EW Z a0 consts_1) (sb b : Addr) (kb : ClassId) (ts tb : Addr) (kt : ClassId) (cst : Int32) (fv : Value) (cs ds : List Int32) (h0 : Heap) (n0 : Nat) (Z0 : n0 ≤ h0.size) (nsb : sb ≠ b) (gs : n0 ≤ sb) (gb : n0 ≤ b) (S : SBf Z h0 sb b kb 1 cs) (T : STf Z h0 ts tb kt 0 ds) (ok : OKc 1 cs) (okT : OKc 0 ds) (hl : (cs ++ ds).length < 30) (nx1 : ts ≠ sb) (nx2 : tb ≠ sb) (nx3 : tb ≠ b) (X0 : Old Z n0 h0) (SC : Sta Z Z.heap "java/lang/String" "COMPACT_STRINGS" "Z" (.int cst)) (hcs : ¬ cst = (0 : Int32)) (AD : Sta Z Z.heap "java/lang/StringUTF16" "$assertionsDisabled" "Z" (.int (1 : Int32))) (HB : Sta Z Z.heap "java/lang/StringUTF16" "HI_BYTE_SHIFT" "I" (.int (0 : Int32))) (LB : Sta Z Z.heap "java/lang/StringUTF16" "LO_BYTE_SHIFT" "I" (.int (8 : Int32))) (PF : Sta Z Z.heap "jdk/internal/util/Preconditions" "SIOOBE_FORMATTER" "Ljava/util/function/BiFunction;" fv) (hfv : fv.isRef = true) :
    Met l Z consts_1 [sb, b] (⟨"java/lang/StringBuilder", "append", "(Ljava/lang/String;)Ljava/lang/StringBuilder;"⟩ : MethodName) jdk_67_method_7_code 2 (Option.some (FieldType.object "java/lang/StringBuilder")) [] ({ frames := 8, cells := 0, slots := 0, locals := 167 } : Room) #[(.ref sb), (.ref ts)] h0 n0 (fun v h => v = some (.ref sb) ∧ Keep h0 h [sb, b] ∧ ∃ b2 k2, (b2 = b ∨ h0.size ≤ b2) ∧ SBf Z h sb b2 k2 1 (cs ++ ds)) := by
  refine Met.of (Ls0 := #[.val (.ref sb), .val (.ref ts)]) pl_28 (by first | (simp [argsToLocals, Value.category]; done) | rfl) hel ?_
  intro p e s m below meth c hx hby hml hret hlk hown hnm hZ
  obtain ⟨E, F1, F2, F3, F4, B⟩ := S
  obtain ⟨TE, T1, T2, TB⟩ := T
  have hl2 : cs.length + ds.length < 30 := by rw [← List.length_append]; exact hl
  refine Go.aloadN (q := 1) hx (hb hby d6_0) rfl (by rfl) rfl ?_
  refine Go.aloadN (q := 2) hx (hb hby d6_1) rfl (by rfl) rfl ?_
  refine Go.callU (q := 5) hx hZ (a := sb) (argsL := [(.ref ts)]) (rest := []) hown (tw hw 52 rfl) (own_same (z := (⟨"java/lang/AbstractStringBuilder", "ensureCapacityInternal", "(I)V"⟩ : MethodName)) rfl (tw hw 75 rfl) (tw hw 53 rfl) (by decide)) (tw hw 53 rfl) (tw hw 54 rfl) (by decide) (tw hw 31 rfl) (tw hw 56 rfl) (Ins.self E) (rmAX l Z a0 hw hel sb b kb ts tb kt cst fv cs ds h0 n0 Z0 nsb gs gb E F1 F2 F3 F4 B TE T1 T2 TB nx3 hl okT.1 (okT.2.elim (fun z => z.2) (fun z => absurd z (by decide))) X0 SC hcs AD HB LB PF hfv) (by simp) (by rw [hml]; rfl) pd_23 rfl rfl (hb hby d6_2) rfl (by decide) (ble rfl) (ce' := 0) (sl' := 0) rfl rfl (by decide) (by decide) (fun v740 h741 hQ742 => ?_)
  obtain ⟨rfl, K743, F744, F745, F746, F747, V748⟩ := hQ742
  show Go _ _ _ _ _ _ _ _ _ _ _ _ _ _ _ _ _ _ _ _ 0 0 5 #[.val (.ref sb), .val (.ref ts)] [(.ref sb)]
  refine Go.pop (q := 6) hx (hb hby d6_5) rfl rfl ?_
  refine Go.aloadN (q := 7) hx (hb hby d6_6) rfl (by rfl) rfl ?_
  refine Go.retA hx hret rfl (by rfl) hlk (hb hby d6_7) (by decide) (by decide) ?_
  exact ⟨rfl, K743, b, kb, Or.inl rfl, (E.keep K743), F744, F745, F746, F747, V748⟩
theorem rmB00 (l : Launch) (Z : State) (a0 : Array Value) (hw : ∀ d ∈ tables_1, d.before a0 Z = true) (hel : EW Z a0 consts_1) (sb b : Addr) (kb : ClassId) (ts tb : Addr) (kt : ClassId) (cst : Int32) (fv : Value) (cs ds : List Int32) (h0 : Heap) (n0 : Nat) (Z0 : n0 ≤ h0.size) (nsb : sb ≠ b) (gs : n0 ≤ sb) (gb : n0 ≤ b) (S : SBf Z h0 sb b kb 0 cs) (T : STf Z h0 ts tb kt 0 ds) (ok : OKc 0 cs) (okT : OKc 0 ds) (hl : (cs ++ ds).length < 30) (nx1 : ts ≠ sb) (nx2 : tb ≠ sb) (nx3 : tb ≠ b) (X0 : Old Z n0 h0) (SC : Sta Z Z.heap "java/lang/String" "COMPACT_STRINGS" "Z" (.int cst)) (hcs : ¬ cst = (0 : Int32)) (AD : Sta Z Z.heap "java/lang/StringUTF16" "$assertionsDisabled" "Z" (.int (1 : Int32))) (HB : Sta Z Z.heap "java/lang/StringUTF16" "HI_BYTE_SHIFT" "I" (.int (0 : Int32))) (LB : Sta Z Z.heap "java/lang/StringUTF16" "LO_BYTE_SHIFT" "I" (.int (8 : Int32))) (PF : Sta Z Z.heap "jdk/internal/util/Preconditions" "SIOOBE_FORMATTER" "Ljava/util/function/BiFunction;" fv) (hfv : fv.isRef = true) :
    Met l Z consts_1 [sb, b] (⟨"java/lang/StringBuilder", "append", "(Ljava/lang/String;)Ljava/lang/StringBuilder;"⟩ : MethodName) jdk_67_method_7_code 2 (Option.some (FieldType.object "java/lang/StringBuilder")) [] ({ frames := 9, cells := 1, slots := 16384, locals := 184 } : Room) #[(.ref sb), (.ref ts)] h0 n0 (fun v h => v = some (.ref sb) ∧ Keep h0 h [sb, b] ∧ ∃ b2 k2, (b2 = b ∨ h0.size ≤ b2) ∧ SBf Z h sb b2 k2 0 (cs ++ ds)) := by
  refine Met.of (Ls0 := #[.val (.ref sb), .val (.ref ts)]) pl_28 (by first | (simp [argsToLocals, Value.category]; done) | rfl) hel ?_
  intro p e s m below meth c hx hby hml hret hlk hown hnm hZ
  obtain ⟨E, F1, F2, F3, F4, B⟩ := S
  obtain ⟨TE, T1, T2, TB⟩ := T
  have hl2 : cs.length + ds.length < 30 := by rw [← List.length_append]; exact hl
  have hl2 : cs.length + ds.length < 30 := by rw [← List.length_append]; exact hl
  have hmk : iN cs.length + iN ds.length = iN (cs ++ ds).length := by rw [iN_a, List.length_append]
  have hx8 := iN_x8 (cs ++ ds).length (by omega)
  refine Go.aloadN (q := 1) hx (hb hby d6_0) rfl (by rfl) rfl ?_
  refine Go.aloadN (q := 2) hx (hb hby d6_1) rfl (by rfl) rfl ?_
  refine Go.callU (q := 5) hx hZ (a := sb) (argsL := [(.ref ts)]) (rest := []) hown (tw hw 52 rfl) (own_same (z := (⟨"java/lang/AbstractStringBuilder", "ensureCapacityInternal", "(I)V"⟩ : MethodName)) rfl (tw hw 75 rfl) (tw hw 53 rfl) (by decide)) (tw hw 53 rfl) (tw hw 54 rfl) (by decide) (tw hw 31 rfl) (tw hw 56 rfl) (Ins.self E) (rmAS0 l Z a0 hw hel sb b kb ts tb kt cst (iN cs.length) (iN (cs.length)) (iN (ds.length)) (iN ds.length) (iN (cs ++ ds).length) (bL ds) (bL cs ++ List.replicate (ds.length) (Value.int (0 : Int32))) (bL (cs ++ ds)) h0 n0 Z0 nsb gs gb E F1 F2 F3 F4 (B.pad (pad_rep _ _ _)) TE T1 T2 TB (iN_shl0 _ (by omega)) (CP0 cs ds hl) (iN_shr0 _ (by omega)) hmk hx8 X0 SC hcs) (by simp) (by rw [hml]; rfl) pd_23 rfl rfl (hb hby d6_2) rfl (by decide) (ble rfl) (ce' := 0) (sl' := 0) rfl rfl (by decide) (by decide) (fun v749 h750 hQ751 => ?_)
  obtain ⟨rfl, K752, F753, F754, F755, F756, V757⟩ := hQ751
  show Go _ _ _ _ _ _ _ _ _ _ _ _ _ _ _ _ _ _ _ _ 0 0 5 #[.val (.ref sb), .val (.ref ts)] [(.ref sb)]
  refine Go.pop (q := 6) hx (hb hby d6_5) rfl rfl ?_
  refine Go.aloadN (q := 7) hx (hb hby d6_6) rfl (by rfl) rfl ?_
  refine Go.retA hx hret rfl (by rfl) hlk (hb hby d6_7) (by decide) (by decide) ?_
  exact ⟨rfl, K752, b, kb, Or.inl rfl, (E.keep K752), F753, F754, F755, F756, V757⟩
theorem rmB01 (l : Launch) (Z : State) (a0 : Array Value) (hw : ∀ d ∈ tables_1, d.before a0 Z = true) (hel : EW Z a0 consts_1) (sb b : Addr) (kb : ClassId) (ts tb : Addr) (kt : ClassId) (cst : Int32) (fv : Value) (cs ds : List Int32) (h0 : Heap) (n0 : Nat) (Z0 : n0 ≤ h0.size) (nsb : sb ≠ b) (gs : n0 ≤ sb) (gb : n0 ≤ b) (S : SBf Z h0 sb b kb 0 cs) (T : STf Z h0 ts tb kt 1 ds) (ok : OKc 0 cs) (okT : OKc 1 ds) (hl : (cs ++ ds).length < 30) (nx1 : ts ≠ sb) (nx2 : tb ≠ sb) (nx3 : tb ≠ b) (X0 : Old Z n0 h0) (SC : Sta Z Z.heap "java/lang/String" "COMPACT_STRINGS" "Z" (.int cst)) (hcs : ¬ cst = (0 : Int32)) (AD : Sta Z Z.heap "java/lang/StringUTF16" "$assertionsDisabled" "Z" (.int (1 : Int32))) (HB : Sta Z Z.heap "java/lang/StringUTF16" "HI_BYTE_SHIFT" "I" (.int (0 : Int32))) (LB : Sta Z Z.heap "java/lang/StringUTF16" "LO_BYTE_SHIFT" "I" (.int (8 : Int32))) (PF : Sta Z Z.heap "jdk/internal/util/Preconditions" "SIOOBE_FORMATTER" "Ljava/util/function/BiFunction;" fv) (hfv : fv.isRef = true) :
    Met l Z consts_1 [sb, b] (⟨"java/lang/StringBuilder", "append", "(Ljava/lang/String;)Ljava/lang/StringBuilder;"⟩ : MethodName) jdk_67_method_7_code 2 (Option.some (FieldType.object "java/lang/StringBuilder")) [] ({ frames := 9, cells := 1, slots := 16384, locals := 184 } : Room) #[(.ref sb), (.ref ts)] h0 n0 (fun v h => v = some (.ref sb) ∧ Keep h0 h [sb, b] ∧ ∃ b2 k2, (b2 = b ∨ h0.size ≤ b2) ∧ SBf Z h sb b2 k2 1 (cs ++ ds)) := by
  refine Met.of (Ls0 := #[.val (.ref sb), .val (.ref ts)]) pl_28 (by first | (simp [argsToLocals, Value.category]; done) | rfl) hel ?_
  intro p e s m below meth c hx hby hml hret hlk hown hnm hZ
  obtain ⟨E, F1, F2, F3, F4, B⟩ := S
  obtain ⟨TE, T1, T2, TB⟩ := T
  have hl2 : cs.length + ds.length < 30 := by rw [← List.length_append]; exact hl
  refine Go.aloadN (q := 1) hx (hb hby d6_0) rfl (by rfl) rfl ?_
  refine Go.aloadN (q := 2) hx (hb hby d6_1) rfl (by rfl) rfl ?_
  refine Go.callU (q := 5) hx hZ (a := sb) (argsL := [(.ref ts)]) (rest := []) hown (tw hw 52 rfl) (own_same (z := (⟨"java/lang/AbstractStringBuilder", "ensureCapacityInternal", "(I)V"⟩ : MethodName)) rfl (tw hw 75 rfl) (tw hw 53 rfl) (by decide)) (tw hw 53 rfl) (tw hw 54 rfl) (by decide) (tw hw 31 rfl) (tw hw 56 rfl) (Ins.self E) (rmAY l Z a0 hw hel sb b kb ts tb kt cst fv cs ds h0 n0 Z0 nsb gs gb E F1 F2 F3 F4 B TE T1 T2 TB nx1 nx2 hl ok.1 (ok.2.elim (fun z => z.2) (fun z => absurd z (by decide))) X0 SC hcs AD HB LB PF hfv) (by simp) (by rw [hml]; rfl) pd_23 rfl rfl (hb hby d6_2) rfl (by decide) (ble rfl) (ce' := 1) (sl' := 16384) rfl rfl (by decide) (by decide) (fun v758 h759 hQ760 => ?_)
  obtain ⟨rfl, K761, b762, k763, g764, F765, F766, F767, F768, V769⟩ := hQ760
  show Go _ _ _ _ _ _ _ _ _ _ _ _ _ _ _ _ _ _ _ _ 1 16384 5 #[.val (.ref sb), .val (.ref ts)] [(.ref sb)]
  refine Go.pop (q := 6) hx (hb hby d6_5) rfl rfl ?_
  refine Go.aloadN (q := 7) hx (hb hby d6_6) rfl (by rfl) rfl ?_
  refine Go.retA hx hret rfl (by rfl) hlk (hb hby d6_7) (by decide) (by decide) ?_
  exact ⟨rfl, ((Keep.refl h0 [sb, b]).trans K761 (allS (Or.inl (by simp)) all0)), b762, k763, Or.inr g764, (E.keep K761), F765, F766, F767, F768, V769⟩
theorem rmB10 (l : Launch) (Z : State) (a0 : Array Value) (hw : ∀ d ∈ tables_1, d.before a0 Z = true) (hel : EW Z a0 consts_1) (sb b : Addr) (kb : ClassId) (ts tb : Addr) (kt : ClassId) (cst : Int32) (fv : Value) (cs ds : List Int32) (h0 : Heap) (n0 : Nat) (Z0 : n0 ≤ h0.size) (nsb : sb ≠ b) (gs : n0 ≤ sb) (gb : n0 ≤ b) (S : SBf Z h0 sb b kb 1 cs) (T : STf Z h0 ts tb kt 0 ds) (ok : OKc 1 cs) (okT : OKc 0 ds) (hl : (cs ++ ds).length < 30) (nx1 : ts ≠ sb) (nx2 : tb ≠ sb) (nx3 : tb ≠ b) (X0 : Old Z n0 h0) (SC : Sta Z Z.heap "java/lang/String" "COMPACT_STRINGS" "Z" (.int cst)) (hcs : ¬ cst = (0 : Int32)) (AD : Sta Z Z.heap "java/lang/StringUTF16" "$assertionsDisabled" "Z" (.int (1 : Int32))) (HB : Sta Z Z.heap "java/lang/StringUTF16" "HI_BYTE_SHIFT" "I" (.int (0 : Int32))) (LB : Sta Z Z.heap "java/lang/StringUTF16" "LO_BYTE_SHIFT" "I" (.int (8 : Int32))) (PF : Sta Z Z.heap "jdk/internal/util/Preconditions" "SIOOBE_FORMATTER" "Ljava/util/function/BiFunction;" fv) (hfv : fv.isRef = true) :
    Met l Z consts_1 [sb, b] (⟨"java/lang/StringBuilder", "append", "(Ljava/lang/String;)Ljava/lang/StringBuilder;"⟩ : MethodName) jdk_67_method_7_code 2 (Option.some (FieldType.object "java/lang/StringBuilder")) [] ({ frames := 9, cells := 1, slots := 16384, locals := 184 } : Room) #[(.ref sb), (.ref ts)] h0 n0 (fun v h => v = some (.ref sb) ∧ Keep h0 h [sb, b] ∧ ∃ b2 k2, (b2 = b ∨ h0.size ≤ b2) ∧ SBf Z h sb b2 k2 1 (cs ++ ds)) := by
  refine Met.of (Ls0 := #[.val (.ref sb), .val (.ref ts)]) pl_28 (by first | (simp [argsToLocals, Value.category]; done) | rfl) hel ?_
  intro p e s m below meth c hx hby hml hret hlk hown hnm hZ
  obtain ⟨E, F1, F2, F3, F4, B⟩ := S
  obtain ⟨TE, T1, T2, TB⟩ := T
  have hl2 : cs.length + ds.length < 30 := by rw [← List.length_append]; exact hl
  refine Go.aloadN (q := 1) hx (hb hby d6_0) rfl (by rfl) rfl ?_
  refine Go.aloadN (q := 2) hx (hb hby d6_1) rfl (by rfl) rfl ?_
  refine Go.callU (q := 5) hx hZ (a := sb) (argsL := [(.ref ts)]) (rest := []) hown (tw hw 52 rfl) (own_same (z := (⟨"java/lang/AbstractStringBuilder", "ensureCapacityInternal", "(I)V"⟩ : MethodName)) rfl (tw hw 75 rfl) (tw hw 53 rfl) (by decide)) (tw hw 53 rfl) (tw hw 54 rfl) (by decide) (tw hw 31 rfl) (tw hw 56 rfl) (Ins.self E) (rmAX l Z a0 hw hel sb b kb ts tb kt cst fv cs ds h0 n0 Z0 nsb gs gb E F1 F2 F3 F4 B TE T1 T2 TB nx3 hl okT.1 (okT.2.elim (fun z => z.2) (fun z => absurd z (by decide))) X0 SC hcs AD HB LB PF hfv) (by simp) (by rw [hml]; rfl) pd_23 rfl rfl (hb hby d6_2) rfl (by decide) (ble rfl) (ce' := 0) (sl' := 0) rfl rfl (by decide) (by decide) (fun v770 h771 hQ772 => ?_)
  obtain ⟨rfl, K773, F774, F775, F776, F777, V778⟩ := hQ772
  show Go _ _ _ _ _ _ _ _ _ _ _ _ _ _ _ _ _ _ _ _ 0 0 5 #[.val (.ref sb), .val (.ref ts)] [(.ref sb)]
  refine Go.pop (q := 6) hx (hb hby d6_5) rfl rfl ?_
  refine Go.aloadN (q := 7) hx (hb hby d6_6) rfl (by rfl) rfl ?_
  refine Go.retA hx hret rfl (by rfl) hlk (hb hby d6_7) (by decide) (by decide) ?_
  exact ⟨rfl, K773, b, kb, Or.inl rfl, (E.keep K773), F774, F775, F776, F777, V778⟩
theorem rmB11 (l : Launch) (Z : State) (a0 : Array Value) (hw : ∀ d ∈ tables_1, d.before a0 Z = true) (hel : EW Z a0 consts_1) (sb b : Addr) (kb : ClassId) (ts tb : Addr) (kt : ClassId) (cst : Int32) (fv : Value) (cs ds : List Int32) (h0 : Heap) (n0 : Nat) (Z0 : n0 ≤ h0.size) (nsb : sb ≠ b) (gs : n0 ≤ sb) (gb : n0 ≤ b) (S : SBf Z h0 sb b kb 1 cs) (T : STf Z h0 ts tb kt 1 ds) (ok : OKc 1 cs) (okT : OKc 1 ds) (hl : (cs ++ ds).length < 30) (nx1 : ts ≠ sb) (nx2 : tb ≠ sb) (nx3 : tb ≠ b) (X0 : Old Z n0 h0) (SC : Sta Z Z.heap "java/lang/String" "COMPACT_STRINGS" "Z" (.int cst)) (hcs : ¬ cst = (0 : Int32)) (AD : Sta Z Z.heap "java/lang/StringUTF16" "$assertionsDisabled" "Z" (.int (1 : Int32))) (HB : Sta Z Z.heap "java/lang/StringUTF16" "HI_BYTE_SHIFT" "I" (.int (0 : Int32))) (LB : Sta Z Z.heap "java/lang/StringUTF16" "LO_BYTE_SHIFT" "I" (.int (8 : Int32))) (PF : Sta Z Z.heap "jdk/internal/util/Preconditions" "SIOOBE_FORMATTER" "Ljava/util/function/BiFunction;" fv) (hfv : fv.isRef = true) :
    Met l Z consts_1 [sb, b] (⟨"java/lang/StringBuilder", "append", "(Ljava/lang/String;)Ljava/lang/StringBuilder;"⟩ : MethodName) jdk_67_method_7_code 2 (Option.some (FieldType.object "java/lang/StringBuilder")) [] ({ frames := 9, cells := 1, slots := 16384, locals := 184 } : Room) #[(.ref sb), (.ref ts)] h0 n0 (fun v h => v = some (.ref sb) ∧ Keep h0 h [sb, b] ∧ ∃ b2 k2, (b2 = b ∨ h0.size ≤ b2) ∧ SBf Z h sb b2 k2 1 (cs ++ ds)) := by
  refine Met.of (Ls0 := #[.val (.ref sb), .val (.ref ts)]) pl_28 (by first | (simp [argsToLocals, Value.category]; done) | rfl) hel ?_
  intro p e s m below meth c hx hby hml hret hlk hown hnm hZ
  obtain ⟨E, F1, F2, F3, F4, B⟩ := S
  obtain ⟨TE, T1, T2, TB⟩ := T
  have hl2 : cs.length + ds.length < 30 := by rw [← List.length_append]; exact hl
  have hl2 : cs.length + ds.length < 30 := by rw [← List.length_append]; exact hl
  have hmk : iN cs.length + iN ds.length = iN (cs ++ ds).length := by rw [iN_a, List.length_append]
  have hx8 := iN_x8 (cs ++ ds).length (by omega)
  refine Go.aloadN (q := 1) hx (hb hby d6_0) rfl (by rfl) rfl ?_
  refine Go.aloadN (q := 2) hx (hb hby d6_1) rfl (by rfl) rfl ?_
  refine Go.callU (q := 5) hx hZ (a := sb) (argsL := [(.ref ts)]) (rest := []) hown (tw hw 52 rfl) (own_same (z := (⟨"java/lang/AbstractStringBuilder", "ensureCapacityInternal", "(I)V"⟩ : MethodName)) rfl (tw hw 75 rfl) (tw hw 53 rfl) (by decide)) (tw hw 53 rfl) (tw hw 54 rfl) (by decide) (tw hw 31 rfl) (tw hw 56 rfl) (Ins.self E) (rmAS1 l Z a0 hw hel sb b kb ts tb kt cst (iN cs.length) (iN (2 * cs.length)) (iN (2 * ds.length)) (iN ds.length) (iN (cs ++ ds).length) (bU ds) (bU cs ++ List.replicate (2 * ds.length) (Value.int (0 : Int32))) (bU (cs ++ ds)) h0 n0 Z0 nsb gs gb E F1 F2 F3 F4 (B.pad (pad_rep _ _ _)) TE T1 T2 TB (iN_shl _ (by omega)) (CP1 cs ds hl) (iN_shr _ (by omega)) hmk hx8 X0 SC hcs) (by simp) (by rw [hml]; rfl) pd_23 rfl rfl (hb hby d6_2) rfl (by decide) (ble rfl) (ce' := 0) (sl' := 0) rfl rfl (by decide) (by decide) (fun v779 h780 hQ781 => ?_)
  obtain ⟨rfl, K782, F783, F784, F785, F786, V787⟩ := hQ781
  show Go _ _ _ _ _ _ _ _ _ _ _ _ _ _ _ _ _ _ _ _ 0 0 5 #[.val (.ref sb), .val (.ref ts)] [(.ref sb)]
  refine Go.pop (q := 6) hx (hb hby d6_5) rfl rfl ?_
  refine Go.aloadN (q := 7) hx (hb hby d6_6) rfl (by rfl) rfl ?_
  refine Go.retA hx hret rfl (by rfl) hlk (hb hby d6_7) (by decide) (by decide) ?_
  exact ⟨rfl, K782, b, kb, Or.inl rfl, (E.keep K782), F783, F784, F785, F786, V787⟩
theorem rmAp0 (l : Launch) (Z : State) (a0 : Array Value) (hw : ∀ d ∈ tables_1, d.before a0 Z = true) (hel : EW Z a0 consts_1) (sb b : Addr) (kb : ClassId) (ts tb : Addr) (kt : ClassId) (cst : Int32) (fv : Value) (cd : Nat) (cs ds : List Int32) (h0 : Heap) (n0 : Nat) (Z0 : n0 ≤ h0.size) (nsb : sb ≠ b) (gs : n0 ≤ sb) (gb : n0 ≤ b) (S : SBf Z h0 sb b kb cd cs) (T : STf Z h0 ts tb kt 0 ds) (ok : OKc cd cs) (okT : OKc 0 ds) (hl : (cs ++ ds).length < 30) (nx1 : ts ≠ sb) (nx2 : tb ≠ sb) (nx3 : tb ≠ b) (X0 : Old Z n0 h0) (SC : Sta Z Z.heap "java/lang/String" "COMPACT_STRINGS" "Z" (.int cst)) (hcs : ¬ cst = (0 : Int32)) (AD : Sta Z Z.heap "java/lang/StringUTF16" "$assertionsDisabled" "Z" (.int (1 : Int32))) (HB : Sta Z Z.heap "java/lang/StringUTF16" "HI_BYTE_SHIFT" "I" (.int (0 : Int32))) (LB : Sta Z Z.heap "java/lang/StringUTF16" "LO_BYTE_SHIFT" "I" (.int (8 : Int32))) (PF : Sta Z Z.heap "jdk/internal/util/Preconditions" "SIOOBE_FORMATTER" "Ljava/util/function/BiFunction;" fv) (hfv : fv.isRef = true) :
    Met l Z consts_1 [sb, b] (⟨"java/lang/StringBuilder", "append", "(Ljava/lang/String;)Ljava/lang/StringBuilder;"⟩ : MethodName) jdk_67_method_7_code 2 (Option.some (FieldType.object "java/lang/StringBuilder")) [] ({ frames := 8, cells := 0, slots := 0, locals := 167 } : Room) #[(.ref sb), (.ref ts)] h0 n0 (fun v h => v = some (.ref sb) ∧ Keep h0 h [sb, b] ∧ ∃ b2 k2, (b2 = b ∨ h0.size ≤ b2) ∧ SBf Z h sb b2 k2 (mx cd 0) (cs ++ ds)) := by
  rcases ok.2 with ⟨rfl, _⟩ | rfl
  · exact rmB00z l Z a0 hw hel sb b kb ts tb kt cst fv cs ds h0 n0 Z0 nsb gs gb S T ok okT hl nx1 nx2 nx3 X0 SC hcs AD HB LB PF hfv
  · exact rmB10z l Z a0 hw hel sb b kb ts tb kt cst fv cs ds h0 n0 Z0 nsb gs gb S T ok okT hl nx1 nx2 nx3 X0 SC hcs AD HB LB PF hfv
theorem rmAp (l : Launch) (Z : State) (a0 : Array Value) (hw : ∀ d ∈ tables_1, d.before a0 Z = true) (hel : EW Z a0 consts_1) (sb b : Addr) (kb : ClassId) (ts tb : Addr) (kt : ClassId) (cst : Int32) (fv : Value) (cd td : Nat) (cs ds : List Int32) (h0 : Heap) (n0 : Nat) (Z0 : n0 ≤ h0.size) (nsb : sb ≠ b) (gs : n0 ≤ sb) (gb : n0 ≤ b) (S : SBf Z h0 sb b kb cd cs) (T : STf Z h0 ts tb kt td ds) (ok : OKc cd cs) (okT : OKc td ds) (hl : (cs ++ ds).length < 30) (nx1 : ts ≠ sb) (nx2 : tb ≠ sb) (nx3 : tb ≠ b) (X0 : Old Z n0 h0) (SC : Sta Z Z.heap "java/lang/String" "COMPACT_STRINGS" "Z" (.int cst)) (hcs : ¬ cst = (0 : Int32)) (AD : Sta Z Z.heap "java/lang/StringUTF16" "$assertionsDisabled" "Z" (.int (1 : Int32))) (HB : Sta Z Z.heap "java/lang/StringUTF16" "HI_BYTE_SHIFT" "I" (.int (0 : Int32))) (LB : Sta Z Z.heap "java/lang/StringUTF16" "LO_BYTE_SHIFT" "I" (.int (8 : Int32))) (PF : Sta Z Z.heap "jdk/internal/util/Preconditions" "SIOOBE_FORMATTER" "Ljava/util/function/BiFunction;" fv) (hfv : fv.isRef = true) :
    Met l Z consts_1 [sb, b] (⟨"java/lang/StringBuilder", "append", "(Ljava/lang/String;)Ljava/lang/StringBuilder;"⟩ : MethodName) jdk_67_method_7_code 2 (Option.some (FieldType.object "java/lang/StringBuilder")) [] ({ frames := 9, cells := 1, slots := 16384, locals := 184 } : Room) #[(.ref sb), (.ref ts)] h0 n0 (fun v h => v = some (.ref sb) ∧ Keep h0 h [sb, b] ∧ ∃ b2 k2, (b2 = b ∨ h0.size ≤ b2) ∧ SBf Z h sb b2 k2 (mx cd td) (cs ++ ds)) := by
  rcases ok.2 with ⟨rfl, _⟩ | rfl
  · rcases okT.2 with ⟨rfl, _⟩ | rfl
    · exact rmB00 l Z a0 hw hel sb b kb ts tb kt cst fv cs ds h0 n0 Z0 nsb gs gb S T ok okT hl nx1 nx2 nx3 X0 SC hcs AD HB LB PF hfv
    · exact rmB01 l Z a0 hw hel sb b kb ts tb kt cst fv cs ds h0 n0 Z0 nsb gs gb S T ok okT hl nx1 nx2 nx3 X0 SC hcs AD HB LB PF hfv
  · rcases okT.2 with ⟨rfl, _⟩ | rfl
    · exact rmB10 l Z a0 hw hel sb b kb ts tb kt cst fv cs ds h0 n0 Z0 nsb gs gb S T ok okT hl nx1 nx2 nx3 X0 SC hcs AD HB LB PF hfv
    · exact rmB11 l Z a0 hw hel sb b kb ts tb kt cst fv cs ds h0 n0 Z0 nsb gs gb S T ok okT hl nx1 nx2 nx3 X0 SC hcs AD HB LB PF hfv
theorem d17_0 : decode jdk_43_method_3_code 0 = .ok (.iload_n 0, 1) := by decide +kernel
theorem d17_1 : decode jdk_43_method_3_code 1 = .ok (.sipush 255, 3) := by decide +kernel
theorem d17_4 : decode jdk_43_method_3_code 4 = .ok (.if_icmp .gt 7, 3) := by decide +kernel
theorem d17_7 : decode jdk_43_method_3_code 7 = .ok (.iconst 1, 1) := by decide +kernel
theorem d17_8 : decode jdk_43_method_3_code 8 = .ok (.goto 4, 3) := by decide +kernel
theorem d17_11 : decode jdk_43_method_3_code 11 = .ok (.iconst 0, 1) := by decide +kernel
theorem d17_12 : decode jdk_43_method_3_code 12 = .ok (.ireturn, 1) := by decide +kernel
theorem pl_29 : plainFor (⟨"java/lang/StringLatin1", "canEncode", "(C)Z"⟩ : MethodName) = true := plainFor_of_name (by first | (simp [plainName, overriddenIn]; done) | decide +kernel)
theorem rmCE (l : Launch) (Z : State) (a0 : Array Value) (hw : ∀ d ∈ tables_1, d.before a0 Z = true) (hel : EW Z a0 consts_1)  (h0 : Heap) (n0 : Nat) (Z0 : n0 ≤ h0.size)  :
    Met l Z consts_1 [] (⟨"java/lang/StringLatin1", "canEncode", "(C)Z"⟩ : MethodName) jdk_43_method_3_code 1 (Option.some FieldType.boolean) [] ({ frames := 0, cells := 0, slots := 0, locals := 0 } : Room) #[(.int (62 : Int32))] h0 n0 (fun v h => v = some (.int (1 : Int32)) ∧ h0 = h) := by
  refine Met.of (Ls0 := #[.val (.int (62 : Int32))]) pl_29 (by first | (simp [argsToLocals, Value.category]; done) | rfl) hel ?_
  intro p e s m below meth c hx hby hml hret hlk hown hnm hZ
  refine Go.iloadN (q := 1) hx (hb hby d17_0) rfl rfl ?_
  refine Go.sipush (q := 4) (z := (255 : Int32)) hx (hb hby d17_1) rfl rfl ?_
  refine Go.icmp_gt (q := 7) (t := 11) hx (hb hby d17_4) (by decide) rfl rfl (fun hc4 => absurd hc4 (by decide)) (fun hc4 => ?_)
  refine Go.iconst (q := 8) (z := (1 : Int32)) hx (hb hby d17_7) rfl rfl ?_
  refine Go.goto (q := 12) hx (hb hby d17_8) (by decide) rfl ?_
  refine Go.retN hx (t := .boolean) hret (by simp) hlk (hb hby d17_12) (by decide) (by decide) ?_
  exact ⟨rfl, rfl⟩
theorem d53_0 : decode jdk_52_method_91_code 0 = .ok (.iload_n 0, 1) := by decide +kernel
theorem d53_1 : decode jdk_52_method_91_code 1 = .ok (.aload_n 1, 1) := by decide +kernel
theorem d53_2 : decode jdk_52_method_91_code 2 = .ok (.invokestatic 48, 3) := by decide +kernel
theorem d53_5 : decode jdk_52_method_91_code 5 = .ok (.invokestatic 414, 3) := by decide +kernel
theorem d53_8 : decode jdk_52_method_91_code 8 = .ok (.return_, 1) := by decide +kernel
theorem pl_30 : plainFor (⟨"java/lang/StringUTF16", "checkIndex", "(I[B)V"⟩ : MethodName) = true := plainFor_of_name (by first | (simp [plainName, overriddenIn]; done) | decide +kernel)
theorem pd_24 : parseMethodDescriptor "(II)V" = some ⟨[.int, .int], none⟩ := by decide +kernel
theorem rmUI (l : Launch) (Z : State) (a0 : Array Value) (hw : ∀ d ∈ tables_1, d.before a0 Z = true) (hel : EW Z a0 consts_1) (i : Int32) (b : Addr) (kb : ClassId) (z n : Int32) (vs : List Value) (fv : Value) (h0 : Heap) (n0 : Nat) (Z0 : n0 ≤ h0.size) (B : Arv Z h0 b kb .byte z vs (.int (0 : Int32))) (hn : z >>> ((1 : Int32) &&& 31) = n) (h1 : ¬ i < 0) (h2 : i < n) (X0 : Old Z n0 h0) (PF : Sta Z Z.heap "jdk/internal/util/Preconditions" "SIOOBE_FORMATTER" "Ljava/util/function/BiFunction;" fv) (hfv : fv.isRef = true) :
    Met l Z consts_1 [] (⟨"java/lang/StringUTF16", "checkIndex", "(I[B)V"⟩ : MethodName) jdk_52_method_91_code 2 (Option.none : Option FieldType) [] ({ frames := 2, cells := 0, slots := 0, locals := 39 } : Room) #[(.int i), (.ref b)] h0 n0 (fun v h => v = none ∧ h0 = h) := by
  refine Met.of (Ls0 := #[.val (.int i), .val (.ref b)]) pl_30 (by first | (simp [argsToLocals, Value.category]; done) | rfl) hel ?_
  intro p e s m below meth c hx hby hml hret hlk hown hnm hZ
  refine Go.iloadN (q := 1) hx (hb hby d53_0) rfl rfl ?_
  refine Go.aloadN (q := 2) hx (hb hby d53_1) rfl (by rfl) rfl ?_
  refine Go.callS (q := 5) hx hZ (argsL := [(.ref b)]) (rest := [(.int i)]) hown (tw hw 240 rfl) (tw hw 241 rfl) (tw hw 198 rfl) (tw hw 242 rfl) (by decide) (rmUL l Z a0 hw hel b kb z n vs h0 n0 Z0 B hn) (fun _ hx => nomatch hx) (by rw [hml]; rfl) pd_7 rfl rfl (hb hby d53_2) rfl (by decide) (ble rfl) (ce' := 0) (sl' := 0) rfl rfl (by decide) (by decide) (fun v788 h789 hQ790 => ?_)
  obtain ⟨rfl, rfl⟩ := hQ790
  show Go _ _ _ _ _ _ _ _ _ _ _ _ _ _ _ _ _ _ _ _ 0 0 5 #[.val (.int i), .val (.ref b)] [(.int n), (.int i)]
  refine Go.callS (q := 8) hx hZ (argsL := [(.int i), (.int n)]) (rest := []) hown (tw hw 255 rfl) (tw hw 181 rfl) (tw hw 5 rfl) (tw hw 182 rfl) (by decide) (rmX l Z a0 hw hel i n fv h0 n0 Z0 h1 h2 X0 PF hfv) (fun _ hx => nomatch hx) (by rw [hml]; rfl) pd_24 rfl rfl (hb hby d53_5) rfl (by decide) (ble rfl) (ce' := 0) (sl' := 0) rfl rfl (by decide) (by decide) (fun v791 h792 hQ793 => ?_)
  obtain ⟨rfl, rfl⟩ := hQ793
  show Go _ _ _ _ _ _ _ _ _ _ _ _ _ _ _ _ _ _ _ _ 0 0 8 #[.val (.int i), .val (.ref b)] []
  refine Go.ret0 hx hret hlk (hb hby d53_8) (by decide) (by decide) ?_
  exact ⟨rfl, rfl⟩
theorem d52_0 : decode jdk_52_method_71_code 0 = .ok (.iload_n 1, 1) := by decide +kernel
theorem d52_1 : decode jdk_52_method_71_code 1 = .ok (.aload_n 0, 1) := by decide +kernel
theorem d52_2 : decode jdk_52_method_71_code 2 = .ok (.invokestatic 67, 3) := by decide +kernel
theorem d52_5 : decode jdk_52_method_71_code 5 = .ok (.aload_n 0, 1) := by decide +kernel
theorem d52_6 : decode jdk_52_method_71_code 6 = .ok (.iload_n 1, 1) := by decide +kernel
theorem d52_7 : decode jdk_52_method_71_code 7 = .ok (.iload_n 2, 1) := by decide +kernel
theorem d52_8 : decode jdk_52_method_71_code 8 = .ok (.invokestatic 111, 3) := by decide +kernel
theorem d52_11 : decode jdk_52_method_71_code 11 = .ok (.return_, 1) := by decide +kernel
theorem pl_31 : plainFor (⟨"java/lang/StringUTF16", "putCharSB", "([BII)V"⟩ : MethodName) = true := plainFor_of_name (by first | (simp [plainName, overriddenIn]; done) | decide +kernel)
theorem pd_25 : parseMethodDescriptor "(I[B)V" = some ⟨[.int, (.array .byte)], none⟩ := by decide +kernel
theorem rmPCS (l : Launch) (Z : State) (a0 : Array Value) (hw : ∀ d ∈ tables_1, d.before a0 Z = true) (hel : EW Z a0 consts_1) (b : Addr) (kb : ClassId) (i j x : Int32) (np : Nat) (vs : List Value) (fv : Value) (h0 : Heap) (n0 : Nat) (Z0 : n0 ≤ h0.size) (B : Arv Z h0 b kb .byte (16384 : Int32) vs (.int (0 : Int32))) (gb : n0 ≤ b) (h1 : ¬ i < 0) (h2 : i < (8192 : Int32)) (xx : IX i j np (16384 : Int32)) (hl : np + 1 < vs.length) (X0 : Old Z n0 h0) (AD : Sta Z Z.heap "java/lang/StringUTF16" "$assertionsDisabled" "Z" (.int (1 : Int32))) (HB : Sta Z Z.heap "java/lang/StringUTF16" "HI_BYTE_SHIFT" "I" (.int (0 : Int32))) (LB : Sta Z Z.heap "java/lang/StringUTF16" "LO_BYTE_SHIFT" "I" (.int (8 : Int32))) (PF : Sta Z Z.heap "jdk/internal/util/Preconditions" "SIOOBE_FORMATTER" "Ljava/util/function/BiFunction;" fv) (hfv : fv.isRef = true) :
    Met l Z consts_1 [b] (⟨"java/lang/StringUTF16", "putCharSB", "([BII)V"⟩ : MethodName) jdk_52_method_71_code 3 (Option.none : Option FieldType) [] ({ frames := 3, cells := 0, slots := 0, locals := 58 } : Room) #[(.ref b), (.int i), (.int x)] h0 n0 (fun v h => v = none ∧ Keep h0 h [b] ∧ Arv Z h b kb .byte (16384 : Int32) (setU vs np x) (.int (0 : Int32))) := by
  refine Met.of (Ls0 := #[.val (.ref b), .val (.int i), .val (.int x)]) pl_31 (by first | (simp [argsToLocals, Value.category]; done) | rfl) hel ?_
  intro p e s m below meth c hx hby hml hret hlk hown hnm hZ
  refine Go.iloadN (q := 1) hx (hb hby d52_0) rfl rfl ?_
  refine Go.aloadN (q := 2) hx (hb hby d52_1) rfl (by rfl) rfl ?_
  refine Go.callS (q := 5) hx hZ (argsL := [(.int i), (.ref b)]) (rest := []) hown (tw hw 252 rfl) (tw hw 253 rfl) (tw hw 198 rfl) (tw hw 254 rfl) (by decide) (rmUI l Z a0 hw hel i b kb (16384 : Int32) (8192 : Int32) vs fv h0 n0 Z0 B (by decide) h1 h2 X0 PF hfv) (fun _ hx => nomatch hx) (by rw [hml]; rfl) pd_25 rfl rfl (hb hby d52_2) rfl (by decide) (ble rfl) (ce' := 0) (sl' := 0) rfl rfl (by decide) (by decide) (fun v794 h795 hQ796 => ?_)
  obtain ⟨rfl, rfl⟩ := hQ796
  show Go _ _ _ _ _ _ _ _ _ _ _ _ _ _ _ _ _ _ _ _ 0 0 5 #[.val (.ref b), .val (.int i), .val (.int x)] []
  refine Go.aloadN (q := 6) hx (hb hby d52_5) rfl (by rfl) rfl ?_
  refine Go.iloadN (q := 7) hx (hb hby d52_6) rfl rfl ?_
  refine Go.iloadN (q := 8) hx (hb hby d52_7) rfl rfl ?_
  refine Go.callS (q := 11) hx hZ (argsL := [(.ref b), (.int i), (.int x)]) (rest := []) hown (tw hw 216 rfl) (tw hw 217 rfl) (tw hw 198 rfl) (tw hw 218 rfl) (by decide) (rmPut l Z a0 hw hel b kb (16384 : Int32) i j x np vs _ h0 n0 Z0 B gb xx.1 xx.2.1 xx.2.2.1 xx.2.2.2.1 xx.2.2.2.2 hl rfl X0 AD HB LB) (by simp) (by rw [hml]; rfl) pd_9 rfl rfl (hb hby d52_8) rfl (by decide) (ble rfl) (ce' := 0) (sl' := 0) rfl rfl (by decide) (by decide) (fun v797 h798 hQ799 => ?_)
  obtain ⟨rfl, Y⟩ := hQ799
  show Go _ _ _ _ _ _ _ _ _ _ _ _ _ _ _ _ _ _ _ _ 0 0 11 #[.val (.ref b), .val (.int i), .val (.int x)] []
  refine Go.ret0 hx hret hlk (hb hby d52_11) (by decide) (by decide) ?_
  exact ⟨rfl, Y⟩
theorem d15_0 : decode jdk_68_method_31_code 0 = .ok (.aload_n 0, 1) := by decide +kernel
theorem d15_1 : decode jdk_68_method_31_code 1 = .ok (.aload_n 0, 1) := by decide +kernel
theorem d15_2 : decode jdk_68_method_31_code 2 = .ok (.getfield 79, 3) := by decide +kernel
theorem d15_5 : decode jdk_68_method_31_code 5 = .ok (.iconst 1, 1) := by decide +kernel
theorem d15_6 : decode jdk_68_method_31_code 6 = .ok (.iadd, 1) := by decide +kernel
theorem d15_7 : decode jdk_68_method_31_code 7 = .ok (.invokevirtual 100, 3) := by decide +kernel
theorem d15_10 : decode jdk_68_method_31_code 10 = .ok (.aload_n 0, 1) := by decide +kernel
theorem d15_11 : decode jdk_68_method_31_code 11 = .ok (.invokevirtual 83, 3) := by decide +kernel
theorem d15_14 : decode jdk_68_method_31_code 14 = .ok (.ifCond .eq 31, 3) := by decide +kernel
theorem d15_17 : decode jdk_68_method_31_code 17 = .ok (.iload_n 1, 1) := by decide +kernel
theorem d15_18 : decode jdk_68_method_31_code 18 = .ok (.invokestatic 191, 3) := by decide +kernel
theorem d15_21 : decode jdk_68_method_31_code 21 = .ok (.ifCond .eq 24, 3) := by decide +kernel
theorem d15_24 : decode jdk_68_method_31_code 24 = .ok (.aload_n 0, 1) := by decide +kernel
theorem d15_25 : decode jdk_68_method_31_code 25 = .ok (.getfield 15, 3) := by decide +kernel
theorem d15_28 : decode jdk_68_method_31_code 28 = .ok (.aload_n 0, 1) := by decide +kernel
theorem d15_29 : decode jdk_68_method_31_code 29 = .ok (.dup, 1) := by decide +kernel
theorem d15_30 : decode jdk_68_method_31_code 30 = .ok (.getfield 79, 3) := by decide +kernel
theorem d15_33 : decode jdk_68_method_31_code 33 = .ok (.dup_x1, 1) := by decide +kernel
theorem d15_34 : decode jdk_68_method_31_code 34 = .ok (.iconst 1, 1) := by decide +kernel
theorem d15_35 : decode jdk_68_method_31_code 35 = .ok (.iadd, 1) := by decide +kernel
theorem d15_36 : decode jdk_68_method_31_code 36 = .ok (.putfield 79, 3) := by decide +kernel
theorem d15_39 : decode jdk_68_method_31_code 39 = .ok (.iload_n 1, 1) := by decide +kernel
theorem d15_40 : decode jdk_68_method_31_code 40 = .ok (.i2b, 1) := by decide +kernel
theorem d15_41 : decode jdk_68_method_31_code 41 = .ok (.bastore, 1) := by decide +kernel
theorem d15_42 : decode jdk_68_method_31_code 42 = .ok (.goto 33, 3) := by decide +kernel
theorem d15_45 : decode jdk_68_method_31_code 45 = .ok (.aload_n 0, 1) := by decide +kernel
theorem d15_46 : decode jdk_68_method_31_code 46 = .ok (.invokevirtual 83, 3) := by decide +kernel
theorem d15_49 : decode jdk_68_method_31_code 49 = .ok (.ifCond .eq 7, 3) := by decide +kernel
theorem d15_52 : decode jdk_68_method_31_code 52 = .ok (.aload_n 0, 1) := by decide +kernel
theorem d15_53 : decode jdk_68_method_31_code 53 = .ok (.invokevirtual 195, 3) := by decide +kernel
theorem d15_56 : decode jdk_68_method_31_code 56 = .ok (.aload_n 0, 1) := by decide +kernel
theorem d15_57 : decode jdk_68_method_31_code 57 = .ok (.getfield 15, 3) := by decide +kernel
theorem d15_60 : decode jdk_68_method_31_code 60 = .ok (.aload_n 0, 1) := by decide +kernel
theorem d15_61 : decode jdk_68_method_31_code 61 = .ok (.dup, 1) := by decide +kernel
theorem d15_62 : decode jdk_68_method_31_code 62 = .ok (.getfield 79, 3) := by decide +kernel
theorem d15_65 : decode jdk_68_method_31_code 65 = .ok (.dup_x1, 1) := by decide +kernel
theorem d15_66 : decode jdk_68_method_31_code 66 = .ok (.iconst 1, 1) := by decide +kernel
theorem d15_67 : decode jdk_68_method_31_code 67 = .ok (.iadd, 1) := by decide +kernel
theorem d15_68 : decode jdk_68_method_31_code 68 = .ok (.putfield 79, 3) := by decide +kernel
theorem d15_71 : decode jdk_68_method_31_code 71 = .ok (.iload_n 1, 1) := by decide +kernel
theorem d15_72 : decode jdk_68_method_31_code 72 = .ok (.invokestatic 197, 3) := by decide +kernel
theorem d15_75 : decode jdk_68_method_31_code 75 = .ok (.aload_n 0, 1) := by decide +kernel
theorem d15_76 : decode jdk_68_method_31_code 76 = .ok (.areturn, 1) := by decide +kernel
theorem pl_32 : plainFor (⟨"java/lang/AbstractStringBuilder", "append", "(C)Ljava/lang/AbstractStringBuilder;"⟩ : MethodName) = true := plainFor_of_name (by first | (simp [plainName, overriddenIn]; done) | decide +kernel)
theorem pd_26 : parseMethodDescriptor "(C)Z" = some ⟨[.char], some .boolean⟩ := by decide +kernel
theorem rmAC0 (l : Launch) (Z : State) (a0 : Array Value) (hw : ∀ d ∈ tables_1, d.before a0 Z = true) (hel : EW Z a0 consts_1) (sb b : Addr) (kb : ClassId) (cst : Int32) (fv : Value) (mc mk : Int32) (np : Nat) (vs vr : List Value) (h0 : Heap) (n0 : Nat) (Z0 : n0 ≤ h0.size) (nsb : sb ≠ b) (gs : n0 ≤ sb) (gb : n0 ≤ b) (E : Exa Z h0 sb "java/lang/StringBuilder") (F1 : Fld Z h0 sb "java/lang/AbstractStringBuilder" "value" "[B" (.ref b)) (F2 : Fld Z h0 sb "java/lang/AbstractStringBuilder" "coder" "B" (.int (0 : Int32))) (F3 : Fld Z h0 sb "java/lang/AbstractStringBuilder" "count" "I" (.int mc)) (F4 : Fld Z h0 sb "java/lang/AbstractStringBuilder" "maybeLatin1" "Z" (.int (0 : Int32))) (B : Arv Z h0 b kb .byte (8192 : Int32) vs (.int (0 : Int32))) (hmk : mc + (1 : Int32) = mk) (hx8 : ¬ (0 : Int32) < mk - (8192 : Int32)) (b1 : ¬ mc < 0 ∧ mc < (8192 : Int32)) (e2 : mc.toNatClampNeg = np) (hl : np < vs.length) (hvr : vs.set np (.int (nar .byte (62 : Int32).toInt8.toInt32)) = vr) (X0 : Old Z n0 h0) (SC : Sta Z Z.heap "java/lang/String" "COMPACT_STRINGS" "Z" (.int cst)) (hcs : ¬ cst = (0 : Int32)) (AD : Sta Z Z.heap "java/lang/StringUTF16" "$assertionsDisabled" "Z" (.int (1 : Int32))) (HB : Sta Z Z.heap "java/lang/StringUTF16" "HI_BYTE_SHIFT" "I" (.int (0 : Int32))) (LB : Sta Z Z.heap "java/lang/StringUTF16" "LO_BYTE_SHIFT" "I" (.int (8 : Int32))) (PF : Sta Z Z.heap "jdk/internal/util/Preconditions" "SIOOBE_FORMATTER" "Ljava/util/function/BiFunction;" fv) (hfv : fv.isRef = true) :
    Met l Z consts_1 [sb, b] (⟨"java/lang/AbstractStringBuilder", "append", "(C)Ljava/lang/AbstractStringBuilder;"⟩ : MethodName) jdk_68_method_31_code 2 (Option.some (FieldType.object "java/lang/AbstractStringBuilder")) [] ({ frames := 4, cells := 0, slots := 0, locals := 78 } : Room) #[(.ref sb), (.int (62 : Int32))] h0 n0 (fun v h => v = some (.ref sb) ∧ Keep h0 h [sb, b] ∧ Fld Z h sb "java/lang/AbstractStringBuilder" "value" "[B" (.ref b) ∧ Fld Z h sb "java/lang/AbstractStringBuilder" "coder" "B" (.int (0 : Int32)) ∧ Fld Z h sb "java/lang/AbstractStringBuilder" "count" "I" (.int mk) ∧ Fld Z h sb "java/lang/AbstractStringBuilder" "maybeLatin1" "Z" (.int (0 : Int32)) ∧ Arv Z h b kb .byte (8192 : Int32) vr (.int (0 : Int32))) := by
  refine Met.of (Ls0 := #[.val (.ref sb), .val (.int (62 : Int32))]) pl_32 (by first | (simp [argsToLocals, Value.category]; done) | rfl) hel ?_
  intro p e s m below meth c hx hby hml hret hlk hown hnm hZ
  refine Go.aloadN (q := 1) hx (hb hby d15_0) rfl (by rfl) rfl ?_
  refine Go.aloadN (q := 2) hx (hb hby d15_1) rfl (by rfl) rfl ?_
  refine Go.getF (q := 5) hx hZ hown (host := "") (Or.inl (tw hw 70 rfl)) Via.refl F3 (hb hby d15_2) rfl ?_
  refine Go.iconst (q := 6) (z := (1 : Int32)) hx (hb hby d15_5) rfl rfl ?_
  refine Go.iadd (q := 7) hx (hb hby d15_6) rfl ?_
  rw [hmk]
  refine Go.callP (q := 10) hx hZ (a := sb) (argsL := [(.int mk)]) (rest := []) hown (tw hw 72 rfl) (tw hw 74 rfl) (own_selPriv (tw hw 75 rfl) (tw hw 74 rfl) (tw hw 73 rfl) (by decide)) (tw hw 73 rfl) (tw hw 31 rfl) (tw hw 76 rfl) (by decide) E (rmEC0 l Z a0 hw hel sb b kb mk vs h0 n0 Z0 F1 F2 B hx8) (fun _ hx => nomatch hx) (by rw [hml]; rfl) pd_17 rfl rfl (hb hby d15_7) rfl (by decide) (ble rfl) (ce' := 0) (sl' := 0) rfl rfl (by decide) (by decide) (fun v800 h801 hQ802 => ?_)
  obtain ⟨rfl, rfl⟩ := hQ802
  show Go _ _ _ _ _ _ _ _ _ _ _ _ _ _ _ _ _ _ _ _ 0 0 10 #[.val (.ref sb), .val (.int (62 : Int32))] []
  refine Go.aloadN (q := 11) hx (hb hby d15_10) rfl (by rfl) rfl ?_
  refine Go.callV (q := 14) hx hZ (a := sb) (argsL := []) (rest := []) hown (tw hw 106 rfl) (tw hw 107 rfl) (fun vm hzv => notFace_of_selects (args := #[]) (mvT hzv (tw hw 109 rfl))) (tw hw 109 rfl) (tw hw 108 rfl) (tw hw 31 rfl) (tw hw 110 rfl) (by decide) E (rmBL0 l Z a0 hw hel sb cst h0 n0 Z0 F2 X0 SC hcs) (fun _ hx => nomatch hx) (by rw [hml]; rfl) pd_22 rfl rfl (hb hby d15_11) rfl (by decide) (ble rfl) (ce' := 0) (sl' := 0) rfl rfl (by decide) (by decide) (fun v803 h804 hQ805 => ?_)
  obtain ⟨rfl, rfl⟩ := hQ805
  show Go _ _ _ _ _ _ _ _ _ _ _ _ _ _ _ _ _ _ _ _ 0 0 14 #[.val (.ref sb), .val (.int (62 : Int32))] [(.int (1 : Int32))]
  refine Go.if_eq (q := 17) (t := 45) hx (hb hby d15_14) (by decide) rfl rfl (fun hc14 => absurd hc14 (by decide)) (fun hc14 => ?_)
  refine Go.iloadN (q := 18) hx (hb hby d15_17) rfl rfl ?_
  refine Go.callS (q := 21) hx hZ (argsL := [(.int (62 : Int32))]) (rest := []) hown (tw hw 111 rfl) (tw hw 112 rfl) (tw hw 113 rfl) (tw hw 114 rfl) (by decide) (rmCE l Z a0 hw hel h0 n0 Z0) (fun _ hx => nomatch hx) (by rw [hml]; rfl) pd_26 rfl rfl (hb hby d15_18) rfl (by decide) (ble rfl) (ce' := 0) (sl' := 0) rfl rfl (by decide) (by decide) (fun v806 h807 hQ808 => ?_)
  obtain ⟨rfl, rfl⟩ := hQ808
  show Go _ _ _ _ _ _ _ _ _ _ _ _ _ _ _ _ _ _ _ _ 0 0 21 #[.val (.ref sb), .val (.int (62 : Int32))] [(.int (1 : Int32))]
  refine Go.if_eq (q := 24) (t := 45) hx (hb hby d15_21) (by decide) rfl rfl (fun hc21 => absurd hc21 (by decide)) (fun hc21 => ?_)
  refine Go.aloadN (q := 25) hx (hb hby d15_24) rfl (by rfl) rfl ?_
  refine Go.getF (q := 28) hx hZ hown (host := "") (Or.inl (tw hw 35 rfl)) Via.refl F1 (hb hby d15_25) rfl ?_
  refine Go.aloadN (q := 29) hx (hb hby d15_28) rfl (by rfl) rfl ?_
  refine Go.dup (q := 30) hx (hb hby d15_29) rfl rfl ?_
  refine Go.getF (q := 33) hx hZ hown (host := "") (Or.inl (tw hw 70 rfl)) Via.refl F3 (hb hby d15_30) rfl ?_
  refine Go.dupX1 (q := 34) hx (hb hby d15_33) rfl rfl rfl ?_
  refine Go.iconst (q := 35) (z := (1 : Int32)) hx (hb hby d15_34) rfl rfl ?_
  refine Go.iadd (q := 36) hx (hb hby d15_35) rfl ?_
  rw [hmk]
  refine Go.putF (q := 39) hx hZ hown (host := "") (Or.inl (tw hw 70 rfl)) Via.refl F3 E (Or.inl (tw hw 71 rfl)) (tw hw 22 rfl) (ty := .int) (by decide) rfl rfl gs (by simp) (hb hby d15_36) rfl (fun h809 W810 => ?_)
  refine Go.iloadN (q := 40) hx (hb hby d15_39) rfl rfl ?_
  refine Go.i2b (q := 41) hx (hb hby d15_40) rfl ?_
  refine Go.bastore (q := 42) hx hZ (B.other W810 nsb.symm) b1 np e2 hl gb (by simp) (hb hby d15_41) rfl (fun h811 W812 V813 => ?_)
  refine Go.goto (q := 75) hx (hb hby d15_42) (by decide) rfl ?_
  refine Go.aloadN (q := 76) hx (hb hby d15_75) rfl (by rfl) rfl ?_
  refine Go.retA hx hret rfl (by rfl) hlk (hb hby d15_76) (by decide) (by decide) ?_
  exact ⟨rfl, (((Keep.refl h0 [sb, b]).wr W810 (Or.inl (by simp))).wr W812 (Or.inl (by simp))), (Fld.other W812 (Fld.other W810 F1 (Or.inr (slot_ne (C := "java/lang/StringBuilder") (Or.inl (tw hw 36 rfl)) (Or.inl (tw hw 71 rfl)) (by decide) (by decide : _ = some (.array .byte)) (by decide : _ = some .int)))) (Or.inl nsb)), (Fld.other W812 (Fld.other W810 F2 (Or.inr (slot_ne (C := "java/lang/StringBuilder") (Or.inl (tw hw 38 rfl)) (Or.inl (tw hw 71 rfl)) (by decide) (by decide : _ = some .byte) (by decide : _ = some .int)))) (Or.inl nsb)), (Fld.other W812 (Fld.same W810 F3) (Or.inl nsb)), (Fld.other W812 (Fld.other W810 F4 (Or.inr (slot_ne (C := "java/lang/StringBuilder") (Or.inl (tw hw 257 rfl)) (Or.inl (tw hw 71 rfl)) (by decide) (by decide : _ = some .boolean) (by decide : _ = some .int)))) (Or.inl nsb)), hvr ▸ V813⟩
theorem d14_0 : decode jdk_67_method_14_code 0 = .ok (.aload_n 0, 1) := by decide +kernel
theorem d14_1 : decode jdk_67_method_14_code 1 = .ok (.iload_n 1, 1) := by decide +kernel
theorem d14_2 : decode jdk_67_method_14_code 2 = .ok (.invokespecial 50, 3) := by decide +kernel
theorem d14_5 : decode jdk_67_method_14_code 5 = .ok (.pop, 1) := by decide +kernel
theorem d14_6 : decode jdk_67_method_14_code 6 = .ok (.aload_n 0, 1) := by decide +kernel
theorem d14_7 : decode jdk_67_method_14_code 7 = .ok (.areturn, 1) := by decide +kernel
theorem pl_33 : plainFor (⟨"java/lang/StringBuilder", "append", "(C)Ljava/lang/StringBuilder;"⟩ : MethodName) = true := plainFor_of_name (by first | (simp [plainName, overriddenIn]; done) | decide +kernel)
theorem pd_27 : parseMethodDescriptor "(C)Ljava/lang/AbstractStringBuilder;" = some ⟨[.char], some (.object "java/lang/AbstractStringBuilder")⟩ := by decide +kernel
theorem rmBC0 (l : Launch) (Z : State) (a0 : Array Value) (hw : ∀ d ∈ tables_1, d.before a0 Z = true) (hel : EW Z a0 consts_1) (sb b : Addr) (kb : ClassId) (cst : Int32) (fv : Value) (cs : List Int32) (h0 : Heap) (n0 : Nat) (Z0 : n0 ≤ h0.size) (nsb : sb ≠ b) (gs : n0 ≤ sb) (gb : n0 ≤ b) (S : SBf Z h0 sb b kb 0 cs) (hlc : cs.length < 29) (X0 : Old Z n0 h0) (SC : Sta Z Z.heap "java/lang/String" "COMPACT_STRINGS" "Z" (.int cst)) (hcs : ¬ cst = (0 : Int32)) (AD : Sta Z Z.heap "java/lang/StringUTF16" "$assertionsDisabled" "Z" (.int (1 : Int32))) (HB : Sta Z Z.heap "java/lang/StringUTF16" "HI_BYTE_SHIFT" "I" (.int (0 : Int32))) (LB : Sta Z Z.heap "java/lang/StringUTF16" "LO_BYTE_SHIFT" "I" (.int (8 : Int32))) (PF : Sta Z Z.heap "jdk/internal/util/Preconditions" "SIOOBE_FORMATTER" "Ljava/util/function/BiFunction;" fv) (hfv : fv.isRef = true) :
    Met l Z consts_1 [sb, b] (⟨"java/lang/StringBuilder", "append", "(C)Ljava/lang/StringBuilder;"⟩ : MethodName) jdk_67_method_14_code 2 (Option.some (FieldType.object "java/lang/StringBuilder")) [] ({ frames := 5, cells := 0, slots := 0, locals := 97 } : Room) #[(.ref sb), (.int (62 : Int32))] h0 n0 (fun v h => v = some (.ref sb) ∧ Keep h0 h [sb, b] ∧ SBf Z h sb b kb 0 (cs ++ [(62 : Int32)])) := by
  refine Met.of (Ls0 := #[.val (.ref sb), .val (.int (62 : Int32))]) pl_33 (by first | (simp [argsToLocals, Value.category]; done) | rfl) hel ?_
  intro p e s m below meth c hx hby hml hret hlk hown hnm hZ
  obtain ⟨E, F1, F2, F3, F4, B⟩ := S
  refine Go.aloadN (q := 1) hx (hb hby d14_0) rfl (by rfl) rfl ?_
  refine Go.iloadN (q := 2) hx (hb hby d14_1) rfl rfl ?_
  refine Go.callU (q := 5) hx hZ (a := sb) (argsL := [(.int (62 : Int32))]) (rest := []) hown (tw hw 102 rfl) (own_same (z := (⟨"java/lang/AbstractStringBuilder", "ensureCapacityInternal", "(I)V"⟩ : MethodName)) rfl (tw hw 75 rfl) (tw hw 103 rfl) (by decide)) (tw hw 103 rfl) (tw hw 54 rfl) (by decide) (tw hw 31 rfl) (tw hw 105 rfl) (Ins.self E) (rmAC0 l Z a0 hw hel sb b kb cst fv (iN cs.length) (iN (cs ++ [(62 : Int32)]).length) cs.length (bL cs ++ List.replicate 1 (Value.int (0 : Int32))) (bL (cs ++ [(62 : Int32)])) h0 n0 Z0 nsb gs gb E F1 F2 F3 F4 (B.pad (pad_rep _ _ _)) (by rw [iN_s, List.length_append]; rfl) (iN_x8 _ (by rw [List.length_append]; exact Nat.lt_of_lt_of_le (Nat.succ_lt_succ hlc) (by decide))) ⟨iN_neg _ (by omega), iN_lt8 _ (by omega)⟩ (iN_nat _ (by omega)) (putL_len cs) (putL_set cs _) X0 SC hcs AD HB LB PF hfv) (by simp) (by rw [hml]; rfl) pd_27 rfl rfl (hb hby d14_2) rfl (by decide) (ble rfl) (ce' := 0) (sl' := 0) rfl rfl (by decide) (by decide) (fun v814 h815 hQ816 => ?_)
  obtain ⟨rfl, K817, F818, F819, F820, F821, V822⟩ := hQ816
  show Go _ _ _ _ _ _ _ _ _ _ _ _ _ _ _ _ _ _ _ _ 0 0 5 #[.val (.ref sb), .val (.int (62 : Int32))] [(.ref sb)]
  refine Go.pop (q := 6) hx (hb hby d14_5) rfl rfl ?_
  refine Go.aloadN (q := 7) hx (hb hby d14_6) rfl (by rfl) rfl ?_
  refine Go.retA hx hret rfl (by rfl) hlk (hb hby d14_7) (by decide) (by decide) ?_
  exact ⟨rfl, K817, (E.keep K817), F818, F819, F820, F821, V822⟩
theorem rmAC1 (l : Launch) (Z : State) (a0 : Array Value) (hw : ∀ d ∈ tables_1, d.before a0 Z = true) (hel : EW Z a0 consts_1) (sb b : Addr) (kb : ClassId) (cst : Int32) (fv : Value) (mc mk j : Int32) (np : Nat) (vs vr : List Value) (h0 : Heap) (n0 : Nat) (Z0 : n0 ≤ h0.size) (nsb : sb ≠ b) (gs : n0 ≤ sb) (gb : n0 ≤ b) (E : Exa Z h0 sb "java/lang/StringBuilder") (F1 : Fld Z h0 sb "java/lang/AbstractStringBuilder" "value" "[B" (.ref b)) (F2 : Fld Z h0 sb "java/lang/AbstractStringBuilder" "coder" "B" (.int (1 : Int32))) (F3 : Fld Z h0 sb "java/lang/AbstractStringBuilder" "count" "I" (.int mc)) (F4 : Fld Z h0 sb "java/lang/AbstractStringBuilder" "maybeLatin1" "Z" (.int (0 : Int32))) (B : Arv Z h0 b kb .byte (16384 : Int32) vs (.int (0 : Int32))) (hmk : mc + (1 : Int32) = mk) (hx8 : ¬ (0 : Int32) < mk - (8192 : Int32)) (h1 : ¬ mc < 0) (h2 : mc < (8192 : Int32)) (xx : IX mc j np (16384 : Int32)) (hl : np + 1 < vs.length) (hvr : setU vs np (62 : Int32) = vr) (X0 : Old Z n0 h0) (SC : Sta Z Z.heap "java/lang/String" "COMPACT_STRINGS" "Z" (.int cst)) (hcs : ¬ cst = (0 : Int32)) (AD : Sta Z Z.heap "java/lang/StringUTF16" "$assertionsDisabled" "Z" (.int (1 : Int32))) (HB : Sta Z Z.heap "java/lang/StringUTF16" "HI_BYTE_SHIFT" "I" (.int (0 : Int32))) (LB : Sta Z Z.heap "java/lang/StringUTF16" "LO_BYTE_SHIFT" "I" (.int (8 : Int32))) (PF : Sta Z Z.heap "jdk/internal/util/Preconditions" "SIOOBE_FORMATTER" "Ljava/util/function/BiFunction;" fv) (hfv : fv.isRef = true) :
    Met l Z consts_1 [sb, b] (⟨"java/lang/AbstractStringBuilder", "append", "(C)Ljava/lang/AbstractStringBuilder;"⟩ : MethodName) jdk_68_method_31_code 2 (Option.some (FieldType.object "java/lang/AbstractStringBuilder")) [] ({ frames := 4, cells := 0, slots := 0, locals := 78 } : Room) #[(.ref sb), (.int (62 : Int32))] h0 n0 (fun v h => v = some (.ref sb) ∧ Keep h0 h [sb, b] ∧ Fld Z h sb "java/lang/AbstractStringBuilder" "value" "[B" (.ref b) ∧ Fld Z h sb "java/lang/AbstractStringBuilder" "coder" "B" (.int (1 : Int32)) ∧ Fld Z h sb "java/lang/AbstractStringBuilder" "count" "I" (.int mk) ∧ Fld Z h sb "java/lang/AbstractStringBuilder" "maybeLatin1" "Z" (.int (0 : Int32)) ∧ Arv Z h b kb .byte (16384 : Int32) vr (.int (0 : Int32))) := by
  refine Met.of (Ls0 := #[.val (.ref sb), .val (.int (62 : Int32))]) pl_32 (by first | (simp [argsToLocals, Value.category]; done) | rfl) hel ?_
  intro p e s m below meth c hx hby hml hret hlk hown hnm hZ
  refine Go.aloadN (q := 1) hx (hb hby d15_0) rfl (by rfl) rfl ?_
  refine Go.aloadN (q := 2) hx (hb hby d15_1) rfl (by rfl) rfl ?_
  refine Go.getF (q := 5) hx hZ hown (host := "") (Or.inl (tw hw 70 rfl)) Via.refl F3 (hb hby d15_2) rfl ?_
  refine Go.iconst (q := 6) (z := (1 : Int32)) hx (hb hby d15_5) rfl rfl ?_
  refine Go.iadd (q := 7) hx (hb hby d15_6) rfl ?_
  rw [hmk]
  refine Go.callP (q := 10) hx hZ (a := sb) (argsL := [(.int mk)]) (rest := []) hown (tw hw 72 rfl) (tw hw 74 rfl) (own_selPriv (tw hw 75 rfl) (tw hw 74 rfl) (tw hw 73 rfl) (by decide)) (tw hw 73 rfl) (tw hw 31 rfl) (tw hw 76 rfl) (by decide) E (rmEC1 l Z a0 hw hel sb b kb mk vs h0 n0 Z0 F1 F2 B hx8) (fun _ hx => nomatch hx) (by rw [hml]; rfl) pd_17 rfl rfl (hb hby d15_7) rfl (by decide) (ble rfl) (ce' := 0) (sl' := 0) rfl rfl (by decide) (by decide) (fun v823 h824 hQ825 => ?_)
  obtain ⟨rfl, rfl⟩ := hQ825
  show Go _ _ _ _ _ _ _ _ _ _ _ _ _ _ _ _ _ _ _ _ 0 0 10 #[.val (.ref sb), .val (.int (62 : Int32))] []
  refine Go.aloadN (q := 11) hx (hb hby d15_10) rfl (by rfl) rfl ?_
  refine Go.callV (q := 14) hx hZ (a := sb) (argsL := []) (rest := []) hown (tw hw 106 rfl) (tw hw 107 rfl) (fun vm hzv => notFace_of_selects (args := #[]) (mvT hzv (tw hw 109 rfl))) (tw hw 109 rfl) (tw hw 108 rfl) (tw hw 31 rfl) (tw hw 110 rfl) (by decide) E (rmBL1 l Z a0 hw hel sb cst h0 n0 Z0 F2 X0 SC hcs) (fun _ hx => nomatch hx) (by rw [hml]; rfl) pd_22 rfl rfl (hb hby d15_11) rfl (by decide) (ble rfl) (ce' := 0) (sl' := 0) rfl rfl (by decide) (by decide) (fun v826 h827 hQ828 => ?_)
  obtain ⟨rfl, rfl⟩ := hQ828
  show Go _ _ _ _ _ _ _ _ _ _ _ _ _ _ _ _ _ _ _ _ 0 0 14 #[.val (.ref sb), .val (.int (62 : Int32))] [(.int (0 : Int32))]
  refine Go.if_eq (q := 17) (t := 45) hx (hb hby d15_14) (by decide) rfl rfl (fun hc14 => ?_) (fun hc14 => absurd hc14 (by decide))
  refine Go.aloadN (q := 46) hx (hb hby d15_45) rfl (by rfl) rfl ?_
  refine Go.callV (q := 49) hx hZ (a := sb) (argsL := []) (rest := []) hown (tw hw 106 rfl) (tw hw 107 rfl) (fun vm hzv => notFace_of_selects (args := #[]) (mvT hzv (tw hw 109 rfl))) (tw hw 109 rfl) (tw hw 108 rfl) (tw hw 31 rfl) (tw hw 110 rfl) (by decide) E (rmBL1 l Z a0 hw hel sb cst h0 n0 Z0 F2 X0 SC hcs) (fun _ hx => nomatch hx) (by rw [hml]; rfl) pd_22 rfl rfl (hb hby d15_46) rfl (by decide) (ble rfl) (ce' := 0) (sl' := 0) rfl rfl (by decide) (by decide) (fun v829 h830 hQ831 => ?_)
  obtain ⟨rfl, rfl⟩ := hQ831
  show Go _ _ _ _ _ _ _ _ _ _ _ _ _ _ _ _ _ _ _ _ 0 0 49 #[.val (.ref sb), .val (.int (62 : Int32))] [(.int (0 : Int32))]
  refine Go.if_eq (q := 52) (t := 56) hx (hb hby d15_49) (by decide) rfl rfl (fun hc49 => ?_) (fun hc49 => absurd hc49 (by decide))
  refine Go.aloadN (q := 57) hx (hb hby d15_56) rfl (by rfl) rfl ?_
  refine Go.getF (q := 60) hx hZ hown (host := "") (Or.inl (tw hw 35 rfl)) Via.refl F1 (hb hby d15_57) rfl ?_
  refine Go.aloadN (q := 61) hx (hb hby d15_60) rfl (by rfl) rfl ?_
  refine Go.dup (q := 62) hx (hb hby d15_61) rfl rfl ?_
  refine Go.getF (q := 65) hx hZ hown (host := "") (Or.inl (tw hw 70 rfl)) Via.refl F3 (hb hby d15_62) rfl ?_
  refine Go.dupX1 (q := 66) hx (hb hby d15_65) rfl rfl rfl ?_
  refine Go.iconst (q := 67) (z := (1 : Int32)) hx (hb hby d15_66) rfl rfl ?_
  refine Go.iadd (q := 68) hx (hb hby d15_67) rfl ?_
  rw [hmk]
  refine Go.putF (q := 71) hx hZ hown (host := "") (Or.inl (tw hw 70 rfl)) Via.refl F3 E (Or.inl (tw hw 71 rfl)) (tw hw 22 rfl) (ty := .int) (by decide) rfl rfl gs (by simp) (hb hby d15_68) rfl (fun h832 W833 => ?_)
  refine Go.iloadN (q := 72) hx (hb hby d15_71) rfl rfl ?_
  refine Go.callS (q := 75) hx hZ (argsL := [(.ref b), (.int mc), (.int (62 : Int32))]) (rest := []) hown (tw hw 249 rfl) (tw hw 250 rfl) (tw hw 198 rfl) (tw hw 251 rfl) (by decide) (rmPCS l Z a0 hw hel b kb mc j (62 : Int32) np vs fv h832 n0 (Nat.le_trans Z0 (Keep.of_wr W833).1) (B.other W833 nsb.symm) gb h1 h2 xx hl (X0.wr W833 gs) AD HB LB PF hfv) (by simp) (by rw [hml]; rfl) pd_9 rfl rfl (hb hby d15_72) rfl (by decide) (ble rfl) (ce' := 0) (sl' := 0) rfl rfl (by decide) (by decide) (fun v834 h835 hQ836 => ?_)
  obtain ⟨rfl, K837, V838⟩ := hQ836
  show Go _ _ _ _ _ _ _ _ _ _ _ _ _ _ _ _ _ _ _ _ 0 0 75 #[.val (.ref sb), .val (.int (62 : Int32))] []
  refine Go.aloadN (q := 76) hx (hb hby d15_75) rfl (by rfl) rfl ?_
  refine Go.retA hx hret rfl (by rfl) hlk (hb hby d15_76) (by decide) (by decide) ?_
  exact ⟨rfl, (Keep.trans ((Keep.refl h0 [sb, b]).wr W833 (Or.inl (by simp))) K837 (allS (Or.inl (by simp)) all0)), ((Fld.other W833 F1 (Or.inr (slot_ne (C := "java/lang/StringBuilder") (Or.inl (tw hw 36 rfl)) (Or.inl (tw hw 71 rfl)) (by decide) (by decide : _ = some (.array .byte)) (by decide : _ = some .int)))).keep K837 (ninS nsb nin0)), ((Fld.other W833 F2 (Or.inr (slot_ne (C := "java/lang/StringBuilder") (Or.inl (tw hw 38 rfl)) (Or.inl (tw hw 71 rfl)) (by decide) (by decide : _ = some .byte) (by decide : _ = some .int)))).keep K837 (ninS nsb nin0)), ((Fld.same W833 F3).keep K837 (ninS nsb nin0)), ((Fld.other W833 F4 (Or.inr (slot_ne (C := "java/lang/StringBuilder") (Or.inl (tw hw 257 rfl)) (Or.inl (tw hw 71 rfl)) (by decide) (by decide : _ = some .boolean) (by decide : _ = some .int)))).keep K837 (ninS nsb nin0)), hvr ▸ V838⟩
theorem rmBC1 (l : Launch) (Z : State) (a0 : Array Value) (hw : ∀ d ∈ tables_1, d.before a0 Z = true) (hel : EW Z a0 consts_1) (sb b : Addr) (kb : ClassId) (cst : Int32) (fv : Value) (cs : List Int32) (h0 : Heap) (n0 : Nat) (Z0 : n0 ≤ h0.size) (nsb : sb ≠ b) (gs : n0 ≤ sb) (gb : n0 ≤ b) (S : SBf Z h0 sb b kb 1 cs) (hlc : cs.length < 29) (X0 : Old Z n0 h0) (SC : Sta Z Z.heap "java/lang/String" "COMPACT_STRINGS" "Z" (.int cst)) (hcs : ¬ cst = (0 : Int32)) (AD : Sta Z Z.heap "java/lang/StringUTF16" "$assertionsDisabled" "Z" (.int (1 : Int32))) (HB : Sta Z Z.heap "java/lang/StringUTF16" "HI_BYTE_SHIFT" "I" (.int (0 : Int32))) (LB : Sta Z Z.heap "java/lang/StringUTF16" "LO_BYTE_SHIFT" "I" (.int (8 : Int32))) (PF : Sta Z Z.heap "jdk/internal/util/Preconditions" "SIOOBE_FORMATTER" "Ljava/util/function/BiFunction;" fv) (hfv : fv.isRef = true) :
    Met l Z consts_1 [sb, b] (⟨"java/lang/StringBuilder", "append", "(C)Ljava/lang/StringBuilder;"⟩ : MethodName) jdk_67_method_14_code 2 (Option.some (FieldType.object "java/lang/StringBuilder")) [] ({ frames := 5, cells := 0, slots := 0, locals := 97 } : Room) #[(.ref sb), (.int (62 : Int32))] h0 n0 (fun v h => v = some (.ref sb) ∧ Keep h0 h [sb, b] ∧ SBf Z h sb b kb 1 (cs ++ [(62 : Int32)])) := by
  refine Met.of (Ls0 := #[.val (.ref sb), .val (.int (62 : Int32))]) pl_33 (by first | (simp [argsToLocals, Value.category]; done) | rfl) hel ?_
  intro p e s m below meth c hx hby hml hret hlk hown hnm hZ
  obtain ⟨E, F1, F2, F3, F4, B⟩ := S
  refine Go.aloadN (q := 1) hx (hb hby d14_0) rfl (by rfl) rfl ?_
  refine Go.iloadN (q := 2) hx (hb hby d14_1) rfl rfl ?_
  refine Go.callU (q := 5) hx hZ (a := sb) (argsL := [(.int (62 : Int32))]) (rest := []) hown (tw hw 102 rfl) (own_same (z := (⟨"java/lang/AbstractStringBuilder", "ensureCapacityInternal", "(I)V"⟩ : MethodName)) rfl (tw hw 75 rfl) (tw hw 103 rfl) (by decide)) (tw hw 103 rfl) (tw hw 54 rfl) (by decide) (tw hw 31 rfl) (tw hw 105 rfl) (Ins.self E) (rmAC1 l Z a0 hw hel sb b kb cst fv (iN cs.length) (iN (cs ++ [(62 : Int32)]).length) (iN (2 * cs.length)) (2 * cs.length) (bU cs ++ List.replicate 2 (Value.int (0 : Int32))) (bU (cs ++ [(62 : Int32)])) h0 n0 Z0 nsb gs gb E F1 F2 F3 F4 (B.pad (pad_rep _ _ _)) (by rw [iN_s, List.length_append]; rfl) (iN_x8 _ (by rw [List.length_append]; exact Nat.lt_of_lt_of_le (Nat.succ_lt_succ hlc) (by decide))) (iN_neg _ (by omega)) (iN_lt8 _ (by omega)) (IX_all _ (by omega)) (put_len cs) (put_set cs _) X0 SC hcs AD HB LB PF hfv) (by simp) (by rw [hml]; rfl) pd_27 rfl rfl (hb hby d14_2) rfl (by decide) (ble rfl) (ce' := 0) (sl' := 0) rfl rfl (by decide) (by decide) (fun v839 h840 hQ841 => ?_)
  obtain ⟨rfl, K842, F843, F844, F845, F846, V847⟩ := hQ841
  show Go _ _ _ _ _ _ _ _ _ _ _ _ _ _ _ _ _ _ _ _ 0 0 5 #[.val (.ref sb), .val (.int (62 : Int32))] [(.ref sb)]
  refine Go.pop (q := 6) hx (hb hby d14_5) rfl rfl ?_
  refine Go.aloadN (q := 7) hx (hb hby d14_6) rfl (by rfl) rfl ?_
  refine Go.retA hx hret rfl (by rfl) hlk (hb hby d14_7) (by decide) (by decide) ?_
  exact ⟨rfl, K842, (E.keep K842), F843, F844, F845, F846, V847⟩
theorem rmBC (l : Launch) (Z : State) (a0 : Array Value) (hw : ∀ d ∈ tables_1, d.before a0 Z = true) (hel : EW Z a0 consts_1) (sb b : Addr) (kb : ClassId) (cst : Int32) (fv : Value) (cd : Nat) (cs : List Int32) (h0 : Heap) (n0 : Nat) (Z0 : n0 ≤ h0.size) (nsb : sb ≠ b) (gs : n0 ≤ sb) (gb : n0 ≤ b) (S : SBf Z h0 sb b kb cd cs) (hlc : cs.length < 29) (ok : OKc cd cs) (X0 : Old Z n0 h0) (SC : Sta Z Z.heap "java/lang/String" "COMPACT_STRINGS" "Z" (.int cst)) (hcs : ¬ cst = (0 : Int32)) (AD : Sta Z Z.heap "java/lang/StringUTF16" "$assertionsDisabled" "Z" (.int (1 : Int32))) (HB : Sta Z Z.heap "java/lang/StringUTF16" "HI_BYTE_SHIFT" "I" (.int (0 : Int32))) (LB : Sta Z Z.heap "java/lang/StringUTF16" "LO_BYTE_SHIFT" "I" (.int (8 : Int32))) (PF : Sta Z Z.heap "jdk/internal/util/Preconditions" "SIOOBE_FORMATTER" "Ljava/util/function/BiFunction;" fv) (hfv : fv.isRef = true) :
    Met l Z consts_1 [sb, b] (⟨"java/lang/StringBuilder", "append", "(C)Ljava/lang/StringBuilder;"⟩ : MethodName) jdk_67_method_14_code 2 (Option.some (FieldType.object "java/lang/StringBuilder")) [] ({ frames := 5, cells := 0, slots := 0, locals := 97 } : Room) #[(.ref sb), (.int (62 : Int32))] h0 n0 (fun v h => v = some (.ref sb) ∧ Keep h0 h [sb, b] ∧ SBf Z h sb b kb cd (cs ++ [(62 : Int32)])) := by
  rcases ok.2 with ⟨rfl, _⟩ | rfl
  · exact rmBC0 l Z a0 hw hel sb b kb cst fv cs h0 n0 Z0 nsb gs gb S hlc X0 SC hcs AD HB LB PF hfv
  · exact rmBC1 l Z a0 hw hel sb b kb cst fv cs h0 n0 Z0 nsb gs gb S hlc X0 SC hcs AD HB LB PF hfv
theorem own_nf {s : State} {args : Array Value} {C' : String} {y z : MethodName} (hz : z.cls = y.cls) (w : (Cond.selects C' z z).before args s = true) : NotFace s y := fun r0 hr => by
  obtain ⟨c, r, m, h1, h2, h3, h4, k, h5, h6⟩ := Cond.selects_spec w
  have hc := findClass_of_methodNamed hr
  have hc' := findClass_of_methodNamed h3
  rw [hz] at hc'
  have e : r0.cls = m.cls := Option.some.inj (hc.symm.trans hc')
  exact ⟨k, by rw [e]; exact h5, h6⟩
theorem d27_0 : decode jdk_65_method_131_code 0 = .ok (.iload_n 1, 1) := by decide +kernel
theorem d27_1 : decode jdk_65_method_131_code 1 = .ok (.iload_n 0, 1) := by decide +kernel
theorem d27_2 : decode jdk_65_method_131_code 2 = .ok (.if_icmp .ge 35, 3) := by decide +kernel
theorem d27_5 : decode jdk_65_method_131_code 5 = .ok (.new 43, 3) := by decide +kernel
theorem d27_8 : decode jdk_65_method_131_code 8 = .ok (.dup, 1) := by decide +kernel
theorem d27_9 : decode jdk_65_method_131_code 9 = .ok (.new 45, 3) := by decide +kernel
theorem d27_12 : decode jdk_65_method_131_code 12 = .ok (.dup, 1) := by decide +kernel
theorem d27_13 : decode jdk_65_method_131_code 13 = .ok (.invokespecial 47, 3) := by decide +kernel
theorem d27_16 : decode jdk_65_method_131_code 16 = .ok (.iload_n 0, 1) := by decide +kernel
theorem d27_17 : decode jdk_65_method_131_code 17 = .ok (.invokevirtual 54, 3) := by decide +kernel
theorem d27_20 : decode jdk_65_method_131_code 20 = .ok (.ldc_w 337, 3) := by decide +kernel
theorem d27_23 : decode jdk_65_method_131_code 23 = .ok (.invokevirtual 50, 3) := by decide +kernel
theorem d27_26 : decode jdk_65_method_131_code 26 = .ok (.iload_n 1, 1) := by decide +kernel
theorem d27_27 : decode jdk_65_method_131_code 27 = .ok (.invokevirtual 54, 3) := by decide +kernel
theorem d27_30 : decode jdk_65_method_131_code 30 = .ok (.invokevirtual 61, 3) := by decide +kernel
theorem d27_33 : decode jdk_65_method_131_code 33 = .ok (.invokespecial 65, 3) := by decide +kernel
theorem d27_36 : decode jdk_65_method_131_code 36 = .ok (.athrow, 1) := by decide +kernel
theorem d27_37 : decode jdk_65_method_131_code 37 = .ok (.return_, 1) := by decide +kernel
theorem pl_34 : plainFor (⟨"java/util/Arrays", "checkLength", "(II)V"⟩ : MethodName) = true := plainFor_of_name (by first | (simp [plainName, overriddenIn]; done) | decide +kernel)
theorem rmCLn (l : Launch) (Z : State) (a0 : Array Value) (hw : ∀ d ∈ tables_1, d.before a0 Z = true) (hel : EW Z a0 consts_1) (n : Int32) (h0 : Heap) (n0 : Nat) (Z0 : n0 ≤ h0.size) (hn0 : ¬ n < 0) :
    Met l Z consts_1 [] (⟨"java/util/Arrays", "checkLength", "(II)V"⟩ : MethodName) jdk_65_method_131_code 2 (Option.none : Option FieldType) [] ({ frames := 0, cells := 0, slots := 0, locals := 0 } : Room) #[(.int (0 : Int32)), (.int n)] h0 n0 (fun v h => v = none ∧ h0 = h) := by
  refine Met.of (Ls0 := #[.val (.int (0 : Int32)), .val (.int n)]) pl_34 (by first | (simp [argsToLocals, Value.category]; done) | rfl) hel ?_
  intro p e s m below meth c hx hby hml hret hlk hown hnm hZ
  refine Go.iloadN (q := 1) hx (hb hby d27_0) rfl rfl ?_
  refine Go.iloadN (q := 2) hx (hb hby d27_1) rfl rfl ?_
  refine Go.icmp_ge (q := 5) (t := 37) hx (hb hby d27_2) (by decide) rfl rfl (fun hc2 => ?_) (fun hc2 => absurd hc2 hn0)
  refine Go.ret0 hx hret hlk (hb hby d27_37) (by decide) (by decide) ?_
  exact ⟨rfl, rfl⟩
theorem d28_0 : decode jdk_29_method_69_code 0 = .ok (.iload_n 0, 1) := by decide +kernel
theorem d28_1 : decode jdk_29_method_69_code 1 = .ok (.iload_n 1, 1) := by decide +kernel
theorem d28_2 : decode jdk_29_method_69_code 2 = .ok (.if_icmp .gt 7, 3) := by decide +kernel
theorem d28_5 : decode jdk_29_method_69_code 5 = .ok (.iload_n 0, 1) := by decide +kernel
theorem d28_6 : decode jdk_29_method_69_code 6 = .ok (.goto 4, 3) := by decide +kernel
theorem d28_9 : decode jdk_29_method_69_code 9 = .ok (.iload_n 1, 1) := by decide +kernel
theorem d28_10 : decode jdk_29_method_69_code 10 = .ok (.ireturn, 1) := by decide +kernel
theorem pl_35 : plainFor (⟨"java/lang/Math", "min", "(II)I"⟩ : MethodName) = true := by decide +kernel
theorem rmMin (l : Launch) (Z : State) (a0 : Array Value) (hw : ∀ d ∈ tables_1, d.before a0 Z = true) (hel : EW Z a0 consts_1) (x n : Int32) (h0 : Heap) (n0 : Nat) (Z0 : n0 ≤ h0.size) (hm : n < x) :
    Met l Z consts_1 [] (⟨"java/lang/Math", "min", "(II)I"⟩ : MethodName) jdk_29_method_69_code 2 (Option.some FieldType.int) [] ({ frames := 0, cells := 0, slots := 0, locals := 0 } : Room) #[(.int x), (.int n)] h0 n0 (fun v h => v = some (.int n) ∧ h0 = h) := by
  refine Met.of (Ls0 := #[.val (.int x), .val (.int n)]) pl_35 (by first | (simp [argsToLocals, Value.category]; done) | rfl) hel ?_
  intro p e s m below meth c hx hby hml hret hlk hown hnm hZ
  refine Go.iloadN (q := 1) hx (hb hby d28_0) rfl rfl ?_
  refine Go.iloadN (q := 2) hx (hb hby d28_1) rfl rfl ?_
  refine Go.icmp_gt (q := 5) (t := 9) hx (hb hby d28_2) (by decide) rfl rfl (fun hc2 => ?_) (fun hc2 => absurd hm hc2)
  refine Go.iloadN (q := 10) hx (hb hby d28_9) rfl rfl ?_
  refine Go.retI hx hret hlk (hb hby d28_10) (by decide) (by decide) ?_
  exact ⟨rfl, rfl⟩
theorem d22_0 : decode jdk_68_method_64_code 0 = .ok (.aload_n 0, 1) := by decide +kernel
theorem d22_1 : decode jdk_68_method_64_code 1 = .ok (.getfield 15, 3) := by decide +kernel
theorem d22_4 : decode jdk_68_method_64_code 4 = .ok (.areturn, 1) := by decide +kernel
theorem pl_36 : plainFor (⟨"java/lang/AbstractStringBuilder", "getValue", "()[B"⟩ : MethodName) = true := plainFor_of_name (by first | (simp [plainName, overriddenIn]; done) | decide +kernel)
theorem rmGV (l : Launch) (Z : State) (a0 : Array Value) (hw : ∀ d ∈ tables_1, d.before a0 Z = true) (hel : EW Z a0 consts_1) (sb b : Addr) (h0 : Heap) (n0 : Nat) (Z0 : n0 ≤ h0.size) (F1 : Fld Z h0 sb "java/lang/AbstractStringBuilder" "value" "[B" (.ref b)) :
    Met l Z consts_1 [] (⟨"java/lang/AbstractStringBuilder", "getValue", "()[B"⟩ : MethodName) jdk_68_method_64_code 1 (Option.some (FieldType.array FieldType.byte)) [] ({ frames := 0, cells := 0, slots := 0, locals := 0 } : Room) #[(.ref sb)] h0 n0 (fun v h => v = some (.ref b) ∧ h0 = h) := by
  refine Met.of (Ls0 := #[.val (.ref sb)]) pl_36 (by first | (simp [argsToLocals, Value.category]; done) | rfl) hel ?_
  intro p e s m below meth c hx hby hml hret hlk hown hnm hZ
  refine Go.aloadN (q := 1) hx (hb hby d22_0) rfl (by rfl) rfl ?_
  refine Go.getF (q := 4) hx hZ hown (host := "") (Or.inl (tw hw 35 rfl)) Via.refl F1 (hb hby d22_1) rfl ?_
  refine Go.retA hx hret rfl (by rfl) hlk (hb hby d22_4) (by decide) (by decide) ?_
  exact ⟨rfl, rfl⟩
theorem d24_0 : decode jdk_68_method_6_code 0 = .ok (.aload_n 0, 1) := by decide +kernel
theorem d24_1 : decode jdk_68_method_6_code 1 = .ok (.getfield 79, 3) := by decide +kernel
theorem d24_4 : decode jdk_68_method_6_code 4 = .ok (.ireturn, 1) := by decide +kernel
theorem pl_37 : plainFor (⟨"java/lang/AbstractStringBuilder", "length", "()I"⟩ : MethodName) = true := plainFor_of_name (by first | (simp [plainName, overriddenIn]; done) | decide +kernel)
theorem rmL0 (l : Launch) (Z : State) (a0 : Array Value) (hw : ∀ d ∈ tables_1, d.before a0 Z = true) (hel : EW Z a0 consts_1) (sb : Addr) (mc : Int32) (h0 : Heap) (n0 : Nat) (Z0 : n0 ≤ h0.size) (E : Exa Z h0 sb "java/lang/StringBuilder") (F3 : Fld Z h0 sb "java/lang/AbstractStringBuilder" "count" "I" (.int mc)) :
    Met l Z consts_1 [] (⟨"java/lang/AbstractStringBuilder", "length", "()I"⟩ : MethodName) jdk_68_method_6_code 1 (Option.some FieldType.int) [] ({ frames := 0, cells := 0, slots := 0, locals := 0 } : Room) #[(.ref sb)] h0 n0 (fun v h => v = some (.int mc) ∧ h0 = h) := by
  refine Met.of (Ls0 := #[.val (.ref sb)]) pl_37 (by first | (simp [argsToLocals, Value.category]; done) | rfl) hel ?_
  intro p e s m below meth c hx hby hml hret hlk hown hnm hZ
  refine Go.aloadN (q := 1) hx (hb hby d24_0) rfl (by rfl) rfl ?_
  refine Go.getF (q := 4) hx hZ hown (host := "") (Or.inl (tw hw 70 rfl)) Via.refl F3 (hb hby d24_1) rfl ?_
  refine Go.retI hx hret hlk (hb hby d24_4) (by decide) (by decide) ?_
  exact ⟨rfl, rfl⟩
theorem d23_0 : decode jdk_67_method_93_code 0 = .ok (.aload_n 0, 1) := by decide +kernel
theorem d23_1 : decode jdk_67_method_93_code 1 = .ok (.invokespecial 343, 3) := by decide +kernel
theorem d23_4 : decode jdk_67_method_93_code 4 = .ok (.ireturn, 1) := by decide +kernel
theorem pl_38 : plainFor (⟨"java/lang/StringBuilder", "length", "()I"⟩ : MethodName) = true := plainFor_of_name (by first | (simp [plainName, overriddenIn]; done) | decide +kernel)
theorem rmL1 (l : Launch) (Z : State) (a0 : Array Value) (hw : ∀ d ∈ tables_1, d.before a0 Z = true) (hel : EW Z a0 consts_1) (sb : Addr) (mc : Int32) (h0 : Heap) (n0 : Nat) (Z0 : n0 ≤ h0.size) (E : Exa Z h0 sb "java/lang/StringBuilder") (F3 : Fld Z h0 sb "java/lang/AbstractStringBuilder" "count" "I" (.int mc)) :
    Met l Z consts_1 [] (⟨"java/lang/StringBuilder", "length", "()I"⟩ : MethodName) jdk_67_method_93_code 1 (Option.some FieldType.int) [] ({ frames := 1, cells := 0, slots := 0, locals := 18 } : Room) #[(.ref sb)] h0 n0 (fun v h => v = some (.int mc) ∧ h0 = h) := by
  refine Met.of (Ls0 := #[.val (.ref sb)]) pl_38 (by first | (simp [argsToLocals, Value.category]; done) | rfl) hel ?_
  intro p e s m below meth c hx hby hml hret hlk hown hnm hZ
  refine Go.aloadN (q := 1) hx (hb hby d23_0) rfl (by rfl) rfl ?_
  refine Go.callU (q := 4) hx hZ (a := sb) (argsL := []) (rest := []) hown (tw hw 145 rfl) (own_same (z := (⟨"java/lang/AbstractStringBuilder", "ensureCapacityInternal", "(I)V"⟩ : MethodName)) rfl (tw hw 75 rfl) (tw hw 141 rfl) (by decide)) (tw hw 141 rfl) (tw hw 54 rfl) (by decide) (tw hw 31 rfl) (tw hw 146 rfl) (Ins.self E) (rmL0 l Z a0 hw hel sb mc h0 n0 Z0 E F3) (fun _ hx => nomatch hx) (by rw [hml]; rfl) pd_16 rfl rfl (hb hby d23_1) rfl (by decide) (ble rfl) (ce' := 0) (sl' := 0) rfl rfl (by decide) (by decide) (fun v848 h849 hQ850 => ?_)
  obtain ⟨rfl, rfl⟩ := hQ850
  show Go _ _ _ _ _ _ _ _ _ _ _ _ _ _ _ _ _ _ _ _ 0 0 4 #[.val (.ref sb)] [(.int mc)]
  refine Go.retI hx hret hlk (hb hby d23_4) (by decide) (by decide) ?_
  exact ⟨rfl, rfl⟩
theorem d26_0 : decode jdk_65_method_133_code 0 = .ok (.iload_n 1, 1) := by decide +kernel
theorem d26_1 : decode jdk_65_method_133_code 1 = .ok (.iload_n 2, 1) := by decide +kernel
theorem d26_2 : decode jdk_65_method_133_code 2 = .ok (.invokestatic 343, 3) := by decide +kernel
theorem d26_5 : decode jdk_65_method_133_code 5 = .ok (.iload_n 2, 1) := by decide +kernel
theorem d26_6 : decode jdk_65_method_133_code 6 = .ok (.iload_n 1, 1) := by decide +kernel
theorem d26_7 : decode jdk_65_method_133_code 7 = .ok (.isub, 1) := by decide +kernel
theorem d26_8 : decode jdk_65_method_133_code 8 = .ok (.istore_n 3, 1) := by decide +kernel
theorem d26_9 : decode jdk_65_method_133_code 9 = .ok (.iload_n 3, 1) := by decide +kernel
theorem d26_10 : decode jdk_65_method_133_code 10 = .ok (.newarray .byte, 2) := by decide +kernel
theorem d26_12 : decode jdk_65_method_133_code 12 = .ok (.astore 4, 2) := by decide +kernel
theorem d26_14 : decode jdk_65_method_133_code 14 = .ok (.aload_n 0, 1) := by decide +kernel
theorem d26_15 : decode jdk_65_method_133_code 15 = .ok (.iload_n 1, 1) := by decide +kernel
theorem d26_16 : decode jdk_65_method_133_code 16 = .ok (.aload 4, 2) := by decide +kernel
theorem d26_18 : decode jdk_65_method_133_code 18 = .ok (.iconst 0, 1) := by decide +kernel
theorem d26_19 : decode jdk_65_method_133_code 19 = .ok (.aload_n 0, 1) := by decide +kernel
theorem d26_20 : decode jdk_65_method_133_code 20 = .ok (.arraylength, 1) := by decide +kernel
theorem d26_21 : decode jdk_65_method_133_code 21 = .ok (.iload_n 1, 1) := by decide +kernel
theorem d26_22 : decode jdk_65_method_133_code 22 = .ok (.isub, 1) := by decide +kernel
theorem d26_23 : decode jdk_65_method_133_code 23 = .ok (.iload_n 3, 1) := by decide +kernel
theorem d26_24 : decode jdk_65_method_133_code 24 = .ok (.invokestatic 304, 3) := by decide +kernel
theorem d26_27 : decode jdk_65_method_133_code 27 = .ok (.invokestatic 150, 3) := by decide +kernel
theorem d26_30 : decode jdk_65_method_133_code 30 = .ok (.aload 4, 2) := by decide +kernel
theorem d26_32 : decode jdk_65_method_133_code 32 = .ok (.areturn, 1) := by decide +kernel
theorem pl_39 : plainFor (⟨"java/util/Arrays", "copyOfRangeByte", "([BII)[B"⟩ : MethodName) = true := plainFor_of_name (by first | (simp [plainName, overriddenIn]; done) | decide +kernel)
theorem pd_28 : parseMethodDescriptor "(II)I" = some ⟨[.int, .int], some .int⟩ := by decide +kernel
theorem rmCB0 (l : Launch) (Z : State) (a0 : Array Value) (hw : ∀ d ∈ tables_1, d.before a0 Z = true) (hel : EW Z a0 consts_1) (b : Addr) (kb : ClassId) (n : Int32) (vs vr : List Value) (h0 : Heap) (n0 : Nat) (Z0 : n0 ≤ h0.size) (B : Arv Z h0 b kb .byte (8192 : Int32) vs (.int (0 : Int32))) (hcap : n.toNatClampNeg ≤ 24) (hm : n < (8192 : Int32)) (h4 : (0 : Int32).toNatClampNeg + n.toNatClampNeg ≤ ((8192 : Int32)).toNatClampNeg) (cp : CP (0 : Int32) n n vs (List.replicate 24 (Value.int (0 : Int32))) vr)  :
    Met l Z consts_1 [] (⟨"java/util/Arrays", "copyOfRangeByte", "([BII)[B"⟩ : MethodName) jdk_65_method_133_code 5 (Option.some (FieldType.array FieldType.byte)) [] ({ frames := 1, cells := 1, slots := 24, locals := 60 } : Room) #[(.ref b), (.int (0 : Int32)), (.int n)] h0 n0 (fun v h => ∃ a ka, v = some (.ref a) ∧ h0.size ≤ a ∧ Keep h0 h [] ∧ Arv Z h a ka .byte n vr (.int (0 : Int32))) := by
  refine Met.of (Ls0 := #[.val (.ref b), .val (.int (0 : Int32)), .val (.int n), .unset, .unset]) pl_39 (by first | (simp [argsToLocals, Value.category]; done) | rfl) hel ?_
  intro p e s m below meth c hx hby hml hret hlk hown hnm hZ
  refine Go.iloadN (q := 1) hx (hb hby d26_0) rfl rfl ?_
  refine Go.iloadN (q := 2) hx (hb hby d26_1) rfl rfl ?_
  refine Go.callS (q := 5) hx hZ (argsL := [(.int (0 : Int32)), (.int n)]) (rest := []) hown (tw hw 155 rfl) (tw hw 156 rfl) (tw hw 150 rfl) (tw hw 157 rfl) (by decide) (rmCLn l Z a0 hw hel n h0 n0 Z0 cp.2.1) (fun _ hx => nomatch hx) (by rw [hml]; rfl) pd_24 rfl rfl (hb hby d26_2) rfl (by decide) (ble rfl) (ce' := 0) (sl' := 0) rfl rfl (by decide) (by decide) (fun v851 h852 hQ853 => ?_)
  obtain ⟨rfl, rfl⟩ := hQ853
  show Go _ _ _ _ _ _ _ _ _ _ _ _ _ _ _ _ _ _ _ _ 0 0 5 #[.val (.ref b), .val (.int (0 : Int32)), .val (.int n), .unset, .unset] []
  refine Go.iloadN (q := 6) hx (hb hby d26_5) rfl rfl ?_
  refine Go.iloadN (q := 7) hx (hb hby d26_6) rfl rfl ?_
  refine Go.isub (q := 8) hx (hb hby d26_7) rfl ?_
  rw [Int32.sub_zero]
  refine Go.istoreN (q := 9) (l' := #[.val (.ref b), .val (.int (0 : Int32)), .val (.int n), .val (.int n), .unset]) hx (hb hby d26_8) rfl rfl ?_
  refine Go.iloadN (q := 10) hx (hb hby d26_9) rfl rfl ?_
  refine Go.newP (q := 12) (cap := 24) hx hZ (tw hw 7 rfl) cp.2.1 hcap (hb hby d26_10) rfl (by decide) (ce' := 1) (sl' := 24) rfl rfl (by decide) (by decide) (fun h854 a855 k856 g857 E858 A859 => ?_)
  have ne860 : b ≠ a855 := by rw [g857]; exact Nat.ne_of_lt (B).lt
  have gz861 : n0 ≤ a855 := by rw [g857]; exact Z0
  have gk862 : h0.size ≤ a855 := by rw [g857]; exact (Keep.refl h0 []).1
  refine Go.astore (q := 14) (l' := #[.val (.ref b), .val (.int (0 : Int32)), .val (.int n), .val (.int n), .val (.ref a855)]) hx (hb hby d26_12) (by rfl) rfl rfl ?_
  have V863 : Arv Z h854 a855 k856 .byte n (List.replicate 24 (Value.int (0 : Int32))) (.int (0 : Int32)) := (A859).pad (pad_rep [] (.int (0 : Int32)) 24)
  refine Go.aloadN (q := 15) hx (hb hby d26_14) rfl (by rfl) rfl ?_
  refine Go.iloadN (q := 16) hx (hb hby d26_15) rfl rfl ?_
  refine Go.aload (q := 18) hx (hb hby d26_16) rfl (by rfl) rfl ?_
  refine Go.iconst (q := 19) (z := (0 : Int32)) hx (hb hby d26_18) rfl rfl ?_
  refine Go.aloadN (q := 20) hx (hb hby d26_19) rfl (by rfl) rfl ?_
  refine Go.alen (q := 21) hx hZ (B.ext E858) (hb hby d26_20) rfl ?_
  refine Go.iloadN (q := 22) hx (hb hby d26_21) rfl rfl ?_
  refine Go.isub (q := 23) hx (hb hby d26_22) rfl ?_
  rw [show (8192 : Int32) - (0 : Int32) = (8192 : Int32) from by decide]
  refine Go.iloadN (q := 24) hx (hb hby d26_23) rfl rfl ?_
  refine Go.callS (q := 27) hx hZ (argsL := [(.int (8192 : Int32)), (.int n)]) (rest := [(.int (0 : Int32)), (.ref a855), (.int (0 : Int32)), (.ref b)]) hown (tw hw 158 rfl) (tw hw 159 rfl) (tw hw 160 rfl) (tw hw 161 rfl) (by decide) (rmMin l Z a0 hw hel (8192 : Int32) n h854 n0 (Nat.le_trans Z0 E858.1) hm) (fun _ hx => nomatch hx) (by rw [hml]; rfl) pd_28 rfl rfl (hb hby d26_24) rfl (by decide) (ble rfl) (ce' := 1) (sl' := 24) rfl rfl (by decide) (by decide) (fun v864 h865 hQ866 => ?_)
  obtain ⟨rfl, rfl⟩ := hQ866
  show Go _ _ _ _ _ _ _ _ _ _ _ _ _ _ _ _ _ _ _ _ 1 24 27 #[.val (.ref b), .val (.int (0 : Int32)), .val (.int n), .val (.int n), .val (.ref a855)] [(.int n), (.int (0 : Int32)), (.ref a855), (.int (0 : Int32)), (.ref b)]
  refine Go.acopy (q := 30) (us := _) (vr := vr) hx hZ hown (tw hw 162 rfl) (tw hw 96 rfl) (tw hw 94 rfl) (tw hw 95 rfl) (B.ext E858) V863 rfl (by decide) cp.1 cp.2.1 h4 cp.2.2.1 rfl cp.2.2.2.1 cp.2.2.2.2 gz861 (by simp) (by rw [hml]; rfl) (hb hby d26_27) rfl (by decide) (ble rfl) (fun h867 K868 V869 => ?_)
  refine Go.aload (q := 32) hx (hb hby d26_30) rfl (by rfl) rfl ?_
  refine Go.retA hx hret rfl (by rfl) hlk (hb hby d26_32) (by decide) (by decide) ?_
  exact ⟨a855, _, rfl, gk862, (Keep.trans ((Keep.refl h0 []).ext E858) K868 (allS (Or.inr gk862) all0)), V869⟩
theorem d25_0 : decode jdk_65_method_132_code 0 = .ok (.iload_n 1, 1) := by decide +kernel
theorem d25_1 : decode jdk_65_method_132_code 1 = .ok (.ifCond .ne 9, 3) := by decide +kernel
theorem d25_4 : decode jdk_65_method_132_code 4 = .ok (.iload_n 2, 1) := by decide +kernel
theorem d25_5 : decode jdk_65_method_132_code 5 = .ok (.aload_n 0, 1) := by decide +kernel
theorem d25_6 : decode jdk_65_method_132_code 6 = .ok (.arraylength, 1) := by decide +kernel
theorem d25_7 : decode jdk_65_method_132_code 7 = .ok (.if_icmp .eq 10, 3) := by decide +kernel
theorem d25_10 : decode jdk_65_method_132_code 10 = .ok (.aload_n 0, 1) := by decide +kernel
theorem d25_11 : decode jdk_65_method_132_code 11 = .ok (.iload_n 1, 1) := by decide +kernel
theorem d25_12 : decode jdk_65_method_132_code 12 = .ok (.iload_n 2, 1) := by decide +kernel
theorem d25_13 : decode jdk_65_method_132_code 13 = .ok (.invokestatic 339, 3) := by decide +kernel
theorem d25_16 : decode jdk_65_method_132_code 16 = .ok (.areturn, 1) := by decide +kernel
theorem d25_17 : decode jdk_65_method_132_code 17 = .ok (.aload_n 0, 1) := by decide +kernel
theorem d25_18 : decode jdk_65_method_132_code 18 = .ok (.invokevirtual 310, 3) := by decide +kernel
theorem d25_21 : decode jdk_65_method_132_code 21 = .ok (.checkcast 311, 3) := by decide +kernel
theorem d25_24 : decode jdk_65_method_132_code 24 = .ok (.areturn, 1) := by decide +kernel
theorem pl_40 : plainFor (⟨"java/util/Arrays", "copyOfRange", "([BII)[B"⟩ : MethodName) = true := plainFor_of_name (by first | (simp [plainName, overriddenIn]; done) | decide +kernel)
theorem pd_29 : parseMethodDescriptor "([BII)[B" = some ⟨[(.array .byte), .int, .int], some (.array .byte)⟩ := by decide +kernel
theorem rmCR0 (l : Launch) (Z : State) (a0 : Array Value) (hw : ∀ d ∈ tables_1, d.before a0 Z = true) (hel : EW Z a0 consts_1) (b : Addr) (kb : ClassId) (n : Int32) (vs vr : List Value) (h0 : Heap) (n0 : Nat) (Z0 : n0 ≤ h0.size) (B : Arv Z h0 b kb .byte (8192 : Int32) vs (.int (0 : Int32))) (hne : ¬ n = (8192 : Int32)) (hcap : n.toNatClampNeg ≤ 24) (hm : n < (8192 : Int32)) (h4 : (0 : Int32).toNatClampNeg + n.toNatClampNeg ≤ ((8192 : Int32)).toNatClampNeg) (cp : CP (0 : Int32) n n vs (List.replicate 24 (Value.int (0 : Int32))) vr)  :
    Met l Z consts_1 [] (⟨"java/util/Arrays", "copyOfRange", "([BII)[B"⟩ : MethodName) jdk_65_method_132_code 3 (Option.some (FieldType.array FieldType.byte)) [] ({ frames := 2, cells := 1, slots := 24, locals := 82 } : Room) #[(.ref b), (.int (0 : Int32)), (.int n)] h0 n0 (fun v h => ∃ a ka, v = some (.ref a) ∧ h0.size ≤ a ∧ Keep h0 h [] ∧ Arv Z h a ka .byte n vr (.int (0 : Int32))) := by
  refine Met.of (Ls0 := #[.val (.ref b), .val (.int (0 : Int32)), .val (.int n)]) pl_40 (by first | (simp [argsToLocals, Value.category]; done) | rfl) hel ?_
  intro p e s m below meth c hx hby hml hret hlk hown hnm hZ
  refine Go.iloadN (q := 1) hx (hb hby d25_0) rfl rfl ?_
  refine Go.if_ne (q := 4) (t := 10) hx (hb hby d25_1) (by decide) rfl rfl (fun hc1 => absurd hc1 (by decide)) (fun hc1 => ?_)
  refine Go.iloadN (q := 5) hx (hb hby d25_4) rfl rfl ?_
  refine Go.aloadN (q := 6) hx (hb hby d25_5) rfl (by rfl) rfl ?_
  refine Go.alen (q := 7) hx hZ B (hb hby d25_6) rfl ?_
  refine Go.icmp_eq (q := 10) (t := 17) hx (hb hby d25_7) (by decide) rfl rfl (fun hc7 => absurd hc7 hne) (fun hc7 => ?_)
  refine Go.aloadN (q := 11) hx (hb hby d25_10) rfl (by rfl) rfl ?_
  refine Go.iloadN (q := 12) hx (hb hby d25_11) rfl rfl ?_
  refine Go.iloadN (q := 13) hx (hb hby d25_12) rfl rfl ?_
  refine Go.callS (q := 16) hx hZ (argsL := [(.ref b), (.int (0 : Int32)), (.int n)]) (rest := []) hown (tw hw 152 rfl) (tw hw 153 rfl) (tw hw 150 rfl) (tw hw 154 rfl) (by decide) (rmCB0 l Z a0 hw hel b kb n vs vr h0 n0 Z0 B hcap hm h4 cp) (fun _ hx => nomatch hx) (by rw [hml]; rfl) pd_29 rfl rfl (hb hby d25_13) rfl (by decide) (ble rfl) (ce' := 1) (sl' := 24) rfl rfl (by decide) (by decide) (fun v870 h871 hQ872 => ?_)
  obtain ⟨a9, k9, rfl, Y⟩ := hQ872
  show Go _ _ _ _ _ _ _ _ _ _ _ _ _ _ _ _ _ _ _ _ 1 24 16 #[.val (.ref b), .val (.int (0 : Int32)), .val (.int n)] [(.ref a9)]
  refine Go.retA hx hret rfl (by rfl) hlk (hb hby d25_16) (by decide) (by decide) ?_
  exact ⟨a9, k9, rfl, Y⟩
theorem d21_0 : decode jdk_42_method_150_code 0 = .ok (.aload_n 0, 1) := by decide +kernel
theorem d21_1 : decode jdk_42_method_150_code 1 = .ok (.invokespecial 1, 3) := by decide +kernel
theorem d21_4 : decode jdk_42_method_150_code 4 = .ok (.aload_n 1, 1) := by decide +kernel
theorem d21_5 : decode jdk_42_method_150_code 5 = .ok (.invokevirtual 552, 3) := by decide +kernel
theorem d21_8 : decode jdk_42_method_150_code 8 = .ok (.astore_n 3, 1) := by decide +kernel
theorem d21_9 : decode jdk_42_method_150_code 9 = .ok (.aload_n 1, 1) := by decide +kernel
theorem d21_10 : decode jdk_42_method_150_code 10 = .ok (.invokevirtual 549, 3) := by decide +kernel
theorem d21_13 : decode jdk_42_method_150_code 13 = .ok (.istore 4, 2) := by decide +kernel
theorem d21_15 : decode jdk_42_method_150_code 15 = .ok (.aload_n 1, 1) := by decide +kernel
theorem d21_16 : decode jdk_42_method_150_code 16 = .ok (.invokevirtual 1047, 3) := by decide +kernel
theorem d21_19 : decode jdk_42_method_150_code 19 = .ok (.ifCond .eq 22, 3) := by decide +kernel
theorem d21_22 : decode jdk_42_method_150_code 22 = .ok (.aload_n 0, 1) := by decide +kernel
theorem d21_23 : decode jdk_42_method_150_code 23 = .ok (.iconst 0, 1) := by decide +kernel
theorem d21_24 : decode jdk_42_method_150_code 24 = .ok (.putfield 15, 3) := by decide +kernel
theorem d21_27 : decode jdk_42_method_150_code 27 = .ok (.aload_n 0, 1) := by decide +kernel
theorem d21_28 : decode jdk_42_method_150_code 28 = .ok (.aload_n 3, 1) := by decide +kernel
theorem d21_29 : decode jdk_42_method_150_code 29 = .ok (.iconst 0, 1) := by decide +kernel
theorem d21_30 : decode jdk_42_method_150_code 30 = .ok (.iload 4, 2) := by decide +kernel
theorem d21_32 : decode jdk_42_method_150_code 32 = .ok (.invokestatic 54, 3) := by decide +kernel
theorem d21_35 : decode jdk_42_method_150_code 35 = .ok (.putfield 9, 3) := by decide +kernel
theorem d21_38 : decode jdk_42_method_150_code 38 = .ok (.goto 59, 3) := by decide +kernel
theorem d21_41 : decode jdk_42_method_150_code 41 = .ok (.getstatic 38, 3) := by decide +kernel
theorem d21_44 : decode jdk_42_method_150_code 44 = .ok (.ifCond .eq 35, 3) := by decide +kernel
theorem d21_47 : decode jdk_42_method_150_code 47 = .ok (.aload_n 1, 1) := by decide +kernel
theorem d21_48 : decode jdk_42_method_150_code 48 = .ok (.getfield 1048, 3) := by decide +kernel
theorem d21_51 : decode jdk_42_method_150_code 51 = .ok (.ifCond .eq 28, 3) := by decide +kernel
theorem d21_54 : decode jdk_42_method_150_code 54 = .ok (.aload_n 0, 1) := by decide +kernel
theorem d21_55 : decode jdk_42_method_150_code 55 = .ok (.aload_n 3, 1) := by decide +kernel
theorem d21_56 : decode jdk_42_method_150_code 56 = .ok (.iconst 0, 1) := by decide +kernel
theorem d21_57 : decode jdk_42_method_150_code 57 = .ok (.iload 4, 2) := by decide +kernel
theorem d21_59 : decode jdk_42_method_150_code 59 = .ok (.invokestatic 1051, 3) := by decide +kernel
theorem d21_62 : decode jdk_42_method_150_code 62 = .ok (.putfield 9, 3) := by decide +kernel
theorem d21_65 : decode jdk_42_method_150_code 65 = .ok (.aload_n 0, 1) := by decide +kernel
theorem d21_66 : decode jdk_42_method_150_code 66 = .ok (.aload_n 0, 1) := by decide +kernel
theorem d21_67 : decode jdk_42_method_150_code 67 = .ok (.getfield 9, 3) := by decide +kernel
theorem d21_70 : decode jdk_42_method_150_code 70 = .ok (.iload 4, 2) := by decide +kernel
theorem d21_72 : decode jdk_42_method_150_code 72 = .ok (.invokestatic 47, 3) := by decide +kernel
theorem d21_75 : decode jdk_42_method_150_code 75 = .ok (.putfield 15, 3) := by decide +kernel
theorem d21_78 : decode jdk_42_method_150_code 78 = .ok (.return_, 1) := by decide +kernel
theorem d21_79 : decode jdk_42_method_150_code 79 = .ok (.aload_n 0, 1) := by decide +kernel
theorem d21_80 : decode jdk_42_method_150_code 80 = .ok (.iconst 1, 1) := by decide +kernel
theorem d21_81 : decode jdk_42_method_150_code 81 = .ok (.putfield 15, 3) := by decide +kernel
theorem d21_84 : decode jdk_42_method_150_code 84 = .ok (.aload_n 0, 1) := by decide +kernel
theorem d21_85 : decode jdk_42_method_150_code 85 = .ok (.aload_n 3, 1) := by decide +kernel
theorem d21_86 : decode jdk_42_method_150_code 86 = .ok (.iconst 0, 1) := by decide +kernel
theorem d21_87 : decode jdk_42_method_150_code 87 = .ok (.iload 4, 2) := by decide +kernel
theorem d21_89 : decode jdk_42_method_150_code 89 = .ok (.iconst 1, 1) := by decide +kernel
theorem d21_90 : decode jdk_42_method_150_code 90 = .ok (.ishl, 1) := by decide +kernel
theorem d21_91 : decode jdk_42_method_150_code 91 = .ok (.invokestatic 54, 3) := by decide +kernel
theorem d21_94 : decode jdk_42_method_150_code 94 = .ok (.putfield 9, 3) := by decide +kernel
theorem d21_97 : decode jdk_42_method_150_code 97 = .ok (.return_, 1) := by decide +kernel
theorem pl_41 : plainFor (⟨"java/lang/String", "<init>", "(Ljava/lang/AbstractStringBuilder;Ljava/lang/Void;)V"⟩ : MethodName) = true := plainFor_of_name (by first | (simp [plainName, overriddenIn]; done) | decide +kernel)
theorem pd_30 : parseMethodDescriptor "()[B" = some ⟨[], some (.array .byte)⟩ := by decide +kernel
theorem rmS20 (l : Launch) (Z : State) (a0 : Array Value) (hw : ∀ d ∈ tables_1, d.before a0 Z = true) (hel : EW Z a0 consts_1) (sa : Addr) (sb b : Addr) (kb : ClassId) (cst mc n : Int32) (vs vr : List Value) (h0 : Heap) (n0 : Nat) (Z0 : n0 ≤ h0.size) (gsa : n0 ≤ sa) (nsas : sa ≠ sb) (nsab : sa ≠ b) (SE : Exa Z h0 sa "java/lang/String") (S1 : Fld Z h0 sa "java/lang/String" "value" "[B" .null) (S2 : Fld Z h0 sa "java/lang/String" "coder" "B" (.int (0 : Int32))) (nsb : sb ≠ b) (gs : n0 ≤ sb) (gb : n0 ≤ b) (E : Exa Z h0 sb "java/lang/StringBuilder") (F1 : Fld Z h0 sb "java/lang/AbstractStringBuilder" "value" "[B" (.ref b)) (F2 : Fld Z h0 sb "java/lang/AbstractStringBuilder" "coder" "B" (.int (0 : Int32))) (F3 : Fld Z h0 sb "java/lang/AbstractStringBuilder" "count" "I" (.int mc)) (F4 : Fld Z h0 sb "java/lang/AbstractStringBuilder" "maybeLatin1" "Z" (.int (0 : Int32))) (B : Arv Z h0 b kb .byte (8192 : Int32) vs (.int (0 : Int32))) (hne : ¬ n = (8192 : Int32)) (hcap : n.toNatClampNeg ≤ 24) (hm : n < (8192 : Int32)) (h4 : (0 : Int32).toNatClampNeg + n.toNatClampNeg ≤ ((8192 : Int32)).toNatClampNeg) (cp : CP (0 : Int32) n n vs (List.replicate 24 (Value.int (0 : Int32))) vr) (hn : mc = n) (X0 : Old Z n0 h0) (SC : Sta Z Z.heap "java/lang/String" "COMPACT_STRINGS" "Z" (.int cst)) (hcs : ¬ cst = (0 : Int32)) :
    Met l Z consts_1 [sa] (⟨"java/lang/String", "<init>", "(Ljava/lang/AbstractStringBuilder;Ljava/lang/Void;)V"⟩ : MethodName) jdk_42_method_150_code 5 (Option.none : Option FieldType) [] ({ frames := 3, cells := 1, slots := 24, locals := 102 } : Room) #[(.ref sa), (.ref sb), .null] h0 n0 (fun v h => v = none ∧ Keep h0 h [sa] ∧ ∃ a ka, h0.size ≤ a ∧ Fld Z h sa "java/lang/String" "value" "[B" (.ref a) ∧ Fld Z h sa "java/lang/String" "coder" "B" (.int (0 : Int32)) ∧ Arv Z h a ka .byte n vr (.int (0 : Int32))) := by
  refine Met.of (Ls0 := #[.val (.ref sa), .val (.ref sb), .val .null, .unset, .unset]) pl_41 (by first | (simp [argsToLocals, Value.category]; done) | rfl) hel ?_
  intro p e s m below meth c hx hby hml hret hlk hown hnm hZ
  refine Go.aloadN (q := 1) hx (hb hby d21_0) rfl (by rfl) rfl ?_
  refine Go.initO (q := 4) hx hZ hown (tw hw 133 rfl) (tw hw 19 rfl) (tw hw 20 rfl) (by rw [hml]; rfl) (hb hby d21_1) rfl (by decide) (ble rfl) ?_
  refine Go.aloadN (q := 5) hx (hb hby d21_4) rfl (by rfl) rfl ?_
  refine Go.callV (q := 8) hx hZ (a := sb) (argsL := []) (rest := []) hown (tw hw 134 rfl) (tw hw 135 rfl) (fun vm hzv => notFace_of_selects (args := #[]) (mvT hzv (tw hw 137 rfl))) (tw hw 137 rfl) (tw hw 136 rfl) (tw hw 31 rfl) (tw hw 138 rfl) (by decide) E (rmGV l Z a0 hw hel sb b h0 n0 Z0 F1) (fun _ hx => nomatch hx) (by rw [hml]; rfl) pd_30 rfl rfl (hb hby d21_5) rfl (by decide) (ble rfl) (ce' := 0) (sl' := 0) rfl rfl (by decide) (by decide) (fun v873 h874 hQ875 => ?_)
  obtain ⟨rfl, rfl⟩ := hQ875
  show Go _ _ _ _ _ _ _ _ _ _ _ _ _ _ _ _ _ _ _ _ 0 0 8 #[.val (.ref sa), .val (.ref sb), .val .null, .unset, .unset] [(.ref b)]
  refine Go.astoreN (q := 9) (l' := #[.val (.ref sa), .val (.ref sb), .val .null, .val (.ref b), .unset]) hx (hb hby d21_8) (by rfl) rfl rfl ?_
  refine Go.aloadN (q := 10) hx (hb hby d21_9) rfl (by rfl) rfl ?_
  refine Go.callV (q := 13) hx hZ (a := sb) (argsL := []) (rest := []) hown (tw hw 139 rfl) (tw hw 140 rfl) (fun vm hzv => own_nf (args := #[]) (z := (⟨"java/lang/AbstractStringBuilder", "getValue", "()[B"⟩ : MethodName)) rfl (mvT hzv (tw hw 137 rfl))) (tw hw 142 rfl) (tw hw 143 rfl) (tw hw 23 rfl) (tw hw 144 rfl) (by decide) E (rmL1 l Z a0 hw hel sb mc h0 n0 Z0 E F3) (fun _ hx => nomatch hx) (by rw [hml]; rfl) pd_16 rfl rfl (hb hby d21_10) rfl (by decide) (ble rfl) (ce' := 0) (sl' := 0) rfl rfl (by decide) (by decide) (fun v876 h877 hQ878 => ?_)
  obtain ⟨rfl, rfl⟩ := hQ878
  show Go _ _ _ _ _ _ _ _ _ _ _ _ _ _ _ _ _ _ _ _ 0 0 13 #[.val (.ref sa), .val (.ref sb), .val .null, .val (.ref b), .unset] [(.int mc)]
  refine Go.istore (q := 15) (l' := #[.val (.ref sa), .val (.ref sb), .val .null, .val (.ref b), .val (.int mc)]) hx (hb hby d21_13) rfl rfl ?_
  refine Go.aloadN (q := 16) hx (hb hby d21_15) rfl (by rfl) rfl ?_
  refine Go.callV (q := 19) hx hZ (a := sb) (argsL := []) (rest := []) hown (tw hw 147 rfl) (tw hw 107 rfl) (fun vm hzv => notFace_of_selects (args := #[]) (mvT hzv (tw hw 109 rfl))) (tw hw 109 rfl) (tw hw 108 rfl) (tw hw 31 rfl) (tw hw 110 rfl) (by decide) E (rmBL0 l Z a0 hw hel sb cst h0 n0 Z0 F2 X0 SC hcs) (fun _ hx => nomatch hx) (by rw [hml]; rfl) pd_22 rfl rfl (hb hby d21_16) rfl (by decide) (ble rfl) (ce' := 0) (sl' := 0) rfl rfl (by decide) (by decide) (fun v879 h880 hQ881 => ?_)
  obtain ⟨rfl, rfl⟩ := hQ881
  show Go _ _ _ _ _ _ _ _ _ _ _ _ _ _ _ _ _ _ _ _ 0 0 19 #[.val (.ref sa), .val (.ref sb), .val .null, .val (.ref b), .val (.int mc)] [(.int (1 : Int32))]
  refine Go.if_eq (q := 22) (t := 41) hx (hb hby d21_19) (by decide) rfl rfl (fun hc19 => absurd hc19 (by decide)) (fun hc19 => ?_)
  refine Go.aloadN (q := 23) hx (hb hby d21_22) rfl (by rfl) rfl ?_
  refine Go.iconst (q := 24) (z := (0 : Int32)) hx (hb hby d21_23) rfl rfl ?_
  refine Go.putF (q := 27) hx hZ hown (host := "") (Or.inl (tw hw 69 rfl)) Via.refl S2 SE (Or.inr ⟨(tw hw 9 rfl), rfl, hnm⟩) (tw hw 6 rfl) (ty := .byte) (by decide) rfl rfl gsa (by simp) (hb hby d21_24) rfl (fun h882 W883 => ?_)
  refine Go.aloadN (q := 28) hx (hb hby d21_27) rfl (by rfl) rfl ?_
  refine Go.aloadN (q := 29) hx (hb hby d21_28) rfl (by rfl) rfl ?_
  refine Go.iconst (q := 30) (z := (0 : Int32)) hx (hb hby d21_29) rfl rfl ?_
  refine Go.iload (q := 32) hx (hb hby d21_30) rfl rfl ?_
  rw [hn]
  refine Go.callS (q := 35) hx hZ (argsL := [(.ref b), (.int (0 : Int32)), (.int n)]) (rest := [(.ref sa)]) hown (tw hw 148 rfl) (tw hw 149 rfl) (tw hw 150 rfl) (tw hw 151 rfl) (by decide) (rmCR0 l Z a0 hw hel b kb n vs vr h882 n0 (Nat.le_trans Z0 (Keep.of_wr W883).1) (B.other W883 nsab.symm) hne hcap hm h4 cp) (fun _ hx => nomatch hx) (by rw [hml]; rfl) pd_29 rfl rfl (hb hby d21_32) rfl (by decide) (ble rfl) (ce' := 1) (sl' := 24) rfl rfl (by decide) (by decide) (fun v884 h885 hQ886 => ?_)
  have gk887 := ((Keep.refl h0 [sa]).wr W883 (Or.inl (by simp))).1
  have gn888 := (Nat.le_trans Z0 (Keep.of_wr W883).1)
  have lt889 := ((B.other W883 nsab.symm)).lt
  have lt890 := ((Exa.wr W883 SE)).lt
  have lt891 := ((Exa.wr W883 E)).lt
  obtain ⟨a892, k893, rfl, g894, K895, V896⟩ := hQ886
  have ne897 : b ≠ a892 := Nat.ne_of_lt (Nat.lt_of_lt_of_le lt889 g894)
  have ne898 : sa ≠ a892 := Nat.ne_of_lt (Nat.lt_of_lt_of_le lt890 g894)
  have ne899 : sb ≠ a892 := Nat.ne_of_lt (Nat.lt_of_lt_of_le lt891 g894)
  have gz900 : n0 ≤ a892 := Nat.le_trans gn888 g894
  show Go _ _ _ _ _ _ _ _ _ _ _ _ _ _ _ _ _ _ _ _ 1 24 35 #[.val (.ref sa), .val (.ref sb), .val .null, .val (.ref b), .val (.int n)] [(.ref a892), (.ref sa)]
  refine Go.putF (q := 38) hx hZ hown (host := "") (Or.inl (tw hw 62 rfl)) Via.refl ((Fld.other W883 S1 (Or.inr (slot_ne (C := "java/lang/String") (Or.inr (tw hw 8 rfl)) (Or.inr (tw hw 9 rfl)) (by decide) (by decide : _ = some (.array .byte)) (by decide : _ = some .byte)))).keep K895 nin0) ((Exa.wr W883 SE).keep K895) (Or.inr ⟨(tw hw 8 rfl), rfl, hnm⟩) (tw hw 6 rfl) (ty := (.array .byte)) (by decide) rfl rfl gsa (by simp) (hb hby d21_35) rfl (fun h901 W902 => ?_)
  refine Go.goto (q := 97) hx (hb hby d21_38) (by decide) rfl ?_
  refine Go.ret0 hx hret hlk (hb hby d21_97) (by decide) (by decide) ?_
  exact ⟨rfl, ((Keep.trans ((Keep.refl h0 [sa]).wr W883 (Or.inl (by simp))) K895 all0).wr W902 (Or.inl (by simp))), a892, k893, (Nat.le_trans gk887 g894), (Fld.same W902 ((Fld.other W883 S1 (Or.inr (slot_ne (C := "java/lang/String") (Or.inr (tw hw 8 rfl)) (Or.inr (tw hw 9 rfl)) (by decide) (by decide : _ = some (.array .byte)) (by decide : _ = some .byte)))).keep K895 nin0)), (Fld.other W902 ((Fld.same W883 S2).keep K895 nin0) (Or.inr (slot_ne (C := "java/lang/String") (Or.inr (tw hw 9 rfl)) (Or.inr (tw hw 8 rfl)) (by decide) (by decide : _ = some .byte) (by decide : _ = some (.array .byte))))), (V896.other W902 ne898.symm)⟩
theorem d20_0 : decode jdk_42_method_53_code 0 = .ok (.aload_n 0, 1) := by decide +kernel
theorem d20_1 : decode jdk_42_method_53_code 1 = .ok (.aload_n 1, 1) := by decide +kernel
theorem d20_2 : decode jdk_42_method_53_code 2 = .ok (.aconst_null, 1) := by decide +kernel
theorem d20_3 : decode jdk_42_method_53_code 3 = .ok (.invokespecial 489, 3) := by decide +kernel
theorem d20_6 : decode jdk_42_method_53_code 6 = .ok (.return_, 1) := by decide +kernel
theorem pl_42 : plainFor (⟨"java/lang/String", "<init>", "(Ljava/lang/StringBuilder;)V"⟩ : MethodName) = true := plainFor_of_name (by first | (simp [plainName, overriddenIn]; done) | decide +kernel)
theorem pd_31 : parseMethodDescriptor "(Ljava/lang/AbstractStringBuilder;Ljava/lang/Void;)V" = some ⟨[(.object "java/lang/AbstractStringBuilder"), (.object "java/lang/Void")], none⟩ := by decide +kernel
theorem rmS10 (l : Launch) (Z : State) (a0 : Array Value) (hw : ∀ d ∈ tables_1, d.before a0 Z = true) (hel : EW Z a0 consts_1) (sa : Addr) (sb b : Addr) (kb : ClassId) (cst mc n : Int32) (vs vr : List Value) (h0 : Heap) (n0 : Nat) (Z0 : n0 ≤ h0.size) (gsa : n0 ≤ sa) (nsas : sa ≠ sb) (nsab : sa ≠ b) (SE : Exa Z h0 sa "java/lang/String") (S1 : Fld Z h0 sa "java/lang/String" "value" "[B" .null) (S2 : Fld Z h0 sa "java/lang/String" "coder" "B" (.int (0 : Int32))) (nsb : sb ≠ b) (gs : n0 ≤ sb) (gb : n0 ≤ b) (E : Exa Z h0 sb "java/lang/StringBuilder") (F1 : Fld Z h0 sb "java/lang/AbstractStringBuilder" "value" "[B" (.ref b)) (F2 : Fld Z h0 sb "java/lang/AbstractStringBuilder" "coder" "B" (.int (0 : Int32))) (F3 : Fld Z h0 sb "java/lang/AbstractStringBuilder" "count" "I" (.int mc)) (F4 : Fld Z h0 sb "java/lang/AbstractStringBuilder" "maybeLatin1" "Z" (.int (0 : Int32))) (B : Arv Z h0 b kb .byte (8192 : Int32) vs (.int (0 : Int32))) (hne : ¬ n = (8192 : Int32)) (hcap : n.toNatClampNeg ≤ 24) (hm : n < (8192 : Int32)) (h4 : (0 : Int32).toNatClampNeg + n.toNatClampNeg ≤ ((8192 : Int32)).toNatClampNeg) (cp : CP (0 : Int32) n n vs (List.replicate 24 (Value.int (0 : Int32))) vr) (hn : mc = n) (X0 : Old Z n0 h0) (SC : Sta Z Z.heap "java/lang/String" "COMPACT_STRINGS" "Z" (.int cst)) (hcs : ¬ cst = (0 : Int32)) :
    Met l Z consts_1 [sa] (⟨"java/lang/String", "<init>", "(Ljava/lang/StringBuilder;)V"⟩ : MethodName) jdk_42_method_53_code 2 (Option.none : Option FieldType) [] ({ frames := 4, cells := 1, slots := 24, locals := 124 } : Room) #[(.ref sa), (.ref sb)] h0 n0 (fun v h => v = none ∧ Keep h0 h [sa] ∧ ∃ a ka, h0.size ≤ a ∧ Fld Z h sa "java/lang/String" "value" "[B" (.ref a) ∧ Fld Z h sa "java/lang/String" "coder" "B" (.int (0 : Int32)) ∧ Arv Z h a ka .byte n vr (.int (0 : Int32))) := by
  refine Met.of (Ls0 := #[.val (.ref sa), .val (.ref sb)]) pl_42 (by first | (simp [argsToLocals, Value.category]; done) | rfl) hel ?_
  intro p e s m below meth c hx hby hml hret hlk hown hnm hZ
  refine Go.aloadN (q := 1) hx (hb hby d20_0) rfl (by rfl) rfl ?_
  refine Go.aloadN (q := 2) hx (hb hby d20_1) rfl (by rfl) rfl ?_
  refine Go.aconstNull (q := 3) hx (hb hby d20_2) rfl ?_
  refine Go.callI (q := 6) hx hZ (a := sa) (argsL := [(.ref sb), .null]) (rest := []) hown rfl (tw hw 130 rfl) (tw hw 131 rfl) (tw hw 5 rfl) (tw hw 132 rfl) (by decide) (rmS20 l Z a0 hw hel sa sb b kb cst mc n vs vr h0 n0 Z0 gsa nsas nsab SE S1 S2 nsb gs gb E F1 F2 F3 F4 B hne hcap hm h4 cp hn X0 SC hcs) (by simp) (by rw [hml]; rfl) pd_31 rfl rfl (hb hby d20_3) rfl (by decide) (ble rfl) (ce' := 1) (sl' := 24) rfl rfl (by decide) (by decide) (fun v903 h904 hQ905 => ?_)
  obtain ⟨rfl, Y⟩ := hQ905
  show Go _ _ _ _ _ _ _ _ _ _ _ _ _ _ _ _ _ _ _ _ 1 24 6 #[.val (.ref sa), .val (.ref sb)] []
  refine Go.ret0 hx hret hlk (hb hby d20_6) (by decide) (by decide) ?_
  exact ⟨rfl, Y⟩
theorem d19_0 : decode jdk_67_method_42_code 0 = .ok (.new 18, 3) := by decide +kernel
theorem d19_3 : decode jdk_67_method_42_code 3 = .ok (.dup, 1) := by decide +kernel
theorem d19_4 : decode jdk_67_method_42_code 4 = .ok (.aload_n 0, 1) := by decide +kernel
theorem d19_5 : decode jdk_67_method_42_code 5 = .ok (.invokespecial 137, 3) := by decide +kernel
theorem d19_8 : decode jdk_67_method_42_code 8 = .ok (.areturn, 1) := by decide +kernel
theorem pl_43 : plainFor (⟨"java/lang/StringBuilder", "toString", "()Ljava/lang/String;"⟩ : MethodName) = true := plainFor_of_name (by first | (simp [plainName, overriddenIn]; done) | decide +kernel)
theorem pd_32 : parseMethodDescriptor "(Ljava/lang/StringBuilder;)V" = some ⟨[(.object "java/lang/StringBuilder")], none⟩ := by decide +kernel
theorem rmTS0 (l : Launch) (Z : State) (a0 : Array Value) (hw : ∀ d ∈ tables_1, d.before a0 Z = true) (hel : EW Z a0 consts_1) (sb b : Addr) (kb : ClassId) (cst mc n : Int32) (vs vr : List Value) (h0 : Heap) (n0 : Nat) (Z0 : n0 ≤ h0.size) (nsb : sb ≠ b) (gs : n0 ≤ sb) (gb : n0 ≤ b) (E : Exa Z h0 sb "java/lang/StringBuilder") (F1 : Fld Z h0 sb "java/lang/AbstractStringBuilder" "value" "[B" (.ref b)) (F2 : Fld Z h0 sb "java/lang/AbstractStringBuilder" "coder" "B" (.int (0 : Int32))) (F3 : Fld Z h0 sb "java/lang/AbstractStringBuilder" "count" "I" (.int mc)) (F4 : Fld Z h0 sb "java/lang/AbstractStringBuilder" "maybeLatin1" "Z" (.int (0 : Int32))) (B : Arv Z h0 b kb .byte (8192 : Int32) vs (.int (0 : Int32))) (hne : ¬ n = (8192 : Int32)) (hcap : n.toNatClampNeg ≤ 24) (hm : n < (8192 : Int32)) (h4 : (0 : Int32).toNatClampNeg + n.toNatClampNeg ≤ ((8192 : Int32)).toNatClampNeg) (cp : CP (0 : Int32) n n vs (List.replicate 24 (Value.int (0 : Int32))) vr) (hn : mc = n) (X0 : Old Z n0 h0) (SC : Sta Z Z.heap "java/lang/String" "COMPACT_STRINGS" "Z" (.int cst)) (hcs : ¬ cst = (0 : Int32)) :
    Met l Z consts_1 [] (⟨"java/lang/StringBuilder", "toString", "()Ljava/lang/String;"⟩ : MethodName) jdk_67_method_42_code 1 (Option.some (FieldType.object "java/lang/String")) [] ({ frames := 5, cells := 2, slots := 28, locals := 143 } : Room) #[(.ref sb)] h0 n0 (fun v h => ∃ sa a ka, v = some (.ref sa) ∧ h0.size ≤ sa ∧ h0.size ≤ a ∧ Keep h0 h [] ∧ Exa Z h sa "java/lang/String" ∧ Fld Z h sa "java/lang/String" "value" "[B" (.ref a) ∧ Fld Z h sa "java/lang/String" "coder" "B" (.int (0 : Int32)) ∧ Arv Z h a ka .byte n vr (.int (0 : Int32))) := by
  refine Met.of (Ls0 := #[.val (.ref sb)]) pl_43 (by first | (simp [argsToLocals, Value.category]; done) | rfl) hel ?_
  intro p e s m below meth c hx hby hml hret hlk hown hnm hZ
  refine Go.newO (q := 3) hx hZ hown (tw hw 125 rfl) (tw hw 6 rfl) (tw hw 5 rfl) (hb hby d19_0) rfl (ce' := 1) (sl' := 4) rfl rfl (by decide) (by decide) (fun h906 a907 g908 E909 A910 D911 => ?_)
  have ne912 : b ≠ a907 := by rw [g908]; exact Nat.ne_of_lt (B).lt
  have ne913 : sb ≠ a907 := by rw [g908]; exact Nat.ne_of_lt (E).lt
  have gz914 : n0 ≤ a907 := by rw [g908]; exact Z0
  have gk915 : h0.size ≤ a907 := by rw [g908]; exact (Keep.refl h0 []).1
  refine Go.dup (q := 4) hx (hb hby d19_3) rfl rfl ?_
  refine Go.aloadN (q := 5) hx (hb hby d19_4) rfl (by rfl) rfl ?_
  refine Go.callI (q := 8) hx hZ (a := a907) (argsL := [(.ref sb)]) (rest := [(.ref a907)]) hown rfl (tw hw 126 rfl) (tw hw 127 rfl) (tw hw 5 rfl) (tw hw 129 rfl) (by decide) (rmS10 l Z a0 hw hel a907 sb b kb cst mc n vs vr h906 n0 (Nat.le_trans Z0 E909.1) gz914 ne913.symm ne912.symm A910 (D911 (Or.inr (tw hw 8 rfl)) (ty := (.array .byte)) (by decide)) (D911 (Or.inr (tw hw 9 rfl)) (ty := .byte) (by decide)) nsb gs gb (Exa.ext E909 E) (Fld.ext E909 F1) (Fld.ext E909 F2) (Fld.ext E909 F3) (Fld.ext E909 F4) (B.ext E909) hne hcap hm h4 cp hn (X0.ext E909) SC hcs) (by simp) (by rw [hml]; rfl) pd_32 rfl rfl (hb hby d19_5) rfl (by decide) (ble rfl) (ce' := 2) (sl' := 28) rfl rfl (by decide) (by decide) (fun v916 h917 hQ918 => ?_)
  have gk919 := ((Keep.refl h0 []).ext E909).1
  obtain ⟨rfl, K923, a920, k921, g922, F925, F926, V924⟩ := hQ918
  show Go _ _ _ _ _ _ _ _ _ _ _ _ _ _ _ _ _ _ _ _ 2 28 8 #[.val (.ref sb)] [(.ref a907)]
  refine Go.retA hx hret rfl (by rfl) hlk (hb hby d19_8) (by decide) (by decide) ?_
  exact ⟨a907, a920, k921, rfl, gk915, (Nat.le_trans gk919 g922), (Keep.trans ((Keep.refl h0 []).ext E909) K923 (allS (Or.inr gk915) all0)), (A910.keep K923), F925, F926, V924⟩
theorem d18_0 : decode prog_19_method_7_code 0 = .ok (.aload_n 0, 1) := by decide +kernel
theorem d18_1 : decode prog_19_method_7_code 1 = .ok (.getfield 12, 3) := by decide +kernel
theorem d18_4 : decode prog_19_method_7_code 4 = .ok (.invokevirtual 53, 3) := by decide +kernel
theorem d18_7 : decode prog_19_method_7_code 7 = .ok (.areturn, 1) := by decide +kernel
theorem pl_44 : plainFor (⟨"com/example/clear_recall/clearrecall/web/Html", "toString", "()Ljava/lang/String;"⟩ : MethodName) = true := plainFor_of_name (by first | (simp [plainName, overriddenIn]; done) | decide +kernel)
theorem pd_33 : parseMethodDescriptor "()Ljava/lang/String;" = some ⟨[], some (.object "java/lang/String")⟩ := by decide +kernel
theorem rmHS0 (l : Launch) (Z : State) (a0 : Array Value) (hw : ∀ d ∈ tables_1, d.before a0 Z = true) (hel : EW Z a0 consts_1) (ho : Addr) (sb b : Addr) (kb : ClassId) (cst : Int32) (cs : List Int32) (h0 : Heap) (n0 : Nat) (Z0 : n0 ≤ h0.size) (FO : Fld Z h0 ho "com/example/clear_recall/clearrecall/web/Html" "out" "Ljava/lang/StringBuilder;" (.ref sb)) (nsb : sb ≠ b) (gs : n0 ≤ sb) (gb : n0 ≤ b) (S : SBf Z h0 sb b kb 0 cs) (h12 : cs.length ≤ 12) (X0 : Old Z n0 h0) (SC : Sta Z Z.heap "java/lang/String" "COMPACT_STRINGS" "Z" (.int cst)) (hcs : ¬ cst = (0 : Int32)) :
    Met l Z consts_1 [] (⟨"com/example/clear_recall/clearrecall/web/Html", "toString", "()Ljava/lang/String;"⟩ : MethodName) prog_19_method_7_code 1 (Option.some (FieldType.object "java/lang/String")) [] ({ frames := 6, cells := 2, slots := 28, locals := 161 } : Room) #[(.ref ho)] h0 n0 (fun v h => ∃ sa a ka, v = some (.ref sa) ∧ h0.size ≤ sa ∧ h0.size ≤ a ∧ Keep h0 h [] ∧ STf Z h sa a ka 0 cs) := by
  refine Met.of (Ls0 := #[.val (.ref ho)]) pl_44 (by first | (simp [argsToLocals, Value.category]; done) | rfl) hel ?_
  intro p e s m below meth c hx hby hml hret hlk hown hnm hZ
  obtain ⟨E, F1, F2, F3, F4, B⟩ := S
  refine Go.aloadN (q := 1) hx (hb hby d18_0) rfl (by rfl) rfl ?_
  refine Go.getF (q := 4) hx hZ hown (host := "") (Or.inl (tw hw 39 rfl)) Via.refl FO (hb hby d18_1) rfl ?_
  have en : (iN (cs.length)).toNatClampNeg = (bL cs).length := by rw [iN_nat _ (by omega), bL_len]
  have e24 : (bL cs).length ≤ 24 := by rw [bL_len]; omega
  refine Go.callV (q := 7) hx hZ (a := sb) (argsL := []) (rest := []) hown (tw hw 120 rfl) (tw hw 121 rfl) (fun vm hzv => notFace_of_selects (args := #[]) (mvT hzv (tw hw 123 rfl))) (tw hw 123 rfl) (tw hw 122 rfl) (tw hw 23 rfl) (tw hw 124 rfl) (by decide) E (rmTS0 l Z a0 hw hel sb b kb cst (iN cs.length) (iN cs.length) (bL cs) ((bL cs) ++ List.replicate (24 - (bL cs).length) (Value.int (0 : Int32))) h0 n0 Z0 nsb gs gb E F1 F2 F3 F4 B (iN_ne8 _ (by omega)) (by rw [en]; exact e24) (iN_lt8 _ (by omega)) (by rw [en, show (0 : Int32).toNatClampNeg = 0 from by decide, show ((8192 : Int32)).toNatClampNeg = 8192 from by decide]; omega) (CPT _ _ en (iN_neg _ (by omega)) e24) rfl X0 SC hcs) (fun _ hx => nomatch hx) (by rw [hml]; rfl) pd_33 rfl rfl (hb hby d18_4) rfl (by decide) (ble rfl) (ce' := 2) (sl' := 28) rfl rfl (by decide) (by decide) (fun v927 h928 hQ929 => ?_)
  obtain ⟨sa, a9, k9, rfl, g1, g2, K9, E9, f1, f2, V9⟩ := hQ929
  show Go _ _ _ _ _ _ _ _ _ _ _ _ _ _ _ _ _ _ _ _ 2 28 7 #[.val (.ref ho)] [(.ref sa)]
  refine Go.retA hx hret rfl (by rfl) hlk (hb hby d18_7) (by decide) (by decide) ?_
  exact ⟨sa, a9, k9, rfl, g1, g2, K9, E9, f1, f2, V9.pad (fun i => (pad_rep _ _ _ i).symm)⟩
theorem rmCB1 (l : Launch) (Z : State) (a0 : Array Value) (hw : ∀ d ∈ tables_1, d.before a0 Z = true) (hel : EW Z a0 consts_1) (b : Addr) (kb : ClassId) (n : Int32) (vs vr : List Value) (h0 : Heap) (n0 : Nat) (Z0 : n0 ≤ h0.size) (B : Arv Z h0 b kb .byte (16384 : Int32) vs (.int (0 : Int32))) (hcap : n.toNatClampNeg ≤ 24) (hm : n < (16384 : Int32)) (h4 : (0 : Int32).toNatClampNeg + n.toNatClampNeg ≤ ((16384 : Int32)).toNatClampNeg) (cp : CP (0 : Int32) n n vs (List.replicate 24 (Value.int (0 : Int32))) vr)  :
    Met l Z consts_1 [] (⟨"java/util/Arrays", "copyOfRangeByte", "([BII)[B"⟩ : MethodName) jdk_65_method_133_code 5 (Option.some (FieldType.array FieldType.byte)) [] ({ frames := 1, cells := 1, slots := 24, locals := 60 } : Room) #[(.ref b), (.int (0 : Int32)), (.int n)] h0 n0 (fun v h => ∃ a ka, v = some (.ref a) ∧ h0.size ≤ a ∧ Keep h0 h [] ∧ Arv Z h a ka .byte n vr (.int (0 : Int32))) := by
  refine Met.of (Ls0 := #[.val (.ref b), .val (.int (0 : Int32)), .val (.int n), .unset, .unset]) pl_39 (by first | (simp [argsToLocals, Value.category]; done) | rfl) hel ?_
  intro p e s m below meth c hx hby hml hret hlk hown hnm hZ
  refine Go.iloadN (q := 1) hx (hb hby d26_0) rfl rfl ?_
  refine Go.iloadN (q := 2) hx (hb hby d26_1) rfl rfl ?_
  refine Go.callS (q := 5) hx hZ (argsL := [(.int (0 : Int32)), (.int n)]) (rest := []) hown (tw hw 155 rfl) (tw hw 156 rfl) (tw hw 150 rfl) (tw hw 157 rfl) (by decide) (rmCLn l Z a0 hw hel n h0 n0 Z0 cp.2.1) (fun _ hx => nomatch hx) (by rw [hml]; rfl) pd_24 rfl rfl (hb hby d26_2) rfl (by decide) (ble rfl) (ce' := 0) (sl' := 0) rfl rfl (by decide) (by decide) (fun v930 h931 hQ932 => ?_)
  obtain ⟨rfl, rfl⟩ := hQ932
  show Go _ _ _ _ _ _ _ _ _ _ _ _ _ _ _ _ _ _ _ _ 0 0 5 #[.val (.ref b), .val (.int (0 : Int32)), .val (.int n), .unset, .unset] []
  refine Go.iloadN (q := 6) hx (hb hby d26_5) rfl rfl ?_
  refine Go.iloadN (q := 7) hx (hb hby d26_6) rfl rfl ?_
  refine Go.isub (q := 8) hx (hb hby d26_7) rfl ?_
  rw [Int32.sub_zero]
  refine Go.istoreN (q := 9) (l' := #[.val (.ref b), .val (.int (0 : Int32)), .val (.int n), .val (.int n), .unset]) hx (hb hby d26_8) rfl rfl ?_
  refine Go.iloadN (q := 10) hx (hb hby d26_9) rfl rfl ?_
  refine Go.newP (q := 12) (cap := 24) hx hZ (tw hw 7 rfl) cp.2.1 hcap (hb hby d26_10) rfl (by decide) (ce' := 1) (sl' := 24) rfl rfl (by decide) (by decide) (fun h933 a934 k935 g936 E937 A938 => ?_)
  have ne939 : b ≠ a934 := by rw [g936]; exact Nat.ne_of_lt (B).lt
  have gz940 : n0 ≤ a934 := by rw [g936]; exact Z0
  have gk941 : h0.size ≤ a934 := by rw [g936]; exact (Keep.refl h0 []).1
  refine Go.astore (q := 14) (l' := #[.val (.ref b), .val (.int (0 : Int32)), .val (.int n), .val (.int n), .val (.ref a934)]) hx (hb hby d26_12) (by rfl) rfl rfl ?_
  have V942 : Arv Z h933 a934 k935 .byte n (List.replicate 24 (Value.int (0 : Int32))) (.int (0 : Int32)) := (A938).pad (pad_rep [] (.int (0 : Int32)) 24)
  refine Go.aloadN (q := 15) hx (hb hby d26_14) rfl (by rfl) rfl ?_
  refine Go.iloadN (q := 16) hx (hb hby d26_15) rfl rfl ?_
  refine Go.aload (q := 18) hx (hb hby d26_16) rfl (by rfl) rfl ?_
  refine Go.iconst (q := 19) (z := (0 : Int32)) hx (hb hby d26_18) rfl rfl ?_
  refine Go.aloadN (q := 20) hx (hb hby d26_19) rfl (by rfl) rfl ?_
  refine Go.alen (q := 21) hx hZ (B.ext E937) (hb hby d26_20) rfl ?_
  refine Go.iloadN (q := 22) hx (hb hby d26_21) rfl rfl ?_
  refine Go.isub (q := 23) hx (hb hby d26_22) rfl ?_
  rw [show (16384 : Int32) - (0 : Int32) = (16384 : Int32) from by decide]
  refine Go.iloadN (q := 24) hx (hb hby d26_23) rfl rfl ?_
  refine Go.callS (q := 27) hx hZ (argsL := [(.int (16384 : Int32)), (.int n)]) (rest := [(.int (0 : Int32)), (.ref a934), (.int (0 : Int32)), (.ref b)]) hown (tw hw 158 rfl) (tw hw 159 rfl) (tw hw 160 rfl) (tw hw 161 rfl) (by decide) (rmMin l Z a0 hw hel (16384 : Int32) n h933 n0 (Nat.le_trans Z0 E937.1) hm) (fun _ hx => nomatch hx) (by rw [hml]; rfl) pd_28 rfl rfl (hb hby d26_24) rfl (by decide) (ble rfl) (ce' := 1) (sl' := 24) rfl rfl (by decide) (by decide) (fun v943 h944 hQ945 => ?_)
  obtain ⟨rfl, rfl⟩ := hQ945
  show Go _ _ _ _ _ _ _ _ _ _ _ _ _ _ _ _ _ _ _ _ 1 24 27 #[.val (.ref b), .val (.int (0 : Int32)), .val (.int n), .val (.int n), .val (.ref a934)] [(.int n), (.int (0 : Int32)), (.ref a934), (.int (0 : Int32)), (.ref b)]
  refine Go.acopy (q := 30) (us := _) (vr := vr) hx hZ hown (tw hw 162 rfl) (tw hw 96 rfl) (tw hw 94 rfl) (tw hw 95 rfl) (B.ext E937) V942 rfl (by decide) cp.1 cp.2.1 h4 cp.2.2.1 rfl cp.2.2.2.1 cp.2.2.2.2 gz940 (by simp) (by rw [hml]; rfl) (hb hby d26_27) rfl (by decide) (ble rfl) (fun h946 K947 V948 => ?_)
  refine Go.aload (q := 32) hx (hb hby d26_30) rfl (by rfl) rfl ?_
  refine Go.retA hx hret rfl (by rfl) hlk (hb hby d26_32) (by decide) (by decide) ?_
  exact ⟨a934, _, rfl, gk941, (Keep.trans ((Keep.refl h0 []).ext E937) K947 (allS (Or.inr gk941) all0)), V948⟩
theorem rmCR1 (l : Launch) (Z : State) (a0 : Array Value) (hw : ∀ d ∈ tables_1, d.before a0 Z = true) (hel : EW Z a0 consts_1) (b : Addr) (kb : ClassId) (n : Int32) (vs vr : List Value) (h0 : Heap) (n0 : Nat) (Z0 : n0 ≤ h0.size) (B : Arv Z h0 b kb .byte (16384 : Int32) vs (.int (0 : Int32))) (hne : ¬ n = (16384 : Int32)) (hcap : n.toNatClampNeg ≤ 24) (hm : n < (16384 : Int32)) (h4 : (0 : Int32).toNatClampNeg + n.toNatClampNeg ≤ ((16384 : Int32)).toNatClampNeg) (cp : CP (0 : Int32) n n vs (List.replicate 24 (Value.int (0 : Int32))) vr)  :
    Met l Z consts_1 [] (⟨"java/util/Arrays", "copyOfRange", "([BII)[B"⟩ : MethodName) jdk_65_method_132_code 3 (Option.some (FieldType.array FieldType.byte)) [] ({ frames := 2, cells := 1, slots := 24, locals := 82 } : Room) #[(.ref b), (.int (0 : Int32)), (.int n)] h0 n0 (fun v h => ∃ a ka, v = some (.ref a) ∧ h0.size ≤ a ∧ Keep h0 h [] ∧ Arv Z h a ka .byte n vr (.int (0 : Int32))) := by
  refine Met.of (Ls0 := #[.val (.ref b), .val (.int (0 : Int32)), .val (.int n)]) pl_40 (by first | (simp [argsToLocals, Value.category]; done) | rfl) hel ?_
  intro p e s m below meth c hx hby hml hret hlk hown hnm hZ
  refine Go.iloadN (q := 1) hx (hb hby d25_0) rfl rfl ?_
  refine Go.if_ne (q := 4) (t := 10) hx (hb hby d25_1) (by decide) rfl rfl (fun hc1 => absurd hc1 (by decide)) (fun hc1 => ?_)
  refine Go.iloadN (q := 5) hx (hb hby d25_4) rfl rfl ?_
  refine Go.aloadN (q := 6) hx (hb hby d25_5) rfl (by rfl) rfl ?_
  refine Go.alen (q := 7) hx hZ B (hb hby d25_6) rfl ?_
  refine Go.icmp_eq (q := 10) (t := 17) hx (hb hby d25_7) (by decide) rfl rfl (fun hc7 => absurd hc7 hne) (fun hc7 => ?_)
  refine Go.aloadN (q := 11) hx (hb hby d25_10) rfl (by rfl) rfl ?_
  refine Go.iloadN (q := 12) hx (hb hby d25_11) rfl rfl ?_
  refine Go.iloadN (q := 13) hx (hb hby d25_12) rfl rfl ?_
  refine Go.callS (q := 16) hx hZ (argsL := [(.ref b), (.int (0 : Int32)), (.int n)]) (rest := []) hown (tw hw 152 rfl) (tw hw 153 rfl) (tw hw 150 rfl) (tw hw 154 rfl) (by decide) (rmCB1 l Z a0 hw hel b kb n vs vr h0 n0 Z0 B hcap hm h4 cp) (fun _ hx => nomatch hx) (by rw [hml]; rfl) pd_29 rfl rfl (hb hby d25_13) rfl (by decide) (ble rfl) (ce' := 1) (sl' := 24) rfl rfl (by decide) (by decide) (fun v949 h950 hQ951 => ?_)
  obtain ⟨a9, k9, rfl, Y⟩ := hQ951
  show Go _ _ _ _ _ _ _ _ _ _ _ _ _ _ _ _ _ _ _ _ 1 24 16 #[.val (.ref b), .val (.int (0 : Int32)), .val (.int n)] [(.ref a9)]
  refine Go.retA hx hret rfl (by rfl) hlk (hb hby d25_16) (by decide) (by decide) ?_
  exact ⟨a9, k9, rfl, Y⟩
theorem rmS21 (l : Launch) (Z : State) (a0 : Array Value) (hw : ∀ d ∈ tables_1, d.before a0 Z = true) (hel : EW Z a0 consts_1) (sa : Addr) (sb b : Addr) (kb : ClassId) (cst mc n : Int32) (vs vr : List Value) (h0 : Heap) (n0 : Nat) (Z0 : n0 ≤ h0.size) (gsa : n0 ≤ sa) (nsas : sa ≠ sb) (nsab : sa ≠ b) (SE : Exa Z h0 sa "java/lang/String") (S1 : Fld Z h0 sa "java/lang/String" "value" "[B" .null) (S2 : Fld Z h0 sa "java/lang/String" "coder" "B" (.int (0 : Int32))) (nsb : sb ≠ b) (gs : n0 ≤ sb) (gb : n0 ≤ b) (E : Exa Z h0 sb "java/lang/StringBuilder") (F1 : Fld Z h0 sb "java/lang/AbstractStringBuilder" "value" "[B" (.ref b)) (F2 : Fld Z h0 sb "java/lang/AbstractStringBuilder" "coder" "B" (.int (1 : Int32))) (F3 : Fld Z h0 sb "java/lang/AbstractStringBuilder" "count" "I" (.int mc)) (F4 : Fld Z h0 sb "java/lang/AbstractStringBuilder" "maybeLatin1" "Z" (.int (0 : Int32))) (B : Arv Z h0 b kb .byte (16384 : Int32) vs (.int (0 : Int32))) (hne : ¬ n = (16384 : Int32)) (hcap : n.toNatClampNeg ≤ 24) (hm : n < (16384 : Int32)) (h4 : (0 : Int32).toNatClampNeg + n.toNatClampNeg ≤ ((16384 : Int32)).toNatClampNeg) (cp : CP (0 : Int32) n n vs (List.replicate 24 (Value.int (0 : Int32))) vr) (hn : mc <<< ((1 : Int32) &&& 31) = n) (X0 : Old Z n0 h0) (SC : Sta Z Z.heap "java/lang/String" "COMPACT_STRINGS" "Z" (.int cst)) (hcs : ¬ cst = (0 : Int32)) :
    Met l Z consts_1 [sa] (⟨"java/lang/String", "<init>", "(Ljava/lang/AbstractStringBuilder;Ljava/lang/Void;)V"⟩ : MethodName) jdk_42_method_150_code 5 (Option.none : Option FieldType) [] ({ frames := 3, cells := 1, slots := 24, locals := 102 } : Room) #[(.ref sa), (.ref sb), .null] h0 n0 (fun v h => v = none ∧ Keep h0 h [sa] ∧ ∃ a ka, h0.size ≤ a ∧ Fld Z h sa "java/lang/String" "value" "[B" (.ref a) ∧ Fld Z h sa "java/lang/String" "coder" "B" (.int (1 : Int32)) ∧ Arv Z h a ka .byte n vr (.int (0 : Int32))) := by
  refine Met.of (Ls0 := #[.val (.ref sa), .val (.ref sb), .val .null, .unset, .unset]) pl_41 (by first | (simp [argsToLocals, Value.category]; done) | rfl) hel ?_
  intro p e s m below meth c hx hby hml hret hlk hown hnm hZ
  refine Go.aloadN (q := 1) hx (hb hby d21_0) rfl (by rfl) rfl ?_
  refine Go.initO (q := 4) hx hZ hown (tw hw 133 rfl) (tw hw 19 rfl) (tw hw 20 rfl) (by rw [hml]; rfl) (hb hby d21_1) rfl (by decide) (ble rfl) ?_
  refine Go.aloadN (q := 5) hx (hb hby d21_4) rfl (by rfl) rfl ?_
  refine Go.callV (q := 8) hx hZ (a := sb) (argsL := []) (rest := []) hown (tw hw 134 rfl) (tw hw 135 rfl) (fun vm hzv => notFace_of_selects (args := #[]) (mvT hzv (tw hw 137 rfl))) (tw hw 137 rfl) (tw hw 136 rfl) (tw hw 31 rfl) (tw hw 138 rfl) (by decide) E (rmGV l Z a0 hw hel sb b h0 n0 Z0 F1) (fun _ hx => nomatch hx) (by rw [hml]; rfl) pd_30 rfl rfl (hb hby d21_5) rfl (by decide) (ble rfl) (ce' := 0) (sl' := 0) rfl rfl (by decide) (by decide) (fun v952 h953 hQ954 => ?_)
  obtain ⟨rfl, rfl⟩ := hQ954
  show Go _ _ _ _ _ _ _ _ _ _ _ _ _ _ _ _ _ _ _ _ 0 0 8 #[.val (.ref sa), .val (.ref sb), .val .null, .unset, .unset] [(.ref b)]
  refine Go.astoreN (q := 9) (l' := #[.val (.ref sa), .val (.ref sb), .val .null, .val (.ref b), .unset]) hx (hb hby d21_8) (by rfl) rfl rfl ?_
  refine Go.aloadN (q := 10) hx (hb hby d21_9) rfl (by rfl) rfl ?_
  refine Go.callV (q := 13) hx hZ (a := sb) (argsL := []) (rest := []) hown (tw hw 139 rfl) (tw hw 140 rfl) (fun vm hzv => own_nf (args := #[]) (z := (⟨"java/lang/AbstractStringBuilder", "getValue", "()[B"⟩ : MethodName)) rfl (mvT hzv (tw hw 137 rfl))) (tw hw 142 rfl) (tw hw 143 rfl) (tw hw 23 rfl) (tw hw 144 rfl) (by decide) E (rmL1 l Z a0 hw hel sb mc h0 n0 Z0 E F3) (fun _ hx => nomatch hx) (by rw [hml]; rfl) pd_16 rfl rfl (hb hby d21_10) rfl (by decide) (ble rfl) (ce' := 0) (sl' := 0) rfl rfl (by decide) (by decide) (fun v955 h956 hQ957 => ?_)
  obtain ⟨rfl, rfl⟩ := hQ957
  show Go _ _ _ _ _ _ _ _ _ _ _ _ _ _ _ _ _ _ _ _ 0 0 13 #[.val (.ref sa), .val (.ref sb), .val .null, .val (.ref b), .unset] [(.int mc)]
  refine Go.istore (q := 15) (l' := #[.val (.ref sa), .val (.ref sb), .val .null, .val (.ref b), .val (.int mc)]) hx (hb hby d21_13) rfl rfl ?_
  refine Go.aloadN (q := 16) hx (hb hby d21_15) rfl (by rfl) rfl ?_
  refine Go.callV (q := 19) hx hZ (a := sb) (argsL := []) (rest := []) hown (tw hw 147 rfl) (tw hw 107 rfl) (fun vm hzv => notFace_of_selects (args := #[]) (mvT hzv (tw hw 109 rfl))) (tw hw 109 rfl) (tw hw 108 rfl) (tw hw 31 rfl) (tw hw 110 rfl) (by decide) E (rmBL1 l Z a0 hw hel sb cst h0 n0 Z0 F2 X0 SC hcs) (fun _ hx => nomatch hx) (by rw [hml]; rfl) pd_22 rfl rfl (hb hby d21_16) rfl (by decide) (ble rfl) (ce' := 0) (sl' := 0) rfl rfl (by decide) (by decide) (fun v958 h959 hQ960 => ?_)
  obtain ⟨rfl, rfl⟩ := hQ960
  show Go _ _ _ _ _ _ _ _ _ _ _ _ _ _ _ _ _ _ _ _ 0 0 19 #[.val (.ref sa), .val (.ref sb), .val .null, .val (.ref b), .val (.int mc)] [(.int (0 : Int32))]
  refine Go.if_eq (q := 22) (t := 41) hx (hb hby d21_19) (by decide) rfl rfl (fun hc19 => ?_) (fun hc19 => absurd hc19 (by decide))
  refine Go.getS (q := 44) hx hZ hown (host := "") (Or.inl (tw hw 68 rfl)) Via.refl (Sta.ext X0.2 SC) (hb hby d21_41) rfl ?_
  refine Go.if_eq (q := 47) (t := 79) hx (hb hby d21_44) (by decide) rfl rfl (fun hc44 => absurd hc44 hcs) (fun hc44 => ?_)
  refine Go.aloadN (q := 48) hx (hb hby d21_47) rfl (by rfl) rfl ?_
  refine Go.getF (q := 51) hx hZ hown (host := "") (Or.inl (tw hw 256 rfl)) Via.refl F4 (hb hby d21_48) rfl ?_
  refine Go.if_eq (q := 54) (t := 79) hx (hb hby d21_51) (by decide) rfl rfl (fun hc51 => ?_) (fun hc51 => absurd hc51 (by decide))
  refine Go.aloadN (q := 80) hx (hb hby d21_79) rfl (by rfl) rfl ?_
  refine Go.iconst (q := 81) (z := (1 : Int32)) hx (hb hby d21_80) rfl rfl ?_
  refine Go.putF (q := 84) hx hZ hown (host := "") (Or.inl (tw hw 69 rfl)) Via.refl S2 SE (Or.inr ⟨(tw hw 9 rfl), rfl, hnm⟩) (tw hw 6 rfl) (ty := .byte) (by decide) rfl rfl gsa (by simp) (hb hby d21_81) rfl (fun h961 W962 => ?_)
  refine Go.aloadN (q := 85) hx (hb hby d21_84) rfl (by rfl) rfl ?_
  refine Go.aloadN (q := 86) hx (hb hby d21_85) rfl (by rfl) rfl ?_
  refine Go.iconst (q := 87) (z := (0 : Int32)) hx (hb hby d21_86) rfl rfl ?_
  refine Go.iload (q := 89) hx (hb hby d21_87) rfl rfl ?_
  refine Go.iconst (q := 90) (z := (1 : Int32)) hx (hb hby d21_89) rfl rfl ?_
  refine Go.ishl (q := 91) hx (hb hby d21_90) rfl ?_
  rw [hn]
  refine Go.callS (q := 94) hx hZ (argsL := [(.ref b), (.int (0 : Int32)), (.int n)]) (rest := [(.ref sa)]) hown (tw hw 148 rfl) (tw hw 149 rfl) (tw hw 150 rfl) (tw hw 151 rfl) (by decide) (rmCR1 l Z a0 hw hel b kb n vs vr h961 n0 (Nat.le_trans Z0 (Keep.of_wr W962).1) (B.other W962 nsab.symm) hne hcap hm h4 cp) (fun _ hx => nomatch hx) (by rw [hml]; rfl) pd_29 rfl rfl (hb hby d21_91) rfl (by decide) (ble rfl) (ce' := 1) (sl' := 24) rfl rfl (by decide) (by decide) (fun v963 h964 hQ965 => ?_)
  have gk966 := ((Keep.refl h0 [sa]).wr W962 (Or.inl (by simp))).1
  have gn967 := (Nat.le_trans Z0 (Keep.of_wr W962).1)
  have lt968 := ((B.other W962 nsab.symm)).lt
  have lt969 := ((Exa.wr W962 SE)).lt
  have lt970 := ((Exa.wr W962 E)).lt
  obtain ⟨a971, k972, rfl, g973, K974, V975⟩ := hQ965
  have ne976 : b ≠ a971 := Nat.ne_of_lt (Nat.lt_of_lt_of_le lt968 g973)
  have ne977 : sa ≠ a971 := Nat.ne_of_lt (Nat.lt_of_lt_of_le lt969 g973)
  have ne978 : sb ≠ a971 := Nat.ne_of_lt (Nat.lt_of_lt_of_le lt970 g973)
  have gz979 : n0 ≤ a971 := Nat.le_trans gn967 g973
  show Go _ _ _ _ _ _ _ _ _ _ _ _ _ _ _ _ _ _ _ _ 1 24 94 #[.val (.ref sa), .val (.ref sb), .val .null, .val (.ref b), .val (.int mc)] [(.ref a971), (.ref sa)]
  refine Go.putF (q := 97) hx hZ hown (host := "") (Or.inl (tw hw 62 rfl)) Via.refl ((Fld.other W962 S1 (Or.inr (slot_ne (C := "java/lang/String") (Or.inr (tw hw 8 rfl)) (Or.inr (tw hw 9 rfl)) (by decide) (by decide : _ = some (.array .byte)) (by decide : _ = some .byte)))).keep K974 nin0) ((Exa.wr W962 SE).keep K974) (Or.inr ⟨(tw hw 8 rfl), rfl, hnm⟩) (tw hw 6 rfl) (ty := (.array .byte)) (by decide) rfl rfl gsa (by simp) (hb hby d21_94) rfl (fun h980 W981 => ?_)
  refine Go.ret0 hx hret hlk (hb hby d21_97) (by decide) (by decide) ?_
  exact ⟨rfl, ((Keep.trans ((Keep.refl h0 [sa]).wr W962 (Or.inl (by simp))) K974 all0).wr W981 (Or.inl (by simp))), a971, k972, (Nat.le_trans gk966 g973), (Fld.same W981 ((Fld.other W962 S1 (Or.inr (slot_ne (C := "java/lang/String") (Or.inr (tw hw 8 rfl)) (Or.inr (tw hw 9 rfl)) (by decide) (by decide : _ = some (.array .byte)) (by decide : _ = some .byte)))).keep K974 nin0)), (Fld.other W981 ((Fld.same W962 S2).keep K974 nin0) (Or.inr (slot_ne (C := "java/lang/String") (Or.inr (tw hw 9 rfl)) (Or.inr (tw hw 8 rfl)) (by decide) (by decide : _ = some .byte) (by decide : _ = some (.array .byte))))), (V975.other W981 ne977.symm)⟩
theorem rmS11 (l : Launch) (Z : State) (a0 : Array Value) (hw : ∀ d ∈ tables_1, d.before a0 Z = true) (hel : EW Z a0 consts_1) (sa : Addr) (sb b : Addr) (kb : ClassId) (cst mc n : Int32) (vs vr : List Value) (h0 : Heap) (n0 : Nat) (Z0 : n0 ≤ h0.size) (gsa : n0 ≤ sa) (nsas : sa ≠ sb) (nsab : sa ≠ b) (SE : Exa Z h0 sa "java/lang/String") (S1 : Fld Z h0 sa "java/lang/String" "value" "[B" .null) (S2 : Fld Z h0 sa "java/lang/String" "coder" "B" (.int (0 : Int32))) (nsb : sb ≠ b) (gs : n0 ≤ sb) (gb : n0 ≤ b) (E : Exa Z h0 sb "java/lang/StringBuilder") (F1 : Fld Z h0 sb "java/lang/AbstractStringBuilder" "value" "[B" (.ref b)) (F2 : Fld Z h0 sb "java/lang/AbstractStringBuilder" "coder" "B" (.int (1 : Int32))) (F3 : Fld Z h0 sb "java/lang/AbstractStringBuilder" "count" "I" (.int mc)) (F4 : Fld Z h0 sb "java/lang/AbstractStringBuilder" "maybeLatin1" "Z" (.int (0 : Int32))) (B : Arv Z h0 b kb .byte (16384 : Int32) vs (.int (0 : Int32))) (hne : ¬ n = (16384 : Int32)) (hcap : n.toNatClampNeg ≤ 24) (hm : n < (16384 : Int32)) (h4 : (0 : Int32).toNatClampNeg + n.toNatClampNeg ≤ ((16384 : Int32)).toNatClampNeg) (cp : CP (0 : Int32) n n vs (List.replicate 24 (Value.int (0 : Int32))) vr) (hn : mc <<< ((1 : Int32) &&& 31) = n) (X0 : Old Z n0 h0) (SC : Sta Z Z.heap "java/lang/String" "COMPACT_STRINGS" "Z" (.int cst)) (hcs : ¬ cst = (0 : Int32)) :
    Met l Z consts_1 [sa] (⟨"java/lang/String", "<init>", "(Ljava/lang/StringBuilder;)V"⟩ : MethodName) jdk_42_method_53_code 2 (Option.none : Option FieldType) [] ({ frames := 4, cells := 1, slots := 24, locals := 124 } : Room) #[(.ref sa), (.ref sb)] h0 n0 (fun v h => v = none ∧ Keep h0 h [sa] ∧ ∃ a ka, h0.size ≤ a ∧ Fld Z h sa "java/lang/String" "value" "[B" (.ref a) ∧ Fld Z h sa "java/lang/String" "coder" "B" (.int (1 : Int32)) ∧ Arv Z h a ka .byte n vr (.int (0 : Int32))) := by
  refine Met.of (Ls0 := #[.val (.ref sa), .val (.ref sb)]) pl_42 (by first | (simp [argsToLocals, Value.category]; done) | rfl) hel ?_
  intro p e s m below meth c hx hby hml hret hlk hown hnm hZ
  refine Go.aloadN (q := 1) hx (hb hby d20_0) rfl (by rfl) rfl ?_
  refine Go.aloadN (q := 2) hx (hb hby d20_1) rfl (by rfl) rfl ?_
  refine Go.aconstNull (q := 3) hx (hb hby d20_2) rfl ?_
  refine Go.callI (q := 6) hx hZ (a := sa) (argsL := [(.ref sb), .null]) (rest := []) hown rfl (tw hw 130 rfl) (tw hw 131 rfl) (tw hw 5 rfl) (tw hw 132 rfl) (by decide) (rmS21 l Z a0 hw hel sa sb b kb cst mc n vs vr h0 n0 Z0 gsa nsas nsab SE S1 S2 nsb gs gb E F1 F2 F3 F4 B hne hcap hm h4 cp hn X0 SC hcs) (by simp) (by rw [hml]; rfl) pd_31 rfl rfl (hb hby d20_3) rfl (by decide) (ble rfl) (ce' := 1) (sl' := 24) rfl rfl (by decide) (by decide) (fun v982 h983 hQ984 => ?_)
  obtain ⟨rfl, Y⟩ := hQ984
  show Go _ _ _ _ _ _ _ _ _ _ _ _ _ _ _ _ _ _ _ _ 1 24 6 #[.val (.ref sa), .val (.ref sb)] []
  refine Go.ret0 hx hret hlk (hb hby d20_6) (by decide) (by decide) ?_
  exact ⟨rfl, Y⟩
theorem rmTS1 (l : Launch) (Z : State) (a0 : Array Value) (hw : ∀ d ∈ tables_1, d.before a0 Z = true) (hel : EW Z a0 consts_1) (sb b : Addr) (kb : ClassId) (cst mc n : Int32) (vs vr : List Value) (h0 : Heap) (n0 : Nat) (Z0 : n0 ≤ h0.size) (nsb : sb ≠ b) (gs : n0 ≤ sb) (gb : n0 ≤ b) (E : Exa Z h0 sb "java/lang/StringBuilder") (F1 : Fld Z h0 sb "java/lang/AbstractStringBuilder" "value" "[B" (.ref b)) (F2 : Fld Z h0 sb "java/lang/AbstractStringBuilder" "coder" "B" (.int (1 : Int32))) (F3 : Fld Z h0 sb "java/lang/AbstractStringBuilder" "count" "I" (.int mc)) (F4 : Fld Z h0 sb "java/lang/AbstractStringBuilder" "maybeLatin1" "Z" (.int (0 : Int32))) (B : Arv Z h0 b kb .byte (16384 : Int32) vs (.int (0 : Int32))) (hne : ¬ n = (16384 : Int32)) (hcap : n.toNatClampNeg ≤ 24) (hm : n < (16384 : Int32)) (h4 : (0 : Int32).toNatClampNeg + n.toNatClampNeg ≤ ((16384 : Int32)).toNatClampNeg) (cp : CP (0 : Int32) n n vs (List.replicate 24 (Value.int (0 : Int32))) vr) (hn : mc <<< ((1 : Int32) &&& 31) = n) (X0 : Old Z n0 h0) (SC : Sta Z Z.heap "java/lang/String" "COMPACT_STRINGS" "Z" (.int cst)) (hcs : ¬ cst = (0 : Int32)) :
    Met l Z consts_1 [] (⟨"java/lang/StringBuilder", "toString", "()Ljava/lang/String;"⟩ : MethodName) jdk_67_method_42_code 1 (Option.some (FieldType.object "java/lang/String")) [] ({ frames := 5, cells := 2, slots := 28, locals := 143 } : Room) #[(.ref sb)] h0 n0 (fun v h => ∃ sa a ka, v = some (.ref sa) ∧ h0.size ≤ sa ∧ h0.size ≤ a ∧ Keep h0 h [] ∧ Exa Z h sa "java/lang/String" ∧ Fld Z h sa "java/lang/String" "value" "[B" (.ref a) ∧ Fld Z h sa "java/lang/String" "coder" "B" (.int (1 : Int32)) ∧ Arv Z h a ka .byte n vr (.int (0 : Int32))) := by
  refine Met.of (Ls0 := #[.val (.ref sb)]) pl_43 (by first | (simp [argsToLocals, Value.category]; done) | rfl) hel ?_
  intro p e s m below meth c hx hby hml hret hlk hown hnm hZ
  refine Go.newO (q := 3) hx hZ hown (tw hw 125 rfl) (tw hw 6 rfl) (tw hw 5 rfl) (hb hby d19_0) rfl (ce' := 1) (sl' := 4) rfl rfl (by decide) (by decide) (fun h985 a986 g987 E988 A989 D990 => ?_)
  have ne991 : b ≠ a986 := by rw [g987]; exact Nat.ne_of_lt (B).lt
  have ne992 : sb ≠ a986 := by rw [g987]; exact Nat.ne_of_lt (E).lt
  have gz993 : n0 ≤ a986 := by rw [g987]; exact Z0
  have gk994 : h0.size ≤ a986 := by rw [g987]; exact (Keep.refl h0 []).1
  refine Go.dup (q := 4) hx (hb hby d19_3) rfl rfl ?_
  refine Go.aloadN (q := 5) hx (hb hby d19_4) rfl (by rfl) rfl ?_
  refine Go.callI (q := 8) hx hZ (a := a986) (argsL := [(.ref sb)]) (rest := [(.ref a986)]) hown rfl (tw hw 126 rfl) (tw hw 127 rfl) (tw hw 5 rfl) (tw hw 129 rfl) (by decide) (rmS11 l Z a0 hw hel a986 sb b kb cst mc n vs vr h985 n0 (Nat.le_trans Z0 E988.1) gz993 ne992.symm ne991.symm A989 (D990 (Or.inr (tw hw 8 rfl)) (ty := (.array .byte)) (by decide)) (D990 (Or.inr (tw hw 9 rfl)) (ty := .byte) (by decide)) nsb gs gb (Exa.ext E988 E) (Fld.ext E988 F1) (Fld.ext E988 F2) (Fld.ext E988 F3) (Fld.ext E988 F4) (B.ext E988) hne hcap hm h4 cp hn (X0.ext E988) SC hcs) (by simp) (by rw [hml]; rfl) pd_32 rfl rfl (hb hby d19_5) rfl (by decide) (ble rfl) (ce' := 2) (sl' := 28) rfl rfl (by decide) (by decide) (fun v995 h996 hQ997 => ?_)
  have gk998 := ((Keep.refl h0 []).ext E988).1
  obtain ⟨rfl, K1002, a999, k1000, g1001, F1004, F1005, V1003⟩ := hQ997
  show Go _ _ _ _ _ _ _ _ _ _ _ _ _ _ _ _ _ _ _ _ 2 28 8 #[.val (.ref sb)] [(.ref a986)]
  refine Go.retA hx hret rfl (by rfl) hlk (hb hby d19_8) (by decide) (by decide) ?_
  exact ⟨a986, a999, k1000, rfl, gk994, (Nat.le_trans gk998 g1001), (Keep.trans ((Keep.refl h0 []).ext E988) K1002 (allS (Or.inr gk994) all0)), (A989.keep K1002), F1004, F1005, V1003⟩
theorem rmHS1 (l : Launch) (Z : State) (a0 : Array Value) (hw : ∀ d ∈ tables_1, d.before a0 Z = true) (hel : EW Z a0 consts_1) (ho : Addr) (sb b : Addr) (kb : ClassId) (cst : Int32) (cs : List Int32) (h0 : Heap) (n0 : Nat) (Z0 : n0 ≤ h0.size) (FO : Fld Z h0 ho "com/example/clear_recall/clearrecall/web/Html" "out" "Ljava/lang/StringBuilder;" (.ref sb)) (nsb : sb ≠ b) (gs : n0 ≤ sb) (gb : n0 ≤ b) (S : SBf Z h0 sb b kb 1 cs) (h12 : cs.length ≤ 12) (X0 : Old Z n0 h0) (SC : Sta Z Z.heap "java/lang/String" "COMPACT_STRINGS" "Z" (.int cst)) (hcs : ¬ cst = (0 : Int32)) :
    Met l Z consts_1 [] (⟨"com/example/clear_recall/clearrecall/web/Html", "toString", "()Ljava/lang/String;"⟩ : MethodName) prog_19_method_7_code 1 (Option.some (FieldType.object "java/lang/String")) [] ({ frames := 6, cells := 2, slots := 28, locals := 161 } : Room) #[(.ref ho)] h0 n0 (fun v h => ∃ sa a ka, v = some (.ref sa) ∧ h0.size ≤ sa ∧ h0.size ≤ a ∧ Keep h0 h [] ∧ STf Z h sa a ka 1 cs) := by
  refine Met.of (Ls0 := #[.val (.ref ho)]) pl_44 (by first | (simp [argsToLocals, Value.category]; done) | rfl) hel ?_
  intro p e s m below meth c hx hby hml hret hlk hown hnm hZ
  obtain ⟨E, F1, F2, F3, F4, B⟩ := S
  refine Go.aloadN (q := 1) hx (hb hby d18_0) rfl (by rfl) rfl ?_
  refine Go.getF (q := 4) hx hZ hown (host := "") (Or.inl (tw hw 39 rfl)) Via.refl FO (hb hby d18_1) rfl ?_
  have en : (iN (2 * cs.length)).toNatClampNeg = (bU cs).length := by rw [iN_nat _ (by omega), bU_len]
  have e24 : (bU cs).length ≤ 24 := by rw [bU_len]; omega
  refine Go.callV (q := 7) hx hZ (a := sb) (argsL := []) (rest := []) hown (tw hw 120 rfl) (tw hw 121 rfl) (fun vm hzv => notFace_of_selects (args := #[]) (mvT hzv (tw hw 123 rfl))) (tw hw 123 rfl) (tw hw 122 rfl) (tw hw 23 rfl) (tw hw 124 rfl) (by decide) E (rmTS1 l Z a0 hw hel sb b kb cst (iN cs.length) (iN (2 * cs.length)) (bU cs) ((bU cs) ++ List.replicate (24 - (bU cs).length) (Value.int (0 : Int32))) h0 n0 Z0 nsb gs gb E F1 F2 F3 F4 B (iN_ne16 _ (by omega)) (by rw [en]; exact e24) (iN_lt16 _ (by omega)) (by rw [en, show (0 : Int32).toNatClampNeg = 0 from by decide, show ((16384 : Int32)).toNatClampNeg = 16384 from by decide]; omega) (CPT _ _ en (iN_neg _ (by omega)) e24) (iN_shl _ (by omega)) X0 SC hcs) (fun _ hx => nomatch hx) (by rw [hml]; rfl) pd_33 rfl rfl (hb hby d18_4) rfl (by decide) (ble rfl) (ce' := 2) (sl' := 28) rfl rfl (by decide) (by decide) (fun v1006 h1007 hQ1008 => ?_)
  obtain ⟨sa, a9, k9, rfl, g1, g2, K9, E9, f1, f2, V9⟩ := hQ1008
  show Go _ _ _ _ _ _ _ _ _ _ _ _ _ _ _ _ _ _ _ _ 2 28 7 #[.val (.ref ho)] [(.ref sa)]
  refine Go.retA hx hret rfl (by rfl) hlk (hb hby d18_7) (by decide) (by decide) ?_
  exact ⟨sa, a9, k9, rfl, g1, g2, K9, E9, f1, f2, V9.pad (fun i => (pad_rep _ _ _ i).symm)⟩
theorem rmHS (l : Launch) (Z : State) (a0 : Array Value) (hw : ∀ d ∈ tables_1, d.before a0 Z = true) (hel : EW Z a0 consts_1) (ho : Addr) (sb b : Addr) (kb : ClassId) (cst : Int32) (cd : Nat) (cs : List Int32) (h0 : Heap) (n0 : Nat) (Z0 : n0 ≤ h0.size) (FO : Fld Z h0 ho "com/example/clear_recall/clearrecall/web/Html" "out" "Ljava/lang/StringBuilder;" (.ref sb)) (nsb : sb ≠ b) (gs : n0 ≤ sb) (gb : n0 ≤ b) (S : SBf Z h0 sb b kb cd cs) (h12 : cs.length ≤ 12) (ok : OKc cd cs) (X0 : Old Z n0 h0) (SC : Sta Z Z.heap "java/lang/String" "COMPACT_STRINGS" "Z" (.int cst)) (hcs : ¬ cst = (0 : Int32)) :
    Met l Z consts_1 [] (⟨"com/example/clear_recall/clearrecall/web/Html", "toString", "()Ljava/lang/String;"⟩ : MethodName) prog_19_method_7_code 1 (Option.some (FieldType.object "java/lang/String")) [] ({ frames := 6, cells := 2, slots := 28, locals := 161 } : Room) #[(.ref ho)] h0 n0 (fun v h => ∃ sa a ka, v = some (.ref sa) ∧ h0.size ≤ sa ∧ h0.size ≤ a ∧ Keep h0 h [] ∧ STf Z h sa a ka cd cs) := by
  rcases ok.2 with ⟨rfl, _⟩ | rfl
  · exact rmHS0 l Z a0 hw hel ho sb b kb cst cs h0 n0 Z0 FO nsb gs gb S h12 X0 SC hcs
  · exact rmHS1 l Z a0 hw hel ho sb b kb cst cs h0 n0 Z0 FO nsb gs gb S h12 X0 SC hcs
abbrev Rd0 (zt i cc : Int32) (es : List Value) : Prop := ¬ i < 0 ∧ i < zt ∧ es.getD i.toNatClampNeg (.int (0 : Int32)) = .int (nar .byte cc.toInt8.toInt32) ∧ Chr cc ∧ ¬ (255 : Int32) < cc
abbrev Rd1 (zt i cc : Int32) (es : List Value) : Prop := ∃ n j : Int32, zt >>> ((1 : Int32) &&& 31) = n ∧ ¬ i < 0 ∧ i < n ∧ i <<< ((1 : Int32) &&& 31) = j ∧ (¬ j < 0 ∧ j < zt) ∧ (¬ j + (1 : Int32) < 0 ∧ j + (1 : Int32) < zt) ∧ es.getD j.toNatClampNeg (.int (0 : Int32)) = .int (nar .byte (cc >>> ((0 : Int32) &&& 31)).toInt8.toInt32) ∧ es.getD (j + (1 : Int32)).toNatClampNeg (.int (0 : Int32)) = .int (nar .byte (cc >>> ((8 : Int32) &&& 31)).toInt8.toInt32) ∧ Chr cc
theorem d32_0 : decode jdk_43_method_2_code 0 = .ok (.iload_n 1, 1) := by decide +kernel
theorem d32_1 : decode jdk_43_method_2_code 1 = .ok (.aload_n 0, 1) := by decide +kernel
theorem d32_2 : decode jdk_43_method_2_code 2 = .ok (.arraylength, 1) := by decide +kernel
theorem d32_3 : decode jdk_43_method_2_code 3 = .ok (.invokestatic 9, 3) := by decide +kernel
theorem d32_6 : decode jdk_43_method_2_code 6 = .ok (.aload_n 0, 1) := by decide +kernel
theorem d32_7 : decode jdk_43_method_2_code 7 = .ok (.iload_n 1, 1) := by decide +kernel
theorem d32_8 : decode jdk_43_method_2_code 8 = .ok (.baload, 1) := by decide +kernel
theorem d32_9 : decode jdk_43_method_2_code 9 = .ok (.sipush 255, 3) := by decide +kernel
theorem d32_12 : decode jdk_43_method_2_code 12 = .ok (.iand, 1) := by decide +kernel
theorem d32_13 : decode jdk_43_method_2_code 13 = .ok (.i2c, 1) := by decide +kernel
theorem d32_14 : decode jdk_43_method_2_code 14 = .ok (.ireturn, 1) := by decide +kernel
theorem pl_45 : plainFor (⟨"java/lang/StringLatin1", "charAt", "([BI)C"⟩ : MethodName) = true := plainFor_of_name (by first | (simp [plainName, overriddenIn]; done) | decide +kernel)
theorem rmLC (l : Launch) (Z : State) (a0 : Array Value) (hw : ∀ d ∈ tables_1, d.before a0 Z = true) (hel : EW Z a0 consts_1) (tb : Addr) (kt : ClassId) (zt i cc : Int32) (es : List Value) (fv : Value) (h0 : Heap) (n0 : Nat) (Z0 : n0 ≤ h0.size) (TB : Arv Z h0 tb kt .byte zt es (.int (0 : Int32))) (rd : Rd0 zt i cc es) (X0 : Old Z n0 h0) (PF : Sta Z Z.heap "jdk/internal/util/Preconditions" "SIOOBE_FORMATTER" "Ljava/util/function/BiFunction;" fv) (hfv : fv.isRef = true) :
    Met l Z consts_1 [] (⟨"java/lang/StringLatin1", "charAt", "([BI)C"⟩ : MethodName) jdk_43_method_2_code 2 (Option.some FieldType.char) [] ({ frames := 2, cells := 0, slots := 0, locals := 39 } : Room) #[(.ref tb), (.int i)] h0 n0 (fun v h => v = some (.int cc) ∧ h0 = h) := by
  refine Met.of (Ls0 := #[.val (.ref tb), .val (.int i)]) pl_45 (by first | (simp [argsToLocals, Value.category]; done) | rfl) hel ?_
  intro p e s m below meth c hx hby hml hret hlk hown hnm hZ
  refine Go.iloadN (q := 1) hx (hb hby d32_0) rfl rfl ?_
  refine Go.aloadN (q := 2) hx (hb hby d32_1) rfl (by rfl) rfl ?_
  refine Go.alen (q := 3) hx hZ TB (hb hby d32_2) rfl ?_
  refine Go.callS (q := 6) hx hZ (argsL := [(.int i), (.int zt)]) (rest := []) hown (tw hw 180 rfl) (tw hw 181 rfl) (tw hw 5 rfl) (tw hw 182 rfl) (by decide) (rmX l Z a0 hw hel i zt fv h0 n0 Z0 rd.1 rd.2.1 X0 PF hfv) (fun _ hx => nomatch hx) (by rw [hml]; rfl) pd_24 rfl rfl (hb hby d32_3) rfl (by decide) (ble rfl) (ce' := 0) (sl' := 0) rfl rfl (by decide) (by decide) (fun v1009 h1010 hQ1011 => ?_)
  obtain ⟨rfl, rfl⟩ := hQ1011
  show Go _ _ _ _ _ _ _ _ _ _ _ _ _ _ _ _ _ _ _ _ 0 0 6 #[.val (.ref tb), .val (.int i)] []
  refine Go.aloadN (q := 7) hx (hb hby d32_6) rfl (by rfl) rfl ?_
  refine Go.iloadN (q := 8) hx (hb hby d32_7) rfl rfl ?_
  refine Go.baload (q := 9) (v := (.int (nar .byte cc.toInt8.toInt32))) hx hZ TB ⟨rd.1, rd.2.1⟩ rd.2.2.1 (hb hby d32_8) rfl ?_
  refine Go.sipush (q := 12) (z := (255 : Int32)) hx (hb hby d32_9) rfl rfl ?_
  refine Go.iand (q := 13) hx (hb hby d32_12) rfl ?_
  refine Go.i2c (q := 14) hx (hb hby d32_13) rfl ?_
  refine Go.retN hx (t := .char) hret (by simp) hlk (hb hby d32_14) (by decide) (by decide) ?_
  exact ⟨congrArg (fun z => some (Value.int z)) (lat_ok rd.2.2.2.1 rd.2.2.2.2), rfl⟩
theorem d54_0 : decode jdk_52_method_83_code 0 = .ok (.iload_n 1, 1) := by decide +kernel
theorem d54_1 : decode jdk_52_method_83_code 1 = .ok (.aload_n 0, 1) := by decide +kernel
theorem d54_2 : decode jdk_52_method_83_code 2 = .ok (.invokestatic 67, 3) := by decide +kernel
theorem d54_5 : decode jdk_52_method_83_code 5 = .ok (.aload_n 0, 1) := by decide +kernel
theorem d54_6 : decode jdk_52_method_83_code 6 = .ok (.iload_n 1, 1) := by decide +kernel
theorem d54_7 : decode jdk_52_method_83_code 7 = .ok (.invokestatic 71, 3) := by decide +kernel
theorem d54_10 : decode jdk_52_method_83_code 10 = .ok (.ireturn, 1) := by decide +kernel
theorem pl_46 : plainFor (⟨"java/lang/StringUTF16", "charAt", "([BI)C"⟩ : MethodName) = true := plainFor_of_name (by first | (simp [plainName, overriddenIn]; done) | decide +kernel)
theorem rmUC (l : Launch) (Z : State) (a0 : Array Value) (hw : ∀ d ∈ tables_1, d.before a0 Z = true) (hel : EW Z a0 consts_1) (tb : Addr) (kt : ClassId) (zt i cc : Int32) (es : List Value) (fv : Value) (h0 : Heap) (n0 : Nat) (Z0 : n0 ≤ h0.size) (TB : Arv Z h0 tb kt .byte zt es (.int (0 : Int32))) (rd : Rd1 zt i cc es) (X0 : Old Z n0 h0) (AD : Sta Z Z.heap "java/lang/StringUTF16" "$assertionsDisabled" "Z" (.int (1 : Int32))) (HB : Sta Z Z.heap "java/lang/StringUTF16" "HI_BYTE_SHIFT" "I" (.int (0 : Int32))) (LB : Sta Z Z.heap "java/lang/StringUTF16" "LO_BYTE_SHIFT" "I" (.int (8 : Int32))) (PF : Sta Z Z.heap "jdk/internal/util/Preconditions" "SIOOBE_FORMATTER" "Ljava/util/function/BiFunction;" fv) (hfv : fv.isRef = true) :
    Met l Z consts_1 [] (⟨"java/lang/StringUTF16", "charAt", "([BI)C"⟩ : MethodName) jdk_52_method_83_code 2 (Option.some FieldType.char) [] ({ frames := 3, cells := 0, slots := 0, locals := 58 } : Room) #[(.ref tb), (.int i)] h0 n0 (fun v h => v = some (.int cc) ∧ h0 = h) := by
  refine Met.of (Ls0 := #[.val (.ref tb), .val (.int i)]) pl_46 (by first | (simp [argsToLocals, Value.category]; done) | rfl) hel ?_
  intro p e s m below meth c hx hby hml hret hlk hown hnm hZ
  obtain ⟨n, j, r1, r2, r3, r4, r5, r6, r7, r8, r9⟩ := rd
  refine Go.iloadN (q := 1) hx (hb hby d54_0) rfl rfl ?_
  refine Go.aloadN (q := 2) hx (hb hby d54_1) rfl (by rfl) rfl ?_
  refine Go.callS (q := 5) hx hZ (argsL := [(.int i), (.ref tb)]) (rest := []) hown (tw hw 252 rfl) (tw hw 253 rfl) (tw hw 198 rfl) (tw hw 254 rfl) (by decide) (rmUI l Z a0 hw hel i tb kt zt n es fv h0 n0 Z0 TB r1 r2 r3 X0 PF hfv) (fun _ hx => nomatch hx) (by rw [hml]; rfl) pd_25 rfl rfl (hb hby d54_2) rfl (by decide) (ble rfl) (ce' := 0) (sl' := 0) rfl rfl (by decide) (by decide) (fun v1012 h1013 hQ1014 => ?_)
  obtain ⟨rfl, rfl⟩ := hQ1014
  show Go _ _ _ _ _ _ _ _ _ _ _ _ _ _ _ _ _ _ _ _ 0 0 5 #[.val (.ref tb), .val (.int i)] []
  refine Go.aloadN (q := 6) hx (hb hby d54_5) rfl (by rfl) rfl ?_
  refine Go.iloadN (q := 7) hx (hb hby d54_6) rfl rfl ?_
  refine Go.callS (q := 10) hx hZ (argsL := [(.ref tb), (.int i)]) (rest := []) hown (tw hw 222 rfl) (tw hw 223 rfl) (tw hw 198 rfl) (tw hw 224 rfl) (by decide) (rmGet l Z a0 hw hel tb kt zt i j cc es h0 n0 Z0 TB r4 r5 r6 r7 r8 r9 X0 AD HB LB) (fun _ hx => nomatch hx) (by rw [hml]; rfl) pd_2 rfl rfl (hb hby d54_7) rfl (by decide) (ble rfl) (ce' := 0) (sl' := 0) rfl rfl (by decide) (by decide) (fun v1015 h1016 hQ1017 => ?_)
  obtain ⟨rfl, rfl⟩ := hQ1017
  show Go _ _ _ _ _ _ _ _ _ _ _ _ _ _ _ _ _ _ _ _ 0 0 10 #[.val (.ref tb), .val (.int i)] [(.int cc)]
  refine Go.retN hx (t := .char) hret (by simp) hlk (hb hby d54_10) (by decide) (by decide) ?_
  exact ⟨congrArg (fun z => some (Value.int z)) (nar_chr r9), rfl⟩
theorem d30_0 : decode jdk_42_method_56_code 0 = .ok (.aload_n 0, 1) := by decide +kernel
theorem d30_1 : decode jdk_42_method_56_code 1 = .ok (.invokevirtual 492, 3) := by decide +kernel
theorem d30_4 : decode jdk_42_method_56_code 4 = .ok (.ifCond .eq 12, 3) := by decide +kernel
theorem d30_7 : decode jdk_42_method_56_code 7 = .ok (.aload_n 0, 1) := by decide +kernel
theorem d30_8 : decode jdk_42_method_56_code 8 = .ok (.getfield 9, 3) := by decide +kernel
theorem d30_11 : decode jdk_42_method_56_code 11 = .ok (.iload_n 1, 1) := by decide +kernel
theorem d30_12 : decode jdk_42_method_56_code 12 = .ok (.invokestatic 495, 3) := by decide +kernel
theorem d30_15 : decode jdk_42_method_56_code 15 = .ok (.ireturn, 1) := by decide +kernel
theorem d30_16 : decode jdk_42_method_56_code 16 = .ok (.aload_n 0, 1) := by decide +kernel
theorem d30_17 : decode jdk_42_method_56_code 17 = .ok (.getfield 9, 3) := by decide +kernel
theorem d30_20 : decode jdk_42_method_56_code 20 = .ok (.iload_n 1, 1) := by decide +kernel
theorem d30_21 : decode jdk_42_method_56_code 21 = .ok (.invokestatic 498, 3) := by decide +kernel
theorem d30_24 : decode jdk_42_method_56_code 24 = .ok (.ireturn, 1) := by decide +kernel
theorem pl_47 : plainFor (⟨"java/lang/String", "charAt", "(I)C"⟩ : MethodName) = true := plainFor_of_name (by first | (simp [plainName, overriddenIn]; done) | decide +kernel)
theorem rmCh0 (l : Launch) (Z : State) (a0 : Array Value) (hw : ∀ d ∈ tables_1, d.before a0 Z = true) (hel : EW Z a0 consts_1) (ts tb : Addr) (kt : ClassId) (cst : Int32) (fv : Value) (zt i cc : Int32) (es : List Value) (h0 : Heap) (n0 : Nat) (Z0 : n0 ≤ h0.size) (TE : Exa Z h0 ts "java/lang/String") (T1 : Fld Z h0 ts "java/lang/String" "value" "[B" (.ref tb)) (T2 : Fld Z h0 ts "java/lang/String" "coder" "B" (.int (0 : Int32))) (TB : Arv Z h0 tb kt .byte zt es (.int (0 : Int32))) (rd : Rd0 zt i cc es) (X0 : Old Z n0 h0) (SC : Sta Z Z.heap "java/lang/String" "COMPACT_STRINGS" "Z" (.int cst)) (hcs : ¬ cst = (0 : Int32)) (AD : Sta Z Z.heap "java/lang/StringUTF16" "$assertionsDisabled" "Z" (.int (1 : Int32))) (HB : Sta Z Z.heap "java/lang/StringUTF16" "HI_BYTE_SHIFT" "I" (.int (0 : Int32))) (LB : Sta Z Z.heap "java/lang/StringUTF16" "LO_BYTE_SHIFT" "I" (.int (8 : Int32))) (PF : Sta Z Z.heap "jdk/internal/util/Preconditions" "SIOOBE_FORMATTER" "Ljava/util/function/BiFunction;" fv) (hfv : fv.isRef = true) :
    Met l Z consts_1 [] (⟨"java/lang/String", "charAt", "(I)C"⟩ : MethodName) jdk_42_method_56_code 2 (Option.some FieldType.char) [] ({ frames := 4, cells := 0, slots := 0, locals := 77 } : Room) #[(.ref ts), (.int i)] h0 n0 (fun v h => v = some (.int cc) ∧ h0 = h) := by
  refine Met.of (Ls0 := #[.val (.ref ts), .val (.int i)]) pl_47 (by first | (simp [argsToLocals, Value.category]; done) | rfl) hel ?_
  intro p e s m below meth c hx hby hml hret hlk hown hnm hZ
  refine Go.aloadN (q := 1) hx (hb hby d30_0) rfl (by rfl) rfl ?_
  refine Go.callV (q := 4) hx hZ (a := ts) (argsL := []) (rest := []) hown (tw hw 172 rfl) (tw hw 173 rfl) (fun vm hzv => notFace_of_selects (args := #[]) (mvT hzv (tw hw 175 rfl))) (tw hw 175 rfl) (tw hw 174 rfl) (tw hw 5 rfl) (tw hw 176 rfl) (by decide) TE (rmIs0 l Z a0 hw hel ts cst h0 n0 Z0 T2 X0 SC hcs) (fun _ hx => nomatch hx) (by rw [hml]; rfl) pd_22 rfl rfl (hb hby d30_1) rfl (by decide) (ble rfl) (ce' := 0) (sl' := 0) rfl rfl (by decide) (by decide) (fun v1018 h1019 hQ1020 => ?_)
  obtain ⟨rfl, rfl⟩ := hQ1020
  show Go _ _ _ _ _ _ _ _ _ _ _ _ _ _ _ _ _ _ _ _ 0 0 4 #[.val (.ref ts), .val (.int i)] [(.int (1 : Int32))]
  refine Go.if_eq (q := 7) (t := 16) hx (hb hby d30_4) (by decide) rfl rfl (fun hc4 => absurd hc4 (by decide)) (fun hc4 => ?_)
  refine Go.aloadN (q := 8) hx (hb hby d30_7) rfl (by rfl) rfl ?_
  refine Go.getF (q := 11) hx hZ hown (host := "") (Or.inl (tw hw 62 rfl)) Via.refl T1 (hb hby d30_8) rfl ?_
  refine Go.iloadN (q := 12) hx (hb hby d30_11) rfl rfl ?_
  refine Go.callS (q := 15) hx hZ (argsL := [(.ref tb), (.int i)]) (rest := []) hown (tw hw 177 rfl) (tw hw 178 rfl) (tw hw 113 rfl) (tw hw 179 rfl) (by decide) (rmLC l Z a0 hw hel tb kt zt i cc es fv h0 n0 Z0 TB rd X0 PF hfv) (fun _ hx => nomatch hx) (by rw [hml]; rfl) pd_2 rfl rfl (hb hby d30_12) rfl (by decide) (ble rfl) (ce' := 0) (sl' := 0) rfl rfl (by decide) (by decide) (fun v1021 h1022 hQ1023 => ?_)
  obtain ⟨rfl, rfl⟩ := hQ1023
  show Go _ _ _ _ _ _ _ _ _ _ _ _ _ _ _ _ _ _ _ _ 0 0 15 #[.val (.ref ts), .val (.int i)] [(.int cc)]
  refine Go.retN hx (t := .char) hret (by simp) hlk (hb hby d30_15) (by decide) (by decide) ?_
  exact ⟨congrArg (fun z => some (Value.int z)) (nar_chr rd.2.2.2.1), rfl⟩
theorem rmCh1 (l : Launch) (Z : State) (a0 : Array Value) (hw : ∀ d ∈ tables_1, d.before a0 Z = true) (hel : EW Z a0 consts_1) (ts tb : Addr) (kt : ClassId) (cst : Int32) (fv : Value) (zt i cc : Int32) (es : List Value) (h0 : Heap) (n0 : Nat) (Z0 : n0 ≤ h0.size) (TE : Exa Z h0 ts "java/lang/String") (T1 : Fld Z h0 ts "java/lang/String" "value" "[B" (.ref tb)) (T2 : Fld Z h0 ts "java/lang/String" "coder" "B" (.int (1 : Int32))) (TB : Arv Z h0 tb kt .byte zt es (.int (0 : Int32))) (rd : Rd1 zt i cc es) (X0 : Old Z n0 h0) (SC : Sta Z Z.heap "java/lang/String" "COMPACT_STRINGS" "Z" (.int cst)) (hcs : ¬ cst = (0 : Int32)) (AD : Sta Z Z.heap "java/lang/StringUTF16" "$assertionsDisabled" "Z" (.int (1 : Int32))) (HB : Sta Z Z.heap "java/lang/StringUTF16" "HI_BYTE_SHIFT" "I" (.int (0 : Int32))) (LB : Sta Z Z.heap "java/lang/StringUTF16" "LO_BYTE_SHIFT" "I" (.int (8 : Int32))) (PF : Sta Z Z.heap "jdk/internal/util/Preconditions" "SIOOBE_FORMATTER" "Ljava/util/function/BiFunction;" fv) (hfv : fv.isRef = true) :
    Met l Z consts_1 [] (⟨"java/lang/String", "charAt", "(I)C"⟩ : MethodName) jdk_42_method_56_code 2 (Option.some FieldType.char) [] ({ frames := 4, cells := 0, slots := 0, locals := 77 } : Room) #[(.ref ts), (.int i)] h0 n0 (fun v h => v = some (.int cc) ∧ h0 = h) := by
  refine Met.of (Ls0 := #[.val (.ref ts), .val (.int i)]) pl_47 (by first | (simp [argsToLocals, Value.category]; done) | rfl) hel ?_
  intro p e s m below meth c hx hby hml hret hlk hown hnm hZ
  refine Go.aloadN (q := 1) hx (hb hby d30_0) rfl (by rfl) rfl ?_
  refine Go.callV (q := 4) hx hZ (a := ts) (argsL := []) (rest := []) hown (tw hw 172 rfl) (tw hw 173 rfl) (fun vm hzv => notFace_of_selects (args := #[]) (mvT hzv (tw hw 175 rfl))) (tw hw 175 rfl) (tw hw 174 rfl) (tw hw 5 rfl) (tw hw 176 rfl) (by decide) TE (rmIs1 l Z a0 hw hel ts cst h0 n0 Z0 T2 X0 SC hcs) (fun _ hx => nomatch hx) (by rw [hml]; rfl) pd_22 rfl rfl (hb hby d30_1) rfl (by decide) (ble rfl) (ce' := 0) (sl' := 0) rfl rfl (by decide) (by decide) (fun v1024 h1025 hQ1026 => ?_)
  obtain ⟨rfl, rfl⟩ := hQ1026
  show Go _ _ _ _ _ _ _ _ _ _ _ _ _ _ _ _ _ _ _ _ 0 0 4 #[.val (.ref ts), .val (.int i)] [(.int (0 : Int32))]
  refine Go.if_eq (q := 7) (t := 16) hx (hb hby d30_4) (by decide) rfl rfl (fun hc4 => ?_) (fun hc4 => absurd hc4 (by decide))
  refine Go.aloadN (q := 17) hx (hb hby d30_16) rfl (by rfl) rfl ?_
  refine Go.getF (q := 20) hx hZ hown (host := "") (Or.inl (tw hw 62 rfl)) Via.refl T1 (hb hby d30_17) rfl ?_
  refine Go.iloadN (q := 21) hx (hb hby d30_20) rfl rfl ?_
  refine Go.callS (q := 24) hx hZ (argsL := [(.ref tb), (.int i)]) (rest := []) hown (tw hw 259 rfl) (tw hw 260 rfl) (tw hw 198 rfl) (tw hw 261 rfl) (by decide) (rmUC l Z a0 hw hel tb kt zt i cc es fv h0 n0 Z0 TB rd X0 AD HB LB PF hfv) (fun _ hx => nomatch hx) (by rw [hml]; rfl) pd_2 rfl rfl (hb hby d30_21) rfl (by decide) (ble rfl) (ce' := 0) (sl' := 0) rfl rfl (by decide) (by decide) (fun v1027 h1028 hQ1029 => ?_)
  obtain ⟨rfl, rfl⟩ := hQ1029
  show Go _ _ _ _ _ _ _ _ _ _ _ _ _ _ _ _ _ _ _ _ 0 0 24 #[.val (.ref ts), .val (.int i)] [(.int cc)]
  refine Go.retN hx (t := .char) hret (by simp) hlk (hb hby d30_24) (by decide) (by decide) ?_
  exact ⟨congrArg (fun z => some (Value.int z)) (nar_chr (by obtain ⟨n, j, r1, r2, r3, r4, r5, r6, r7, r8, r9⟩ := rd; exact r9)), rfl⟩
theorem rmLe (l : Launch) (Z : State) (a0 : Array Value) (hw : ∀ d ∈ tables_1, d.before a0 Z = true) (hel : EW Z a0 consts_1) (ts tb : Addr) (kt : ClassId) (cst : Int32) (cd : Nat) (cs : List Int32) (h0 : Heap) (n0 : Nat) (Z0 : n0 ≤ h0.size) (T : STf Z h0 ts tb kt cd cs) (ok : OKc cd cs) (hlc : cs.length < 30) (X0 : Old Z n0 h0) (SC : Sta Z Z.heap "java/lang/String" "COMPACT_STRINGS" "Z" (.int cst)) (hcs : ¬ cst = (0 : Int32)) :
    Met l Z consts_1 [] (⟨"java/lang/String", "length", "()I"⟩ : MethodName) jdk_42_method_54_code 1 (Option.some FieldType.int) [] ({ frames := 1, cells := 0, slots := 0, locals := 18 } : Room) #[(.ref ts)] h0 n0 (fun v h => v = some (.int (iN cs.length)) ∧ h0 = h) := by
  obtain ⟨TE, T1, T2, TB⟩ := T
  rcases ok.2 with ⟨rfl, _⟩ | rfl
  · exact rmLe0 l Z a0 hw hel ts tb kt cst (iN cs.length) (iN cs.length) _ h0 n0 Z0 TE T1 T2 TB (iN_shr0 _ (by omega)) X0 SC hcs
  · exact rmLe1 l Z a0 hw hel ts tb kt cst (iN (2 * cs.length)) (iN cs.length) _ h0 n0 Z0 TE T1 T2 TB (iN_shr _ (by omega)) X0 SC hcs
theorem rmCh (l : Launch) (Z : State) (a0 : Array Value) (hw : ∀ d ∈ tables_1, d.before a0 Z = true) (hel : EW Z a0 consts_1) (ts tb : Addr) (kt : ClassId) (cst : Int32) (fv : Value) (cd : Nat) (i cc : Int32) (cs : List Int32) (h0 : Heap) (n0 : Nat) (Z0 : n0 ≤ h0.size) (T : STf Z h0 ts tb kt cd cs) (ok : OKc cd cs) (hlc : cs.length < 30) (rd : RdU cs i cc) (X0 : Old Z n0 h0) (SC : Sta Z Z.heap "java/lang/String" "COMPACT_STRINGS" "Z" (.int cst)) (hcs : ¬ cst = (0 : Int32)) (AD : Sta Z Z.heap "java/lang/StringUTF16" "$assertionsDisabled" "Z" (.int (1 : Int32))) (HB : Sta Z Z.heap "java/lang/StringUTF16" "HI_BYTE_SHIFT" "I" (.int (0 : Int32))) (LB : Sta Z Z.heap "java/lang/StringUTF16" "LO_BYTE_SHIFT" "I" (.int (8 : Int32))) (PF : Sta Z Z.heap "jdk/internal/util/Preconditions" "SIOOBE_FORMATTER" "Ljava/util/function/BiFunction;" fv) (hfv : fv.isRef = true) :
    Met l Z consts_1 [] (⟨"java/lang/String", "charAt", "(I)C"⟩ : MethodName) jdk_42_method_56_code 2 (Option.some FieldType.char) [] ({ frames := 4, cells := 0, slots := 0, locals := 77 } : Room) #[(.ref ts), (.int i)] h0 n0 (fun v h => v = some (.int cc) ∧ h0 = h) := by
  obtain ⟨TE, T1, T2, TB⟩ := T
  obtain ⟨q, rfl, hc⟩ := rd
  have hlt := rd_lt hc
  have hm := List.mem_of_getElem? hc
  rcases ok.2 with ⟨rfl, h8⟩ | rfl
  · exact rmCh0 l Z a0 hw hel ts tb kt cst fv (iN cs.length) (iN q) cc _ h0 n0 Z0 TE T1 T2 TB ⟨iN_neg _ (by omega), iN_lt (by omega) hlt, by rw [iN_nat _ (by omega)]; exact bL_get _ _ _ _ hc, ok.1 _ hm, h8 _ hm⟩ X0 SC hcs AD HB LB PF hfv
  · have px := IX_all q (by omega)
    have e1 := bU_get cs q cc (.int (0 : Int32)) hc
    have l0 : iN (2 * q) < iN (2 * cs.length) := iN_lt (by omega) (by omega)
    have l1 : iN (2 * q) + (1 : Int32) < iN (2 * cs.length) := by rw [iN_s]; exact iN_lt (by omega) (by omega)
    exact rmCh1 l Z a0 hw hel ts tb kt cst fv (iN (2 * cs.length)) (iN q) cc _ h0 n0 Z0 TE T1 T2 TB ⟨(iN cs.length), iN (2 * q), iN_shr _ (by omega), iN_neg _ (by omega), iN_lt (by omega) hlt, px.1, ⟨px.2.1.1, l0⟩, ⟨px.2.2.1.1, l1⟩, by rw [px.2.2.2.1]; exact e1.1, by rw [px.2.2.2.2]; exact e1.2, ok.1 _ hm⟩ X0 SC hcs AD HB LB PF hfv
theorem d29_0 : decode method_4_code 0 = .ok (.aload_n 0, 1) := by decide +kernel
theorem d29_1 : decode method_4_code 1 = .ok (.iload_n 1, 1) := by decide +kernel
theorem d29_2 : decode method_4_code 2 = .ok (.invokevirtual 39, 3) := by decide +kernel
theorem d29_5 : decode method_4_code 5 = .ok (.bipush 60, 2) := by decide +kernel
theorem d29_7 : decode method_4_code 7 = .ok (.if_icmp .ne 83, 3) := by decide +kernel
theorem d29_10 : decode method_4_code 10 = .ok (.aload_n 0, 1) := by decide +kernel
theorem d29_11 : decode method_4_code 11 = .ok (.iload_n 1, 1) := by decide +kernel
theorem d29_12 : decode method_4_code 12 = .ok (.iconst 1, 1) := by decide +kernel
theorem d29_13 : decode method_4_code 13 = .ok (.iadd, 1) := by decide +kernel
theorem d29_14 : decode method_4_code 14 = .ok (.invokevirtual 39, 3) := by decide +kernel
theorem d29_17 : decode method_4_code 17 = .ok (.bipush 47, 2) := by decide +kernel
theorem d29_19 : decode method_4_code 19 = .ok (.if_icmp .ne 71, 3) := by decide +kernel
theorem d29_22 : decode method_4_code 22 = .ok (.iload_n 2, 1) := by decide +kernel
theorem d29_23 : decode method_4_code 23 = .ok (.iconst 1, 1) := by decide +kernel
theorem d29_24 : decode method_4_code 24 = .ok (.if_icmp .lt 14, 3) := by decide +kernel
theorem d29_27 : decode method_4_code 27 = .ok (.aload_n 0, 1) := by decide +kernel
theorem d29_28 : decode method_4_code 28 = .ok (.iload_n 1, 1) := by decide +kernel
theorem d29_29 : decode method_4_code 29 = .ok (.iconst 2, 1) := by decide +kernel
theorem d29_30 : decode method_4_code 30 = .ok (.iadd, 1) := by decide +kernel
theorem d29_31 : decode method_4_code 31 = .ok (.invokevirtual 39, 3) := by decide +kernel
theorem d29_34 : decode method_4_code 34 = .ok (.iload_n 3, 1) := by decide +kernel
theorem d29_35 : decode method_4_code 35 = .ok (.if_icmp .ne 55, 3) := by decide +kernel
theorem d29_38 : decode method_4_code 38 = .ok (.iload_n 2, 1) := by decide +kernel
theorem d29_39 : decode method_4_code 39 = .ok (.iconst 2, 1) := by decide +kernel
theorem d29_40 : decode method_4_code 40 = .ok (.if_icmp .lt 15, 3) := by decide +kernel
theorem d29_43 : decode method_4_code 43 = .ok (.aload_n 0, 1) := by decide +kernel
theorem d29_44 : decode method_4_code 44 = .ok (.iload_n 1, 1) := by decide +kernel
theorem d29_45 : decode method_4_code 45 = .ok (.iconst 3, 1) := by decide +kernel
theorem d29_46 : decode method_4_code 46 = .ok (.iadd, 1) := by decide +kernel
theorem d29_47 : decode method_4_code 47 = .ok (.invokevirtual 39, 3) := by decide +kernel
theorem d29_50 : decode method_4_code 50 = .ok (.iload 4, 2) := by decide +kernel
theorem d29_52 : decode method_4_code 52 = .ok (.if_icmp .ne 38, 3) := by decide +kernel
theorem d29_55 : decode method_4_code 55 = .ok (.iload_n 2, 1) := by decide +kernel
theorem d29_56 : decode method_4_code 56 = .ok (.iconst 3, 1) := by decide +kernel
theorem d29_57 : decode method_4_code 57 = .ok (.if_icmp .lt 15, 3) := by decide +kernel
theorem d29_60 : decode method_4_code 60 = .ok (.aload_n 0, 1) := by decide +kernel
theorem d29_61 : decode method_4_code 61 = .ok (.iload_n 1, 1) := by decide +kernel
theorem d29_62 : decode method_4_code 62 = .ok (.iconst 4, 1) := by decide +kernel
theorem d29_63 : decode method_4_code 63 = .ok (.iadd, 1) := by decide +kernel
theorem d29_64 : decode method_4_code 64 = .ok (.invokevirtual 39, 3) := by decide +kernel
theorem d29_67 : decode method_4_code 67 = .ok (.iload 5, 2) := by decide +kernel
theorem d29_69 : decode method_4_code 69 = .ok (.if_icmp .ne 21, 3) := by decide +kernel
theorem d29_72 : decode method_4_code 72 = .ok (.aload_n 0, 1) := by decide +kernel
theorem d29_73 : decode method_4_code 73 = .ok (.iload_n 1, 1) := by decide +kernel
theorem d29_74 : decode method_4_code 74 = .ok (.iconst 2, 1) := by decide +kernel
theorem d29_75 : decode method_4_code 75 = .ok (.iadd, 1) := by decide +kernel
theorem d29_76 : decode method_4_code 76 = .ok (.iload_n 2, 1) := by decide +kernel
theorem d29_77 : decode method_4_code 77 = .ok (.iadd, 1) := by decide +kernel
theorem d29_78 : decode method_4_code 78 = .ok (.invokevirtual 39, 3) := by decide +kernel
theorem d29_81 : decode method_4_code 81 = .ok (.bipush 62, 2) := by decide +kernel
theorem d29_83 : decode method_4_code 83 = .ok (.if_icmp .ne 7, 3) := by decide +kernel
theorem d29_86 : decode method_4_code 86 = .ok (.iconst 1, 1) := by decide +kernel
theorem d29_87 : decode method_4_code 87 = .ok (.goto 4, 3) := by decide +kernel
theorem d29_90 : decode method_4_code 90 = .ok (.iconst 0, 1) := by decide +kernel
theorem d29_91 : decode method_4_code 91 = .ok (.ireturn, 1) := by decide +kernel
theorem pl_48 : plainFor (⟨"com/example/clear_recall/clearrecall/web/HtmlClosePinLaw", "closing", "(Ljava/lang/String;IICCC)Z"⟩ : MethodName) = true := plainFor_of_name (by first | (simp [plainName, overriddenIn]; done) | decide +kernel)
theorem pd_34 : parseMethodDescriptor "(I)C" = some ⟨[.int], some .char⟩ := by decide +kernel
theorem rmCl0 (l : Launch) (Z : State) (a0 : Array Value) (hw : ∀ d ∈ tables_1, d.before a0 Z = true) (hel : EW Z a0 consts_1) (ts tb : Addr) (kt : ClassId) (cst : Int32) (fv : Value) (cd : Nat) (cs : List Int32) (att c0 c1 c2 : Int32) (h0 : Heap) (n0 : Nat) (Z0 : n0 ≤ h0.size) (T : STf Z h0 ts tb kt cd cs) (ok : OKc cd cs) (hlc : cs.length < 30) (r0 : RdU cs (att) (60 : Int32)) (r1 : RdU cs (att + (1 : Int32)) (47 : Int32)) (r5 : RdU cs ((att + (2 : Int32)) + (0 : Int32)) (62 : Int32)) (X0 : Old Z n0 h0) (SC : Sta Z Z.heap "java/lang/String" "COMPACT_STRINGS" "Z" (.int cst)) (hcs : ¬ cst = (0 : Int32)) (AD : Sta Z Z.heap "java/lang/StringUTF16" "$assertionsDisabled" "Z" (.int (1 : Int32))) (HB : Sta Z Z.heap "java/lang/StringUTF16" "HI_BYTE_SHIFT" "I" (.int (0 : Int32))) (LB : Sta Z Z.heap "java/lang/StringUTF16" "LO_BYTE_SHIFT" "I" (.int (8 : Int32))) (PF : Sta Z Z.heap "jdk/internal/util/Preconditions" "SIOOBE_FORMATTER" "Ljava/util/function/BiFunction;" fv) (hfv : fv.isRef = true) :
    Met l Z consts_1 [] (⟨"com/example/clear_recall/clearrecall/web/HtmlClosePinLaw", "closing", "(Ljava/lang/String;IICCC)Z"⟩ : MethodName) method_4_code 6 (Option.some FieldType.boolean) [] ({ frames := 5, cells := 0, slots := 0, locals := 96 } : Room) #[(.ref ts), (.int att), (.int (0 : Int32)), (.int c0), (.int c1), (.int c2)] h0 n0 (fun v h => v = some (.int (1 : Int32)) ∧ h0 = h) := by
  refine Met.of (Ls0 := #[.val (.ref ts), .val (.int att), .val (.int (0 : Int32)), .val (.int c0), .val (.int c1), .val (.int c2)]) pl_48 (by first | (simp [argsToLocals, Value.category]; done) | rfl) hel ?_
  intro p e s m below meth c hx hby hml hret hlk hown hnm hZ
  obtain ⟨TE, T1, T2, TB⟩ := T
  refine Go.aloadN (q := 1) hx (hb hby d29_0) rfl (by rfl) rfl ?_
  refine Go.iloadN (q := 2) hx (hb hby d29_1) rfl rfl ?_
  refine Go.callV (q := 5) hx hZ (a := ts) (argsL := [(.int att)]) (rest := []) hown (tw hw 167 rfl) (tw hw 168 rfl) (fun vm hzv => notFace_of_selects (args := #[]) (mvT hzv (tw hw 170 rfl))) (tw hw 170 rfl) (tw hw 169 rfl) (tw hw 5 rfl) (tw hw 171 rfl) (by decide) TE (rmCh l Z a0 hw hel ts tb kt cst fv cd att (60 : Int32) cs h0 n0 Z0 ⟨TE, T1, T2, TB⟩ ok hlc r0 X0 SC hcs AD HB LB PF hfv) (fun _ hx => nomatch hx) (by rw [hml]; rfl) pd_34 rfl rfl (hb hby d29_2) rfl (by decide) (ble rfl) (ce' := 0) (sl' := 0) rfl rfl (by decide) (by decide) (fun v1030 h1031 hQ1032 => ?_)
  obtain ⟨rfl, rfl⟩ := hQ1032
  show Go _ _ _ _ _ _ _ _ _ _ _ _ _ _ _ _ _ _ _ _ 0 0 5 #[.val (.ref ts), .val (.int att), .val (.int (0 : Int32)), .val (.int c0), .val (.int c1), .val (.int c2)] [(.int (60 : Int32))]
  refine Go.bipush (q := 7) (z := (60 : Int32)) hx (hb hby d29_5) rfl rfl ?_
  refine Go.icmp_ne (q := 10) (t := 90) hx (hb hby d29_7) (by decide) rfl rfl (fun hc7 => absurd hc7 (by decide)) (fun hc7 => ?_)
  refine Go.aloadN (q := 11) hx (hb hby d29_10) rfl (by rfl) rfl ?_
  refine Go.iloadN (q := 12) hx (hb hby d29_11) rfl rfl ?_
  refine Go.iconst (q := 13) (z := (1 : Int32)) hx (hb hby d29_12) rfl rfl ?_
  refine Go.iadd (q := 14) hx (hb hby d29_13) rfl ?_
  refine Go.callV (q := 17) hx hZ (a := ts) (argsL := [(.int (att + (1 : Int32)))]) (rest := []) hown (tw hw 167 rfl) (tw hw 168 rfl) (fun vm hzv => notFace_of_selects (args := #[]) (mvT hzv (tw hw 170 rfl))) (tw hw 170 rfl) (tw hw 169 rfl) (tw hw 5 rfl) (tw hw 171 rfl) (by decide) TE (rmCh l Z a0 hw hel ts tb kt cst fv cd (att + (1 : Int32)) (47 : Int32) cs h0 n0 Z0 ⟨TE, T1, T2, TB⟩ ok hlc r1 X0 SC hcs AD HB LB PF hfv) (fun _ hx => nomatch hx) (by rw [hml]; rfl) pd_34 rfl rfl (hb hby d29_14) rfl (by decide) (ble rfl) (ce' := 0) (sl' := 0) rfl rfl (by decide) (by decide) (fun v1033 h1034 hQ1035 => ?_)
  obtain ⟨rfl, rfl⟩ := hQ1035
  show Go _ _ _ _ _ _ _ _ _ _ _ _ _ _ _ _ _ _ _ _ 0 0 17 #[.val (.ref ts), .val (.int att), .val (.int (0 : Int32)), .val (.int c0), .val (.int c1), .val (.int c2)] [(.int (47 : Int32))]
  refine Go.bipush (q := 19) (z := (47 : Int32)) hx (hb hby d29_17) rfl rfl ?_
  refine Go.icmp_ne (q := 22) (t := 90) hx (hb hby d29_19) (by decide) rfl rfl (fun hc19 => absurd hc19 (by decide)) (fun hc19 => ?_)
  refine Go.iloadN (q := 23) hx (hb hby d29_22) rfl rfl ?_
  refine Go.iconst (q := 24) (z := (1 : Int32)) hx (hb hby d29_23) rfl rfl ?_
  refine Go.icmp_lt (q := 27) (t := 38) hx (hb hby d29_24) (by decide) rfl rfl (fun hc24 => ?_) (fun hc24 => absurd hc24 (by decide))
  refine Go.iloadN (q := 39) hx (hb hby d29_38) rfl rfl ?_
  refine Go.iconst (q := 40) (z := (2 : Int32)) hx (hb hby d29_39) rfl rfl ?_
  refine Go.icmp_lt (q := 43) (t := 55) hx (hb hby d29_40) (by decide) rfl rfl (fun hc40 => ?_) (fun hc40 => absurd hc40 (by decide))
  refine Go.iloadN (q := 56) hx (hb hby d29_55) rfl rfl ?_
  refine Go.iconst (q := 57) (z := (3 : Int32)) hx (hb hby d29_56) rfl rfl ?_
  refine Go.icmp_lt (q := 60) (t := 72) hx (hb hby d29_57) (by decide) rfl rfl (fun hc57 => ?_) (fun hc57 => absurd hc57 (by decide))
  refine Go.aloadN (q := 73) hx (hb hby d29_72) rfl (by rfl) rfl ?_
  refine Go.iloadN (q := 74) hx (hb hby d29_73) rfl rfl ?_
  refine Go.iconst (q := 75) (z := (2 : Int32)) hx (hb hby d29_74) rfl rfl ?_
  refine Go.iadd (q := 76) hx (hb hby d29_75) rfl ?_
  refine Go.iloadN (q := 77) hx (hb hby d29_76) rfl rfl ?_
  refine Go.iadd (q := 78) hx (hb hby d29_77) rfl ?_
  refine Go.callV (q := 81) hx hZ (a := ts) (argsL := [(.int ((att + (2 : Int32)) + (0 : Int32)))]) (rest := []) hown (tw hw 167 rfl) (tw hw 168 rfl) (fun vm hzv => notFace_of_selects (args := #[]) (mvT hzv (tw hw 170 rfl))) (tw hw 170 rfl) (tw hw 169 rfl) (tw hw 5 rfl) (tw hw 171 rfl) (by decide) TE (rmCh l Z a0 hw hel ts tb kt cst fv cd ((att + (2 : Int32)) + (0 : Int32)) (62 : Int32) cs h0 n0 Z0 ⟨TE, T1, T2, TB⟩ ok hlc r5 X0 SC hcs AD HB LB PF hfv) (fun _ hx => nomatch hx) (by rw [hml]; rfl) pd_34 rfl rfl (hb hby d29_78) rfl (by decide) (ble rfl) (ce' := 0) (sl' := 0) rfl rfl (by decide) (by decide) (fun v1036 h1037 hQ1038 => ?_)
  obtain ⟨rfl, rfl⟩ := hQ1038
  show Go _ _ _ _ _ _ _ _ _ _ _ _ _ _ _ _ _ _ _ _ 0 0 81 #[.val (.ref ts), .val (.int att), .val (.int (0 : Int32)), .val (.int c0), .val (.int c1), .val (.int c2)] [(.int (62 : Int32))]
  refine Go.bipush (q := 83) (z := (62 : Int32)) hx (hb hby d29_81) rfl rfl ?_
  refine Go.icmp_ne (q := 86) (t := 90) hx (hb hby d29_83) (by decide) rfl rfl (fun hc83 => absurd hc83 (by decide)) (fun hc83 => ?_)
  refine Go.iconst (q := 87) (z := (1 : Int32)) hx (hb hby d29_86) rfl rfl ?_
  refine Go.goto (q := 91) hx (hb hby d29_87) (by decide) rfl ?_
  refine Go.retN hx (t := .boolean) hret (by simp) hlk (hb hby d29_91) (by decide) (by decide) ?_
  exact ⟨rfl, rfl⟩
theorem rmCl1 (l : Launch) (Z : State) (a0 : Array Value) (hw : ∀ d ∈ tables_1, d.before a0 Z = true) (hel : EW Z a0 consts_1) (ts tb : Addr) (kt : ClassId) (cst : Int32) (fv : Value) (cd : Nat) (cs : List Int32) (att c0 c1 c2 : Int32) (h0 : Heap) (n0 : Nat) (Z0 : n0 ≤ h0.size) (T : STf Z h0 ts tb kt cd cs) (ok : OKc cd cs) (hlc : cs.length < 30) (r0 : RdU cs (att) (60 : Int32)) (r1 : RdU cs (att + (1 : Int32)) (47 : Int32)) (r2 : RdU cs (att + (2 : Int32)) c0) (r5 : RdU cs ((att + (2 : Int32)) + (1 : Int32)) (62 : Int32)) (X0 : Old Z n0 h0) (SC : Sta Z Z.heap "java/lang/String" "COMPACT_STRINGS" "Z" (.int cst)) (hcs : ¬ cst = (0 : Int32)) (AD : Sta Z Z.heap "java/lang/StringUTF16" "$assertionsDisabled" "Z" (.int (1 : Int32))) (HB : Sta Z Z.heap "java/lang/StringUTF16" "HI_BYTE_SHIFT" "I" (.int (0 : Int32))) (LB : Sta Z Z.heap "java/lang/StringUTF16" "LO_BYTE_SHIFT" "I" (.int (8 : Int32))) (PF : Sta Z Z.heap "jdk/internal/util/Preconditions" "SIOOBE_FORMATTER" "Ljava/util/function/BiFunction;" fv) (hfv : fv.isRef = true) :
    Met l Z consts_1 [] (⟨"com/example/clear_recall/clearrecall/web/HtmlClosePinLaw", "closing", "(Ljava/lang/String;IICCC)Z"⟩ : MethodName) method_4_code 6 (Option.some FieldType.boolean) [] ({ frames := 5, cells := 0, slots := 0, locals := 96 } : Room) #[(.ref ts), (.int att), (.int (1 : Int32)), (.int c0), (.int c1), (.int c2)] h0 n0 (fun v h => v = some (.int (1 : Int32)) ∧ h0 = h) := by
  refine Met.of (Ls0 := #[.val (.ref ts), .val (.int att), .val (.int (1 : Int32)), .val (.int c0), .val (.int c1), .val (.int c2)]) pl_48 (by first | (simp [argsToLocals, Value.category]; done) | rfl) hel ?_
  intro p e s m below meth c hx hby hml hret hlk hown hnm hZ
  obtain ⟨TE, T1, T2, TB⟩ := T
  refine Go.aloadN (q := 1) hx (hb hby d29_0) rfl (by rfl) rfl ?_
  refine Go.iloadN (q := 2) hx (hb hby d29_1) rfl rfl ?_
  refine Go.callV (q := 5) hx hZ (a := ts) (argsL := [(.int att)]) (rest := []) hown (tw hw 167 rfl) (tw hw 168 rfl) (fun vm hzv => notFace_of_selects (args := #[]) (mvT hzv (tw hw 170 rfl))) (tw hw 170 rfl) (tw hw 169 rfl) (tw hw 5 rfl) (tw hw 171 rfl) (by decide) TE (rmCh l Z a0 hw hel ts tb kt cst fv cd att (60 : Int32) cs h0 n0 Z0 ⟨TE, T1, T2, TB⟩ ok hlc r0 X0 SC hcs AD HB LB PF hfv) (fun _ hx => nomatch hx) (by rw [hml]; rfl) pd_34 rfl rfl (hb hby d29_2) rfl (by decide) (ble rfl) (ce' := 0) (sl' := 0) rfl rfl (by decide) (by decide) (fun v1039 h1040 hQ1041 => ?_)
  obtain ⟨rfl, rfl⟩ := hQ1041
  show Go _ _ _ _ _ _ _ _ _ _ _ _ _ _ _ _ _ _ _ _ 0 0 5 #[.val (.ref ts), .val (.int att), .val (.int (1 : Int32)), .val (.int c0), .val (.int c1), .val (.int c2)] [(.int (60 : Int32))]
  refine Go.bipush (q := 7) (z := (60 : Int32)) hx (hb hby d29_5) rfl rfl ?_
  refine Go.icmp_ne (q := 10) (t := 90) hx (hb hby d29_7) (by decide) rfl rfl (fun hc7 => absurd hc7 (by decide)) (fun hc7 => ?_)
  refine Go.aloadN (q := 11) hx (hb hby d29_10) rfl (by rfl) rfl ?_
  refine Go.iloadN (q := 12) hx (hb hby d29_11) rfl rfl ?_
  refine Go.iconst (q := 13) (z := (1 : Int32)) hx (hb hby d29_12) rfl rfl ?_
  refine Go.iadd (q := 14) hx (hb hby d29_13) rfl ?_
  refine Go.callV (q := 17) hx hZ (a := ts) (argsL := [(.int (att + (1 : Int32)))]) (rest := []) hown (tw hw 167 rfl) (tw hw 168 rfl) (fun vm hzv => notFace_of_selects (args := #[]) (mvT hzv (tw hw 170 rfl))) (tw hw 170 rfl) (tw hw 169 rfl) (tw hw 5 rfl) (tw hw 171 rfl) (by decide) TE (rmCh l Z a0 hw hel ts tb kt cst fv cd (att + (1 : Int32)) (47 : Int32) cs h0 n0 Z0 ⟨TE, T1, T2, TB⟩ ok hlc r1 X0 SC hcs AD HB LB PF hfv) (fun _ hx => nomatch hx) (by rw [hml]; rfl) pd_34 rfl rfl (hb hby d29_14) rfl (by decide) (ble rfl) (ce' := 0) (sl' := 0) rfl rfl (by decide) (by decide) (fun v1042 h1043 hQ1044 => ?_)
  obtain ⟨rfl, rfl⟩ := hQ1044
  show Go _ _ _ _ _ _ _ _ _ _ _ _ _ _ _ _ _ _ _ _ 0 0 17 #[.val (.ref ts), .val (.int att), .val (.int (1 : Int32)), .val (.int c0), .val (.int c1), .val (.int c2)] [(.int (47 : Int32))]
  refine Go.bipush (q := 19) (z := (47 : Int32)) hx (hb hby d29_17) rfl rfl ?_
  refine Go.icmp_ne (q := 22) (t := 90) hx (hb hby d29_19) (by decide) rfl rfl (fun hc19 => absurd hc19 (by decide)) (fun hc19 => ?_)
  refine Go.iloadN (q := 23) hx (hb hby d29_22) rfl rfl ?_
  refine Go.iconst (q := 24) (z := (1 : Int32)) hx (hb hby d29_23) rfl rfl ?_
  refine Go.icmp_lt (q := 27) (t := 38) hx (hb hby d29_24) (by decide) rfl rfl (fun hc24 => absurd hc24 (by decide)) (fun hc24 => ?_)
  refine Go.aloadN (q := 28) hx (hb hby d29_27) rfl (by rfl) rfl ?_
  refine Go.iloadN (q := 29) hx (hb hby d29_28) rfl rfl ?_
  refine Go.iconst (q := 30) (z := (2 : Int32)) hx (hb hby d29_29) rfl rfl ?_
  refine Go.iadd (q := 31) hx (hb hby d29_30) rfl ?_
  refine Go.callV (q := 34) hx hZ (a := ts) (argsL := [(.int (att + (2 : Int32)))]) (rest := []) hown (tw hw 167 rfl) (tw hw 168 rfl) (fun vm hzv => notFace_of_selects (args := #[]) (mvT hzv (tw hw 170 rfl))) (tw hw 170 rfl) (tw hw 169 rfl) (tw hw 5 rfl) (tw hw 171 rfl) (by decide) TE (rmCh l Z a0 hw hel ts tb kt cst fv cd (att + (2 : Int32)) c0 cs h0 n0 Z0 ⟨TE, T1, T2, TB⟩ ok hlc r2 X0 SC hcs AD HB LB PF hfv) (fun _ hx => nomatch hx) (by rw [hml]; rfl) pd_34 rfl rfl (hb hby d29_31) rfl (by decide) (ble rfl) (ce' := 0) (sl' := 0) rfl rfl (by decide) (by decide) (fun v1045 h1046 hQ1047 => ?_)
  obtain ⟨rfl, rfl⟩ := hQ1047
  show Go _ _ _ _ _ _ _ _ _ _ _ _ _ _ _ _ _ _ _ _ 0 0 34 #[.val (.ref ts), .val (.int att), .val (.int (1 : Int32)), .val (.int c0), .val (.int c1), .val (.int c2)] [(.int c0)]
  refine Go.iloadN (q := 35) hx (hb hby d29_34) rfl rfl ?_
  refine Go.icmp_ne (q := 38) (t := 90) hx (hb hby d29_35) (by decide) rfl rfl (fun hc35 => absurd rfl hc35) (fun hc35 => ?_)
  refine Go.iloadN (q := 39) hx (hb hby d29_38) rfl rfl ?_
  refine Go.iconst (q := 40) (z := (2 : Int32)) hx (hb hby d29_39) rfl rfl ?_
  refine Go.icmp_lt (q := 43) (t := 55) hx (hb hby d29_40) (by decide) rfl rfl (fun hc40 => ?_) (fun hc40 => absurd hc40 (by decide))
  refine Go.iloadN (q := 56) hx (hb hby d29_55) rfl rfl ?_
  refine Go.iconst (q := 57) (z := (3 : Int32)) hx (hb hby d29_56) rfl rfl ?_
  refine Go.icmp_lt (q := 60) (t := 72) hx (hb hby d29_57) (by decide) rfl rfl (fun hc57 => ?_) (fun hc57 => absurd hc57 (by decide))
  refine Go.aloadN (q := 73) hx (hb hby d29_72) rfl (by rfl) rfl ?_
  refine Go.iloadN (q := 74) hx (hb hby d29_73) rfl rfl ?_
  refine Go.iconst (q := 75) (z := (2 : Int32)) hx (hb hby d29_74) rfl rfl ?_
  refine Go.iadd (q := 76) hx (hb hby d29_75) rfl ?_
  refine Go.iloadN (q := 77) hx (hb hby d29_76) rfl rfl ?_
  refine Go.iadd (q := 78) hx (hb hby d29_77) rfl ?_
  refine Go.callV (q := 81) hx hZ (a := ts) (argsL := [(.int ((att + (2 : Int32)) + (1 : Int32)))]) (rest := []) hown (tw hw 167 rfl) (tw hw 168 rfl) (fun vm hzv => notFace_of_selects (args := #[]) (mvT hzv (tw hw 170 rfl))) (tw hw 170 rfl) (tw hw 169 rfl) (tw hw 5 rfl) (tw hw 171 rfl) (by decide) TE (rmCh l Z a0 hw hel ts tb kt cst fv cd ((att + (2 : Int32)) + (1 : Int32)) (62 : Int32) cs h0 n0 Z0 ⟨TE, T1, T2, TB⟩ ok hlc r5 X0 SC hcs AD HB LB PF hfv) (fun _ hx => nomatch hx) (by rw [hml]; rfl) pd_34 rfl rfl (hb hby d29_78) rfl (by decide) (ble rfl) (ce' := 0) (sl' := 0) rfl rfl (by decide) (by decide) (fun v1048 h1049 hQ1050 => ?_)
  obtain ⟨rfl, rfl⟩ := hQ1050
  show Go _ _ _ _ _ _ _ _ _ _ _ _ _ _ _ _ _ _ _ _ 0 0 81 #[.val (.ref ts), .val (.int att), .val (.int (1 : Int32)), .val (.int c0), .val (.int c1), .val (.int c2)] [(.int (62 : Int32))]
  refine Go.bipush (q := 83) (z := (62 : Int32)) hx (hb hby d29_81) rfl rfl ?_
  refine Go.icmp_ne (q := 86) (t := 90) hx (hb hby d29_83) (by decide) rfl rfl (fun hc83 => absurd hc83 (by decide)) (fun hc83 => ?_)
  refine Go.iconst (q := 87) (z := (1 : Int32)) hx (hb hby d29_86) rfl rfl ?_
  refine Go.goto (q := 91) hx (hb hby d29_87) (by decide) rfl ?_
  refine Go.retN hx (t := .boolean) hret (by simp) hlk (hb hby d29_91) (by decide) (by decide) ?_
  exact ⟨rfl, rfl⟩
theorem rmCl2 (l : Launch) (Z : State) (a0 : Array Value) (hw : ∀ d ∈ tables_1, d.before a0 Z = true) (hel : EW Z a0 consts_1) (ts tb : Addr) (kt : ClassId) (cst : Int32) (fv : Value) (cd : Nat) (cs : List Int32) (att c0 c1 c2 : Int32) (h0 : Heap) (n0 : Nat) (Z0 : n0 ≤ h0.size) (T : STf Z h0 ts tb kt cd cs) (ok : OKc cd cs) (hlc : cs.length < 30) (r0 : RdU cs (att) (60 : Int32)) (r1 : RdU cs (att + (1 : Int32)) (47 : Int32)) (r2 : RdU cs (att + (2 : Int32)) c0) (r3 : RdU cs (att + (3 : Int32)) c1) (r5 : RdU cs ((att + (2 : Int32)) + (2 : Int32)) (62 : Int32)) (X0 : Old Z n0 h0) (SC : Sta Z Z.heap "java/lang/String" "COMPACT_STRINGS" "Z" (.int cst)) (hcs : ¬ cst = (0 : Int32)) (AD : Sta Z Z.heap "java/lang/StringUTF16" "$assertionsDisabled" "Z" (.int (1 : Int32))) (HB : Sta Z Z.heap "java/lang/StringUTF16" "HI_BYTE_SHIFT" "I" (.int (0 : Int32))) (LB : Sta Z Z.heap "java/lang/StringUTF16" "LO_BYTE_SHIFT" "I" (.int (8 : Int32))) (PF : Sta Z Z.heap "jdk/internal/util/Preconditions" "SIOOBE_FORMATTER" "Ljava/util/function/BiFunction;" fv) (hfv : fv.isRef = true) :
    Met l Z consts_1 [] (⟨"com/example/clear_recall/clearrecall/web/HtmlClosePinLaw", "closing", "(Ljava/lang/String;IICCC)Z"⟩ : MethodName) method_4_code 6 (Option.some FieldType.boolean) [] ({ frames := 5, cells := 0, slots := 0, locals := 96 } : Room) #[(.ref ts), (.int att), (.int (2 : Int32)), (.int c0), (.int c1), (.int c2)] h0 n0 (fun v h => v = some (.int (1 : Int32)) ∧ h0 = h) := by
  refine Met.of (Ls0 := #[.val (.ref ts), .val (.int att), .val (.int (2 : Int32)), .val (.int c0), .val (.int c1), .val (.int c2)]) pl_48 (by first | (simp [argsToLocals, Value.category]; done) | rfl) hel ?_
  intro p e s m below meth c hx hby hml hret hlk hown hnm hZ
  obtain ⟨TE, T1, T2, TB⟩ := T
  refine Go.aloadN (q := 1) hx (hb hby d29_0) rfl (by rfl) rfl ?_
  refine Go.iloadN (q := 2) hx (hb hby d29_1) rfl rfl ?_
  refine Go.callV (q := 5) hx hZ (a := ts) (argsL := [(.int att)]) (rest := []) hown (tw hw 167 rfl) (tw hw 168 rfl) (fun vm hzv => notFace_of_selects (args := #[]) (mvT hzv (tw hw 170 rfl))) (tw hw 170 rfl) (tw hw 169 rfl) (tw hw 5 rfl) (tw hw 171 rfl) (by decide) TE (rmCh l Z a0 hw hel ts tb kt cst fv cd att (60 : Int32) cs h0 n0 Z0 ⟨TE, T1, T2, TB⟩ ok hlc r0 X0 SC hcs AD HB LB PF hfv) (fun _ hx => nomatch hx) (by rw [hml]; rfl) pd_34 rfl rfl (hb hby d29_2) rfl (by decide) (ble rfl) (ce' := 0) (sl' := 0) rfl rfl (by decide) (by decide) (fun v1051 h1052 hQ1053 => ?_)
  obtain ⟨rfl, rfl⟩ := hQ1053
  show Go _ _ _ _ _ _ _ _ _ _ _ _ _ _ _ _ _ _ _ _ 0 0 5 #[.val (.ref ts), .val (.int att), .val (.int (2 : Int32)), .val (.int c0), .val (.int c1), .val (.int c2)] [(.int (60 : Int32))]
  refine Go.bipush (q := 7) (z := (60 : Int32)) hx (hb hby d29_5) rfl rfl ?_
  refine Go.icmp_ne (q := 10) (t := 90) hx (hb hby d29_7) (by decide) rfl rfl (fun hc7 => absurd hc7 (by decide)) (fun hc7 => ?_)
  refine Go.aloadN (q := 11) hx (hb hby d29_10) rfl (by rfl) rfl ?_
  refine Go.iloadN (q := 12) hx (hb hby d29_11) rfl rfl ?_
  refine Go.iconst (q := 13) (z := (1 : Int32)) hx (hb hby d29_12) rfl rfl ?_
  refine Go.iadd (q := 14) hx (hb hby d29_13) rfl ?_
  refine Go.callV (q := 17) hx hZ (a := ts) (argsL := [(.int (att + (1 : Int32)))]) (rest := []) hown (tw hw 167 rfl) (tw hw 168 rfl) (fun vm hzv => notFace_of_selects (args := #[]) (mvT hzv (tw hw 170 rfl))) (tw hw 170 rfl) (tw hw 169 rfl) (tw hw 5 rfl) (tw hw 171 rfl) (by decide) TE (rmCh l Z a0 hw hel ts tb kt cst fv cd (att + (1 : Int32)) (47 : Int32) cs h0 n0 Z0 ⟨TE, T1, T2, TB⟩ ok hlc r1 X0 SC hcs AD HB LB PF hfv) (fun _ hx => nomatch hx) (by rw [hml]; rfl) pd_34 rfl rfl (hb hby d29_14) rfl (by decide) (ble rfl) (ce' := 0) (sl' := 0) rfl rfl (by decide) (by decide) (fun v1054 h1055 hQ1056 => ?_)
  obtain ⟨rfl, rfl⟩ := hQ1056
  show Go _ _ _ _ _ _ _ _ _ _ _ _ _ _ _ _ _ _ _ _ 0 0 17 #[.val (.ref ts), .val (.int att), .val (.int (2 : Int32)), .val (.int c0), .val (.int c1), .val (.int c2)] [(.int (47 : Int32))]
  refine Go.bipush (q := 19) (z := (47 : Int32)) hx (hb hby d29_17) rfl rfl ?_
  refine Go.icmp_ne (q := 22) (t := 90) hx (hb hby d29_19) (by decide) rfl rfl (fun hc19 => absurd hc19 (by decide)) (fun hc19 => ?_)
  refine Go.iloadN (q := 23) hx (hb hby d29_22) rfl rfl ?_
  refine Go.iconst (q := 24) (z := (1 : Int32)) hx (hb hby d29_23) rfl rfl ?_
  refine Go.icmp_lt (q := 27) (t := 38) hx (hb hby d29_24) (by decide) rfl rfl (fun hc24 => absurd hc24 (by decide)) (fun hc24 => ?_)
  refine Go.aloadN (q := 28) hx (hb hby d29_27) rfl (by rfl) rfl ?_
  refine Go.iloadN (q := 29) hx (hb hby d29_28) rfl rfl ?_
  refine Go.iconst (q := 30) (z := (2 : Int32)) hx (hb hby d29_29) rfl rfl ?_
  refine Go.iadd (q := 31) hx (hb hby d29_30) rfl ?_
  refine Go.callV (q := 34) hx hZ (a := ts) (argsL := [(.int (att + (2 : Int32)))]) (rest := []) hown (tw hw 167 rfl) (tw hw 168 rfl) (fun vm hzv => notFace_of_selects (args := #[]) (mvT hzv (tw hw 170 rfl))) (tw hw 170 rfl) (tw hw 169 rfl) (tw hw 5 rfl) (tw hw 171 rfl) (by decide) TE (rmCh l Z a0 hw hel ts tb kt cst fv cd (att + (2 : Int32)) c0 cs h0 n0 Z0 ⟨TE, T1, T2, TB⟩ ok hlc r2 X0 SC hcs AD HB LB PF hfv) (fun _ hx => nomatch hx) (by rw [hml]; rfl) pd_34 rfl rfl (hb hby d29_31) rfl (by decide) (ble rfl) (ce' := 0) (sl' := 0) rfl rfl (by decide) (by decide) (fun v1057 h1058 hQ1059 => ?_)
  obtain ⟨rfl, rfl⟩ := hQ1059
  show Go _ _ _ _ _ _ _ _ _ _ _ _ _ _ _ _ _ _ _ _ 0 0 34 #[.val (.ref ts), .val (.int att), .val (.int (2 : Int32)), .val (.int c0), .val (.int c1), .val (.int c2)] [(.int c0)]
  refine Go.iloadN (q := 35) hx (hb hby d29_34) rfl rfl ?_
  refine Go.icmp_ne (q := 38) (t := 90) hx (hb hby d29_35) (by decide) rfl rfl (fun hc35 => absurd rfl hc35) (fun hc35 => ?_)
  refine Go.iloadN (q := 39) hx (hb hby d29_38) rfl rfl ?_
  refine Go.iconst (q := 40) (z := (2 : Int32)) hx (hb hby d29_39) rfl rfl ?_
  refine Go.icmp_lt (q := 43) (t := 55) hx (hb hby d29_40) (by decide) rfl rfl (fun hc40 => absurd hc40 (by decide)) (fun hc40 => ?_)
  refine Go.aloadN (q := 44) hx (hb hby d29_43) rfl (by rfl) rfl ?_
  refine Go.iloadN (q := 45) hx (hb hby d29_44) rfl rfl ?_
  refine Go.iconst (q := 46) (z := (3 : Int32)) hx (hb hby d29_45) rfl rfl ?_
  refine Go.iadd (q := 47) hx (hb hby d29_46) rfl ?_
  refine Go.callV (q := 50) hx hZ (a := ts) (argsL := [(.int (att + (3 : Int32)))]) (rest := []) hown (tw hw 167 rfl) (tw hw 168 rfl) (fun vm hzv => notFace_of_selects (args := #[]) (mvT hzv (tw hw 170 rfl))) (tw hw 170 rfl) (tw hw 169 rfl) (tw hw 5 rfl) (tw hw 171 rfl) (by decide) TE (rmCh l Z a0 hw hel ts tb kt cst fv cd (att + (3 : Int32)) c1 cs h0 n0 Z0 ⟨TE, T1, T2, TB⟩ ok hlc r3 X0 SC hcs AD HB LB PF hfv) (fun _ hx => nomatch hx) (by rw [hml]; rfl) pd_34 rfl rfl (hb hby d29_47) rfl (by decide) (ble rfl) (ce' := 0) (sl' := 0) rfl rfl (by decide) (by decide) (fun v1060 h1061 hQ1062 => ?_)
  obtain ⟨rfl, rfl⟩ := hQ1062
  show Go _ _ _ _ _ _ _ _ _ _ _ _ _ _ _ _ _ _ _ _ 0 0 50 #[.val (.ref ts), .val (.int att), .val (.int (2 : Int32)), .val (.int c0), .val (.int c1), .val (.int c2)] [(.int c1)]
  refine Go.iload (q := 52) hx (hb hby d29_50) rfl rfl ?_
  refine Go.icmp_ne (q := 55) (t := 90) hx (hb hby d29_52) (by decide) rfl rfl (fun hc52 => absurd rfl hc52) (fun hc52 => ?_)
  refine Go.iloadN (q := 56) hx (hb hby d29_55) rfl rfl ?_
  refine Go.iconst (q := 57) (z := (3 : Int32)) hx (hb hby d29_56) rfl rfl ?_
  refine Go.icmp_lt (q := 60) (t := 72) hx (hb hby d29_57) (by decide) rfl rfl (fun hc57 => ?_) (fun hc57 => absurd hc57 (by decide))
  refine Go.aloadN (q := 73) hx (hb hby d29_72) rfl (by rfl) rfl ?_
  refine Go.iloadN (q := 74) hx (hb hby d29_73) rfl rfl ?_
  refine Go.iconst (q := 75) (z := (2 : Int32)) hx (hb hby d29_74) rfl rfl ?_
  refine Go.iadd (q := 76) hx (hb hby d29_75) rfl ?_
  refine Go.iloadN (q := 77) hx (hb hby d29_76) rfl rfl ?_
  refine Go.iadd (q := 78) hx (hb hby d29_77) rfl ?_
  refine Go.callV (q := 81) hx hZ (a := ts) (argsL := [(.int ((att + (2 : Int32)) + (2 : Int32)))]) (rest := []) hown (tw hw 167 rfl) (tw hw 168 rfl) (fun vm hzv => notFace_of_selects (args := #[]) (mvT hzv (tw hw 170 rfl))) (tw hw 170 rfl) (tw hw 169 rfl) (tw hw 5 rfl) (tw hw 171 rfl) (by decide) TE (rmCh l Z a0 hw hel ts tb kt cst fv cd ((att + (2 : Int32)) + (2 : Int32)) (62 : Int32) cs h0 n0 Z0 ⟨TE, T1, T2, TB⟩ ok hlc r5 X0 SC hcs AD HB LB PF hfv) (fun _ hx => nomatch hx) (by rw [hml]; rfl) pd_34 rfl rfl (hb hby d29_78) rfl (by decide) (ble rfl) (ce' := 0) (sl' := 0) rfl rfl (by decide) (by decide) (fun v1063 h1064 hQ1065 => ?_)
  obtain ⟨rfl, rfl⟩ := hQ1065
  show Go _ _ _ _ _ _ _ _ _ _ _ _ _ _ _ _ _ _ _ _ 0 0 81 #[.val (.ref ts), .val (.int att), .val (.int (2 : Int32)), .val (.int c0), .val (.int c1), .val (.int c2)] [(.int (62 : Int32))]
  refine Go.bipush (q := 83) (z := (62 : Int32)) hx (hb hby d29_81) rfl rfl ?_
  refine Go.icmp_ne (q := 86) (t := 90) hx (hb hby d29_83) (by decide) rfl rfl (fun hc83 => absurd hc83 (by decide)) (fun hc83 => ?_)
  refine Go.iconst (q := 87) (z := (1 : Int32)) hx (hb hby d29_86) rfl rfl ?_
  refine Go.goto (q := 91) hx (hb hby d29_87) (by decide) rfl ?_
  refine Go.retN hx (t := .boolean) hret (by simp) hlk (hb hby d29_91) (by decide) (by decide) ?_
  exact ⟨rfl, rfl⟩
theorem rmCl3 (l : Launch) (Z : State) (a0 : Array Value) (hw : ∀ d ∈ tables_1, d.before a0 Z = true) (hel : EW Z a0 consts_1) (ts tb : Addr) (kt : ClassId) (cst : Int32) (fv : Value) (cd : Nat) (cs : List Int32) (att c0 c1 c2 : Int32) (h0 : Heap) (n0 : Nat) (Z0 : n0 ≤ h0.size) (T : STf Z h0 ts tb kt cd cs) (ok : OKc cd cs) (hlc : cs.length < 30) (r0 : RdU cs (att) (60 : Int32)) (r1 : RdU cs (att + (1 : Int32)) (47 : Int32)) (r2 : RdU cs (att + (2 : Int32)) c0) (r3 : RdU cs (att + (3 : Int32)) c1) (r4 : RdU cs (att + (4 : Int32)) c2) (r5 : RdU cs ((att + (2 : Int32)) + (3 : Int32)) (62 : Int32)) (X0 : Old Z n0 h0) (SC : Sta Z Z.heap "java/lang/String" "COMPACT_STRINGS" "Z" (.int cst)) (hcs : ¬ cst = (0 : Int32)) (AD : Sta Z Z.heap "java/lang/StringUTF16" "$assertionsDisabled" "Z" (.int (1 : Int32))) (HB : Sta Z Z.heap "java/lang/StringUTF16" "HI_BYTE_SHIFT" "I" (.int (0 : Int32))) (LB : Sta Z Z.heap "java/lang/StringUTF16" "LO_BYTE_SHIFT" "I" (.int (8 : Int32))) (PF : Sta Z Z.heap "jdk/internal/util/Preconditions" "SIOOBE_FORMATTER" "Ljava/util/function/BiFunction;" fv) (hfv : fv.isRef = true) :
    Met l Z consts_1 [] (⟨"com/example/clear_recall/clearrecall/web/HtmlClosePinLaw", "closing", "(Ljava/lang/String;IICCC)Z"⟩ : MethodName) method_4_code 6 (Option.some FieldType.boolean) [] ({ frames := 5, cells := 0, slots := 0, locals := 96 } : Room) #[(.ref ts), (.int att), (.int (3 : Int32)), (.int c0), (.int c1), (.int c2)] h0 n0 (fun v h => v = some (.int (1 : Int32)) ∧ h0 = h) := by
  refine Met.of (Ls0 := #[.val (.ref ts), .val (.int att), .val (.int (3 : Int32)), .val (.int c0), .val (.int c1), .val (.int c2)]) pl_48 (by first | (simp [argsToLocals, Value.category]; done) | rfl) hel ?_
  intro p e s m below meth c hx hby hml hret hlk hown hnm hZ
  obtain ⟨TE, T1, T2, TB⟩ := T
  refine Go.aloadN (q := 1) hx (hb hby d29_0) rfl (by rfl) rfl ?_
  refine Go.iloadN (q := 2) hx (hb hby d29_1) rfl rfl ?_
  refine Go.callV (q := 5) hx hZ (a := ts) (argsL := [(.int att)]) (rest := []) hown (tw hw 167 rfl) (tw hw 168 rfl) (fun vm hzv => notFace_of_selects (args := #[]) (mvT hzv (tw hw 170 rfl))) (tw hw 170 rfl) (tw hw 169 rfl) (tw hw 5 rfl) (tw hw 171 rfl) (by decide) TE (rmCh l Z a0 hw hel ts tb kt cst fv cd att (60 : Int32) cs h0 n0 Z0 ⟨TE, T1, T2, TB⟩ ok hlc r0 X0 SC hcs AD HB LB PF hfv) (fun _ hx => nomatch hx) (by rw [hml]; rfl) pd_34 rfl rfl (hb hby d29_2) rfl (by decide) (ble rfl) (ce' := 0) (sl' := 0) rfl rfl (by decide) (by decide) (fun v1066 h1067 hQ1068 => ?_)
  obtain ⟨rfl, rfl⟩ := hQ1068
  show Go _ _ _ _ _ _ _ _ _ _ _ _ _ _ _ _ _ _ _ _ 0 0 5 #[.val (.ref ts), .val (.int att), .val (.int (3 : Int32)), .val (.int c0), .val (.int c1), .val (.int c2)] [(.int (60 : Int32))]
  refine Go.bipush (q := 7) (z := (60 : Int32)) hx (hb hby d29_5) rfl rfl ?_
  refine Go.icmp_ne (q := 10) (t := 90) hx (hb hby d29_7) (by decide) rfl rfl (fun hc7 => absurd hc7 (by decide)) (fun hc7 => ?_)
  refine Go.aloadN (q := 11) hx (hb hby d29_10) rfl (by rfl) rfl ?_
  refine Go.iloadN (q := 12) hx (hb hby d29_11) rfl rfl ?_
  refine Go.iconst (q := 13) (z := (1 : Int32)) hx (hb hby d29_12) rfl rfl ?_
  refine Go.iadd (q := 14) hx (hb hby d29_13) rfl ?_
  refine Go.callV (q := 17) hx hZ (a := ts) (argsL := [(.int (att + (1 : Int32)))]) (rest := []) hown (tw hw 167 rfl) (tw hw 168 rfl) (fun vm hzv => notFace_of_selects (args := #[]) (mvT hzv (tw hw 170 rfl))) (tw hw 170 rfl) (tw hw 169 rfl) (tw hw 5 rfl) (tw hw 171 rfl) (by decide) TE (rmCh l Z a0 hw hel ts tb kt cst fv cd (att + (1 : Int32)) (47 : Int32) cs h0 n0 Z0 ⟨TE, T1, T2, TB⟩ ok hlc r1 X0 SC hcs AD HB LB PF hfv) (fun _ hx => nomatch hx) (by rw [hml]; rfl) pd_34 rfl rfl (hb hby d29_14) rfl (by decide) (ble rfl) (ce' := 0) (sl' := 0) rfl rfl (by decide) (by decide) (fun v1069 h1070 hQ1071 => ?_)
  obtain ⟨rfl, rfl⟩ := hQ1071
  show Go _ _ _ _ _ _ _ _ _ _ _ _ _ _ _ _ _ _ _ _ 0 0 17 #[.val (.ref ts), .val (.int att), .val (.int (3 : Int32)), .val (.int c0), .val (.int c1), .val (.int c2)] [(.int (47 : Int32))]
  refine Go.bipush (q := 19) (z := (47 : Int32)) hx (hb hby d29_17) rfl rfl ?_
  refine Go.icmp_ne (q := 22) (t := 90) hx (hb hby d29_19) (by decide) rfl rfl (fun hc19 => absurd hc19 (by decide)) (fun hc19 => ?_)
  refine Go.iloadN (q := 23) hx (hb hby d29_22) rfl rfl ?_
  refine Go.iconst (q := 24) (z := (1 : Int32)) hx (hb hby d29_23) rfl rfl ?_
  refine Go.icmp_lt (q := 27) (t := 38) hx (hb hby d29_24) (by decide) rfl rfl (fun hc24 => absurd hc24 (by decide)) (fun hc24 => ?_)
  refine Go.aloadN (q := 28) hx (hb hby d29_27) rfl (by rfl) rfl ?_
  refine Go.iloadN (q := 29) hx (hb hby d29_28) rfl rfl ?_
  refine Go.iconst (q := 30) (z := (2 : Int32)) hx (hb hby d29_29) rfl rfl ?_
  refine Go.iadd (q := 31) hx (hb hby d29_30) rfl ?_
  refine Go.callV (q := 34) hx hZ (a := ts) (argsL := [(.int (att + (2 : Int32)))]) (rest := []) hown (tw hw 167 rfl) (tw hw 168 rfl) (fun vm hzv => notFace_of_selects (args := #[]) (mvT hzv (tw hw 170 rfl))) (tw hw 170 rfl) (tw hw 169 rfl) (tw hw 5 rfl) (tw hw 171 rfl) (by decide) TE (rmCh l Z a0 hw hel ts tb kt cst fv cd (att + (2 : Int32)) c0 cs h0 n0 Z0 ⟨TE, T1, T2, TB⟩ ok hlc r2 X0 SC hcs AD HB LB PF hfv) (fun _ hx => nomatch hx) (by rw [hml]; rfl) pd_34 rfl rfl (hb hby d29_31) rfl (by decide) (ble rfl) (ce' := 0) (sl' := 0) rfl rfl (by decide) (by decide) (fun v1072 h1073 hQ1074 => ?_)
  obtain ⟨rfl, rfl⟩ := hQ1074
  show Go _ _ _ _ _ _ _ _ _ _ _ _ _ _ _ _ _ _ _ _ 0 0 34 #[.val (.ref ts), .val (.int att), .val (.int (3 : Int32)), .val (.int c0), .val (.int c1), .val (.int c2)] [(.int c0)]
  refine Go.iloadN (q := 35) hx (hb hby d29_34) rfl rfl ?_
  refine Go.icmp_ne (q := 38) (t := 90) hx (hb hby d29_35) (by decide) rfl rfl (fun hc35 => absurd rfl hc35) (fun hc35 => ?_)
  refine Go.iloadN (q := 39) hx (hb hby d29_38) rfl rfl ?_
  refine Go.iconst (q := 40) (z := (2 : Int32)) hx (hb hby d29_39) rfl rfl ?_
  refine Go.icmp_lt (q := 43) (t := 55) hx (hb hby d29_40) (by decide) rfl rfl (fun hc40 => absurd hc40 (by decide)) (fun hc40 => ?_)
  refine Go.aloadN (q := 44) hx (hb hby d29_43) rfl (by rfl) rfl ?_
  refine Go.iloadN (q := 45) hx (hb hby d29_44) rfl rfl ?_
  refine Go.iconst (q := 46) (z := (3 : Int32)) hx (hb hby d29_45) rfl rfl ?_
  refine Go.iadd (q := 47) hx (hb hby d29_46) rfl ?_
  refine Go.callV (q := 50) hx hZ (a := ts) (argsL := [(.int (att + (3 : Int32)))]) (rest := []) hown (tw hw 167 rfl) (tw hw 168 rfl) (fun vm hzv => notFace_of_selects (args := #[]) (mvT hzv (tw hw 170 rfl))) (tw hw 170 rfl) (tw hw 169 rfl) (tw hw 5 rfl) (tw hw 171 rfl) (by decide) TE (rmCh l Z a0 hw hel ts tb kt cst fv cd (att + (3 : Int32)) c1 cs h0 n0 Z0 ⟨TE, T1, T2, TB⟩ ok hlc r3 X0 SC hcs AD HB LB PF hfv) (fun _ hx => nomatch hx) (by rw [hml]; rfl) pd_34 rfl rfl (hb hby d29_47) rfl (by decide) (ble rfl) (ce' := 0) (sl' := 0) rfl rfl (by decide) (by decide) (fun v1075 h1076 hQ1077 => ?_)
  obtain ⟨rfl, rfl⟩ := hQ1077
  show Go _ _ _ _ _ _ _ _ _ _ _ _ _ _ _ _ _ _ _ _ 0 0 50 #[.val (.ref ts), .val (.int att), .val (.int (3 : Int32)), .val (.int c0), .val (.int c1), .val (.int c2)] [(.int c1)]
  refine Go.iload (q := 52) hx (hb hby d29_50) rfl rfl ?_
  refine Go.icmp_ne (q := 55) (t := 90) hx (hb hby d29_52) (by decide) rfl rfl (fun hc52 => absurd rfl hc52) (fun hc52 => ?_)
  refine Go.iloadN (q := 56) hx (hb hby d29_55) rfl rfl ?_
  refine Go.iconst (q := 57) (z := (3 : Int32)) hx (hb hby d29_56) rfl rfl ?_
  refine Go.icmp_lt (q := 60) (t := 72) hx (hb hby d29_57) (by decide) rfl rfl (fun hc57 => absurd hc57 (by decide)) (fun hc57 => ?_)
  refine Go.aloadN (q := 61) hx (hb hby d29_60) rfl (by rfl) rfl ?_
  refine Go.iloadN (q := 62) hx (hb hby d29_61) rfl rfl ?_
  refine Go.iconst (q := 63) (z := (4 : Int32)) hx (hb hby d29_62) rfl rfl ?_
  refine Go.iadd (q := 64) hx (hb hby d29_63) rfl ?_
  refine Go.callV (q := 67) hx hZ (a := ts) (argsL := [(.int (att + (4 : Int32)))]) (rest := []) hown (tw hw 167 rfl) (tw hw 168 rfl) (fun vm hzv => notFace_of_selects (args := #[]) (mvT hzv (tw hw 170 rfl))) (tw hw 170 rfl) (tw hw 169 rfl) (tw hw 5 rfl) (tw hw 171 rfl) (by decide) TE (rmCh l Z a0 hw hel ts tb kt cst fv cd (att + (4 : Int32)) c2 cs h0 n0 Z0 ⟨TE, T1, T2, TB⟩ ok hlc r4 X0 SC hcs AD HB LB PF hfv) (fun _ hx => nomatch hx) (by rw [hml]; rfl) pd_34 rfl rfl (hb hby d29_64) rfl (by decide) (ble rfl) (ce' := 0) (sl' := 0) rfl rfl (by decide) (by decide) (fun v1078 h1079 hQ1080 => ?_)
  obtain ⟨rfl, rfl⟩ := hQ1080
  show Go _ _ _ _ _ _ _ _ _ _ _ _ _ _ _ _ _ _ _ _ 0 0 67 #[.val (.ref ts), .val (.int att), .val (.int (3 : Int32)), .val (.int c0), .val (.int c1), .val (.int c2)] [(.int c2)]
  refine Go.iload (q := 69) hx (hb hby d29_67) rfl rfl ?_
  refine Go.icmp_ne (q := 72) (t := 90) hx (hb hby d29_69) (by decide) rfl rfl (fun hc69 => absurd rfl hc69) (fun hc69 => ?_)
  refine Go.aloadN (q := 73) hx (hb hby d29_72) rfl (by rfl) rfl ?_
  refine Go.iloadN (q := 74) hx (hb hby d29_73) rfl rfl ?_
  refine Go.iconst (q := 75) (z := (2 : Int32)) hx (hb hby d29_74) rfl rfl ?_
  refine Go.iadd (q := 76) hx (hb hby d29_75) rfl ?_
  refine Go.iloadN (q := 77) hx (hb hby d29_76) rfl rfl ?_
  refine Go.iadd (q := 78) hx (hb hby d29_77) rfl ?_
  refine Go.callV (q := 81) hx hZ (a := ts) (argsL := [(.int ((att + (2 : Int32)) + (3 : Int32)))]) (rest := []) hown (tw hw 167 rfl) (tw hw 168 rfl) (fun vm hzv => notFace_of_selects (args := #[]) (mvT hzv (tw hw 170 rfl))) (tw hw 170 rfl) (tw hw 169 rfl) (tw hw 5 rfl) (tw hw 171 rfl) (by decide) TE (rmCh l Z a0 hw hel ts tb kt cst fv cd ((att + (2 : Int32)) + (3 : Int32)) (62 : Int32) cs h0 n0 Z0 ⟨TE, T1, T2, TB⟩ ok hlc r5 X0 SC hcs AD HB LB PF hfv) (fun _ hx => nomatch hx) (by rw [hml]; rfl) pd_34 rfl rfl (hb hby d29_78) rfl (by decide) (ble rfl) (ce' := 0) (sl' := 0) rfl rfl (by decide) (by decide) (fun v1081 h1082 hQ1083 => ?_)
  obtain ⟨rfl, rfl⟩ := hQ1083
  show Go _ _ _ _ _ _ _ _ _ _ _ _ _ _ _ _ _ _ _ _ 0 0 81 #[.val (.ref ts), .val (.int att), .val (.int (3 : Int32)), .val (.int c0), .val (.int c1), .val (.int c2)] [(.int (62 : Int32))]
  refine Go.bipush (q := 83) (z := (62 : Int32)) hx (hb hby d29_81) rfl rfl ?_
  refine Go.icmp_ne (q := 86) (t := 90) hx (hb hby d29_83) (by decide) rfl rfl (fun hc83 => absurd hc83 (by decide)) (fun hc83 => ?_)
  refine Go.iconst (q := 87) (z := (1 : Int32)) hx (hb hby d29_86) rfl rfl ?_
  refine Go.goto (q := 91) hx (hb hby d29_87) (by decide) rfl ?_
  refine Go.retN hx (t := .boolean) hret (by simp) hlk (hb hby d29_91) (by decide) (by decide) ?_
  exact ⟨rfl, rfl⟩
theorem rmCl (l : Launch) (Z : State) (a0 : Array Value) (hw : ∀ d ∈ tables_1, d.before a0 Z = true) (hel : EW Z a0 consts_1) (ts tb : Addr) (kt : ClassId) (cst : Int32) (fv : Value) (cd : Nat) (cs : List Int32) (P Sx : List Int32) (k : Nat) (att c0 c1 c2 : Int32) (h0 : Heap) (n0 : Nat) (Z0 : n0 ≤ h0.size) (T : STf Z h0 ts tb kt cd cs) (ok : OKc cd cs) (hlc : cs.length < 30) (hk : k ≤ 3) (hcs' : cs = (P ++ (([(60 : Int32), (47 : Int32)] ++ List.take k [c0, c1, c2]) ++ [(62 : Int32)])) ++ Sx) (hat : att = iN P.length) (X0 : Old Z n0 h0) (SC : Sta Z Z.heap "java/lang/String" "COMPACT_STRINGS" "Z" (.int cst)) (hcs : ¬ cst = (0 : Int32)) (AD : Sta Z Z.heap "java/lang/StringUTF16" "$assertionsDisabled" "Z" (.int (1 : Int32))) (HB : Sta Z Z.heap "java/lang/StringUTF16" "HI_BYTE_SHIFT" "I" (.int (0 : Int32))) (LB : Sta Z Z.heap "java/lang/StringUTF16" "LO_BYTE_SHIFT" "I" (.int (8 : Int32))) (PF : Sta Z Z.heap "jdk/internal/util/Preconditions" "SIOOBE_FORMATTER" "Ljava/util/function/BiFunction;" fv) (hfv : fv.isRef = true) :
    Met l Z consts_1 [] (⟨"com/example/clear_recall/clearrecall/web/HtmlClosePinLaw", "closing", "(Ljava/lang/String;IICCC)Z"⟩ : MethodName) method_4_code 6 (Option.some FieldType.boolean) [] ({ frames := 5, cells := 0, slots := 0, locals := 96 } : Room) #[(.ref ts), (.int att), (.int (iN k)), (.int c0), (.int c1), (.int c2)] h0 n0 (fun v h => v = some (.int (1 : Int32)) ∧ h0 = h) := by
  subst hat
  match k, hk, hcs' with
  | 0, _, hcs' => 
    have hcs2 : cs = P ++ ([(60 : Int32), (47 : Int32), (62 : Int32)] ++ Sx) := by rw [hcs', List.append_assoc]; rfl
    subst hcs2
    exact rmCl0 l Z a0 hw hel ts tb kt cst fv cd _ (iN P.length) c0 c1 c2 h0 n0 Z0 T ok hlc (rd_at0 P ([(60 : Int32), (47 : Int32), (62 : Int32)] ++ Sx) _ rfl) (rd_at P ([(60 : Int32), (47 : Int32), (62 : Int32)] ++ Sx) 1 _ rfl) (by rw [Int32.add_assoc, show (2 : Int32) + (0 : Int32) = iN 2 from by decide]; exact rd_at P ([(60 : Int32), (47 : Int32), (62 : Int32)] ++ Sx) 2 _ rfl) X0 SC hcs AD HB LB PF hfv
  | 1, _, hcs' => 
    have hcs2 : cs = P ++ ([(60 : Int32), (47 : Int32), c0, (62 : Int32)] ++ Sx) := by rw [hcs', List.append_assoc]; rfl
    subst hcs2
    exact rmCl1 l Z a0 hw hel ts tb kt cst fv cd _ (iN P.length) c0 c1 c2 h0 n0 Z0 T ok hlc (rd_at0 P ([(60 : Int32), (47 : Int32), c0, (62 : Int32)] ++ Sx) _ rfl) (rd_at P ([(60 : Int32), (47 : Int32), c0, (62 : Int32)] ++ Sx) 1 _ rfl) (rd_at P ([(60 : Int32), (47 : Int32), c0, (62 : Int32)] ++ Sx) 2 _ rfl) (by rw [Int32.add_assoc, show (2 : Int32) + (1 : Int32) = iN 3 from by decide]; exact rd_at P ([(60 : Int32), (47 : Int32), c0, (62 : Int32)] ++ Sx) 3 _ rfl) X0 SC hcs AD HB LB PF hfv
  | 2, _, hcs' => 
    have hcs2 : cs = P ++ ([(60 : Int32), (47 : Int32), c0, c1, (62 : Int32)] ++ Sx) := by rw [hcs', List.append_assoc]; rfl
    subst hcs2
    exact rmCl2 l Z a0 hw hel ts tb kt cst fv cd _ (iN P.length) c0 c1 c2 h0 n0 Z0 T ok hlc (rd_at0 P ([(60 : Int32), (47 : Int32), c0, c1, (62 : Int32)] ++ Sx) _ rfl) (rd_at P ([(60 : Int32), (47 : Int32), c0, c1, (62 : Int32)] ++ Sx) 1 _ rfl) (rd_at P ([(60 : Int32), (47 : Int32), c0, c1, (62 : Int32)] ++ Sx) 2 _ rfl) (rd_at P ([(60 : Int32), (47 : Int32), c0, c1, (62 : Int32)] ++ Sx) 3 _ rfl) (by rw [Int32.add_assoc, show (2 : Int32) + (2 : Int32) = iN 4 from by decide]; exact rd_at P ([(60 : Int32), (47 : Int32), c0, c1, (62 : Int32)] ++ Sx) 4 _ rfl) X0 SC hcs AD HB LB PF hfv
  | 3, _, hcs' => 
    have hcs2 : cs = P ++ ([(60 : Int32), (47 : Int32), c0, c1, c2, (62 : Int32)] ++ Sx) := by rw [hcs', List.append_assoc]; rfl
    subst hcs2
    exact rmCl3 l Z a0 hw hel ts tb kt cst fv cd _ (iN P.length) c0 c1 c2 h0 n0 Z0 T ok hlc (rd_at0 P ([(60 : Int32), (47 : Int32), c0, c1, c2, (62 : Int32)] ++ Sx) _ rfl) (rd_at P ([(60 : Int32), (47 : Int32), c0, c1, c2, (62 : Int32)] ++ Sx) 1 _ rfl) (rd_at P ([(60 : Int32), (47 : Int32), c0, c1, c2, (62 : Int32)] ++ Sx) 2 _ rfl) (rd_at P ([(60 : Int32), (47 : Int32), c0, c1, c2, (62 : Int32)] ++ Sx) 3 _ rfl) (rd_at P ([(60 : Int32), (47 : Int32), c0, c1, c2, (62 : Int32)] ++ Sx) 4 _ rfl) (by rw [Int32.add_assoc, show (2 : Int32) + (3 : Int32) = iN 5 from by decide]; exact rd_at P ([(60 : Int32), (47 : Int32), c0, c1, c2, (62 : Int32)] ++ Sx) 5 _ rfl) X0 SC hcs AD HB LB PF hfv
  | _ + 4, h, _ => exact absurd h (by omega)
theorem d0_0 : decode method_3_code 0 = .ok (.iload_n 0, 1) := by decide +kernel
theorem d0_1 : decode method_3_code 1 = .ok (.ifCond .ne 6, 3) := by decide +kernel
theorem d0_4 : decode method_3_code 4 = .ok (.ldc 34, 2) := by decide +kernel
theorem d0_6 : decode method_3_code 6 = .ok (.areturn, 1) := by decide +kernel
theorem d0_7 : decode method_3_code 7 = .ok (.iload_n 0, 1) := by decide +kernel
theorem d0_8 : decode method_3_code 8 = .ok (.iconst 1, 1) := by decide +kernel
theorem d0_9 : decode method_3_code 9 = .ok (.if_icmp .ne 18, 3) := by decide +kernel
theorem d0_12 : decode method_3_code 12 = .ok (.new 25, 3) := by decide +kernel
theorem d0_15 : decode method_3_code 15 = .ok (.dup, 1) := by decide +kernel
theorem d0_16 : decode method_3_code 16 = .ok (.iconst 1, 1) := by decide +kernel
theorem d0_17 : decode method_3_code 17 = .ok (.newarray .char, 2) := by decide +kernel
theorem d0_19 : decode method_3_code 19 = .ok (.dup, 1) := by decide +kernel
theorem d0_20 : decode method_3_code 20 = .ok (.iconst 0, 1) := by decide +kernel
theorem d0_21 : decode method_3_code 21 = .ok (.iload_n 1, 1) := by decide +kernel
theorem d0_22 : decode method_3_code 22 = .ok (.castore, 1) := by decide +kernel
theorem d0_23 : decode method_3_code 23 = .ok (.invokespecial 36, 3) := by decide +kernel
theorem d0_26 : decode method_3_code 26 = .ok (.areturn, 1) := by decide +kernel
theorem d0_27 : decode method_3_code 27 = .ok (.iload_n 0, 1) := by decide +kernel
theorem d0_28 : decode method_3_code 28 = .ok (.iconst 2, 1) := by decide +kernel
theorem d0_29 : decode method_3_code 29 = .ok (.if_icmp .ne 22, 3) := by decide +kernel
theorem d0_32 : decode method_3_code 32 = .ok (.new 25, 3) := by decide +kernel
theorem d0_35 : decode method_3_code 35 = .ok (.dup, 1) := by decide +kernel
theorem d0_36 : decode method_3_code 36 = .ok (.iconst 2, 1) := by decide +kernel
theorem d0_37 : decode method_3_code 37 = .ok (.newarray .char, 2) := by decide +kernel
theorem d0_39 : decode method_3_code 39 = .ok (.dup, 1) := by decide +kernel
theorem d0_40 : decode method_3_code 40 = .ok (.iconst 0, 1) := by decide +kernel
theorem d0_41 : decode method_3_code 41 = .ok (.iload_n 1, 1) := by decide +kernel
theorem d0_42 : decode method_3_code 42 = .ok (.castore, 1) := by decide +kernel
theorem d0_43 : decode method_3_code 43 = .ok (.dup, 1) := by decide +kernel
theorem d0_44 : decode method_3_code 44 = .ok (.iconst 1, 1) := by decide +kernel
theorem d0_45 : decode method_3_code 45 = .ok (.iload_n 2, 1) := by decide +kernel
theorem d0_46 : decode method_3_code 46 = .ok (.castore, 1) := by decide +kernel
theorem d0_47 : decode method_3_code 47 = .ok (.invokespecial 36, 3) := by decide +kernel
theorem d0_50 : decode method_3_code 50 = .ok (.areturn, 1) := by decide +kernel
theorem d0_51 : decode method_3_code 51 = .ok (.new 25, 3) := by decide +kernel
theorem d0_54 : decode method_3_code 54 = .ok (.dup, 1) := by decide +kernel
theorem d0_55 : decode method_3_code 55 = .ok (.iconst 3, 1) := by decide +kernel
theorem d0_56 : decode method_3_code 56 = .ok (.newarray .char, 2) := by decide +kernel
theorem d0_58 : decode method_3_code 58 = .ok (.dup, 1) := by decide +kernel
theorem d0_59 : decode method_3_code 59 = .ok (.iconst 0, 1) := by decide +kernel
theorem d0_60 : decode method_3_code 60 = .ok (.iload_n 1, 1) := by decide +kernel
theorem d0_61 : decode method_3_code 61 = .ok (.castore, 1) := by decide +kernel
theorem d0_62 : decode method_3_code 62 = .ok (.dup, 1) := by decide +kernel
theorem d0_63 : decode method_3_code 63 = .ok (.iconst 1, 1) := by decide +kernel
theorem d0_64 : decode method_3_code 64 = .ok (.iload_n 2, 1) := by decide +kernel
theorem d0_65 : decode method_3_code 65 = .ok (.castore, 1) := by decide +kernel
theorem d0_66 : decode method_3_code 66 = .ok (.dup, 1) := by decide +kernel
theorem d0_67 : decode method_3_code 67 = .ok (.iconst 2, 1) := by decide +kernel
theorem d0_68 : decode method_3_code 68 = .ok (.iload_n 3, 1) := by decide +kernel
theorem d0_69 : decode method_3_code 69 = .ok (.castore, 1) := by decide +kernel
theorem d0_70 : decode method_3_code 70 = .ok (.invokespecial 36, 3) := by decide +kernel
theorem d0_73 : decode method_3_code 73 = .ok (.areturn, 1) := by decide +kernel
theorem pl_49 : plainFor (⟨"com/example/clear_recall/clearrecall/web/HtmlClosePinLaw", "tag", "(ICCC)Ljava/lang/String;"⟩ : MethodName) = true := plainFor_of_name (by first | (simp [plainName, overriddenIn]; done) | decide +kernel)
theorem pd_35 : parseMethodDescriptor "([C)V" = some ⟨[(.array .char)], none⟩ := by decide +kernel
theorem rmTg0 (l : Launch) (Z : State) (a0 : Array Value) (hw : ∀ d ∈ tables_1, d.before a0 Z = true) (hel : EW Z a0 consts_1) (cst c0 c1 c2 : Int32) (h0 : Heap) (n0 : Nat) (Z0 : n0 ≤ h0.size)  (X0 : Old Z n0 h0) (SC : Sta Z Z.heap "java/lang/String" "COMPACT_STRINGS" "Z" (.int cst)) (hcs : ¬ cst = (0 : Int32)) (AD : Sta Z Z.heap "java/lang/StringUTF16" "$assertionsDisabled" "Z" (.int (1 : Int32))) (HB : Sta Z Z.heap "java/lang/StringUTF16" "HI_BYTE_SHIFT" "I" (.int (0 : Int32))) (LB : Sta Z Z.heap "java/lang/StringUTF16" "LO_BYTE_SHIFT" "I" (.int (8 : Int32))) :
    Met l Z consts_1 [] (⟨"com/example/clear_recall/clearrecall/web/HtmlClosePinLaw", "tag", "(ICCC)Ljava/lang/String;"⟩ : MethodName) method_3_code 4 (Option.some (FieldType.object "java/lang/String")) [] ({ frames := 6, cells := 4, slots := 24, locals := 123 } : Room) #[(.int (0 : Int32)), (.int c0), (.int c1), (.int c2)] h0 n0 (fun v h => ∃ ts tb kt cd, v = some (.ref ts) ∧ Keep h0 h [] ∧ STf Z h ts tb kt cd [] ∧ OKc cd []) := by
  refine Met.of (Ls0 := #[.val (.int (0 : Int32)), .val (.int c0), .val (.int c1), .val (.int c2)]) pl_49 (by first | (simp [argsToLocals, Value.category]; done) | rfl) hel ?_
  have hSA : ∀ d ∈ Bundle.stringAtoms, d.before a0 Z = true := fun d hd => hw d ((by decide +kernel : ∀ d ∈ Bundle.stringAtoms, d ∈ tables_1) d hd)
  intro p e s m below meth c hx hby hml hret hlk hown hnm hZ
  refine Go.iloadN (q := 1) hx (hb hby d0_0) rfl rfl ?_
  refine Go.if_ne (q := 4) (t := 7) hx (hb hby d0_1) (by decide) rfl rfl (fun hc1 => absurd hc1 (by decide)) (fun hc1 => ?_)
  refine Go.ldcStr (q := 6) (nn := 0) (z := (0 : Int32)) (vs := []) hx hZ hown (tw hw 4 rfl) hSA (by decide) ⟨by decide, rfl⟩ (by decide) rfl (hb hby d0_4) rfl (by decide) (by decide) (ce' := 2) (sl' := 4) rfl rfl (by decide) (by decide) (fun h1084 a1085 b1087 k1088 E1086 x1089 x1090 x1091 x1092 nn1093 => ?_)
  refine Go.retA hx hret rfl (by rfl) hlk (hb hby d0_6) (by decide) (by decide) ?_
  exact ⟨a1085, b1087, k1088, 0, rfl, ((Keep.refl h0 []).ext E1086), ⟨x1089, x1091, x1090, x1092⟩, ac0, Or.inl ⟨rfl, a80⟩⟩
theorem rmTg1 (l : Launch) (Z : State) (a0 : Array Value) (hw : ∀ d ∈ tables_1, d.before a0 Z = true) (hel : EW Z a0 consts_1) (cst c0 c1 c2 : Int32) (h0 : Heap) (n0 : Nat) (Z0 : n0 ≤ h0.size) (hq0 : Chr c0) (X0 : Old Z n0 h0) (SC : Sta Z Z.heap "java/lang/String" "COMPACT_STRINGS" "Z" (.int cst)) (hcs : ¬ cst = (0 : Int32)) (AD : Sta Z Z.heap "java/lang/StringUTF16" "$assertionsDisabled" "Z" (.int (1 : Int32))) (HB : Sta Z Z.heap "java/lang/StringUTF16" "HI_BYTE_SHIFT" "I" (.int (0 : Int32))) (LB : Sta Z Z.heap "java/lang/StringUTF16" "LO_BYTE_SHIFT" "I" (.int (8 : Int32))) :
    Met l Z consts_1 [] (⟨"com/example/clear_recall/clearrecall/web/HtmlClosePinLaw", "tag", "(ICCC)Ljava/lang/String;"⟩ : MethodName) method_3_code 4 (Option.some (FieldType.object "java/lang/String")) [] ({ frames := 6, cells := 4, slots := 24, locals := 123 } : Room) #[(.int (1 : Int32)), (.int c0), (.int c1), (.int c2)] h0 n0 (fun v h => ∃ ts tb kt cd, v = some (.ref ts) ∧ Keep h0 h [] ∧ STf Z h ts tb kt cd [c0] ∧ OKc cd [c0]) := by
  refine Met.of (Ls0 := #[.val (.int (1 : Int32)), .val (.int c0), .val (.int c1), .val (.int c2)]) pl_49 (by first | (simp [argsToLocals, Value.category]; done) | rfl) hel ?_
  have hSA : ∀ d ∈ Bundle.stringAtoms, d.before a0 Z = true := fun d hd => hw d ((by decide +kernel : ∀ d ∈ Bundle.stringAtoms, d ∈ tables_1) d hd)
  intro p e s m below meth c hx hby hml hret hlk hown hnm hZ
  refine Go.iloadN (q := 1) hx (hb hby d0_0) rfl rfl ?_
  refine Go.if_ne (q := 4) (t := 7) hx (hb hby d0_1) (by decide) rfl rfl (fun hc1 => ?_) (fun hc1 => absurd hc1 (by decide))
  refine Go.iloadN (q := 8) hx (hb hby d0_7) rfl rfl ?_
  refine Go.iconst (q := 9) (z := (1 : Int32)) hx (hb hby d0_8) rfl rfl ?_
  refine Go.icmp_ne (q := 12) (t := 27) hx (hb hby d0_9) (by decide) rfl rfl (fun hc9 => absurd hc9 (by decide)) (fun hc9 => ?_)
  refine Go.newO (q := 15) hx hZ hown (tw hw 188 rfl) (tw hw 6 rfl) (tw hw 5 rfl) (hb hby d0_12) rfl (ce' := 1) (sl' := 4) rfl rfl (by decide) (by decide) (fun h1094 a1095 g1096 E1097 A1098 D1099 => ?_)
  have gz1100 : n0 ≤ a1095 := by rw [g1096]; exact Z0
  have gk1101 : h0.size ≤ a1095 := by rw [g1096]; exact (Keep.refl h0 []).1
  refine Go.dup (q := 16) hx (hb hby d0_15) rfl rfl ?_
  refine Go.iconst (q := 17) (z := (1 : Int32)) hx (hb hby d0_16) rfl rfl ?_
  refine Go.newP (q := 19) (cap := 1) hx hZ (tw hw 189 rfl) (by decide) (by decide) (hb hby d0_17) rfl (by decide) (ce' := 2) (sl' := 5) rfl rfl (by decide) (by decide) (fun h1102 a1103 k1104 g1105 E1106 A1107 => ?_)
  have ne1108 : a1095 ≠ a1103 := by rw [g1105]; exact Nat.ne_of_lt (A1098).lt
  have gz1109 : n0 ≤ a1103 := by rw [g1105]; exact (Nat.le_trans Z0 E1097.1)
  have gk1110 : h0.size ≤ a1103 := by rw [g1105]; exact ((Keep.refl h0 []).ext E1097).1
  have V1111 : Arv Z h1102 a1103 k1104 .char (1 : Int32) [(.int (0 : Int32))] (.int (0 : Int32)) := A1107.pad (pad_rep [] (.int (0 : Int32)) 1)
  refine Go.dup (q := 20) hx (hb hby d0_19) rfl rfl ?_
  refine Go.iconst (q := 21) (z := (0 : Int32)) hx (hb hby d0_20) rfl rfl ?_
  refine Go.iloadN (q := 22) hx (hb hby d0_21) rfl rfl ?_
  refine Go.castore (q := 23) hx hZ V1111 ⟨by decide, by decide⟩ 0 rfl (ble rfl) gz1109 (by simp) (hb hby d0_22) rfl (fun h1112 W1113 V1114 => ?_)
  have V1115 : Arv Z h1112 a1103 k1104 .char (1 : Int32) [.int c0] (.int (0 : Int32)) := by have V := V1114; rw [nar_chr hq0] at V; exact V
  rcases lu1 c0 with hp0 | hU
  · skip
    refine Go.callI (q := 26) hx hZ (a := a1095) (argsL := [(.ref a1103)]) (rest := [(.ref a1095)]) hown rfl (tw hw 190 rfl) (tw hw 191 rfl) (tw hw 5 rfl) (tw hw 192 rfl) (by decide) (rmI1 l Z a0 hw hel a1095 a1103 k1104 cst c0 h1112 n0 (Nat.le_trans (Nat.le_trans (Nat.le_trans Z0 E1097.1) E1106.1) (Keep.of_wr W1113).1) gz1100 ne1108.symm (Exa.wr W1113 (Exa.ext E1106 A1098)) (Fld.other W1113 (Fld.ext E1106 (D1099 (Or.inr (tw hw 8 rfl)) (ty := (.array .byte)) (by decide))) (Or.inl ne1108)) (Fld.other W1113 (Fld.ext E1106 (D1099 (Or.inr (tw hw 9 rfl)) (ty := .byte) (by decide))) (Or.inl ne1108)) V1115 hp0 (((X0.ext E1097).ext E1106).wr W1113 gz1109) SC hcs) (by simp) (by rw [hml]; rfl) pd_35 rfl rfl (hb hby d0_23) rfl (by decide) (ble rfl) (ce' := 3) (sl' := 6) rfl rfl (by decide) (by decide) (fun v1116 h1117 hQ1118 => ?_)
    have lt1120 := ((Exa.wr W1113 (Exa.ext E1106 A1098))).lt
    have lt1121 := (V1115).lt
    obtain ⟨rfl, K1119, b1122, k1123, g1124, F1125, F1126, V1127⟩ := hQ1118
    have ne1128 : a1095 ≠ b1122 := Nat.ne_of_lt (Nat.lt_of_lt_of_le lt1120 g1124)
    have ne1129 : a1103 ≠ b1122 := Nat.ne_of_lt (Nat.lt_of_lt_of_le lt1121 g1124)
    show Go _ _ _ _ _ _ _ _ _ _ _ _ _ _ _ _ _ _ _ _ 3 6 26 #[.val (.int (1 : Int32)), .val (.int c0), .val (.int c1), .val (.int c2)] [(.ref a1095)]
    refine Go.retA hx hret rfl (by rfl) hlk (hb hby d0_26) (by decide) (by decide) ?_
    exact ⟨a1095, b1122, k1123, 0, rfl, (Keep.trans ((((Keep.refl h0 []).ext E1097).ext E1106).wr W1113 (Or.inr gk1110)) K1119 (allS (Or.inr gk1101) all0)), ⟨((Exa.wr W1113 (Exa.ext E1106 A1098)).keep K1119), F1125, F1126, V1127⟩, (acS hq0 ac0), Or.inl ⟨rfl, (a8S hp0 a80)⟩⟩
  · skip
    refine Go.callI (q := 26) hx hZ (a := a1095) (argsL := [(.ref a1103)]) (rest := [(.ref a1095)]) hown rfl (tw hw 190 rfl) (tw hw 191 rfl) (tw hw 5 rfl) (tw hw 192 rfl) (by decide) (rmIU1 l Z a0 hw hel a1095 a1103 k1104 cst c0 h1112 n0 (Nat.le_trans (Nat.le_trans (Nat.le_trans Z0 E1097.1) E1106.1) (Keep.of_wr W1113).1) gz1100 ne1108.symm (Exa.wr W1113 (Exa.ext E1106 A1098)) (Fld.other W1113 (Fld.ext E1106 (D1099 (Or.inr (tw hw 8 rfl)) (ty := (.array .byte)) (by decide))) (Or.inl ne1108)) (Fld.other W1113 (Fld.ext E1106 (D1099 (Or.inr (tw hw 9 rfl)) (ty := .byte) (by decide))) (Or.inl ne1108)) V1115 hq0 hU (((X0.ext E1097).ext E1106).wr W1113 gz1109) SC hcs AD HB LB) (by simp) (by rw [hml]; rfl) pd_35 rfl rfl (hb hby d0_23) rfl (by decide) (ble rfl) (ce' := 4) (sl' := 8) rfl rfl (by decide) (by decide) (fun v1130 h1131 hQ1132 => ?_)
    obtain ⟨rfl, K1133, b1134, k1135, g1136, F1137, F1138, V1139⟩ := hQ1132
    show Go _ _ _ _ _ _ _ _ _ _ _ _ _ _ _ _ _ _ _ _ 4 8 26 #[.val (.int (1 : Int32)), .val (.int c0), .val (.int c1), .val (.int c2)] [(.ref a1095)]
    refine Go.retA hx hret rfl (by rfl) hlk (hb hby d0_26) (by decide) (by decide) ?_
    exact ⟨a1095, b1134, k1135, 1, rfl, (Keep.trans ((((Keep.refl h0 []).ext E1097).ext E1106).wr W1113 (Or.inr gk1110)) K1133 (allS (Or.inr gk1101) all0)), ⟨((Exa.wr W1113 (Exa.ext E1106 A1098)).keep K1133), F1137, F1138, V1139⟩, (acS hq0 ac0), Or.inr rfl⟩
theorem rmTg2 (l : Launch) (Z : State) (a0 : Array Value) (hw : ∀ d ∈ tables_1, d.before a0 Z = true) (hel : EW Z a0 consts_1) (cst c0 c1 c2 : Int32) (h0 : Heap) (n0 : Nat) (Z0 : n0 ≤ h0.size) (hq0 : Chr c0) (hq1 : Chr c1) (X0 : Old Z n0 h0) (SC : Sta Z Z.heap "java/lang/String" "COMPACT_STRINGS" "Z" (.int cst)) (hcs : ¬ cst = (0 : Int32)) (AD : Sta Z Z.heap "java/lang/StringUTF16" "$assertionsDisabled" "Z" (.int (1 : Int32))) (HB : Sta Z Z.heap "java/lang/StringUTF16" "HI_BYTE_SHIFT" "I" (.int (0 : Int32))) (LB : Sta Z Z.heap "java/lang/StringUTF16" "LO_BYTE_SHIFT" "I" (.int (8 : Int32))) :
    Met l Z consts_1 [] (⟨"com/example/clear_recall/clearrecall/web/HtmlClosePinLaw", "tag", "(ICCC)Ljava/lang/String;"⟩ : MethodName) method_3_code 4 (Option.some (FieldType.object "java/lang/String")) [] ({ frames := 6, cells := 4, slots := 24, locals := 123 } : Room) #[(.int (2 : Int32)), (.int c0), (.int c1), (.int c2)] h0 n0 (fun v h => ∃ ts tb kt cd, v = some (.ref ts) ∧ Keep h0 h [] ∧ STf Z h ts tb kt cd [c0, c1] ∧ OKc cd [c0, c1]) := by
  refine Met.of (Ls0 := #[.val (.int (2 : Int32)), .val (.int c0), .val (.int c1), .val (.int c2)]) pl_49 (by first | (simp [argsToLocals, Value.category]; done) | rfl) hel ?_
  have hSA : ∀ d ∈ Bundle.stringAtoms, d.before a0 Z = true := fun d hd => hw d ((by decide +kernel : ∀ d ∈ Bundle.stringAtoms, d ∈ tables_1) d hd)
  intro p e s m below meth c hx hby hml hret hlk hown hnm hZ
  refine Go.iloadN (q := 1) hx (hb hby d0_0) rfl rfl ?_
  refine Go.if_ne (q := 4) (t := 7) hx (hb hby d0_1) (by decide) rfl rfl (fun hc1 => ?_) (fun hc1 => absurd hc1 (by decide))
  refine Go.iloadN (q := 8) hx (hb hby d0_7) rfl rfl ?_
  refine Go.iconst (q := 9) (z := (1 : Int32)) hx (hb hby d0_8) rfl rfl ?_
  refine Go.icmp_ne (q := 12) (t := 27) hx (hb hby d0_9) (by decide) rfl rfl (fun hc9 => ?_) (fun hc9 => absurd hc9 (by decide))
  refine Go.iloadN (q := 28) hx (hb hby d0_27) rfl rfl ?_
  refine Go.iconst (q := 29) (z := (2 : Int32)) hx (hb hby d0_28) rfl rfl ?_
  refine Go.icmp_ne (q := 32) (t := 51) hx (hb hby d0_29) (by decide) rfl rfl (fun hc29 => absurd hc29 (by decide)) (fun hc29 => ?_)
  refine Go.newO (q := 35) hx hZ hown (tw hw 188 rfl) (tw hw 6 rfl) (tw hw 5 rfl) (hb hby d0_32) rfl (ce' := 1) (sl' := 4) rfl rfl (by decide) (by decide) (fun h1140 a1141 g1142 E1143 A1144 D1145 => ?_)
  have gz1146 : n0 ≤ a1141 := by rw [g1142]; exact Z0
  have gk1147 : h0.size ≤ a1141 := by rw [g1142]; exact (Keep.refl h0 []).1
  refine Go.dup (q := 36) hx (hb hby d0_35) rfl rfl ?_
  refine Go.iconst (q := 37) (z := (2 : Int32)) hx (hb hby d0_36) rfl rfl ?_
  refine Go.newP (q := 39) (cap := 2) hx hZ (tw hw 189 rfl) (by decide) (by decide) (hb hby d0_37) rfl (by decide) (ce' := 2) (sl' := 6) rfl rfl (by decide) (by decide) (fun h1148 a1149 k1150 g1151 E1152 A1153 => ?_)
  have ne1154 : a1141 ≠ a1149 := by rw [g1151]; exact Nat.ne_of_lt (A1144).lt
  have gz1155 : n0 ≤ a1149 := by rw [g1151]; exact (Nat.le_trans Z0 E1143.1)
  have gk1156 : h0.size ≤ a1149 := by rw [g1151]; exact ((Keep.refl h0 []).ext E1143).1
  have V1157 : Arv Z h1148 a1149 k1150 .char (2 : Int32) [(.int (0 : Int32)), (.int (0 : Int32))] (.int (0 : Int32)) := A1153.pad (pad_rep [] (.int (0 : Int32)) 2)
  refine Go.dup (q := 40) hx (hb hby d0_39) rfl rfl ?_
  refine Go.iconst (q := 41) (z := (0 : Int32)) hx (hb hby d0_40) rfl rfl ?_
  refine Go.iloadN (q := 42) hx (hb hby d0_41) rfl rfl ?_
  refine Go.castore (q := 43) hx hZ V1157 ⟨by decide, by decide⟩ 0 rfl (ble rfl) gz1155 (by simp) (hb hby d0_42) rfl (fun h1158 W1159 V1160 => ?_)
  refine Go.dup (q := 44) hx (hb hby d0_43) rfl rfl ?_
  refine Go.iconst (q := 45) (z := (1 : Int32)) hx (hb hby d0_44) rfl rfl ?_
  refine Go.iloadN (q := 46) hx (hb hby d0_45) rfl rfl ?_
  refine Go.castore (q := 47) hx hZ V1160 ⟨by decide, by decide⟩ 1 rfl (ble rfl) gz1155 (by simp) (hb hby d0_46) rfl (fun h1161 W1162 V1163 => ?_)
  have V1164 : Arv Z h1161 a1149 k1150 .char (2 : Int32) [.int c0, .int c1] (.int (0 : Int32)) := by have V := V1163; rw [nar_chr hq0, nar_chr hq1] at V; exact V
  rcases lu2 c0 c1 with ⟨hp0, hp1⟩ | hU
  · skip
    refine Go.callI (q := 50) hx hZ (a := a1141) (argsL := [(.ref a1149)]) (rest := [(.ref a1141)]) hown rfl (tw hw 190 rfl) (tw hw 191 rfl) (tw hw 5 rfl) (tw hw 192 rfl) (by decide) (rmI2 l Z a0 hw hel a1141 a1149 k1150 cst c0 c1 h1161 n0 (Nat.le_trans (Nat.le_trans (Nat.le_trans (Nat.le_trans Z0 E1143.1) E1152.1) (Keep.of_wr W1159).1) (Keep.of_wr W1162).1) gz1146 ne1154.symm (Exa.wr W1162 (Exa.wr W1159 (Exa.ext E1152 A1144))) (Fld.other W1162 (Fld.other W1159 (Fld.ext E1152 (D1145 (Or.inr (tw hw 8 rfl)) (ty := (.array .byte)) (by decide))) (Or.inl ne1154)) (Or.inl ne1154)) (Fld.other W1162 (Fld.other W1159 (Fld.ext E1152 (D1145 (Or.inr (tw hw 9 rfl)) (ty := .byte) (by decide))) (Or.inl ne1154)) (Or.inl ne1154)) V1164 hp0 hp1 ((((X0.ext E1143).ext E1152).wr W1159 gz1155).wr W1162 gz1155) SC hcs) (by simp) (by rw [hml]; rfl) pd_35 rfl rfl (hb hby d0_47) rfl (by decide) (ble rfl) (ce' := 3) (sl' := 8) rfl rfl (by decide) (by decide) (fun v1165 h1166 hQ1167 => ?_)
    have lt1169 := ((Exa.wr W1162 (Exa.wr W1159 (Exa.ext E1152 A1144)))).lt
    have lt1170 := (V1164).lt
    obtain ⟨rfl, K1168, b1171, k1172, g1173, F1174, F1175, V1176⟩ := hQ1167
    have ne1177 : a1141 ≠ b1171 := Nat.ne_of_lt (Nat.lt_of_lt_of_le lt1169 g1173)
    have ne1178 : a1149 ≠ b1171 := Nat.ne_of_lt (Nat.lt_of_lt_of_le lt1170 g1173)
    show Go _ _ _ _ _ _ _ _ _ _ _ _ _ _ _ _ _ _ _ _ 3 8 50 #[.val (.int (2 : Int32)), .val (.int c0), .val (.int c1), .val (.int c2)] [(.ref a1141)]
    refine Go.retA hx hret rfl (by rfl) hlk (hb hby d0_50) (by decide) (by decide) ?_
    exact ⟨a1141, b1171, k1172, 0, rfl, (Keep.trans (((((Keep.refl h0 []).ext E1143).ext E1152).wr W1159 (Or.inr gk1156)).wr W1162 (Or.inr gk1156)) K1168 (allS (Or.inr gk1147) all0)), ⟨((Exa.wr W1162 (Exa.wr W1159 (Exa.ext E1152 A1144))).keep K1168), F1174, F1175, V1176⟩, (acS hq0 (acS hq1 ac0)), Or.inl ⟨rfl, (a8S hp0 (a8S hp1 a80))⟩⟩
  · skip
    refine Go.callI (q := 50) hx hZ (a := a1141) (argsL := [(.ref a1149)]) (rest := [(.ref a1141)]) hown rfl (tw hw 190 rfl) (tw hw 191 rfl) (tw hw 5 rfl) (tw hw 192 rfl) (by decide) (rmIU2 l Z a0 hw hel a1141 a1149 k1150 cst c0 c1 h1161 n0 (Nat.le_trans (Nat.le_trans (Nat.le_trans (Nat.le_trans Z0 E1143.1) E1152.1) (Keep.of_wr W1159).1) (Keep.of_wr W1162).1) gz1146 ne1154.symm (Exa.wr W1162 (Exa.wr W1159 (Exa.ext E1152 A1144))) (Fld.other W1162 (Fld.other W1159 (Fld.ext E1152 (D1145 (Or.inr (tw hw 8 rfl)) (ty := (.array .byte)) (by decide))) (Or.inl ne1154)) (Or.inl ne1154)) (Fld.other W1162 (Fld.other W1159 (Fld.ext E1152 (D1145 (Or.inr (tw hw 9 rfl)) (ty := .byte) (by decide))) (Or.inl ne1154)) (Or.inl ne1154)) V1164 hq0 hq1 hU ((((X0.ext E1143).ext E1152).wr W1159 gz1155).wr W1162 gz1155) SC hcs AD HB LB) (by simp) (by rw [hml]; rfl) pd_35 rfl rfl (hb hby d0_47) rfl (by decide) (ble rfl) (ce' := 4) (sl' := 12) rfl rfl (by decide) (by decide) (fun v1179 h1180 hQ1181 => ?_)
    obtain ⟨rfl, K1182, b1183, k1184, g1185, F1186, F1187, V1188⟩ := hQ1181
    show Go _ _ _ _ _ _ _ _ _ _ _ _ _ _ _ _ _ _ _ _ 4 12 50 #[.val (.int (2 : Int32)), .val (.int c0), .val (.int c1), .val (.int c2)] [(.ref a1141)]
    refine Go.retA hx hret rfl (by rfl) hlk (hb hby d0_50) (by decide) (by decide) ?_
    exact ⟨a1141, b1183, k1184, 1, rfl, (Keep.trans (((((Keep.refl h0 []).ext E1143).ext E1152).wr W1159 (Or.inr gk1156)).wr W1162 (Or.inr gk1156)) K1182 (allS (Or.inr gk1147) all0)), ⟨((Exa.wr W1162 (Exa.wr W1159 (Exa.ext E1152 A1144))).keep K1182), F1186, F1187, V1188⟩, (acS hq0 (acS hq1 ac0)), Or.inr rfl⟩
theorem rmTg3 (l : Launch) (Z : State) (a0 : Array Value) (hw : ∀ d ∈ tables_1, d.before a0 Z = true) (hel : EW Z a0 consts_1) (cst c0 c1 c2 : Int32) (h0 : Heap) (n0 : Nat) (Z0 : n0 ≤ h0.size) (hq0 : Chr c0) (hq1 : Chr c1) (hq2 : Chr c2) (X0 : Old Z n0 h0) (SC : Sta Z Z.heap "java/lang/String" "COMPACT_STRINGS" "Z" (.int cst)) (hcs : ¬ cst = (0 : Int32)) (AD : Sta Z Z.heap "java/lang/StringUTF16" "$assertionsDisabled" "Z" (.int (1 : Int32))) (HB : Sta Z Z.heap "java/lang/StringUTF16" "HI_BYTE_SHIFT" "I" (.int (0 : Int32))) (LB : Sta Z Z.heap "java/lang/StringUTF16" "LO_BYTE_SHIFT" "I" (.int (8 : Int32))) :
    Met l Z consts_1 [] (⟨"com/example/clear_recall/clearrecall/web/HtmlClosePinLaw", "tag", "(ICCC)Ljava/lang/String;"⟩ : MethodName) method_3_code 4 (Option.some (FieldType.object "java/lang/String")) [] ({ frames := 6, cells := 4, slots := 24, locals := 123 } : Room) #[(.int (3 : Int32)), (.int c0), (.int c1), (.int c2)] h0 n0 (fun v h => ∃ ts tb kt cd, v = some (.ref ts) ∧ Keep h0 h [] ∧ STf Z h ts tb kt cd [c0, c1, c2] ∧ OKc cd [c0, c1, c2]) := by
  refine Met.of (Ls0 := #[.val (.int (3 : Int32)), .val (.int c0), .val (.int c1), .val (.int c2)]) pl_49 (by first | (simp [argsToLocals, Value.category]; done) | rfl) hel ?_
  have hSA : ∀ d ∈ Bundle.stringAtoms, d.before a0 Z = true := fun d hd => hw d ((by decide +kernel : ∀ d ∈ Bundle.stringAtoms, d ∈ tables_1) d hd)
  intro p e s m below meth c hx hby hml hret hlk hown hnm hZ
  refine Go.iloadN (q := 1) hx (hb hby d0_0) rfl rfl ?_
  refine Go.if_ne (q := 4) (t := 7) hx (hb hby d0_1) (by decide) rfl rfl (fun hc1 => ?_) (fun hc1 => absurd hc1 (by decide))
  refine Go.iloadN (q := 8) hx (hb hby d0_7) rfl rfl ?_
  refine Go.iconst (q := 9) (z := (1 : Int32)) hx (hb hby d0_8) rfl rfl ?_
  refine Go.icmp_ne (q := 12) (t := 27) hx (hb hby d0_9) (by decide) rfl rfl (fun hc9 => ?_) (fun hc9 => absurd hc9 (by decide))
  refine Go.iloadN (q := 28) hx (hb hby d0_27) rfl rfl ?_
  refine Go.iconst (q := 29) (z := (2 : Int32)) hx (hb hby d0_28) rfl rfl ?_
  refine Go.icmp_ne (q := 32) (t := 51) hx (hb hby d0_29) (by decide) rfl rfl (fun hc29 => ?_) (fun hc29 => absurd hc29 (by decide))
  refine Go.newO (q := 54) hx hZ hown (tw hw 188 rfl) (tw hw 6 rfl) (tw hw 5 rfl) (hb hby d0_51) rfl (ce' := 1) (sl' := 4) rfl rfl (by decide) (by decide) (fun h1189 a1190 g1191 E1192 A1193 D1194 => ?_)
  have gz1195 : n0 ≤ a1190 := by rw [g1191]; exact Z0
  have gk1196 : h0.size ≤ a1190 := by rw [g1191]; exact (Keep.refl h0 []).1
  refine Go.dup (q := 55) hx (hb hby d0_54) rfl rfl ?_
  refine Go.iconst (q := 56) (z := (3 : Int32)) hx (hb hby d0_55) rfl rfl ?_
  refine Go.newP (q := 58) (cap := 3) hx hZ (tw hw 189 rfl) (by decide) (by decide) (hb hby d0_56) rfl (by decide) (ce' := 2) (sl' := 7) rfl rfl (by decide) (by decide) (fun h1197 a1198 k1199 g1200 E1201 A1202 => ?_)
  have ne1203 : a1190 ≠ a1198 := by rw [g1200]; exact Nat.ne_of_lt (A1193).lt
  have gz1204 : n0 ≤ a1198 := by rw [g1200]; exact (Nat.le_trans Z0 E1192.1)
  have gk1205 : h0.size ≤ a1198 := by rw [g1200]; exact ((Keep.refl h0 []).ext E1192).1
  have V1206 : Arv Z h1197 a1198 k1199 .char (3 : Int32) [(.int (0 : Int32)), (.int (0 : Int32)), (.int (0 : Int32))] (.int (0 : Int32)) := A1202.pad (pad_rep [] (.int (0 : Int32)) 3)
  refine Go.dup (q := 59) hx (hb hby d0_58) rfl rfl ?_
  refine Go.iconst (q := 60) (z := (0 : Int32)) hx (hb hby d0_59) rfl rfl ?_
  refine Go.iloadN (q := 61) hx (hb hby d0_60) rfl rfl ?_
  refine Go.castore (q := 62) hx hZ V1206 ⟨by decide, by decide⟩ 0 rfl (ble rfl) gz1204 (by simp) (hb hby d0_61) rfl (fun h1207 W1208 V1209 => ?_)
  refine Go.dup (q := 63) hx (hb hby d0_62) rfl rfl ?_
  refine Go.iconst (q := 64) (z := (1 : Int32)) hx (hb hby d0_63) rfl rfl ?_
  refine Go.iloadN (q := 65) hx (hb hby d0_64) rfl rfl ?_
  refine Go.castore (q := 66) hx hZ V1209 ⟨by decide, by decide⟩ 1 rfl (ble rfl) gz1204 (by simp) (hb hby d0_65) rfl (fun h1210 W1211 V1212 => ?_)
  refine Go.dup (q := 67) hx (hb hby d0_66) rfl rfl ?_
  refine Go.iconst (q := 68) (z := (2 : Int32)) hx (hb hby d0_67) rfl rfl ?_
  refine Go.iloadN (q := 69) hx (hb hby d0_68) rfl rfl ?_
  refine Go.castore (q := 70) hx hZ V1212 ⟨by decide, by decide⟩ 2 rfl (ble rfl) gz1204 (by simp) (hb hby d0_69) rfl (fun h1213 W1214 V1215 => ?_)
  have V1216 : Arv Z h1213 a1198 k1199 .char (3 : Int32) [.int c0, .int c1, .int c2] (.int (0 : Int32)) := by have V := V1215; rw [nar_chr hq0, nar_chr hq1, nar_chr hq2] at V; exact V
  rcases lu3 c0 c1 c2 with ⟨hp0, hp1, hp2⟩ | hU
  · skip
    refine Go.callI (q := 73) hx hZ (a := a1190) (argsL := [(.ref a1198)]) (rest := [(.ref a1190)]) hown rfl (tw hw 190 rfl) (tw hw 191 rfl) (tw hw 5 rfl) (tw hw 192 rfl) (by decide) (rmI3 l Z a0 hw hel a1190 a1198 k1199 cst c0 c1 c2 h1213 n0 (Nat.le_trans (Nat.le_trans (Nat.le_trans (Nat.le_trans (Nat.le_trans Z0 E1192.1) E1201.1) (Keep.of_wr W1208).1) (Keep.of_wr W1211).1) (Keep.of_wr W1214).1) gz1195 ne1203.symm (Exa.wr W1214 (Exa.wr W1211 (Exa.wr W1208 (Exa.ext E1201 A1193)))) (Fld.other W1214 (Fld.other W1211 (Fld.other W1208 (Fld.ext E1201 (D1194 (Or.inr (tw hw 8 rfl)) (ty := (.array .byte)) (by decide))) (Or.inl ne1203)) (Or.inl ne1203)) (Or.inl ne1203)) (Fld.other W1214 (Fld.other W1211 (Fld.other W1208 (Fld.ext E1201 (D1194 (Or.inr (tw hw 9 rfl)) (ty := .byte) (by decide))) (Or.inl ne1203)) (Or.inl ne1203)) (Or.inl ne1203)) V1216 hp0 hp1 hp2 (((((X0.ext E1192).ext E1201).wr W1208 gz1204).wr W1211 gz1204).wr W1214 gz1204) SC hcs) (by simp) (by rw [hml]; rfl) pd_35 rfl rfl (hb hby d0_70) rfl (by decide) (ble rfl) (ce' := 3) (sl' := 10) rfl rfl (by decide) (by decide) (fun v1217 h1218 hQ1219 => ?_)
    have lt1221 := ((Exa.wr W1214 (Exa.wr W1211 (Exa.wr W1208 (Exa.ext E1201 A1193))))).lt
    have lt1222 := (V1216).lt
    obtain ⟨rfl, K1220, b1223, k1224, g1225, F1226, F1227, V1228⟩ := hQ1219
    have ne1229 : a1190 ≠ b1223 := Nat.ne_of_lt (Nat.lt_of_lt_of_le lt1221 g1225)
    have ne1230 : a1198 ≠ b1223 := Nat.ne_of_lt (Nat.lt_of_lt_of_le lt1222 g1225)
    show Go _ _ _ _ _ _ _ _ _ _ _ _ _ _ _ _ _ _ _ _ 3 10 73 #[.val (.int (3 : Int32)), .val (.int c0), .val (.int c1), .val (.int c2)] [(.ref a1190)]
    refine Go.retA hx hret rfl (by rfl) hlk (hb hby d0_73) (by decide) (by decide) ?_
    exact ⟨a1190, b1223, k1224, 0, rfl, (Keep.trans ((((((Keep.refl h0 []).ext E1192).ext E1201).wr W1208 (Or.inr gk1205)).wr W1211 (Or.inr gk1205)).wr W1214 (Or.inr gk1205)) K1220 (allS (Or.inr gk1196) all0)), ⟨((Exa.wr W1214 (Exa.wr W1211 (Exa.wr W1208 (Exa.ext E1201 A1193)))).keep K1220), F1226, F1227, V1228⟩, (acS hq0 (acS hq1 (acS hq2 ac0))), Or.inl ⟨rfl, (a8S hp0 (a8S hp1 (a8S hp2 a80)))⟩⟩
  · skip
    refine Go.callI (q := 73) hx hZ (a := a1190) (argsL := [(.ref a1198)]) (rest := [(.ref a1190)]) hown rfl (tw hw 190 rfl) (tw hw 191 rfl) (tw hw 5 rfl) (tw hw 192 rfl) (by decide) (rmIU3 l Z a0 hw hel a1190 a1198 k1199 cst c0 c1 c2 h1213 n0 (Nat.le_trans (Nat.le_trans (Nat.le_trans (Nat.le_trans (Nat.le_trans Z0 E1192.1) E1201.1) (Keep.of_wr W1208).1) (Keep.of_wr W1211).1) (Keep.of_wr W1214).1) gz1195 ne1203.symm (Exa.wr W1214 (Exa.wr W1211 (Exa.wr W1208 (Exa.ext E1201 A1193)))) (Fld.other W1214 (Fld.other W1211 (Fld.other W1208 (Fld.ext E1201 (D1194 (Or.inr (tw hw 8 rfl)) (ty := (.array .byte)) (by decide))) (Or.inl ne1203)) (Or.inl ne1203)) (Or.inl ne1203)) (Fld.other W1214 (Fld.other W1211 (Fld.other W1208 (Fld.ext E1201 (D1194 (Or.inr (tw hw 9 rfl)) (ty := .byte) (by decide))) (Or.inl ne1203)) (Or.inl ne1203)) (Or.inl ne1203)) V1216 hq0 hq1 hq2 hU (((((X0.ext E1192).ext E1201).wr W1208 gz1204).wr W1211 gz1204).wr W1214 gz1204) SC hcs AD HB LB) (by simp) (by rw [hml]; rfl) pd_35 rfl rfl (hb hby d0_70) rfl (by decide) (ble rfl) (ce' := 4) (sl' := 16) rfl rfl (by decide) (by decide) (fun v1231 h1232 hQ1233 => ?_)
    obtain ⟨rfl, K1234, b1235, k1236, g1237, F1238, F1239, V1240⟩ := hQ1233
    show Go _ _ _ _ _ _ _ _ _ _ _ _ _ _ _ _ _ _ _ _ 4 16 73 #[.val (.int (3 : Int32)), .val (.int c0), .val (.int c1), .val (.int c2)] [(.ref a1190)]
    refine Go.retA hx hret rfl (by rfl) hlk (hb hby d0_73) (by decide) (by decide) ?_
    exact ⟨a1190, b1235, k1236, 1, rfl, (Keep.trans ((((((Keep.refl h0 []).ext E1192).ext E1201).wr W1208 (Or.inr gk1205)).wr W1211 (Or.inr gk1205)).wr W1214 (Or.inr gk1205)) K1234 (allS (Or.inr gk1196) all0)), ⟨((Exa.wr W1214 (Exa.wr W1211 (Exa.wr W1208 (Exa.ext E1201 A1193)))).keep K1234), F1238, F1239, V1240⟩, (acS hq0 (acS hq1 (acS hq2 ac0))), Or.inr rfl⟩
theorem rmTg (l : Launch) (Z : State) (a0 : Array Value) (hw : ∀ d ∈ tables_1, d.before a0 Z = true) (hel : EW Z a0 consts_1) (cst : Int32) (k : Nat) (c0 c1 c2 : Int32) (h0 : Heap) (n0 : Nat) (Z0 : n0 ≤ h0.size) (hk : k ≤ 3) (hq0 : Chr c0) (hq1 : Chr c1) (hq2 : Chr c2) (X0 : Old Z n0 h0) (SC : Sta Z Z.heap "java/lang/String" "COMPACT_STRINGS" "Z" (.int cst)) (hcs : ¬ cst = (0 : Int32)) (AD : Sta Z Z.heap "java/lang/StringUTF16" "$assertionsDisabled" "Z" (.int (1 : Int32))) (HB : Sta Z Z.heap "java/lang/StringUTF16" "HI_BYTE_SHIFT" "I" (.int (0 : Int32))) (LB : Sta Z Z.heap "java/lang/StringUTF16" "LO_BYTE_SHIFT" "I" (.int (8 : Int32))) :
    Met l Z consts_1 [] (⟨"com/example/clear_recall/clearrecall/web/HtmlClosePinLaw", "tag", "(ICCC)Ljava/lang/String;"⟩ : MethodName) method_3_code 4 (Option.some (FieldType.object "java/lang/String")) [] ({ frames := 6, cells := 4, slots := 24, locals := 123 } : Room) #[(.int (iN k)), (.int c0), (.int c1), (.int c2)] h0 n0 (fun v h => ∃ ts tb kt cd, v = some (.ref ts) ∧ Keep h0 h [] ∧ STf Z h ts tb kt cd (List.take k [c0, c1, c2]) ∧ OKc cd (List.take k [c0, c1, c2])) := by
  match k, hk with
  | 0, _ => exact rmTg0 l Z a0 hw hel cst c0 c1 c2 h0 n0 Z0  X0 SC hcs AD HB LB
  | 1, _ => exact rmTg1 l Z a0 hw hel cst c0 c1 c2 h0 n0 Z0 hq0 X0 SC hcs AD HB LB
  | 2, _ => exact rmTg2 l Z a0 hw hel cst c0 c1 c2 h0 n0 Z0 hq0 hq1 X0 SC hcs AD HB LB
  | 3, _ => exact rmTg3 l Z a0 hw hel cst c0 c1 c2 h0 n0 Z0 hq0 hq1 hq2 X0 SC hcs AD HB LB
  | _ + 4, h => exact absurd h (by omega)
theorem d4_0 : decode jdk_68_method_2_code 0 = .ok (.aload_n 0, 1) := by decide +kernel
theorem d4_1 : decode jdk_68_method_2_code 1 = .ok (.invokespecial 3, 3) := by decide +kernel
theorem d4_4 : decode jdk_68_method_2_code 4 = .ok (.getstatic 18, 3) := by decide +kernel
theorem d4_7 : decode jdk_68_method_2_code 7 = .ok (.ifCond .eq 18, 3) := by decide +kernel
theorem d4_10 : decode jdk_68_method_2_code 10 = .ok (.aload_n 0, 1) := by decide +kernel
theorem d4_11 : decode jdk_68_method_2_code 11 = .ok (.iload_n 1, 1) := by decide +kernel
theorem d4_12 : decode jdk_68_method_2_code 12 = .ok (.newarray .byte, 2) := by decide +kernel
theorem d4_14 : decode jdk_68_method_2_code 14 = .ok (.putfield 15, 3) := by decide +kernel
theorem d4_17 : decode jdk_68_method_2_code 17 = .ok (.aload_n 0, 1) := by decide +kernel
theorem d4_18 : decode jdk_68_method_2_code 18 = .ok (.iconst 0, 1) := by decide +kernel
theorem d4_19 : decode jdk_68_method_2_code 19 = .ok (.putfield 22, 3) := by decide +kernel
theorem d4_22 : decode jdk_68_method_2_code 22 = .ok (.goto 16, 3) := by decide +kernel
theorem d4_25 : decode jdk_68_method_2_code 25 = .ok (.aload_n 0, 1) := by decide +kernel
theorem d4_26 : decode jdk_68_method_2_code 26 = .ok (.iload_n 1, 1) := by decide +kernel
theorem d4_27 : decode jdk_68_method_2_code 27 = .ok (.invokestatic 26, 3) := by decide +kernel
theorem d4_30 : decode jdk_68_method_2_code 30 = .ok (.putfield 15, 3) := by decide +kernel
theorem d4_33 : decode jdk_68_method_2_code 33 = .ok (.aload_n 0, 1) := by decide +kernel
theorem d4_34 : decode jdk_68_method_2_code 34 = .ok (.iconst 1, 1) := by decide +kernel
theorem d4_35 : decode jdk_68_method_2_code 35 = .ok (.putfield 22, 3) := by decide +kernel
theorem d4_38 : decode jdk_68_method_2_code 38 = .ok (.return_, 1) := by decide +kernel
theorem pl_50 : plainFor (⟨"java/lang/AbstractStringBuilder", "<init>", "(I)V"⟩ : MethodName) = true := plainFor_of_name (by first | (simp [plainName, overriddenIn]; done) | decide +kernel)
theorem rmAI (l : Launch) (Z : State) (a0 : Array Value) (hw : ∀ d ∈ tables_1, d.before a0 Z = true) (hel : EW Z a0 consts_1) (sb : Addr) (cst : Int32) (h0 : Heap) (n0 : Nat) (Z0 : n0 ≤ h0.size) (gs : n0 ≤ sb) (E : Exa Z h0 sb "java/lang/StringBuilder") (F1 : Fld Z h0 sb "java/lang/AbstractStringBuilder" "value" "[B" .null) (F2 : Fld Z h0 sb "java/lang/AbstractStringBuilder" "coder" "B" (.int (0 : Int32))) (F3 : Fld Z h0 sb "java/lang/AbstractStringBuilder" "count" "I" (.int (0 : Int32))) (F4 : Fld Z h0 sb "java/lang/AbstractStringBuilder" "maybeLatin1" "Z" (.int (0 : Int32))) (X0 : Old Z n0 h0) (SC : Sta Z Z.heap "java/lang/String" "COMPACT_STRINGS" "Z" (.int cst)) (hcs : ¬ cst = (0 : Int32)) :
    Met l Z consts_1 [sb] (⟨"java/lang/AbstractStringBuilder", "<init>", "(I)V"⟩ : MethodName) jdk_68_method_2_code 2 (Option.none : Option FieldType) [] ({ frames := 1, cells := 1, slots := 8192, locals := 20 } : Room) #[(.ref sb), (.int (8192 : Int32))] h0 n0 (fun v h => v = none ∧ Keep h0 h [sb] ∧ ∃ b kb, h0.size ≤ b ∧ Fld Z h sb "java/lang/AbstractStringBuilder" "value" "[B" (.ref b) ∧ Fld Z h sb "java/lang/AbstractStringBuilder" "coder" "B" (.int (0 : Int32)) ∧ Fld Z h sb "java/lang/AbstractStringBuilder" "count" "I" (.int (0 : Int32)) ∧ Fld Z h sb "java/lang/AbstractStringBuilder" "maybeLatin1" "Z" (.int (0 : Int32)) ∧ Arv Z h b kb .byte (8192 : Int32) [] (.int (0 : Int32))) := by
  refine Met.of (Ls0 := #[.val (.ref sb), .val (.int (8192 : Int32))]) pl_50 (by first | (simp [argsToLocals, Value.category]; done) | rfl) hel ?_
  intro p e s m below meth c hx hby hml hret hlk hown hnm hZ
  refine Go.aloadN (q := 1) hx (hb hby d4_0) rfl (by rfl) rfl ?_
  refine Go.initO (q := 4) hx hZ hown (tw hw 33 rfl) (tw hw 19 rfl) (tw hw 20 rfl) (by rw [hml]; rfl) (hb hby d4_1) rfl (by decide) (ble rfl) ?_
  refine Go.getS (q := 7) hx hZ hown (host := "") (Or.inl (tw hw 34 rfl)) Via.refl (Sta.ext X0.2 SC) (hb hby d4_4) rfl ?_
  refine Go.if_eq (q := 10) (t := 25) hx (hb hby d4_7) (by decide) rfl rfl (fun hc7 => absurd hc7 hcs) (fun hc7 => ?_)
  refine Go.aloadN (q := 11) hx (hb hby d4_10) rfl (by rfl) rfl ?_
  refine Go.iloadN (q := 12) hx (hb hby d4_11) rfl rfl ?_
  refine Go.newP (q := 14) (cap := 8192) hx hZ (tw hw 7 rfl) (by decide) (by decide) (hb hby d4_12) rfl (by decide) (ce' := 1) (sl' := 8192) rfl rfl (by decide) (by decide) (fun h1241 a1242 k1243 g1244 E1245 A1246 => ?_)
  have ne1247 : sb ≠ a1242 := by rw [g1244]; exact Nat.ne_of_lt (E).lt
  have gz1248 : n0 ≤ a1242 := by rw [g1244]; exact Z0
  have gk1249 : h0.size ≤ a1242 := by rw [g1244]; exact (Keep.refl h0 [sb]).1
  refine Go.putF (q := 17) hx hZ hown (host := "") (Or.inl (tw hw 35 rfl)) Via.refl (Fld.ext E1245 F1) (Exa.ext E1245 E) (Or.inl (tw hw 36 rfl)) (tw hw 22 rfl) (ty := (.array .byte)) (by decide) rfl rfl gs (by simp) (hb hby d4_14) rfl (fun h1250 W1251 => ?_)
  refine Go.aloadN (q := 18) hx (hb hby d4_17) rfl (by rfl) rfl ?_
  refine Go.iconst (q := 19) (z := (0 : Int32)) hx (hb hby d4_18) rfl rfl ?_
  refine Go.putF (q := 22) hx hZ hown (host := "") (Or.inl (tw hw 37 rfl)) Via.refl (Fld.other W1251 (Fld.ext E1245 F2) (Or.inr (slot_ne (C := "java/lang/StringBuilder") (Or.inl (tw hw 38 rfl)) (Or.inl (tw hw 36 rfl)) (by decide) (by decide : _ = some .byte) (by decide : _ = some (.array .byte))))) (Exa.wr W1251 (Exa.ext E1245 E)) (Or.inl (tw hw 38 rfl)) (tw hw 22 rfl) (ty := .byte) (by decide) rfl rfl gs (by simp) (hb hby d4_19) rfl (fun h1252 W1253 => ?_)
  refine Go.goto (q := 38) hx (hb hby d4_22) (by decide) rfl ?_
  refine Go.ret0 hx hret hlk (hb hby d4_38) (by decide) (by decide) ?_
  exact ⟨rfl, ((((Keep.refl h0 [sb]).ext E1245).wr W1251 (Or.inl (by simp))).wr W1253 (Or.inl (by simp))), a1242, _, gk1249, (Fld.other W1253 (Fld.same W1251 (Fld.ext E1245 F1)) (Or.inr (slot_ne (C := "java/lang/StringBuilder") (Or.inl (tw hw 36 rfl)) (Or.inl (tw hw 38 rfl)) (by decide) (by decide : _ = some (.array .byte)) (by decide : _ = some .byte)))), (Fld.same W1253 (Fld.other W1251 (Fld.ext E1245 F2) (Or.inr (slot_ne (C := "java/lang/StringBuilder") (Or.inl (tw hw 38 rfl)) (Or.inl (tw hw 36 rfl)) (by decide) (by decide : _ = some .byte) (by decide : _ = some (.array .byte)))))), (Fld.other W1253 (Fld.other W1251 (Fld.ext E1245 F3) (Or.inr (slot_ne (C := "java/lang/StringBuilder") (Or.inl (tw hw 71 rfl)) (Or.inl (tw hw 36 rfl)) (by decide) (by decide : _ = some .int) (by decide : _ = some (.array .byte))))) (Or.inr (slot_ne (C := "java/lang/StringBuilder") (Or.inl (tw hw 71 rfl)) (Or.inl (tw hw 38 rfl)) (by decide) (by decide : _ = some .int) (by decide : _ = some .byte)))), (Fld.other W1253 (Fld.other W1251 (Fld.ext E1245 F4) (Or.inr (slot_ne (C := "java/lang/StringBuilder") (Or.inl (tw hw 257 rfl)) (Or.inl (tw hw 36 rfl)) (by decide) (by decide : _ = some .boolean) (by decide : _ = some (.array .byte))))) (Or.inr (slot_ne (C := "java/lang/StringBuilder") (Or.inl (tw hw 257 rfl)) (Or.inl (tw hw 38 rfl)) (by decide) (by decide : _ = some .boolean) (by decide : _ = some .byte)))), ((A1246.other W1251 ne1247.symm).other W1253 ne1247.symm)⟩
theorem d3_0 : decode jdk_67_method_2_code 0 = .ok (.aload_n 0, 1) := by decide +kernel
theorem d3_1 : decode jdk_67_method_2_code 1 = .ok (.iload_n 1, 1) := by decide +kernel
theorem d3_2 : decode jdk_67_method_2_code 2 = .ok (.invokespecial 1, 3) := by decide +kernel
theorem d3_5 : decode jdk_67_method_2_code 5 = .ok (.return_, 1) := by decide +kernel
theorem pl_51 : plainFor (⟨"java/lang/StringBuilder", "<init>", "(I)V"⟩ : MethodName) = true := plainFor_of_name (by first | (simp [plainName, overriddenIn]; done) | decide +kernel)
theorem rmSI (l : Launch) (Z : State) (a0 : Array Value) (hw : ∀ d ∈ tables_1, d.before a0 Z = true) (hel : EW Z a0 consts_1) (sb : Addr) (cst : Int32) (h0 : Heap) (n0 : Nat) (Z0 : n0 ≤ h0.size) (gs : n0 ≤ sb) (E : Exa Z h0 sb "java/lang/StringBuilder") (F1 : Fld Z h0 sb "java/lang/AbstractStringBuilder" "value" "[B" .null) (F2 : Fld Z h0 sb "java/lang/AbstractStringBuilder" "coder" "B" (.int (0 : Int32))) (F3 : Fld Z h0 sb "java/lang/AbstractStringBuilder" "count" "I" (.int (0 : Int32))) (F4 : Fld Z h0 sb "java/lang/AbstractStringBuilder" "maybeLatin1" "Z" (.int (0 : Int32))) (X0 : Old Z n0 h0) (SC : Sta Z Z.heap "java/lang/String" "COMPACT_STRINGS" "Z" (.int cst)) (hcs : ¬ cst = (0 : Int32)) :
    Met l Z consts_1 [sb] (⟨"java/lang/StringBuilder", "<init>", "(I)V"⟩ : MethodName) jdk_67_method_2_code 2 (Option.none : Option FieldType) [] ({ frames := 2, cells := 1, slots := 8192, locals := 39 } : Room) #[(.ref sb), (.int (8192 : Int32))] h0 n0 (fun v h => v = none ∧ Keep h0 h [sb] ∧ ∃ b kb, h0.size ≤ b ∧ Fld Z h sb "java/lang/AbstractStringBuilder" "value" "[B" (.ref b) ∧ Fld Z h sb "java/lang/AbstractStringBuilder" "coder" "B" (.int (0 : Int32)) ∧ Fld Z h sb "java/lang/AbstractStringBuilder" "count" "I" (.int (0 : Int32)) ∧ Fld Z h sb "java/lang/AbstractStringBuilder" "maybeLatin1" "Z" (.int (0 : Int32)) ∧ Arv Z h b kb .byte (8192 : Int32) [] (.int (0 : Int32))) := by
  refine Met.of (Ls0 := #[.val (.ref sb), .val (.int (8192 : Int32))]) pl_51 (by first | (simp [argsToLocals, Value.category]; done) | rfl) hel ?_
  intro p e s m below meth c hx hby hml hret hlk hown hnm hZ
  refine Go.aloadN (q := 1) hx (hb hby d3_0) rfl (by rfl) rfl ?_
  refine Go.iloadN (q := 2) hx (hb hby d3_1) rfl rfl ?_
  refine Go.callI (q := 5) hx hZ (a := sb) (argsL := [(.int (8192 : Int32))]) (rest := []) hown rfl (tw hw 27 rfl) (tw hw 28 rfl) (tw hw 31 rfl) (tw hw 32 rfl) (by decide) (rmAI l Z a0 hw hel sb cst h0 n0 Z0 gs E F1 F2 F3 F4 X0 SC hcs) (by simp) (by rw [hml]; rfl) pd_17 rfl rfl (hb hby d3_2) rfl (by decide) (ble rfl) (ce' := 1) (sl' := 8192) rfl rfl (by decide) (by decide) (fun v1254 h1255 hQ1256 => ?_)
  obtain ⟨rfl, Y⟩ := hQ1256
  show Go _ _ _ _ _ _ _ _ _ _ _ _ _ _ _ _ _ _ _ _ 1 8192 5 #[.val (.ref sb), .val (.int (8192 : Int32))] []
  refine Go.ret0 hx hret hlk (hb hby d3_5) (by decide) (by decide) ?_
  exact ⟨rfl, Y⟩
theorem d1_0 : decode prog_19_method_1_code 0 = .ok (.aload_n 0, 1) := by decide +kernel
theorem d1_1 : decode prog_19_method_1_code 1 = .ok (.invokespecial 1, 3) := by decide +kernel
theorem d1_4 : decode prog_19_method_1_code 4 = .ok (.aload_n 0, 1) := by decide +kernel
theorem d1_5 : decode prog_19_method_1_code 5 = .ok (.new 7, 3) := by decide +kernel
theorem d1_8 : decode prog_19_method_1_code 8 = .ok (.dup, 1) := by decide +kernel
theorem d1_9 : decode prog_19_method_1_code 9 = .ok (.sipush 8192, 3) := by decide +kernel
theorem d1_12 : decode prog_19_method_1_code 12 = .ok (.invokespecial 9, 3) := by decide +kernel
theorem d1_15 : decode prog_19_method_1_code 15 = .ok (.putfield 12, 3) := by decide +kernel
theorem d1_18 : decode prog_19_method_1_code 18 = .ok (.return_, 1) := by decide +kernel
theorem pl_52 : plainFor (⟨"com/example/clear_recall/clearrecall/web/Html", "<init>", "()V"⟩ : MethodName) = true := plainFor_of_name (by first | (simp [plainName, overriddenIn]; done) | decide +kernel)
theorem rmHI (l : Launch) (Z : State) (a0 : Array Value) (hw : ∀ d ∈ tables_1, d.before a0 Z = true) (hel : EW Z a0 consts_1) (ho : Addr) (cst : Int32) (h0 : Heap) (n0 : Nat) (Z0 : n0 ≤ h0.size) (gh : n0 ≤ ho) (HE : Exa Z h0 ho "com/example/clear_recall/clearrecall/web/Html") (HO : Fld Z h0 ho "com/example/clear_recall/clearrecall/web/Html" "out" "Ljava/lang/StringBuilder;" .null) (X0 : Old Z n0 h0) (SC : Sta Z Z.heap "java/lang/String" "COMPACT_STRINGS" "Z" (.int cst)) (hcs : ¬ cst = (0 : Int32)) :
    Met l Z consts_1 [ho] (⟨"com/example/clear_recall/clearrecall/web/Html", "<init>", "()V"⟩ : MethodName) prog_19_method_1_code 1 (Option.none : Option FieldType) [] ({ frames := 3, cells := 2, slots := 8196, locals := 58 } : Room) #[(.ref ho)] h0 n0 (fun v h => v = none ∧ Keep h0 h [ho] ∧ ∃ sb b kb, h0.size ≤ sb ∧ h0.size ≤ b ∧ sb ≠ b ∧ Fld Z h ho "com/example/clear_recall/clearrecall/web/Html" "out" "Ljava/lang/StringBuilder;" (.ref sb) ∧ SBf Z h sb b kb 0 []) := by
  refine Met.of (Ls0 := #[.val (.ref ho)]) pl_52 (by first | (simp [argsToLocals, Value.category]; done) | rfl) hel ?_
  intro p e s m below meth c hx hby hml hret hlk hown hnm hZ
  refine Go.aloadN (q := 1) hx (hb hby d1_0) rfl (by rfl) rfl ?_
  refine Go.initO (q := 4) hx hZ hown (tw hw 18 rfl) (tw hw 19 rfl) (tw hw 20 rfl) (by rw [hml]; rfl) (hb hby d1_1) rfl (by decide) (ble rfl) ?_
  refine Go.aloadN (q := 5) hx (hb hby d1_4) rfl (by rfl) rfl ?_
  refine Go.newO (q := 8) hx hZ hown (tw hw 21 rfl) (tw hw 22 rfl) (tw hw 23 rfl) (hb hby d1_5) rfl (ce' := 1) (sl' := 4) rfl rfl (by decide) (by decide) (fun h1257 a1258 g1259 E1260 A1261 D1262 => ?_)
  have ne1263 : ho ≠ a1258 := by rw [g1259]; exact Nat.ne_of_lt (HE).lt
  have gz1264 : n0 ≤ a1258 := by rw [g1259]; exact Z0
  have gk1265 : h0.size ≤ a1258 := by rw [g1259]; exact (Keep.refl h0 [ho]).1
  refine Go.dup (q := 9) hx (hb hby d1_8) rfl rfl ?_
  refine Go.sipush (q := 12) (z := (8192 : Int32)) hx (hb hby d1_9) rfl rfl ?_
  refine Go.callI (q := 15) hx hZ (a := a1258) (argsL := [(.int (8192 : Int32))]) (rest := [(.ref a1258), (.ref ho)]) hown rfl (tw hw 24 rfl) (tw hw 25 rfl) (tw hw 23 rfl) (tw hw 26 rfl) (by decide) (rmSI l Z a0 hw hel a1258 cst h1257 n0 (Nat.le_trans Z0 E1260.1) gz1264 A1261 (D1262 (Or.inl (tw hw 36 rfl)) (ty := (.array .byte)) (by decide)) (D1262 (Or.inl (tw hw 38 rfl)) (ty := .byte) (by decide)) (D1262 (Or.inl (tw hw 71 rfl)) (ty := .int) (by decide)) (D1262 (Or.inl (tw hw 257 rfl)) (ty := .boolean) (by decide)) (X0.ext E1260) SC hcs) (by simp) (by rw [hml]; rfl) pd_17 rfl rfl (hb hby d1_12) rfl (by decide) (ble rfl) (ce' := 2) (sl' := 8196) rfl rfl (by decide) (by decide) (fun v1266 h1267 hQ1268 => ?_)
  have gk1269 := ((Keep.refl h0 [ho]).ext E1260).1
  have gn1270 := (Nat.le_trans Z0 E1260.1)
  have lt1271 := (A1261).lt
  have lt1272 := ((Exa.ext E1260 HE)).lt
  obtain ⟨rfl, K1276, b1273, k1274, g1275, F1278, F1279, F1280, F1281, V1277⟩ := hQ1268
  have ne1282 : a1258 ≠ b1273 := Nat.ne_of_lt (Nat.lt_of_lt_of_le lt1271 g1275)
  have ne1283 : ho ≠ b1273 := Nat.ne_of_lt (Nat.lt_of_lt_of_le lt1272 g1275)
  have gz1284 : n0 ≤ b1273 := Nat.le_trans gn1270 g1275
  show Go _ _ _ _ _ _ _ _ _ _ _ _ _ _ _ _ _ _ _ _ 2 8196 15 #[.val (.ref ho)] [(.ref a1258), (.ref ho)]
  refine Go.putF (q := 18) hx hZ hown (host := "") (Or.inl (tw hw 39 rfl)) Via.refl ((Fld.ext E1260 HO).keep K1276 (ninS ne1263 nin0)) ((Exa.ext E1260 HE).keep K1276) (Or.inr ⟨(tw hw 40 rfl), rfl, hnm⟩) (tw hw 13 rfl) (ty := (.object "java/lang/StringBuilder")) (by decide) rfl rfl gh (by simp) (hb hby d1_15) rfl (fun h1285 W1286 => ?_)
  refine Go.ret0 hx hret hlk (hb hby d1_18) (by decide) (by decide) ?_
  exact ⟨rfl, ((Keep.trans ((Keep.refl h0 [ho]).ext E1260) K1276 (allS (Or.inr gk1265) all0)).wr W1286 (Or.inl (by simp))), a1258, b1273, k1274, gk1265, (Nat.le_trans gk1269 g1275), ne1282, (Fld.same W1286 ((Fld.ext E1260 HO).keep K1276 (ninS ne1263 nin0))), (Exa.wr W1286 (A1261.keep K1276)), (Fld.other W1286 F1278 (Or.inl ne1263.symm)), (Fld.other W1286 F1279 (Or.inl ne1263.symm)), (Fld.other W1286 F1280 (Or.inl ne1263.symm)), (Fld.other W1286 F1281 (Or.inl ne1263.symm)), (V1277.other W1286 ne1283.symm)⟩
theorem k60 : nar .byte (60 : Int32).toInt8.toInt32 = (60 : Int32) := by decide
theorem k47 : nar .byte (47 : Int32).toInt8.toInt32 = (47 : Int32) := by decide
theorem ch60 : Chr (60 : Int32) := by unfold Chr; decide
theorem ch47 : Chr (47 : Int32) := by unfold Chr; decide
theorem ch62 : Chr (62 : Int32) := by unfold Chr; decide
theorem ok6047 : OKc 0 [(60 : Int32), (47 : Int32)] := ⟨acS ch60 (acS ch47 ac0), Or.inl ⟨rfl, a8S (by decide) (a8S (by decide) a80)⟩⟩
theorem d5_0 : decode prog_19_method_4_code 0 = .ok (.aload_n 0, 1) := by decide +kernel
theorem d5_1 : decode prog_19_method_4_code 1 = .ok (.getfield 12, 3) := by decide +kernel
theorem d5_4 : decode prog_19_method_4_code 4 = .ok (.ldc 40, 2) := by decide +kernel
theorem d5_6 : decode prog_19_method_4_code 6 = .ok (.invokevirtual 20, 3) := by decide +kernel
theorem d5_9 : decode prog_19_method_4_code 9 = .ok (.aload_n 1, 1) := by decide +kernel
theorem d5_10 : decode prog_19_method_4_code 10 = .ok (.invokevirtual 20, 3) := by decide +kernel
theorem d5_13 : decode prog_19_method_4_code 13 = .ok (.bipush 62, 2) := by decide +kernel
theorem d5_15 : decode prog_19_method_4_code 15 = .ok (.invokevirtual 31, 3) := by decide +kernel
theorem d5_18 : decode prog_19_method_4_code 18 = .ok (.pop, 1) := by decide +kernel
theorem d5_19 : decode prog_19_method_4_code 19 = .ok (.aload_n 0, 1) := by decide +kernel
theorem d5_20 : decode prog_19_method_4_code 20 = .ok (.areturn, 1) := by decide +kernel
theorem pl_53 : plainFor (⟨"com/example/clear_recall/clearrecall/web/Html", "close", "(Ljava/lang/String;)Lcom/example/clear_recall/clearrecall/web/Html;"⟩ : MethodName) = true := plainFor_of_name (by first | (simp [plainName, overriddenIn]; done) | decide +kernel)
theorem pd_36 : parseMethodDescriptor "(Ljava/lang/String;)Ljava/lang/StringBuilder;" = some ⟨[(.object "java/lang/String")], some (.object "java/lang/StringBuilder")⟩ := by decide +kernel
theorem pd_37 : parseMethodDescriptor "(C)Ljava/lang/StringBuilder;" = some ⟨[.char], some (.object "java/lang/StringBuilder")⟩ := by decide +kernel
theorem rmClose (l : Launch) (Z : State) (a0 : Array Value) (hw : ∀ d ∈ tables_1, d.before a0 Z = true) (hel : EW Z a0 consts_1) (ho : Addr) (sb b : Addr) (kb : ClassId) (ts tb : Addr) (kt : ClassId) (cst : Int32) (fv : Value) (cd td : Nat) (cs ds : List Int32) (h0 : Heap) (n0 : Nat) (Z0 : n0 ≤ h0.size) (FO : Fld Z h0 ho "com/example/clear_recall/clearrecall/web/Html" "out" "Ljava/lang/StringBuilder;" (.ref sb)) (nsb : sb ≠ b) (gs : n0 ≤ sb) (gb : n0 ≤ b) (S : SBf Z h0 sb b kb cd cs) (T : STf Z h0 ts tb kt td ds) (ok : OKc cd cs) (okT : OKc td ds) (hlz : cs.length + ds.length ≤ 9) (nx0 : ho ≠ sb) (nx1 : ho ≠ b) (nx2 : ts ≠ sb) (nx3 : ts ≠ b) (nx4 : tb ≠ sb) (nx5 : tb ≠ b) (X0 : Old Z n0 h0) (SC : Sta Z Z.heap "java/lang/String" "COMPACT_STRINGS" "Z" (.int cst)) (hcs : ¬ cst = (0 : Int32)) (AD : Sta Z Z.heap "java/lang/StringUTF16" "$assertionsDisabled" "Z" (.int (1 : Int32))) (HB : Sta Z Z.heap "java/lang/StringUTF16" "HI_BYTE_SHIFT" "I" (.int (0 : Int32))) (LB : Sta Z Z.heap "java/lang/StringUTF16" "LO_BYTE_SHIFT" "I" (.int (8 : Int32))) (PF : Sta Z Z.heap "jdk/internal/util/Preconditions" "SIOOBE_FORMATTER" "Ljava/util/function/BiFunction;" fv) (hfv : fv.isRef = true) :
    Met l Z consts_1 [sb, b] (⟨"com/example/clear_recall/clearrecall/web/Html", "close", "(Ljava/lang/String;)Lcom/example/clear_recall/clearrecall/web/Html;"⟩ : MethodName) prog_19_method_4_code 2 (Option.some (FieldType.object "com/example/clear_recall/clearrecall/web/Html")) [] ({ frames := 10, cells := 3, slots := 16396, locals := 203 } : Room) #[(.ref ho), (.ref ts)] h0 n0 (fun v h => v = some (.ref ho) ∧ Keep h0 h [sb, b] ∧ ∃ b2 k2, (b2 = b ∨ h0.size ≤ b2) ∧ (SBf Z h sb b2 k2 (mx (mx cd 0) td) (((cs ++ [(60 : Int32), (47 : Int32)]) ++ ds) ++ [(62 : Int32)])) ∧ OKc (mx (mx cd 0) td) (((cs ++ [(60 : Int32), (47 : Int32)]) ++ ds) ++ [(62 : Int32)])) := by
  refine Met.of (Ls0 := #[.val (.ref ho), .val (.ref ts)]) pl_53 (by first | (simp [argsToLocals, Value.category]; done) | rfl) hel ?_
  have hSA : ∀ d ∈ Bundle.stringAtoms, d.before a0 Z = true := fun d hd => hw d ((by decide +kernel : ∀ d ∈ Bundle.stringAtoms, d ∈ tables_1) d hd)
  intro p e s m below meth c hx hby hml hret hlk hown hnm hZ
  obtain ⟨E, F1, F2, F3, F4, B⟩ := S
  obtain ⟨TE, T1, T2, TB⟩ := T
  have ok1 := OKc_app ok ok6047
  have ok2 := OKc_app ok1 okT
  have hA : (cs ++ [(60 : Int32), (47 : Int32)]).length < 30 := by rw [List.length_append]; show cs.length + 2 < 30; omega
  have hB : ((cs ++ [(60 : Int32), (47 : Int32)]) ++ ds).length < 29 := by rw [List.length_append, List.length_append]; show cs.length + 2 + ds.length < 29; omega
  refine Go.aloadN (q := 1) hx (hb hby d5_0) rfl (by rfl) rfl ?_
  refine Go.getF (q := 4) hx hZ hown (host := "") (Or.inl (tw hw 39 rfl)) Via.refl FO (hb hby d5_1) rfl ?_
  refine Go.ldcStr (q := 6) (nn := 8) (z := (2 : Int32)) (vs := [(.int (60 : Int32)), (.int (47 : Int32))]) hx hZ hown (tw hw 46 rfl) hSA (by decide) ⟨by decide, rfl⟩ (by decide) rfl (hb hby d5_4) rfl (by decide) (by decide) (ce' := 2) (sl' := 12) rfl rfl (by decide) (by decide) (fun h1287 a1288 b1290 k1291 E1289 x1292 x1293 x1294 x1295 nn1296 => ?_)
  have V1297 : Arv Z h1287 b1290 k1291 .byte (2 : Int32) [(.int (nar .byte (60 : Int32).toInt8.toInt32)), (.int (nar .byte (47 : Int32).toInt8.toInt32))] (.int (0 : Int32)) := by rw [k60, k47]; exact x1295
  refine Go.callV (q := 9) hx hZ (a := sb) (argsL := [(.ref a1288)]) (rest := []) hown (tw hw 47 rfl) (tw hw 48 rfl) (fun vm hzv => notFace_of_selects (args := #[]) (mvT hzv (tw hw 50 rfl))) (tw hw 50 rfl) (tw hw 49 rfl) (tw hw 23 rfl) (tw hw 51 rfl) (by decide) (Exa.ext E1289 E) (rmAp0 l Z a0 hw hel sb b kb a1288 b1290 k1291 cst fv cd cs [(60 : Int32), (47 : Int32)] h1287 n0 (Nat.le_trans Z0 E1289.1) nsb gs gb ⟨(Exa.ext E1289 E), (Fld.ext E1289 F1), (Fld.ext E1289 F2), (Fld.ext E1289 F3), (Fld.ext E1289 F4), (B.ext E1289)⟩ ⟨x1292, x1294, x1293, V1297⟩ ok ok6047 hA (nn1296 sb (by simp)).1.symm (nn1296 sb (by simp)).2.symm (nn1296 b (by simp)).2.symm (X0.ext E1289) SC hcs AD HB LB PF hfv) (by simp) (by rw [hml]; rfl) pd_36 rfl rfl (hb hby d5_6) rfl (by decide) (ble rfl) (ce' := 2) (sl' := 12) rfl rfl (by decide) (by decide) (fun v1298 h1299 hQ1300 => ?_)
  have gk1301 := ((Keep.refl h0 [sb, b]).ext E1289).1
  have gn1302 := (Nat.le_trans Z0 E1289.1)
  have lt1303 := (x1292).lt
  have lt1304 := ((B.ext E1289)).lt
  have lt1305 := (V1297).lt
  have lt1306 := ((Fld.ext E1289 FO)).lt
  have lt1307 := ((Exa.ext E1289 E)).lt
  have lt1308 := ((TB.ext E1289)).lt
  have lt1309 := ((Exa.ext E1289 TE)).lt
  obtain ⟨rfl, K1310, b1311, k1312, g1313, E1314, F1315, F1316, F1317, F1318, V1319⟩ := hQ1300
  have ne1320 : a1288 ≠ b1311 := fr_ne g1313 (nn1296 b (by simp)).1.symm lt1303
  have ne1321 : b1290 ≠ b1311 := fr_ne g1313 (nn1296 b (by simp)).2.symm lt1305
  have ne1322 : ho ≠ b1311 := fr_ne g1313 nx1 lt1306
  have ne1323 : sb ≠ b1311 := fr_ne g1313 nsb lt1307
  have ne1324 : tb ≠ b1311 := fr_ne g1313 nx5 lt1308
  have ne1325 : ts ≠ b1311 := fr_ne g1313 nx3 lt1309
  have gz1326 : n0 ≤ b1311 := fr_ge g1313 gb gn1302
  have mm1327 : b1311 ∈ [sb, b] ∨ h0.size ≤ b1311 := fr_mem g1313 (Or.inl (by simp)) gk1301
  refine Go.safe (x := b1311) (V1319).lt (fun vm hzv => safe2 hzv (tw hw 46 rfl) (tw hw 4 rfl) V1319 (cap0 _) (Or.inl (cap2 _))) ?_
  have gB1328 : b1311 = b ∨ h0.size ≤ b1311 := fr_or g1313 (Or.inl rfl) gk1301
  show Go _ _ _ _ _ _ _ _ _ _ _ _ _ _ _ _ _ _ _ _ 2 12 9 #[.val (.ref ho), .val (.ref ts)] [(.ref sb)]
  refine Go.aloadN (q := 10) hx (hb hby d5_9) rfl (by rfl) rfl ?_
  refine Go.callV (q := 13) hx hZ (a := sb) (argsL := [(.ref ts)]) (rest := []) hown (tw hw 47 rfl) (tw hw 48 rfl) (fun vm hzv => notFace_of_selects (args := #[]) (mvT hzv (tw hw 50 rfl))) (tw hw 50 rfl) (tw hw 49 rfl) (tw hw 23 rfl) (tw hw 51 rfl) (by decide) ((Exa.ext E1289 E).keep K1310) (rmAp l Z a0 hw hel sb b1311 k1312 ts tb kt cst fv (mx cd 0) td (cs ++ [(60 : Int32), (47 : Int32)]) ds h1299 n0 (Nat.le_trans (Nat.le_trans Z0 E1289.1) K1310.1) ne1323 gs gz1326 ⟨((Exa.ext E1289 E).keep K1310), F1315, F1316, F1317, F1318, V1319⟩ ⟨((Exa.ext E1289 TE).keep K1310), ((Fld.ext E1289 T1).keep K1310 (ninS nx2 (ninS nx3 nin0))), ((Fld.ext E1289 T2).keep K1310 (ninS nx2 (ninS nx3 nin0))), ((TB.ext E1289).keep K1310 (ninS nx4 (ninS nx5 nin0)))⟩ ok1 okT (Nat.lt_succ_of_lt hB) nx2 nx4 ne1324 ((X0.ext E1289).keep K1310 (allS gs (allS gb all0))) SC hcs AD HB LB PF hfv) (by simp) (by rw [hml]; rfl) pd_36 rfl rfl (hb hby d5_10) rfl (by decide) (ble rfl) (ce' := 3) (sl' := 16396) rfl rfl (by decide) (by decide) (fun v1329 h1330 hQ1331 => ?_)
  have gk1332 := (Keep.trans ((Keep.refl h0 [sb, b]).ext E1289) K1310 (allS (Or.inl (by simp)) (allS (Or.inl (by simp)) all0))).1
  have gn1333 := (Nat.le_trans (Nat.le_trans Z0 E1289.1) K1310.1)
  have lt1334 := ((x1292.keep K1310)).lt
  have lt1335 := ((V1297.keep K1310 (ninS (nn1296 sb (by simp)).2.symm (ninS (nn1296 b (by simp)).2.symm nin0)))).lt
  have lt1336 := (V1319).lt
  have lt1337 := (((Fld.ext E1289 FO).keep K1310 (ninS nx0 (ninS nx1 nin0)))).lt
  have lt1338 := (((Exa.ext E1289 E).keep K1310)).lt
  have lt1339 := (((TB.ext E1289).keep K1310 (ninS nx4 (ninS nx5 nin0)))).lt
  have lt1340 := (((Exa.ext E1289 TE).keep K1310)).lt
  obtain ⟨rfl, K1341, b1342, k1343, g1344, E1345, F1346, F1347, F1348, F1349, V1350⟩ := hQ1331
  have ne1351 : a1288 ≠ b1342 := fr_ne g1344 ne1320 lt1334
  have ne1352 : b1290 ≠ b1342 := fr_ne g1344 ne1321 lt1335
  have ne1353 : ho ≠ b1342 := fr_ne g1344 ne1322 lt1337
  have ne1354 : sb ≠ b1342 := fr_ne g1344 ne1323 lt1338
  have ne1355 : tb ≠ b1342 := fr_ne g1344 ne1324 lt1339
  have ne1356 : ts ≠ b1342 := fr_ne g1344 ne1325 lt1340
  have gz1357 : n0 ≤ b1342 := fr_ge g1344 gz1326 gn1333
  have mm1358 : b1342 ∈ [sb, b] ∨ h0.size ≤ b1342 := fr_mem g1344 mm1327 gk1332
  refine Go.safe (x := b1342) (V1350).lt (fun vm hzv => safe2 hzv (tw hw 46 rfl) (tw hw 4 rfl) V1350 (cap0 _) (Or.inl (cap2 _))) ?_
  have gB1359 : b1342 = b ∨ h0.size ≤ b1342 := fr_or g1344 gB1328 gk1332
  show Go _ _ _ _ _ _ _ _ _ _ _ _ _ _ _ _ _ _ _ _ 3 16396 13 #[.val (.ref ho), .val (.ref ts)] [(.ref sb)]
  refine Go.bipush (q := 15) (z := (62 : Int32)) hx (hb hby d5_13) rfl rfl ?_
  refine Go.callV (q := 18) hx hZ (a := sb) (argsL := [(.int (62 : Int32))]) (rest := []) hown (tw hw 97 rfl) (tw hw 98 rfl) (fun vm hzv => notFace_of_selects (args := #[]) (mvT hzv (tw hw 100 rfl))) (tw hw 100 rfl) (tw hw 99 rfl) (tw hw 23 rfl) (tw hw 101 rfl) (by decide) (((Exa.ext E1289 E).keep K1310).keep K1341) (rmBC l Z a0 hw hel sb b1342 k1343 cst fv (mx (mx cd 0) td) ((cs ++ [(60 : Int32), (47 : Int32)]) ++ ds) h1330 n0 (Nat.le_trans (Nat.le_trans (Nat.le_trans Z0 E1289.1) K1310.1) K1341.1) ne1354 gs gz1357 ⟨(((Exa.ext E1289 E).keep K1310).keep K1341), F1346, F1347, F1348, F1349, V1350⟩ hB ok2 (((X0.ext E1289).keep K1310 (allS gs (allS gb all0))).keep K1341 (allS gs (allS gz1326 all0))) SC hcs AD HB LB PF hfv) (by simp) (by rw [hml]; rfl) pd_37 rfl rfl (hb hby d5_15) rfl (by decide) (ble rfl) (ce' := 3) (sl' := 16396) rfl rfl (by decide) (by decide) (fun v1360 h1361 hQ1362 => ?_)
  obtain ⟨rfl, K1363, E1364, F1365, F1366, F1367, F1368, V1369⟩ := hQ1362
  show Go _ _ _ _ _ _ _ _ _ _ _ _ _ _ _ _ _ _ _ _ 3 16396 18 #[.val (.ref ho), .val (.ref ts)] [(.ref sb)]
  refine Go.pop (q := 19) hx (hb hby d5_18) rfl rfl ?_
  refine Go.aloadN (q := 20) hx (hb hby d5_19) rfl (by rfl) rfl ?_
  refine Go.retA hx hret rfl (by rfl) hlk (hb hby d5_20) (by decide) (by decide) ?_
  exact ⟨rfl, (Keep.trans (Keep.trans (Keep.trans ((Keep.refl h0 [sb, b]).ext E1289) K1310 (allS (Or.inl (by simp)) (allS (Or.inl (by simp)) all0))) K1341 (allS (Or.inl (by simp)) (allS (mm1327) all0))) K1363 (allS (Or.inl (by simp)) (allS (mm1358) all0))), b1342, k1343, gB1359, ⟨E1364, F1365, F1366, F1367, F1368, V1369⟩, OKc_one ok2 ch62 (by decide)⟩
theorem chr_i2c (x : Int32) : Chr (x.toUInt32.toUInt16.toUInt32.toInt32) := by unfold Chr; rw [i2c_int]; omega
theorem len3 (a b d : Int32) {k : Nat} (h : k ≤ 3) : (List.take k [a, b, d]).length = k := by rw [List.length_take]; show min k 3 = k; omega
theorem pl_54 : plainFor (⟨"com/example/clear_recall/clearrecall/web/HtmlClosePinLaw", "law", "(IIII)Z"⟩ : MethodName) = true := plainFor_of_name (by first | (simp [plainName, overriddenIn]; done) | decide +kernel)
theorem pd_38 : parseMethodDescriptor "(ICCC)Ljava/lang/String;" = some ⟨[.int, .char, .char, .char], some (.object "java/lang/String")⟩ := by decide +kernel
theorem pd_39 : parseMethodDescriptor "(Ljava/lang/String;)Lcom/example/clear_recall/clearrecall/web/Html;" = some ⟨[(.object "java/lang/String")], some (.object "com/example/clear_recall/clearrecall/web/Html")⟩ := by decide +kernel
theorem pd_40 : parseMethodDescriptor "(Ljava/lang/String;IICCC)Z" = some ⟨[(.object "java/lang/String"), .int, .int, .char, .char, .char], some .boolean⟩ := by decide +kernel
theorem rm0 (l : Launch) (Z : State) (a0 : Array Value) (hw : ∀ d ∈ tables_1, d.before a0 Z = true) (hel : EW Z a0 consts_1) (p1 p2 p3 p4 cst : Int32) (fv : Value) (h0 : Heap) (n0 : Nat) (Z0 : n0 ≤ h0.size) (X0 : Old Z n0 h0) (SC : Sta Z Z.heap "java/lang/String" "COMPACT_STRINGS" "Z" (.int cst)) (hcs : ¬ cst = (0 : Int32)) (AD : Sta Z Z.heap "java/lang/StringUTF16" "$assertionsDisabled" "Z" (.int (1 : Int32))) (HB : Sta Z Z.heap "java/lang/StringUTF16" "HI_BYTE_SHIFT" "I" (.int (0 : Int32))) (LB : Sta Z Z.heap "java/lang/StringUTF16" "LO_BYTE_SHIFT" "I" (.int (8 : Int32))) (PF : Sta Z Z.heap "jdk/internal/util/Preconditions" "SIOOBE_FORMATTER" "Ljava/util/function/BiFunction;" fv) (hfv : fv.isRef = true) :
    Met l Z consts_1 [] x code maxLocals ret tables_1 room_1 #[(.int p1), (.int p2), (.int p3), (.int p4)] h0 n0 (fun v h => v = some (.int 1)) := by
  refine Met.of (Ls0 := #[.val (.int p1), .val (.int p2), .val (.int p3), .val (.int p4), .unset, .unset, .unset, .unset, .unset, .unset, .unset, .unset, .unset, .unset, .unset, .unset, .unset, .unset, .unset]) pl_54 (by first | (simp [argsToLocals, Value.category, maxLocals]; done) | rfl) hel ?_
  intro p e s m below meth c hx hby hml hret hlk hown hnm hZ
  refine Go.iloadN (q := 1) hx (hb hby at_0) rfl rfl ?_
  refine Go.iconst (q := 2) (z := (3 : Int32)) hx (hb hby at_1) rfl rfl ?_
  refine Go.iand (q := 3) hx (hb hby at_2) rfl ?_
  obtain ⟨k1, hk1, e_k1⟩ := and3N (p1)
  rw [e_k1]
  refine Go.istore (q := 5) (l' := #[.val (.int p1), .val (.int p2), .val (.int p3), .val (.int p4), .val (.int (iN k1)), .unset, .unset, .unset, .unset, .unset, .unset, .unset, .unset, .unset, .unset, .unset, .unset, .unset, .unset]) hx (hb hby at_3) rfl rfl ?_
  refine Go.iloadN (q := 6) hx (hb hby at_5) rfl rfl ?_
  refine Go.iconst (q := 7) (z := (2 : Int32)) hx (hb hby at_6) rfl rfl ?_
  refine Go.iushr (q := 8) hx (hb hby at_7) rfl ?_
  refine Go.iconst (q := 9) (z := (3 : Int32)) hx (hb hby at_8) rfl rfl ?_
  refine Go.iand (q := 10) hx (hb hby at_9) rfl ?_
  obtain ⟨k2, hk2, e_k2⟩ := and3N ((XT.ushr p1 (2 : Int32)))
  rw [e_k2]
  refine Go.istore (q := 12) (l' := #[.val (.int p1), .val (.int p2), .val (.int p3), .val (.int p4), .val (.int (iN k1)), .val (.int (iN k2)), .unset, .unset, .unset, .unset, .unset, .unset, .unset, .unset, .unset, .unset, .unset, .unset, .unset]) hx (hb hby at_10) rfl rfl ?_
  refine Go.iloadN (q := 13) hx (hb hby at_12) rfl rfl ?_
  refine Go.i2c (q := 14) hx (hb hby at_13) rfl ?_
  obtain ⟨c0, e_c0, hq_c0⟩ : ∃ c, p2.toUInt32.toUInt16.toUInt32.toInt32 = c ∧ Chr c := ⟨_, rfl, chr_i2c _⟩
  rw [e_c0]
  refine Go.istore (q := 16) (l' := #[.val (.int p1), .val (.int p2), .val (.int p3), .val (.int p4), .val (.int (iN k1)), .val (.int (iN k2)), .val (.int c0), .unset, .unset, .unset, .unset, .unset, .unset, .unset, .unset, .unset, .unset, .unset, .unset]) hx (hb hby at_14) rfl rfl ?_
  refine Go.iloadN (q := 17) hx (hb hby at_16) rfl rfl ?_
  refine Go.bipush (q := 19) (z := (16 : Int32)) hx (hb hby at_17) rfl rfl ?_
  refine Go.iushr (q := 20) hx (hb hby at_19) rfl ?_
  refine Go.i2c (q := 21) hx (hb hby at_20) rfl ?_
  obtain ⟨c1, e_c1, hq_c1⟩ : ∃ c, (XT.ushr p2 (16 : Int32)).toUInt32.toUInt16.toUInt32.toInt32 = c ∧ Chr c := ⟨_, rfl, chr_i2c _⟩
  rw [e_c1]
  refine Go.istore (q := 23) (l' := #[.val (.int p1), .val (.int p2), .val (.int p3), .val (.int p4), .val (.int (iN k1)), .val (.int (iN k2)), .val (.int c0), .val (.int c1), .unset, .unset, .unset, .unset, .unset, .unset, .unset, .unset, .unset, .unset, .unset]) hx (hb hby at_21) rfl rfl ?_
  refine Go.iloadN (q := 24) hx (hb hby at_23) rfl rfl ?_
  refine Go.i2c (q := 25) hx (hb hby at_24) rfl ?_
  obtain ⟨c2, e_c2, hq_c2⟩ : ∃ c, p3.toUInt32.toUInt16.toUInt32.toInt32 = c ∧ Chr c := ⟨_, rfl, chr_i2c _⟩
  rw [e_c2]
  refine Go.istore (q := 27) (l' := #[.val (.int p1), .val (.int p2), .val (.int p3), .val (.int p4), .val (.int (iN k1)), .val (.int (iN k2)), .val (.int c0), .val (.int c1), .val (.int c2), .unset, .unset, .unset, .unset, .unset, .unset, .unset, .unset, .unset, .unset]) hx (hb hby at_25) rfl rfl ?_
  refine Go.iloadN (q := 28) hx (hb hby at_27) rfl rfl ?_
  refine Go.bipush (q := 30) (z := (16 : Int32)) hx (hb hby at_28) rfl rfl ?_
  refine Go.iushr (q := 31) hx (hb hby at_30) rfl ?_
  refine Go.i2c (q := 32) hx (hb hby at_31) rfl ?_
  obtain ⟨d0, e_d0, hq_d0⟩ : ∃ c, (XT.ushr p3 (16 : Int32)).toUInt32.toUInt16.toUInt32.toInt32 = c ∧ Chr c := ⟨_, rfl, chr_i2c _⟩
  rw [e_d0]
  refine Go.istore (q := 34) (l' := #[.val (.int p1), .val (.int p2), .val (.int p3), .val (.int p4), .val (.int (iN k1)), .val (.int (iN k2)), .val (.int c0), .val (.int c1), .val (.int c2), .val (.int d0), .unset, .unset, .unset, .unset, .unset, .unset, .unset, .unset, .unset]) hx (hb hby at_32) rfl rfl ?_
  refine Go.iloadN (q := 35) hx (hb hby at_34) rfl rfl ?_
  refine Go.i2c (q := 36) hx (hb hby at_35) rfl ?_
  obtain ⟨d1, e_d1, hq_d1⟩ : ∃ c, p4.toUInt32.toUInt16.toUInt32.toInt32 = c ∧ Chr c := ⟨_, rfl, chr_i2c _⟩
  rw [e_d1]
  refine Go.istore (q := 38) (l' := #[.val (.int p1), .val (.int p2), .val (.int p3), .val (.int p4), .val (.int (iN k1)), .val (.int (iN k2)), .val (.int c0), .val (.int c1), .val (.int c2), .val (.int d0), .val (.int d1), .unset, .unset, .unset, .unset, .unset, .unset, .unset, .unset]) hx (hb hby at_36) rfl rfl ?_
  refine Go.iloadN (q := 39) hx (hb hby at_38) rfl rfl ?_
  refine Go.bipush (q := 41) (z := (16 : Int32)) hx (hb hby at_39) rfl rfl ?_
  refine Go.iushr (q := 42) hx (hb hby at_41) rfl ?_
  refine Go.i2c (q := 43) hx (hb hby at_42) rfl ?_
  obtain ⟨d2, e_d2, hq_d2⟩ : ∃ c, (XT.ushr p4 (16 : Int32)).toUInt32.toUInt16.toUInt32.toInt32 = c ∧ Chr c := ⟨_, rfl, chr_i2c _⟩
  rw [e_d2]
  refine Go.istore (q := 45) (l' := #[.val (.int p1), .val (.int p2), .val (.int p3), .val (.int p4), .val (.int (iN k1)), .val (.int (iN k2)), .val (.int c0), .val (.int c1), .val (.int c2), .val (.int d0), .val (.int d1), .val (.int d2), .unset, .unset, .unset, .unset, .unset, .unset, .unset]) hx (hb hby at_43) rfl rfl ?_
  refine Go.iload (q := 47) hx (hb hby at_45) rfl rfl ?_
  refine Go.iload (q := 49) hx (hb hby at_47) rfl rfl ?_
  refine Go.iload (q := 51) hx (hb hby at_49) rfl rfl ?_
  refine Go.iload (q := 53) hx (hb hby at_51) rfl rfl ?_
  refine Go.callS (q := 56) hx hZ (argsL := [(.int (iN k1)), (.int c0), (.int c1), (.int c2)]) (rest := []) hown (tw hw 0 rfl) (tw hw 1 rfl) (tw hw 2 rfl) (tw hw 3 rfl) (by decide) (rmTg l Z a0 hw hel cst k1 c0 c1 c2 h0 n0 Z0 hk1 hq_c0 hq_c1 hq_c2 X0 SC hcs AD HB LB) (fun _ hx => nomatch hx) (by rw [hml]; rfl) pd_38 rfl rfl (hb hby at_53) rfl (by decide) (ble rfl) (ce' := 4) (sl' := 24) rfl rfl (by decide) (by decide) (fun v1370 h1371 hQ1372 => ?_)
  have gn1373 := Z0
  obtain ⟨ts1, tb1, kt1, cd1, rfl, K1374, ⟨E1375, F1376, F1377, A1378⟩, ok1⟩ := hQ1372
  show Go _ _ _ _ _ _ _ _ _ _ _ _ _ _ _ _ _ _ _ _ 4 24 56 #[.val (.int p1), .val (.int p2), .val (.int p3), .val (.int p4), .val (.int (iN k1)), .val (.int (iN k2)), .val (.int c0), .val (.int c1), .val (.int c2), .val (.int d0), .val (.int d1), .val (.int d2), .unset, .unset, .unset, .unset, .unset, .unset, .unset] [(.ref ts1)]
  refine Go.astore (q := 58) (l' := #[.val (.int p1), .val (.int p2), .val (.int p3), .val (.int p4), .val (.int (iN k1)), .val (.int (iN k2)), .val (.int c0), .val (.int c1), .val (.int c2), .val (.int d0), .val (.int d1), .val (.int d2), .val (.ref ts1), .unset, .unset, .unset, .unset, .unset, .unset]) hx (hb hby at_56) (by rfl) rfl rfl ?_
  refine Go.iload (q := 60) hx (hb hby at_58) rfl rfl ?_
  refine Go.iload (q := 62) hx (hb hby at_60) rfl rfl ?_
  refine Go.iload (q := 64) hx (hb hby at_62) rfl rfl ?_
  refine Go.iload (q := 66) hx (hb hby at_64) rfl rfl ?_
  refine Go.callS (q := 69) hx hZ (argsL := [(.int (iN k2)), (.int d0), (.int d1), (.int d2)]) (rest := []) hown (tw hw 0 rfl) (tw hw 1 rfl) (tw hw 2 rfl) (tw hw 3 rfl) (by decide) (rmTg l Z a0 hw hel cst k2 d0 d1 d2 h1371 n0 (Nat.le_trans Z0 K1374.1) hk2 hq_d0 hq_d1 hq_d2 (X0.keep K1374 all0) SC hcs AD HB LB) (fun _ hx => nomatch hx) (by rw [hml]; rfl) pd_38 rfl rfl (hb hby at_66) rfl (by decide) (ble rfl) (ce' := 8) (sl' := 48) rfl rfl (by decide) (by decide) (fun v1379 h1380 hQ1381 => ?_)
  have gn1382 := (Nat.le_trans Z0 K1374.1)
  have lt1383 := (A1378).lt
  have lt1384 := (E1375).lt
  obtain ⟨ts2, tb2, kt2, cd2, rfl, K1385, ⟨E1386, F1387, F1388, A1389⟩, ok2⟩ := hQ1381
  show Go _ _ _ _ _ _ _ _ _ _ _ _ _ _ _ _ _ _ _ _ 8 48 69 #[.val (.int p1), .val (.int p2), .val (.int p3), .val (.int p4), .val (.int (iN k1)), .val (.int (iN k2)), .val (.int c0), .val (.int c1), .val (.int c2), .val (.int d0), .val (.int d1), .val (.int d2), .val (.ref ts1), .unset, .unset, .unset, .unset, .unset, .unset] [(.ref ts2)]
  refine Go.astore (q := 71) (l' := #[.val (.int p1), .val (.int p2), .val (.int p3), .val (.int p4), .val (.int (iN k1)), .val (.int (iN k2)), .val (.int c0), .val (.int c1), .val (.int c2), .val (.int d0), .val (.int d1), .val (.int d2), .val (.ref ts1), .val (.ref ts2), .unset, .unset, .unset, .unset, .unset]) hx (hb hby at_69) (by rfl) rfl rfl ?_
  refine Go.newO (q := 74) hx hZ hown (tw hw 12 rfl) (tw hw 13 rfl) (tw hw 14 rfl) (hb hby at_71) rfl (ce' := 9) (sl' := 49) rfl rfl (by decide) (by decide) (fun h1390 a1391 g1392 E1393 A1394 D1395 => ?_)
  have ne1396 : tb1 ≠ a1391 := by rw [g1392]; exact Nat.ne_of_lt ((A1378.keep K1385 nin0)).lt
  have ne1397 : tb2 ≠ a1391 := by rw [g1392]; exact Nat.ne_of_lt (A1389).lt
  have ne1398 : ts1 ≠ a1391 := by rw [g1392]; exact Nat.ne_of_lt ((E1375.keep K1385)).lt
  have ne1399 : ts2 ≠ a1391 := by rw [g1392]; exact Nat.ne_of_lt (E1386).lt
  have gz1400 : n0 ≤ a1391 := by rw [g1392]; exact (Nat.le_trans (Nat.le_trans Z0 K1374.1) K1385.1)
  refine Go.dup (q := 75) hx (hb hby at_74) rfl rfl ?_
  refine Go.callI (q := 78) hx hZ (a := a1391) (argsL := []) (rest := [(.ref a1391)]) hown rfl (tw hw 15 rfl) (tw hw 16 rfl) (tw hw 14 rfl) (tw hw 17 rfl) (by decide) (rmHI l Z a0 hw hel a1391 cst h1390 n0 (Nat.le_trans (Nat.le_trans (Nat.le_trans Z0 K1374.1) K1385.1) E1393.1) gz1400 A1394 (D1395 (Or.inr (tw hw 40 rfl)) (ty := (.object "java/lang/StringBuilder")) (by decide)) (((X0.keep K1374 all0).keep K1385 all0).ext E1393) SC hcs) (by simp) (by rw [hml]; rfl) pd_3 rfl rfl (hb hby at_75) rfl (by decide) (ble rfl) (ce' := 11) (sl' := 8245) rfl rfl (by decide) (by decide) (fun v1401 h1402 hQ1403 => ?_)
  have gn1404 := (Nat.le_trans (Nat.le_trans (Nat.le_trans Z0 K1374.1) K1385.1) E1393.1)
  have lt1405 := (A1394).lt
  have lt1406 := (((A1378.keep K1385 nin0).ext E1393)).lt
  have lt1407 := ((A1389.ext E1393)).lt
  have lt1408 := ((Exa.ext E1393 (E1375.keep K1385))).lt
  have lt1409 := ((Exa.ext E1393 E1386)).lt
  obtain ⟨rfl, K1410, sb, b, kb, g1, g2, nsb, FO, E0, f1, f2, f3, f4, V0⟩ := hQ1403
  have ne1411 : a1391 ≠ sb := Nat.ne_of_lt (Nat.lt_of_lt_of_le lt1405 g1)
  have ne1412 : tb1 ≠ sb := Nat.ne_of_lt (Nat.lt_of_lt_of_le lt1406 g1)
  have ne1413 : tb2 ≠ sb := Nat.ne_of_lt (Nat.lt_of_lt_of_le lt1407 g1)
  have ne1414 : ts1 ≠ sb := Nat.ne_of_lt (Nat.lt_of_lt_of_le lt1408 g1)
  have ne1415 : ts2 ≠ sb := Nat.ne_of_lt (Nat.lt_of_lt_of_le lt1409 g1)
  have gz1416 : n0 ≤ sb := Nat.le_trans gn1404 g1
  have ne1417 : a1391 ≠ b := Nat.ne_of_lt (Nat.lt_of_lt_of_le lt1405 g2)
  have ne1418 : tb1 ≠ b := Nat.ne_of_lt (Nat.lt_of_lt_of_le lt1406 g2)
  have ne1419 : tb2 ≠ b := Nat.ne_of_lt (Nat.lt_of_lt_of_le lt1407 g2)
  have ne1420 : ts1 ≠ b := Nat.ne_of_lt (Nat.lt_of_lt_of_le lt1408 g2)
  have ne1421 : ts2 ≠ b := Nat.ne_of_lt (Nat.lt_of_lt_of_le lt1409 g2)
  have gz1422 : n0 ≤ b := Nat.le_trans gn1404 g2
  refine Go.safe (x := sb) (E0).lt (fun vm hzv => Safe.exa hzv.alike E0 (by decide) (by decide)) ?_
  refine Go.safe (x := b) (V0).lt (fun vm hzv => safe2 hzv (tw hw 46 rfl) (tw hw 4 rfl) V0 (cap0 _) (Or.inl (cap2 _))) ?_
  show Go _ _ _ _ _ _ _ _ _ _ _ _ _ _ _ _ _ _ _ _ 11 8245 78 #[.val (.int p1), .val (.int p2), .val (.int p3), .val (.int p4), .val (.int (iN k1)), .val (.int (iN k2)), .val (.int c0), .val (.int c1), .val (.int c2), .val (.int d0), .val (.int d1), .val (.int d2), .val (.ref ts1), .val (.ref ts2), .unset, .unset, .unset, .unset, .unset] [(.ref a1391)]
  refine Go.astore (q := 80) (l' := #[.val (.int p1), .val (.int p2), .val (.int p3), .val (.int p4), .val (.int (iN k1)), .val (.int (iN k2)), .val (.int c0), .val (.int c1), .val (.int c2), .val (.int d0), .val (.int d1), .val (.int d2), .val (.ref ts1), .val (.ref ts2), .val (.ref a1391), .unset, .unset, .unset, .unset]) hx (hb hby at_78) (by rfl) rfl rfl ?_
  refine Go.aload (q := 82) hx (hb hby at_80) rfl (by rfl) rfl ?_
  refine Go.aload (q := 84) hx (hb hby at_82) rfl (by rfl) rfl ?_
  have el1 : (List.take k1 [c0, c1, c2]).length = k1 := len3 _ _ _ hk1
  refine Go.callV (q := 87) hx hZ (a := a1391) (argsL := [(.ref ts1)]) (rest := []) hown (tw hw 41 rfl) (tw hw 42 rfl) (fun vm hzv => notFace_of_selects (args := #[]) (mvT hzv (tw hw 44 rfl))) (tw hw 44 rfl) (tw hw 43 rfl) (tw hw 14 rfl) (tw hw 45 rfl) (by decide) (A1394.keep K1410) (rmClose l Z a0 hw hel a1391 sb b kb ts1 tb1 kt1 cst fv 0 cd1 [] (List.take k1 [c0, c1, c2]) h1402 n0 (Nat.le_trans (Nat.le_trans (Nat.le_trans (Nat.le_trans Z0 K1374.1) K1385.1) E1393.1) K1410.1) FO nsb gz1416 gz1422 ⟨E0, f1, f2, f3, f4, V0⟩ ⟨((Exa.ext E1393 (E1375.keep K1385)).keep K1410), ((Fld.ext E1393 (F1376.keep K1385 nin0)).keep K1410 (ninS ne1398 nin0)), ((Fld.ext E1393 (F1377.keep K1385 nin0)).keep K1410 (ninS ne1398 nin0)), (((A1378.keep K1385 nin0).ext E1393).keep K1410 (ninS ne1396 nin0))⟩ ⟨ac0, Or.inl ⟨rfl, a80⟩⟩ ok1 (by rw [el1]; show 0 + k1 ≤ 9; omega) ne1411 ne1417 ne1414 ne1420 ne1412 ne1418 ((((X0.keep K1374 all0).keep K1385 all0).ext E1393).keep K1410 (allS gz1400 all0)) SC hcs AD HB LB PF hfv) (by simp) (by rw [hml]; rfl) pd_39 rfl rfl (hb hby at_84) rfl (by decide) (ble rfl) (ce' := 14) (sl' := 24641) rfl rfl (by decide) (by decide) (fun v1423 h1424 hQ1425 => ?_)
  have gn1426 := (Nat.le_trans (Nat.le_trans (Nat.le_trans (Nat.le_trans Z0 K1374.1) K1385.1) E1393.1) K1410.1)
  have lt1427 := ((A1394.keep K1410)).lt
  have lt1428 := (V0).lt
  have lt1429 := (E0).lt
  have lt1430 := ((((A1378.keep K1385 nin0).ext E1393).keep K1410 (ninS ne1396 nin0))).lt
  have lt1431 := (((A1389.ext E1393).keep K1410 (ninS ne1397 nin0))).lt
  have lt1432 := (((Exa.ext E1393 (E1375.keep K1385)).keep K1410)).lt
  have lt1433 := (((Exa.ext E1393 E1386).keep K1410)).lt
  obtain ⟨rfl, K1434, b1435, k1436, g1437, ⟨E1438, F1439, F1440, F1441, F1442, V1443⟩, okS1⟩ := hQ1425
  have ne1444 : a1391 ≠ b1435 := fr_ne g1437 ne1417 lt1427
  have ne1445 : sb ≠ b1435 := fr_ne g1437 nsb lt1429
  have ne1446 : tb1 ≠ b1435 := fr_ne g1437 ne1418 lt1430
  have ne1447 : tb2 ≠ b1435 := fr_ne g1437 ne1419 lt1431
  have ne1448 : ts1 ≠ b1435 := fr_ne g1437 ne1420 lt1432
  have ne1449 : ts2 ≠ b1435 := fr_ne g1437 ne1421 lt1433
  have gz1450 : n0 ≤ b1435 := fr_ge g1437 gz1422 gn1426
  refine Go.safe (x := b1435) (V1443).lt (fun vm hzv => safe2 hzv (tw hw 46 rfl) (tw hw 4 rfl) V1443 (cap0 _) (Or.inl (cap2 _))) ?_
  have eS1 : ((([] ++ [(60 : Int32), (47 : Int32)]) ++ (List.take k1 [c0, c1, c2])) ++ [(62 : Int32)]).length = k1 + 3 := by rw [List.length_append, List.length_append, List.length_append, el1]; show 0 + 2 + k1 + 1 = k1 + 3; omega
  show Go _ _ _ _ _ _ _ _ _ _ _ _ _ _ _ _ _ _ _ _ 14 24641 87 #[.val (.int p1), .val (.int p2), .val (.int p3), .val (.int p4), .val (.int (iN k1)), .val (.int (iN k2)), .val (.int c0), .val (.int c1), .val (.int c2), .val (.int d0), .val (.int d1), .val (.int d2), .val (.ref ts1), .val (.ref ts2), .val (.ref a1391), .unset, .unset, .unset, .unset] [(.ref a1391)]
  refine Go.astore (q := 89) (l' := #[.val (.int p1), .val (.int p2), .val (.int p3), .val (.int p4), .val (.int (iN k1)), .val (.int (iN k2)), .val (.int c0), .val (.int c1), .val (.int c2), .val (.int d0), .val (.int d1), .val (.int d2), .val (.ref ts1), .val (.ref ts2), .val (.ref a1391), .val (.ref a1391), .unset, .unset, .unset]) hx (hb hby at_87) (by rfl) rfl rfl ?_
  refine Go.aload (q := 91) hx (hb hby at_89) rfl (by rfl) rfl ?_
  refine Go.callV (q := 94) hx hZ (a := a1391) (argsL := []) (rest := []) hown (tw hw 115 rfl) (tw hw 116 rfl) (fun vm hzv => notFace_of_selects (args := #[]) (mvT hzv (tw hw 118 rfl))) (tw hw 118 rfl) (tw hw 117 rfl) (tw hw 14 rfl) (tw hw 119 rfl) (by decide) ((A1394.keep K1410).keep K1434) (rmHS l Z a0 hw hel a1391 sb b1435 k1436 cst (mx (mx 0 0) cd1) ((([] ++ [(60 : Int32), (47 : Int32)]) ++ (List.take k1 [c0, c1, c2])) ++ [(62 : Int32)]) h1424 n0 (Nat.le_trans (Nat.le_trans (Nat.le_trans (Nat.le_trans (Nat.le_trans Z0 K1374.1) K1385.1) E1393.1) K1410.1) K1434.1) (FO.keep K1434 (ninS ne1411 (ninS ne1417 nin0))) ne1445 gz1416 gz1450 ⟨(E0.keep K1434), F1439, F1440, F1441, F1442, V1443⟩ (by rw [eS1]; omega) okS1 (((((X0.keep K1374 all0).keep K1385 all0).ext E1393).keep K1410 (allS gz1400 all0)).keep K1434 (allS gz1416 (allS gz1422 all0))) SC hcs) (fun _ hx => nomatch hx) (by rw [hml]; rfl) pd_33 rfl rfl (hb hby at_91) rfl (by decide) (ble rfl) (ce' := 16) (sl' := 24669) rfl rfl (by decide) (by decide) (fun v1451 h1452 hQ1453 => ?_)
  have gn1454 := (Nat.le_trans (Nat.le_trans (Nat.le_trans (Nat.le_trans (Nat.le_trans Z0 K1374.1) K1385.1) E1393.1) K1410.1) K1434.1)
  have lt1455 := (((A1394.keep K1410).keep K1434)).lt
  have lt1456 := (V1443).lt
  have lt1457 := ((E0.keep K1434)).lt
  have lt1458 := (((((A1378.keep K1385 nin0).ext E1393).keep K1410 (ninS ne1396 nin0)).keep K1434 (ninS ne1412 (ninS ne1418 nin0)))).lt
  have lt1459 := ((((A1389.ext E1393).keep K1410 (ninS ne1397 nin0)).keep K1434 (ninS ne1413 (ninS ne1419 nin0)))).lt
  have lt1460 := ((((Exa.ext E1393 (E1375.keep K1385)).keep K1410).keep K1434)).lt
  have lt1461 := ((((Exa.ext E1393 E1386).keep K1410).keep K1434)).lt
  obtain ⟨sa1, aa1, ka1, rfl, g1462, g1463, K1464, E1465, F1466, F1467, V1468⟩ := hQ1453
  have ne1469 : a1391 ≠ sa1 := Nat.ne_of_lt (Nat.lt_of_lt_of_le lt1455 g1462)
  have ne1470 : b1435 ≠ sa1 := Nat.ne_of_lt (Nat.lt_of_lt_of_le lt1456 g1462)
  have ne1471 : sb ≠ sa1 := Nat.ne_of_lt (Nat.lt_of_lt_of_le lt1457 g1462)
  have ne1472 : tb1 ≠ sa1 := Nat.ne_of_lt (Nat.lt_of_lt_of_le lt1458 g1462)
  have ne1473 : tb2 ≠ sa1 := Nat.ne_of_lt (Nat.lt_of_lt_of_le lt1459 g1462)
  have ne1474 : ts1 ≠ sa1 := Nat.ne_of_lt (Nat.lt_of_lt_of_le lt1460 g1462)
  have ne1475 : ts2 ≠ sa1 := Nat.ne_of_lt (Nat.lt_of_lt_of_le lt1461 g1462)
  have gz1476 : n0 ≤ sa1 := Nat.le_trans gn1454 g1462
  have ne1477 : a1391 ≠ aa1 := Nat.ne_of_lt (Nat.lt_of_lt_of_le lt1455 g1463)
  have ne1478 : b1435 ≠ aa1 := Nat.ne_of_lt (Nat.lt_of_lt_of_le lt1456 g1463)
  have ne1479 : sb ≠ aa1 := Nat.ne_of_lt (Nat.lt_of_lt_of_le lt1457 g1463)
  have ne1480 : tb1 ≠ aa1 := Nat.ne_of_lt (Nat.lt_of_lt_of_le lt1458 g1463)
  have ne1481 : tb2 ≠ aa1 := Nat.ne_of_lt (Nat.lt_of_lt_of_le lt1459 g1463)
  have ne1482 : ts1 ≠ aa1 := Nat.ne_of_lt (Nat.lt_of_lt_of_le lt1460 g1463)
  have ne1483 : ts2 ≠ aa1 := Nat.ne_of_lt (Nat.lt_of_lt_of_le lt1461 g1463)
  have gz1484 : n0 ≤ aa1 := Nat.le_trans gn1454 g1463
  show Go _ _ _ _ _ _ _ _ _ _ _ _ _ _ _ _ _ _ _ _ 16 24669 94 #[.val (.int p1), .val (.int p2), .val (.int p3), .val (.int p4), .val (.int (iN k1)), .val (.int (iN k2)), .val (.int c0), .val (.int c1), .val (.int c2), .val (.int d0), .val (.int d1), .val (.int d2), .val (.ref ts1), .val (.ref ts2), .val (.ref a1391), .val (.ref a1391), .unset, .unset, .unset] [(.ref sa1)]
  refine Go.astore (q := 96) (l' := #[.val (.int p1), .val (.int p2), .val (.int p3), .val (.int p4), .val (.int (iN k1)), .val (.int (iN k2)), .val (.int c0), .val (.int c1), .val (.int c2), .val (.int d0), .val (.int d1), .val (.int d2), .val (.ref ts1), .val (.ref ts2), .val (.ref a1391), .val (.ref a1391), .val (.ref sa1), .unset, .unset]) hx (hb hby at_94) (by rfl) rfl rfl ?_
  refine Go.aload (q := 98) hx (hb hby at_96) rfl (by rfl) rfl ?_
  refine Go.aload (q := 100) hx (hb hby at_98) rfl (by rfl) rfl ?_
  have el2 : (List.take k2 [d0, d1, d2]).length = k2 := len3 _ _ _ hk2
  refine Go.callV (q := 103) hx hZ (a := a1391) (argsL := [(.ref ts2)]) (rest := []) hown (tw hw 41 rfl) (tw hw 42 rfl) (fun vm hzv => notFace_of_selects (args := #[]) (mvT hzv (tw hw 44 rfl))) (tw hw 44 rfl) (tw hw 43 rfl) (tw hw 14 rfl) (tw hw 45 rfl) (by decide) (((A1394.keep K1410).keep K1434).keep K1464) (rmClose l Z a0 hw hel a1391 sb b1435 k1436 ts2 tb2 kt2 cst fv (mx (mx 0 0) cd1) cd2 ((([] ++ [(60 : Int32), (47 : Int32)]) ++ (List.take k1 [c0, c1, c2])) ++ [(62 : Int32)]) (List.take k2 [d0, d1, d2]) h1452 n0 (Nat.le_trans (Nat.le_trans (Nat.le_trans (Nat.le_trans (Nat.le_trans (Nat.le_trans Z0 K1374.1) K1385.1) E1393.1) K1410.1) K1434.1) K1464.1) ((FO.keep K1434 (ninS ne1411 (ninS ne1417 nin0))).keep K1464 nin0) ne1445 gz1416 gz1450 ⟨((E0.keep K1434).keep K1464), (F1439.keep K1464 nin0), (F1440.keep K1464 nin0), (F1441.keep K1464 nin0), (F1442.keep K1464 nin0), (V1443.keep K1464 nin0)⟩ ⟨((((Exa.ext E1393 E1386).keep K1410).keep K1434).keep K1464), ((((Fld.ext E1393 F1387).keep K1410 (ninS ne1399 nin0)).keep K1434 (ninS ne1415 (ninS ne1421 nin0))).keep K1464 nin0), ((((Fld.ext E1393 F1388).keep K1410 (ninS ne1399 nin0)).keep K1434 (ninS ne1415 (ninS ne1421 nin0))).keep K1464 nin0), ((((A1389.ext E1393).keep K1410 (ninS ne1397 nin0)).keep K1434 (ninS ne1413 (ninS ne1419 nin0))).keep K1464 nin0)⟩ okS1 ok2 (by rw [eS1, el2]; omega) ne1411 ne1444 ne1415 ne1449 ne1413 ne1447 ((((((X0.keep K1374 all0).keep K1385 all0).ext E1393).keep K1410 (allS gz1400 all0)).keep K1434 (allS gz1416 (allS gz1422 all0))).keep K1464 all0) SC hcs AD HB LB PF hfv) (by simp) (by rw [hml]; rfl) pd_39 rfl rfl (hb hby at_100) rfl (by decide) (ble rfl) (ce' := 19) (sl' := 41065) rfl rfl (by decide) (by decide) (fun v1485 h1486 hQ1487 => ?_)
  have gn1488 := (Nat.le_trans (Nat.le_trans (Nat.le_trans (Nat.le_trans (Nat.le_trans (Nat.le_trans Z0 K1374.1) K1385.1) E1393.1) K1410.1) K1434.1) K1464.1)
  have lt1489 := ((((A1394.keep K1410).keep K1434).keep K1464)).lt
  have lt1490 := (V1468).lt
  have lt1491 := ((V1443.keep K1464 nin0)).lt
  have lt1492 := (E1465).lt
  have lt1493 := (((E0.keep K1434).keep K1464)).lt
  have lt1494 := ((((((A1378.keep K1385 nin0).ext E1393).keep K1410 (ninS ne1396 nin0)).keep K1434 (ninS ne1412 (ninS ne1418 nin0))).keep K1464 nin0)).lt
  have lt1495 := (((((A1389.ext E1393).keep K1410 (ninS ne1397 nin0)).keep K1434 (ninS ne1413 (ninS ne1419 nin0))).keep K1464 nin0)).lt
  have lt1496 := (((((Exa.ext E1393 (E1375.keep K1385)).keep K1410).keep K1434).keep K1464)).lt
  have lt1497 := (((((Exa.ext E1393 E1386).keep K1410).keep K1434).keep K1464)).lt
  obtain ⟨rfl, K1498, b1499, k1500, g1501, ⟨E1502, F1503, F1504, F1505, F1506, V1507⟩, okS2⟩ := hQ1487
  have ne1508 : a1391 ≠ b1499 := fr_ne g1501 ne1444 lt1489
  have ne1509 : aa1 ≠ b1499 := fr_ne g1501 ne1478.symm lt1490
  have ne1510 : sa1 ≠ b1499 := fr_ne g1501 ne1470.symm lt1492
  have ne1511 : sb ≠ b1499 := fr_ne g1501 ne1445 lt1493
  have ne1512 : tb1 ≠ b1499 := fr_ne g1501 ne1446 lt1494
  have ne1513 : tb2 ≠ b1499 := fr_ne g1501 ne1447 lt1495
  have ne1514 : ts1 ≠ b1499 := fr_ne g1501 ne1448 lt1496
  have ne1515 : ts2 ≠ b1499 := fr_ne g1501 ne1449 lt1497
  have gz1516 : n0 ≤ b1499 := fr_ge g1501 gz1450 gn1488
  refine Go.safe (x := b1499) (V1507).lt (fun vm hzv => safe2 hzv (tw hw 46 rfl) (tw hw 4 rfl) V1507 (cap0 _) (Or.inl (cap2 _))) ?_
  have eS2 : (((((([] ++ [(60 : Int32), (47 : Int32)]) ++ (List.take k1 [c0, c1, c2])) ++ [(62 : Int32)]) ++ [(60 : Int32), (47 : Int32)]) ++ (List.take k2 [d0, d1, d2])) ++ [(62 : Int32)]).length = k1 + k2 + 6 := by rw [List.length_append, List.length_append, List.length_append, el2, eS1]; show k1 + 3 + 2 + k2 + 1 = k1 + k2 + 6; omega
  show Go _ _ _ _ _ _ _ _ _ _ _ _ _ _ _ _ _ _ _ _ 19 41065 103 #[.val (.int p1), .val (.int p2), .val (.int p3), .val (.int p4), .val (.int (iN k1)), .val (.int (iN k2)), .val (.int c0), .val (.int c1), .val (.int c2), .val (.int d0), .val (.int d1), .val (.int d2), .val (.ref ts1), .val (.ref ts2), .val (.ref a1391), .val (.ref a1391), .val (.ref sa1), .unset, .unset] [(.ref a1391)]
  refine Go.astore (q := 105) (l' := #[.val (.int p1), .val (.int p2), .val (.int p3), .val (.int p4), .val (.int (iN k1)), .val (.int (iN k2)), .val (.int c0), .val (.int c1), .val (.int c2), .val (.int d0), .val (.int d1), .val (.int d2), .val (.ref ts1), .val (.ref ts2), .val (.ref a1391), .val (.ref a1391), .val (.ref sa1), .val (.ref a1391), .unset]) hx (hb hby at_103) (by rfl) rfl rfl ?_
  refine Go.aload (q := 107) hx (hb hby at_105) rfl (by rfl) rfl ?_
  refine Go.callV (q := 110) hx hZ (a := a1391) (argsL := []) (rest := []) hown (tw hw 115 rfl) (tw hw 116 rfl) (fun vm hzv => notFace_of_selects (args := #[]) (mvT hzv (tw hw 118 rfl))) (tw hw 118 rfl) (tw hw 117 rfl) (tw hw 14 rfl) (tw hw 119 rfl) (by decide) ((((A1394.keep K1410).keep K1434).keep K1464).keep K1498) (rmHS l Z a0 hw hel a1391 sb b1499 k1500 cst (mx (mx (mx (mx 0 0) cd1) 0) cd2) (((((([] ++ [(60 : Int32), (47 : Int32)]) ++ (List.take k1 [c0, c1, c2])) ++ [(62 : Int32)]) ++ [(60 : Int32), (47 : Int32)]) ++ (List.take k2 [d0, d1, d2])) ++ [(62 : Int32)]) h1486 n0 (Nat.le_trans (Nat.le_trans (Nat.le_trans (Nat.le_trans (Nat.le_trans (Nat.le_trans (Nat.le_trans Z0 K1374.1) K1385.1) E1393.1) K1410.1) K1434.1) K1464.1) K1498.1) (((FO.keep K1434 (ninS ne1411 (ninS ne1417 nin0))).keep K1464 nin0).keep K1498 (ninS ne1411 (ninS ne1444 nin0))) ne1511 gz1416 gz1516 ⟨(((E0.keep K1434).keep K1464).keep K1498), F1503, F1504, F1505, F1506, V1507⟩ (by rw [eS2]; omega) okS2 (((((((X0.keep K1374 all0).keep K1385 all0).ext E1393).keep K1410 (allS gz1400 all0)).keep K1434 (allS gz1416 (allS gz1422 all0))).keep K1464 all0).keep K1498 (allS gz1416 (allS gz1450 all0))) SC hcs) (fun _ hx => nomatch hx) (by rw [hml]; rfl) pd_33 rfl rfl (hb hby at_107) rfl (by decide) (ble rfl) (ce' := 21) (sl' := 41093) rfl rfl (by decide) (by decide) (fun v1517 h1518 hQ1519 => ?_)
  have gn1520 := (Nat.le_trans (Nat.le_trans (Nat.le_trans (Nat.le_trans (Nat.le_trans (Nat.le_trans (Nat.le_trans Z0 K1374.1) K1385.1) E1393.1) K1410.1) K1434.1) K1464.1) K1498.1)
  have lt1521 := (((((A1394.keep K1410).keep K1434).keep K1464).keep K1498)).lt
  have lt1522 := ((V1468.keep K1498 (ninS ne1479.symm (ninS ne1478.symm nin0)))).lt
  have lt1523 := (V1507).lt
  have lt1524 := ((E1465.keep K1498)).lt
  have lt1525 := ((((E0.keep K1434).keep K1464).keep K1498)).lt
  have lt1526 := (((((((A1378.keep K1385 nin0).ext E1393).keep K1410 (ninS ne1396 nin0)).keep K1434 (ninS ne1412 (ninS ne1418 nin0))).keep K1464 nin0).keep K1498 (ninS ne1412 (ninS ne1446 nin0)))).lt
  have lt1527 := ((((((A1389.ext E1393).keep K1410 (ninS ne1397 nin0)).keep K1434 (ninS ne1413 (ninS ne1419 nin0))).keep K1464 nin0).keep K1498 (ninS ne1413 (ninS ne1447 nin0)))).lt
  have lt1528 := ((((((Exa.ext E1393 (E1375.keep K1385)).keep K1410).keep K1434).keep K1464).keep K1498)).lt
  have lt1529 := ((((((Exa.ext E1393 E1386).keep K1410).keep K1434).keep K1464).keep K1498)).lt
  obtain ⟨sa2, aa2, ka2, rfl, g1530, g1531, K1532, E1533, F1534, F1535, V1536⟩ := hQ1519
  have ne1537 : a1391 ≠ sa2 := Nat.ne_of_lt (Nat.lt_of_lt_of_le lt1521 g1530)
  have ne1538 : aa1 ≠ sa2 := Nat.ne_of_lt (Nat.lt_of_lt_of_le lt1522 g1530)
  have ne1539 : b1499 ≠ sa2 := Nat.ne_of_lt (Nat.lt_of_lt_of_le lt1523 g1530)
  have ne1540 : sa1 ≠ sa2 := Nat.ne_of_lt (Nat.lt_of_lt_of_le lt1524 g1530)
  have ne1541 : sb ≠ sa2 := Nat.ne_of_lt (Nat.lt_of_lt_of_le lt1525 g1530)
  have ne1542 : tb1 ≠ sa2 := Nat.ne_of_lt (Nat.lt_of_lt_of_le lt1526 g1530)
  have ne1543 : tb2 ≠ sa2 := Nat.ne_of_lt (Nat.lt_of_lt_of_le lt1527 g1530)
  have ne1544 : ts1 ≠ sa2 := Nat.ne_of_lt (Nat.lt_of_lt_of_le lt1528 g1530)
  have ne1545 : ts2 ≠ sa2 := Nat.ne_of_lt (Nat.lt_of_lt_of_le lt1529 g1530)
  have gz1546 : n0 ≤ sa2 := Nat.le_trans gn1520 g1530
  have ne1547 : a1391 ≠ aa2 := Nat.ne_of_lt (Nat.lt_of_lt_of_le lt1521 g1531)
  have ne1548 : aa1 ≠ aa2 := Nat.ne_of_lt (Nat.lt_of_lt_of_le lt1522 g1531)
  have ne1549 : b1499 ≠ aa2 := Nat.ne_of_lt (Nat.lt_of_lt_of_le lt1523 g1531)
  have ne1550 : sa1 ≠ aa2 := Nat.ne_of_lt (Nat.lt_of_lt_of_le lt1524 g1531)
  have ne1551 : sb ≠ aa2 := Nat.ne_of_lt (Nat.lt_of_lt_of_le lt1525 g1531)
  have ne1552 : tb1 ≠ aa2 := Nat.ne_of_lt (Nat.lt_of_lt_of_le lt1526 g1531)
  have ne1553 : tb2 ≠ aa2 := Nat.ne_of_lt (Nat.lt_of_lt_of_le lt1527 g1531)
  have ne1554 : ts1 ≠ aa2 := Nat.ne_of_lt (Nat.lt_of_lt_of_le lt1528 g1531)
  have ne1555 : ts2 ≠ aa2 := Nat.ne_of_lt (Nat.lt_of_lt_of_le lt1529 g1531)
  have gz1556 : n0 ≤ aa2 := Nat.le_trans gn1520 g1531
  show Go _ _ _ _ _ _ _ _ _ _ _ _ _ _ _ _ _ _ _ _ 21 41093 110 #[.val (.int p1), .val (.int p2), .val (.int p3), .val (.int p4), .val (.int (iN k1)), .val (.int (iN k2)), .val (.int c0), .val (.int c1), .val (.int c2), .val (.int d0), .val (.int d1), .val (.int d2), .val (.ref ts1), .val (.ref ts2), .val (.ref a1391), .val (.ref a1391), .val (.ref sa1), .val (.ref a1391), .unset] [(.ref sa2)]
  refine Go.astore (q := 112) (l' := #[.val (.int p1), .val (.int p2), .val (.int p3), .val (.int p4), .val (.int (iN k1)), .val (.int (iN k2)), .val (.int c0), .val (.int c1), .val (.int c2), .val (.int d0), .val (.int d1), .val (.int d2), .val (.ref ts1), .val (.ref ts2), .val (.ref a1391), .val (.ref a1391), .val (.ref sa1), .val (.ref a1391), .val (.ref sa2)]) hx (hb hby at_110) (by rfl) rfl rfl ?_
  refine Go.aload (q := 114) hx (hb hby at_112) rfl (by rfl) rfl ?_
  refine Go.aload (q := 116) hx (hb hby at_114) rfl (by rfl) rfl ?_
  refine Go.acmp_ne (q := 119) (t := 212) hx (by rfl) (by rfl) (hb hby at_116) (by decide) rfl rfl (fun hc116 => absurd rfl hc116) (fun hc116 => ?_)
  refine Go.aload (q := 121) hx (hb hby at_119) rfl (by rfl) rfl ?_
  refine Go.aload (q := 123) hx (hb hby at_121) rfl (by rfl) rfl ?_
  refine Go.acmp_ne (q := 126) (t := 212) hx (by rfl) (by rfl) (hb hby at_123) (by decide) rfl rfl (fun hc123 => absurd rfl hc123) (fun hc123 => ?_)
  refine Go.aload (q := 128) hx (hb hby at_126) rfl (by rfl) rfl ?_
  refine Go.callV (q := 131) hx hZ (a := sa1) (argsL := []) (rest := []) hown (tw hw 163 rfl) (tw hw 58 rfl) (fun vm hzv => notFace_of_selects (args := #[]) (mvT hzv (tw hw 60 rfl))) (tw hw 60 rfl) (tw hw 59 rfl) (tw hw 5 rfl) (tw hw 61 rfl) (by decide) ((E1465.keep K1498).keep K1532) (rmLe l Z a0 hw hel sa1 aa1 ka1 cst (mx (mx 0 0) cd1) ((([] ++ [(60 : Int32), (47 : Int32)]) ++ (List.take k1 [c0, c1, c2])) ++ [(62 : Int32)]) h1518 n0 (Nat.le_trans (Nat.le_trans (Nat.le_trans (Nat.le_trans (Nat.le_trans (Nat.le_trans (Nat.le_trans (Nat.le_trans Z0 K1374.1) K1385.1) E1393.1) K1410.1) K1434.1) K1464.1) K1498.1) K1532.1) ⟨((E1465.keep K1498).keep K1532), ((F1466.keep K1498 (ninS ne1471.symm (ninS ne1470.symm nin0))).keep K1532 nin0), ((F1467.keep K1498 (ninS ne1471.symm (ninS ne1470.symm nin0))).keep K1532 nin0), ((V1468.keep K1498 (ninS ne1479.symm (ninS ne1478.symm nin0))).keep K1532 nin0)⟩ okS1 (by rw [eS1]; omega) ((((((((X0.keep K1374 all0).keep K1385 all0).ext E1393).keep K1410 (allS gz1400 all0)).keep K1434 (allS gz1416 (allS gz1422 all0))).keep K1464 all0).keep K1498 (allS gz1416 (allS gz1450 all0))).keep K1532 all0) SC hcs) (fun _ hx => nomatch hx) (by rw [hml]; rfl) pd_16 rfl rfl (hb hby at_128) rfl (by decide) (ble rfl) (ce' := 21) (sl' := 41093) rfl rfl (by decide) (by decide) (fun v1557 h1558 hQ1559 => ?_)
  obtain ⟨rfl, rfl⟩ := hQ1559
  show Go _ _ _ _ _ _ _ _ _ _ _ _ _ _ _ _ _ _ _ _ 21 41093 131 #[.val (.int p1), .val (.int p2), .val (.int p3), .val (.int p4), .val (.int (iN k1)), .val (.int (iN k2)), .val (.int c0), .val (.int c1), .val (.int c2), .val (.int d0), .val (.int d1), .val (.int d2), .val (.ref ts1), .val (.ref ts2), .val (.ref a1391), .val (.ref a1391), .val (.ref sa1), .val (.ref a1391), .val (.ref sa2)] [(.int (iN ((([] ++ [(60 : Int32), (47 : Int32)]) ++ (List.take k1 [c0, c1, c2])) ++ [(62 : Int32)]).length))]
  refine Go.iload (q := 133) hx (hb hby at_131) rfl rfl ?_
  refine Go.iconst (q := 134) (z := (3 : Int32)) hx (hb hby at_133) rfl rfl ?_
  refine Go.iadd (q := 135) hx (hb hby at_134) rfl ?_
  refine Go.icmp_ne (q := 138) (t := 212) hx (hb hby at_135) (by decide) rfl rfl (fun hc135 => absurd (by rw [eS1]; exact (iN_a k1 3).symm) hc135) (fun hc135 => ?_)
  refine Go.aload (q := 140) hx (hb hby at_138) rfl (by rfl) rfl ?_
  refine Go.iconst (q := 141) (z := (0 : Int32)) hx (hb hby at_140) rfl rfl ?_
  refine Go.iload (q := 143) hx (hb hby at_141) rfl rfl ?_
  refine Go.iload (q := 145) hx (hb hby at_143) rfl rfl ?_
  refine Go.iload (q := 147) hx (hb hby at_145) rfl rfl ?_
  refine Go.iload (q := 149) hx (hb hby at_147) rfl rfl ?_
  refine Go.callS (q := 152) hx hZ (argsL := [(.ref sa1), (.int (0 : Int32)), (.int (iN k1)), (.int c0), (.int c1), (.int c2)]) (rest := []) hown (tw hw 164 rfl) (tw hw 165 rfl) (tw hw 2 rfl) (tw hw 166 rfl) (by decide) (rmCl l Z a0 hw hel sa1 aa1 ka1 cst fv (mx (mx 0 0) cd1) ((([] ++ [(60 : Int32), (47 : Int32)]) ++ (List.take k1 [c0, c1, c2])) ++ [(62 : Int32)]) [] [] k1 (0 : Int32) c0 c1 c2 h1518 n0 (Nat.le_trans (Nat.le_trans (Nat.le_trans (Nat.le_trans (Nat.le_trans (Nat.le_trans (Nat.le_trans (Nat.le_trans Z0 K1374.1) K1385.1) E1393.1) K1410.1) K1434.1) K1464.1) K1498.1) K1532.1) ⟨((E1465.keep K1498).keep K1532), ((F1466.keep K1498 (ninS ne1471.symm (ninS ne1470.symm nin0))).keep K1532 nin0), ((F1467.keep K1498 (ninS ne1471.symm (ninS ne1470.symm nin0))).keep K1532 nin0), ((V1468.keep K1498 (ninS ne1479.symm (ninS ne1478.symm nin0))).keep K1532 nin0)⟩ okS1 (by rw [eS1]; omega) hk1 (by simp only [List.append_assoc, List.nil_append, List.append_nil]) rfl ((((((((X0.keep K1374 all0).keep K1385 all0).ext E1393).keep K1410 (allS gz1400 all0)).keep K1434 (allS gz1416 (allS gz1422 all0))).keep K1464 all0).keep K1498 (allS gz1416 (allS gz1450 all0))).keep K1532 all0) SC hcs AD HB LB PF hfv) (fun _ hx => nomatch hx) (by rw [hml]; rfl) pd_40 rfl rfl (hb hby at_149) rfl (by decide) (ble rfl) (ce' := 21) (sl' := 41093) rfl rfl (by decide) (by decide) (fun v1560 h1561 hQ1562 => ?_)
  obtain ⟨rfl, rfl⟩ := hQ1562
  show Go _ _ _ _ _ _ _ _ _ _ _ _ _ _ _ _ _ _ _ _ 21 41093 152 #[.val (.int p1), .val (.int p2), .val (.int p3), .val (.int p4), .val (.int (iN k1)), .val (.int (iN k2)), .val (.int c0), .val (.int c1), .val (.int c2), .val (.int d0), .val (.int d1), .val (.int d2), .val (.ref ts1), .val (.ref ts2), .val (.ref a1391), .val (.ref a1391), .val (.ref sa1), .val (.ref a1391), .val (.ref sa2)] [(.int (1 : Int32))]
  refine Go.if_eq (q := 155) (t := 212) hx (hb hby at_152) (by decide) rfl rfl (fun hc152 => absurd hc152 (by decide)) (fun hc152 => ?_)
  refine Go.aload (q := 157) hx (hb hby at_155) rfl (by rfl) rfl ?_
  refine Go.callV (q := 160) hx hZ (a := sa2) (argsL := []) (rest := []) hown (tw hw 163 rfl) (tw hw 58 rfl) (fun vm hzv => notFace_of_selects (args := #[]) (mvT hzv (tw hw 60 rfl))) (tw hw 60 rfl) (tw hw 59 rfl) (tw hw 5 rfl) (tw hw 61 rfl) (by decide) E1533 (rmLe l Z a0 hw hel sa2 aa2 ka2 cst (mx (mx (mx (mx 0 0) cd1) 0) cd2) (((((([] ++ [(60 : Int32), (47 : Int32)]) ++ (List.take k1 [c0, c1, c2])) ++ [(62 : Int32)]) ++ [(60 : Int32), (47 : Int32)]) ++ (List.take k2 [d0, d1, d2])) ++ [(62 : Int32)]) h1518 n0 (Nat.le_trans (Nat.le_trans (Nat.le_trans (Nat.le_trans (Nat.le_trans (Nat.le_trans (Nat.le_trans (Nat.le_trans Z0 K1374.1) K1385.1) E1393.1) K1410.1) K1434.1) K1464.1) K1498.1) K1532.1) ⟨E1533, F1534, F1535, V1536⟩ okS2 (by rw [eS2]; omega) ((((((((X0.keep K1374 all0).keep K1385 all0).ext E1393).keep K1410 (allS gz1400 all0)).keep K1434 (allS gz1416 (allS gz1422 all0))).keep K1464 all0).keep K1498 (allS gz1416 (allS gz1450 all0))).keep K1532 all0) SC hcs) (fun _ hx => nomatch hx) (by rw [hml]; rfl) pd_16 rfl rfl (hb hby at_157) rfl (by decide) (ble rfl) (ce' := 21) (sl' := 41093) rfl rfl (by decide) (by decide) (fun v1563 h1564 hQ1565 => ?_)
  obtain ⟨rfl, rfl⟩ := hQ1565
  show Go _ _ _ _ _ _ _ _ _ _ _ _ _ _ _ _ _ _ _ _ 21 41093 160 #[.val (.int p1), .val (.int p2), .val (.int p3), .val (.int p4), .val (.int (iN k1)), .val (.int (iN k2)), .val (.int c0), .val (.int c1), .val (.int c2), .val (.int d0), .val (.int d1), .val (.int d2), .val (.ref ts1), .val (.ref ts2), .val (.ref a1391), .val (.ref a1391), .val (.ref sa1), .val (.ref a1391), .val (.ref sa2)] [(.int (iN (((((([] ++ [(60 : Int32), (47 : Int32)]) ++ (List.take k1 [c0, c1, c2])) ++ [(62 : Int32)]) ++ [(60 : Int32), (47 : Int32)]) ++ (List.take k2 [d0, d1, d2])) ++ [(62 : Int32)]).length))]
  refine Go.iload (q := 162) hx (hb hby at_160) rfl rfl ?_
  refine Go.iload (q := 164) hx (hb hby at_162) rfl rfl ?_
  refine Go.iadd (q := 165) hx (hb hby at_164) rfl ?_
  refine Go.bipush (q := 167) (z := (6 : Int32)) hx (hb hby at_165) rfl rfl ?_
  refine Go.iadd (q := 168) hx (hb hby at_167) rfl ?_
  refine Go.icmp_ne (q := 171) (t := 212) hx (hb hby at_168) (by decide) rfl rfl (fun hc168 => absurd (by rw [eS2, iN_a k1 k2]; exact (iN_a (k1 + k2) 6).symm) hc168) (fun hc168 => ?_)
  refine Go.aload (q := 173) hx (hb hby at_171) rfl (by rfl) rfl ?_
  refine Go.iconst (q := 174) (z := (0 : Int32)) hx (hb hby at_173) rfl rfl ?_
  refine Go.iload (q := 176) hx (hb hby at_174) rfl rfl ?_
  refine Go.iload (q := 178) hx (hb hby at_176) rfl rfl ?_
  refine Go.iload (q := 180) hx (hb hby at_178) rfl rfl ?_
  refine Go.iload (q := 182) hx (hb hby at_180) rfl rfl ?_
  refine Go.callS (q := 185) hx hZ (argsL := [(.ref sa2), (.int (0 : Int32)), (.int (iN k1)), (.int c0), (.int c1), (.int c2)]) (rest := []) hown (tw hw 164 rfl) (tw hw 165 rfl) (tw hw 2 rfl) (tw hw 166 rfl) (by decide) (rmCl l Z a0 hw hel sa2 aa2 ka2 cst fv (mx (mx (mx (mx 0 0) cd1) 0) cd2) (((((([] ++ [(60 : Int32), (47 : Int32)]) ++ (List.take k1 [c0, c1, c2])) ++ [(62 : Int32)]) ++ [(60 : Int32), (47 : Int32)]) ++ (List.take k2 [d0, d1, d2])) ++ [(62 : Int32)]) [] (([(60 : Int32), (47 : Int32)] ++ (List.take k2 [d0, d1, d2])) ++ [(62 : Int32)]) k1 (0 : Int32) c0 c1 c2 h1518 n0 (Nat.le_trans (Nat.le_trans (Nat.le_trans (Nat.le_trans (Nat.le_trans (Nat.le_trans (Nat.le_trans (Nat.le_trans Z0 K1374.1) K1385.1) E1393.1) K1410.1) K1434.1) K1464.1) K1498.1) K1532.1) ⟨E1533, F1534, F1535, V1536⟩ okS2 (by rw [eS2]; omega) hk1 (by simp only [List.append_assoc, List.nil_append, List.append_nil]) rfl ((((((((X0.keep K1374 all0).keep K1385 all0).ext E1393).keep K1410 (allS gz1400 all0)).keep K1434 (allS gz1416 (allS gz1422 all0))).keep K1464 all0).keep K1498 (allS gz1416 (allS gz1450 all0))).keep K1532 all0) SC hcs AD HB LB PF hfv) (fun _ hx => nomatch hx) (by rw [hml]; rfl) pd_40 rfl rfl (hb hby at_182) rfl (by decide) (ble rfl) (ce' := 21) (sl' := 41093) rfl rfl (by decide) (by decide) (fun v1566 h1567 hQ1568 => ?_)
  obtain ⟨rfl, rfl⟩ := hQ1568
  show Go _ _ _ _ _ _ _ _ _ _ _ _ _ _ _ _ _ _ _ _ 21 41093 185 #[.val (.int p1), .val (.int p2), .val (.int p3), .val (.int p4), .val (.int (iN k1)), .val (.int (iN k2)), .val (.int c0), .val (.int c1), .val (.int c2), .val (.int d0), .val (.int d1), .val (.int d2), .val (.ref ts1), .val (.ref ts2), .val (.ref a1391), .val (.ref a1391), .val (.ref sa1), .val (.ref a1391), .val (.ref sa2)] [(.int (1 : Int32))]
  refine Go.if_eq (q := 188) (t := 212) hx (hb hby at_185) (by decide) rfl rfl (fun hc185 => absurd hc185 (by decide)) (fun hc185 => ?_)
  refine Go.aload (q := 190) hx (hb hby at_188) rfl (by rfl) rfl ?_
  refine Go.iload (q := 192) hx (hb hby at_190) rfl rfl ?_
  refine Go.iconst (q := 193) (z := (3 : Int32)) hx (hb hby at_192) rfl rfl ?_
  refine Go.iadd (q := 194) hx (hb hby at_193) rfl ?_
  refine Go.iload (q := 196) hx (hb hby at_194) rfl rfl ?_
  refine Go.iload (q := 198) hx (hb hby at_196) rfl rfl ?_
  refine Go.iload (q := 200) hx (hb hby at_198) rfl rfl ?_
  refine Go.iload (q := 202) hx (hb hby at_200) rfl rfl ?_
  refine Go.callS (q := 205) hx hZ (argsL := [(.ref sa2), (.int ((iN k1) + (3 : Int32))), (.int (iN k2)), (.int d0), (.int d1), (.int d2)]) (rest := []) hown (tw hw 164 rfl) (tw hw 165 rfl) (tw hw 2 rfl) (tw hw 166 rfl) (by decide) (rmCl l Z a0 hw hel sa2 aa2 ka2 cst fv (mx (mx (mx (mx 0 0) cd1) 0) cd2) (((((([] ++ [(60 : Int32), (47 : Int32)]) ++ (List.take k1 [c0, c1, c2])) ++ [(62 : Int32)]) ++ [(60 : Int32), (47 : Int32)]) ++ (List.take k2 [d0, d1, d2])) ++ [(62 : Int32)]) ((([] ++ [(60 : Int32), (47 : Int32)]) ++ (List.take k1 [c0, c1, c2])) ++ [(62 : Int32)]) [] k2 ((iN k1) + (3 : Int32)) d0 d1 d2 h1518 n0 (Nat.le_trans (Nat.le_trans (Nat.le_trans (Nat.le_trans (Nat.le_trans (Nat.le_trans (Nat.le_trans (Nat.le_trans Z0 K1374.1) K1385.1) E1393.1) K1410.1) K1434.1) K1464.1) K1498.1) K1532.1) ⟨E1533, F1534, F1535, V1536⟩ okS2 (by rw [eS2]; omega) hk2 (by simp only [List.append_assoc, List.nil_append, List.append_nil]) (by rw [eS1]; exact iN_a k1 3) ((((((((X0.keep K1374 all0).keep K1385 all0).ext E1393).keep K1410 (allS gz1400 all0)).keep K1434 (allS gz1416 (allS gz1422 all0))).keep K1464 all0).keep K1498 (allS gz1416 (allS gz1450 all0))).keep K1532 all0) SC hcs AD HB LB PF hfv) (fun _ hx => nomatch hx) (by rw [hml]; rfl) pd_40 rfl rfl (hb hby at_202) rfl (by decide) (ble rfl) (ce' := 21) (sl' := 41093) rfl rfl (by decide) (by decide) (fun v1569 h1570 hQ1571 => ?_)
  obtain ⟨rfl, rfl⟩ := hQ1571
  show Go _ _ _ _ _ _ _ _ _ _ _ _ _ _ _ _ _ _ _ _ 21 41093 205 #[.val (.int p1), .val (.int p2), .val (.int p3), .val (.int p4), .val (.int (iN k1)), .val (.int (iN k2)), .val (.int c0), .val (.int c1), .val (.int c2), .val (.int d0), .val (.int d1), .val (.int d2), .val (.ref ts1), .val (.ref ts2), .val (.ref a1391), .val (.ref a1391), .val (.ref sa1), .val (.ref a1391), .val (.ref sa2)] [(.int (1 : Int32))]
  refine Go.if_eq (q := 208) (t := 212) hx (hb hby at_205) (by decide) rfl rfl (fun hc205 => absurd hc205 (by decide)) (fun hc205 => ?_)
  refine Go.iconst (q := 209) (z := (1 : Int32)) hx (hb hby at_208) rfl rfl ?_
  refine Go.goto (q := 213) hx (hb hby at_209) (by decide) rfl ?_
  refine Go.retN hx (t := .boolean) hret (by simp) hlk (hb hby at_213) (by decide) (by decide) ?_
  rfl
theorem comes_1 {Post : Tables → Env → Array Value → State → Outcome → State → Prop} (hpost : ∀ tb e args s v u, (limb_1_1.after args s (.returned v) u = true ∧ limb_1_2.after args s (.returned v) u = true ∧ True) → ReturnedEndW s (.returned v) u (Jvm.fieldLocs frame_1_writes args s ++ Jvm.arrayLocs frame_1_arrays args s ++ Jvm.staticLocs frame_1_statics s) 48 51456 → Post tb e args s (.returned v) u) :
    ArmFor flags0 classFile x code maxLocals ret World_1 tables_1 room_1 Calls_1 rest_1 Pre_1 Post := by
  intro l hfl _ _ p e ha hc hk s m args below hf hA hF happ hP
  obtain ⟨hcalls, hrest, hpre⟩ := hP
  obtain ⟨-, -, -, hnamed, -, -, -, hat⟩ := (Spec.applies_iff hf).mp happ
  obtain ⟨hg, hn⟩ := and_e (Cond.before_iff.mp (show (Jvm.Cond.and given_1 narrow_1).before args s = true from hpre))
  obtain ⟨hcnt, hk0⟩ := and_e hg
  obtain ⟨ha0, hk1⟩ := and_e hk0
  obtain ⟨ha1, hk2⟩ := and_e hk1
  obtain ⟨ha2, hk3⟩ := and_e hk2
  obtain ⟨w0, w1, w2, w3, rfl⟩ : ∃ w0 w1 w2 w3 : Value, args = #[w0, w1, w2, w3] := by
    have hs : args.size = 4 := by simpa [Cond.value, given_1] using hcnt
    obtain ⟨L⟩ := args
    match L, hs with
    | [w0, w1, w2, w3], _ => exact ⟨w0, w1, w2, w3, rfl⟩
  have hw := fun d (hd : d ∈ tables_1) => atoms_spec (ws := Jvm.Cond.code x code maxLocals ret :: tables_1) hat d (List.mem_cons_of_mem _ hd)
  obtain ⟨hsets, hown0⟩ := atoms_of _ (rest_1_c_eq ▸ (show rest_1_c.before _ s = true from hrest))
  have hfit : Fit s := fun {y c} hc i hi => by
    obtain ⟨ha, rfl⟩ := Array.getElem?_eq_some_iff.mp hc
    have q := List.all_eq_true.mp ((Array.all_eq_true_iff_forall_mem.mp hF) _ (Array.getElem_mem ha)) i (List.mem_range.mpr hi)
    simpa [Array.getElem?_eq_getElem hi] using q
  obtain ⟨i0, ei0⟩ := is_v ha0
  obtain rfl : w0 = (.int i0) := Option.some.inj ei0
  obtain ⟨i1, ei1⟩ := is_v ha1
  obtain rfl : w1 = (.int i1) := Option.some.inj ei1
  obtain ⟨i2, ei2⟩ := is_v ha2
  obtain rfl : w2 = (.int i2) := Option.some.inj ei2
  obtain ⟨i3, ei3⟩ := is_v hk3
  obtain rfl : w3 = (.int i3) := Option.some.inj ei3
  have hel : EW s _ consts_1 := EW.cons (tw hw 46 rfl) (by decide) (EW.cons (tw hw 4 rfl) (by decide) EW.nil)
  have hCH : CHv s consts_1 s.vm s.heap := CHv.start hel hcalls.1 (hsets _ (List.mem_of_getElem? (i := 2) rfl)) (tw hw 7 rfl) (tw hw 6 rfl)
  have n5 := not_v (Cond.before_iff.mp (hsets _ (List.mem_of_getElem? (i := 2) rfl)))
  obtain ⟨cst, e6⟩ := is_v (Cond.before_iff.mp (hsets _ (List.mem_of_getElem? (i := 1) rfl)))
  have SC : Sta s s.heap "java/lang/String" "COMPACT_STRINGS" "Z" (.int cst) := Sta.start e6 (Or.inl (hsets _ (List.mem_of_getElem? (i := 0) rfl)))
  have hcs : ¬ (cst = (0 : Int32)) := gotF (Cond.eq_ints e6 (Term.int_eval (0))) n5
  have AD := Sta.start (eqv_i (Term.int_eval (1 : Int32)) (Cond.before_iff.mp (hsets _ (List.mem_of_getElem? (i := 12) rfl)))) (Or.inl (hsets _ (List.mem_of_getElem? (i := 11) rfl)))
  have HB := Sta.start (eqv_i (Term.int_eval (0 : Int32)) (Cond.before_iff.mp (hsets _ (List.mem_of_getElem? (i := 15) rfl)))) (Or.inl (hsets _ (List.mem_of_getElem? (i := 14) rfl)))
  have LB := Sta.start (eqv_i (Term.int_eval (8 : Int32)) (Cond.before_iff.mp (hsets _ (List.mem_of_getElem? (i := 18) rfl)))) (Or.inl (hsets _ (List.mem_of_getElem? (i := 17) rfl)))
  obtain ⟨fv, ef, hfv⟩ := isR_v (Cond.before_iff.mp (hsets _ (List.mem_of_getElem? (i := 8) rfl)))
  have PF := Sta.start ef (Or.inl (hsets _ (List.mem_of_getElem? (i := 7) rfl)))
  obtain ⟨n, o, h1, h2, h3, _, L, rfl, ⟨rfl, N⟩, -, hq⟩ := rm0 l s _ hw hel i0 i1 i2 i3 cst fv s.heap s.heap.size (Nat.le_refl _) (Old.start s) SC hcs AD HB LB PF hfv p e ha hc hk s m _ below hf ((Spec.applies_iff_loose hf).mp happ).1 ⟨rfl, State.Warmed39.refl s, rfl, hCH, fun _ hx => nomatch hx⟩ trivial
  refine ⟨n, _, h1, h2, h3, hpost _ _ _ _ _ _ ⟨Cond.after_iff.mpr rfl, Cond.after_iff.mpr (eq_i res_at (Term.int_eval (1)) rfl), trivial⟩ ⟨hq.1, hq.2.1, hq.2.2.1, (hq.2.2.2.sift fun y hy => Or.inr (N y hy)).mono (by decide) (by decide)⟩⟩
theorem main_1_1 : Claimed_1_1 := comes_1 fun _ _ _ _ _ _ h hF => ⟨h.1, hF⟩
theorem main_1_2 : Claimed_1_2 := comes_1 fun _ _ _ _ _ _ h hF => ⟨h.2.1, hF⟩
end Jvm.Pilot.@@N@@
namespace Jvm.Pilot.@@N@@
open Jvm Jvm.ClassFile Sem Op Lib Jvm.Free Jvm.Stand Jvm.Pilot.@@N@@.Jvm.D
/-! MADE BY PROGRAM (witnessworld.py) out of the Statement's table words and the real class files: 26 classes; the members and pool entries that the words name. The judged class is class 1, her method 1. -/
namespace start1
open Jvm.ClassFile
def u (s : String) : CpInfo := .utf8 (stringToUtf16 s)
/-- a pool by its gaps: so many unusable entries, then the entry; so many at the end -/
def gap : Nat → List CpInfo → List CpInfo
  | 0, r => r
  | n + 1, r => .unusable :: gap n r
def poolList (es : List (Nat × CpInfo)) (last : Nat) : List CpInfo := es.foldr (fun e r => gap e.1 (e.2 :: r)) (gap last [])
def pool (es : List (Nat × CpInfo)) (last : Nat) : Array CpInfo := ⟨poolList es last⟩
def fileOf (pool : Array CpInfo) (this : Nat) (attrs : Array Attribute := #[]) (ms : Array MethodInfo := #[]) (fl : Nat := 33) (sup : Nat := 0) (ifs : Array Nat := #[]) (fds : Array FieldInfo := #[]) : ClassFile where
  minorVersion := 0
  majorVersion := 65
  constantPool := pool
  accessFlags := fl
  thisClass := this
  superClass := sup
  interfaces := ifs
  fields := fds
  methods := ms
  attributes := attrs
def plain (name : String) (sup : Option ClassId) : Class where
  name := name
  kind := .ordinary
  loader := none
  accessFlags := 33
  super := sup
  interfaces := #[]
  cf := none
  fields := #[]
  methods := #[]
  instanceTypes := #[]
  staticTypes := #[]
  resolved := #[]
  callSites := []
  init := .initialized
  statics := none
  mirror := none

def pool0 : Array CpInfo := pool [(5, u "<init>"), (0, u "()V"), (1, .class_ 10), (1, u "java/lang/Object")] 113

def k0c0 : Code := { maxStack := 0, maxLocals := 1, code := object_method_1_code, exceptionTable := #[], attributes := #[] }
def k0m0 : Method := { name := "<init>", desc := "()V", sig := { parameters := [], returnType := none }, accessFlags := 1, code := some k0c0 }
/-- java/lang/Object -/
def k0 : Class := { plain "java/lang/Object" none with
  accessFlags := 33
  interfaces := #[]
  cf := some (fileOf pool0 8 #[] #[{ accessFlags := 1, nameIndex := 5, descriptorIndex := 6, attributes := #[] }] 33 0 #[] #[])
  fields := #[]
  methods := #[k0m0]
  instanceTypes := #[]
  staticTypes := #[]
  resolved := Array.replicate 124 none
  statics := none }

def pool1 : Array CpInfo := pool [(2, .class_ 4), (0, .nameAndType 5 6), (0, u "java/lang/Object"), (0, u "<init>"), (0, u "()V"), (0, .methodref 8 9), (0, .class_ 10), (0, .nameAndType 11 12), (0, u "com/example/clear_recall/clearrecall/web/HtmlClosePinLaw"), (0, u "tag"), (0, u "(ICCC)Ljava/lang/String;"), (0, .class_ 14), (0, u "com/example/clear_recall/clearrecall/web/Html"), (0, .methodref 13 3), (0, .methodref 13 17), (0, .nameAndType 18 19), (0, u "close"), (0, u "(Ljava/lang/String;)Lcom/example/clear_recall/clearrecall/web/Html;"), (0, .methodref 13 21), (0, .nameAndType 22 23), (0, u "toString"), (0, u "()Ljava/lang/String;"), (0, .methodref 25 26), (0, .class_ 27), (0, .nameAndType 28 29), (0, u "java/lang/String"), (0, u "length"), (0, u "()I"), (0, .methodref 8 31), (0, .nameAndType 32 33), (0, u "closing"), (0, u "(Ljava/lang/String;IICCC)Z"), (0, .string 35), (0, u ""), (0, .methodref 25 37), (0, .nameAndType 5 38), (0, u "([C)V"), (0, .methodref 25 40), (0, .nameAndType 41 42), (0, u "charAt"), (0, u "(I)C"), (2, u "law"), (0, u "(IIII)Z")] 3

def k1m0 : Method := { name := "<init>", desc := "()V", sig := { parameters := [], returnType := none }, accessFlags := 1, code := none }
def k1c1 : Code := { maxStack := 6, maxLocals := 19, code := code, exceptionTable := #[], attributes := #[] }
def k1m1 : Method := { name := "law", desc := "(IIII)Z", sig := { parameters := [.int, .int, .int, .int], returnType := some .boolean }, accessFlags := 9, code := some k1c1 }
def k1c2 : Code := { maxStack := 6, maxLocals := 4, code := method_3_code, exceptionTable := #[], attributes := #[] }
def k1m2 : Method := { name := "tag", desc := "(ICCC)Ljava/lang/String;", sig := { parameters := [.int, .char, .char, .char], returnType := some (.object "java/lang/String") }, accessFlags := 10, code := some k1c2 }
def k1c3 : Code := { maxStack := 3, maxLocals := 6, code := method_4_code, exceptionTable := #[], attributes := #[] }
def k1m3 : Method := { name := "closing", desc := "(Ljava/lang/String;IICCC)Z", sig := { parameters := [(.object "java/lang/String"), .int, .int, .char, .char, .char], returnType := some .boolean }, accessFlags := 10, code := some k1c3 }
/-- com/example/clear_recall/clearrecall/web/HtmlClosePinLaw -/
def k1 : Class := { plain "com/example/clear_recall/clearrecall/web/HtmlClosePinLaw" (some 0) with
  accessFlags := 49
  interfaces := #[]
  cf := some (fileOf pool1 8 #[] #[{ accessFlags := 1, nameIndex := 5, descriptorIndex := 6, attributes := #[] }, { accessFlags := 9, nameIndex := 45, descriptorIndex := 46, attributes := #[] }, { accessFlags := 10, nameIndex := 11, descriptorIndex := 12, attributes := #[] }, { accessFlags := 10, nameIndex := 32, descriptorIndex := 33, attributes := #[] }] 49 2 #[] #[])
  fields := #[]
  methods := #[k1m0, k1m1, k1m2, k1m3]
  instanceTypes := #[]
  staticTypes := #[]
  resolved := Array.replicate 50 none
  statics := none }

def pool2 : Array CpInfo := pool [(1, .class_ 2), (0, u "java/io/Serializable"), (0, .class_ 4), (0, u "java/lang/Object")] 2

/-- java/io/Serializable -/
def k2 : Class := { plain "java/io/Serializable" (some 0) with
  accessFlags := 1537
  interfaces := #[]
  cf := some (fileOf pool2 1 #[] #[] 1537 3 #[] #[])
  fields := #[]
  methods := #[]
  instanceTypes := #[]
  staticTypes := #[]
  resolved := Array.replicate 7 none
  statics := none }

def pool3 : Array CpInfo := pool [(1, .class_ 2), (0, u "java/lang/Comparable"), (0, .class_ 4), (0, u "java/lang/Object")] 7

/-- java/lang/Comparable -/
def k3 : Class := { plain "java/lang/Comparable" (some 0) with
  accessFlags := 1537
  interfaces := #[]
  cf := some (fileOf pool3 1 #[] #[] 1537 3 #[] #[])
  fields := #[]
  methods := #[]
  instanceTypes := #[]
  staticTypes := #[]
  resolved := Array.replicate 12 none
  statics := none }

def pool4 : Array CpInfo := pool [(2, .class_ 4), (1, u "java/lang/CharSequence"), (42, .class_ 48), (0, u "java/lang/CharSequence$1CodePointIterator"), (10, .class_ 60), (0, u "java/lang/CharSequence$1CharIterator"), (5, .class_ 67), (0, u "java/lang/Object")] 63

/-- java/lang/CharSequence -/
def k4 : Class := { plain "java/lang/CharSequence" (some 0) with
  accessFlags := 1537
  interfaces := #[]
  cf := some (fileOf pool4 2 #[.nestMembers #[47, 59]] #[] 1537 66 #[] #[])
  fields := #[]
  methods := #[]
  instanceTypes := #[]
  staticTypes := #[]
  resolved := Array.replicate 131 none
  statics := none }

def pool5 : Array CpInfo := pool [(1, .class_ 2), (0, u "java/lang/constant/Constable"), (0, .class_ 4), (0, u "java/lang/Object")] 6

/-- java/lang/constant/Constable -/
def k5 : Class := { plain "java/lang/constant/Constable" (some 0) with
  accessFlags := 1537
  interfaces := #[]
  cf := some (fileOf pool5 1 #[] #[] 1537 3 #[] #[])
  fields := #[]
  methods := #[]
  instanceTypes := #[]
  staticTypes := #[]
  resolved := Array.replicate 11 none
  statics := none }

def pool6 : Array CpInfo := pool [(1, .class_ 2), (0, u "java/lang/constant/ConstantDesc"), (0, .class_ 4), (0, u "java/lang/Object")] 32

/-- java/lang/constant/ConstantDesc -/
def k6 : Class := { plain "java/lang/constant/ConstantDesc" (some 0) with
  accessFlags := 1537
  interfaces := #[]
  cf := some (fileOf pool6 1 #[] #[] 1537 3 #[] #[])
  fields := #[]
  methods := #[]
  instanceTypes := #[]
  staticTypes := #[]
  resolved := Array.replicate 37 none
  statics := none }

def pool7 : Array CpInfo := pool [(1, .methodref 2 3), (0, .class_ 4), (0, .nameAndType 5 6), (0, u "java/lang/Object"), (0, u "<init>"), (0, u "()V"), (2, .fieldref 10 11), (0, .class_ 12), (0, .nameAndType 13 14), (0, u "java/lang/String"), (0, u "value"), (0, u "[B"), (0, .fieldref 10 16), (0, .nameAndType 17 18), (0, u "coder"), (0, u "B"), (2, u "hash"), (0, u "I"), (2, u "hashIsZero"), (0, u "Z"), (0, .methodref 10 28), (0, .nameAndType 5 29), (0, u "([CIILjava/lang/Void;)V"), (6, u "checkBoundsOffCount"), (0, u "(III)I"), (0, .fieldref 10 39), (0, .nameAndType 40 26), (0, u "COMPACT_STRINGS"), (1, .class_ 44), (1, u "java/lang/StringUTF16"), (0, u "compress"), (1, .methodref 42 48), (0, .nameAndType 49 50), (0, u "coderFromArrayLen"), (0, u "([BI)B"), (3, .methodref 55 56), (0, .class_ 57), (0, .nameAndType 58 59), (0, u "java/util/Arrays"), (0, u "copyOfRange"), (0, u "([BII)[B"), (46, .methodref 107 108), (0, .class_ 109), (0, .nameAndType 110 111), (0, u "java/lang/StringLatin1"), (0, u "inflate"), (0, u "([BI[BII)V"), (30, u "()Z"), (34, .methodref 42 178), (0, .nameAndType 45 179), (0, u "([CII)[B"), (13, .class_ 195), (1, u "java/lang/System"), (16, .methodref 193 213), (0, .nameAndType 214 215), (0, u "arraycopy"), (0, u "(Ljava/lang/Object;ILjava/lang/Object;II)V"), (118, u "()I"), (0, .methodref 10 336), (0, .nameAndType 17 337), (0, u "()B"), (2, u "()[B"), (22, u "([BI)C"), (27, u "(II)V"), (35, u "(I)C"), (61, .methodref 10 490), (0, .nameAndType 5 491), (0, u "(Ljava/lang/AbstractStringBuilder;Ljava/lang/Void;)V"), (0, .methodref 10 493), (0, .nameAndType 494 142), (0, u "isLatin1"), (0, .methodref 107 496), (0, .nameAndType 497 363), (0, u "charAt"), (0, .methodref 42 496), (2, u "checkIndex"), (4, .nameAndType 507 334), (0, u "length"), (24, u "getBytes"), (16, .methodref 550 506), (0, .class_ 551), (0, u "java/lang/AbstractStringBuilder"), (0, .methodref 550 553), (0, .nameAndType 554 340), (0, u "getValue"), (20, .class_ 576), (0, u "java/lang/CharSequence"), (22, u "CASE_INSENSITIVE_ORDER"), (0, u "Ljava/util/Comparator;"), (220, u "([BIB)V"), (188, u "([C)V"), (36, .methodref 550 493), (0, .fieldref 550 1049), (0, .nameAndType 1050 26), (0, u "maybeLatin1"), (2, .fieldref 1054 1055), (0, .class_ 1056), (0, .nameAndType 1057 1058), (0, u "jdk/internal/util/Preconditions"), (0, u "SIOOBE_FORMATTER"), (0, u "Ljava/util/function/BiFunction;"), (0, .methodref 1054 1060), (0, .nameAndType 501 1061), (0, u "(IILjava/util/function/BiFunction;)I"), (2, u "(IIILjava/util/function/BiFunction;)I"), (0, .methodref 1054 1066), (0, .nameAndType 1067 1064), (0, u "checkFromIndexSize"), (33, u "serialPersistentFields"), (0, u "[Ljava/io/ObjectStreamField;"), (0, .class_ 1104), (0, u "java/lang/String$CaseInsensitiveComparator"), (1, .class_ 1107), (0, u "java/io/Serializable"), (0, .class_ 1109), (0, u "java/lang/Comparable"), (0, .class_ 1111), (0, u "java/lang/constant/Constable"), (0, .class_ 1113), (0, u "java/lang/constant/ConstantDesc"), (2, u "serialVersionUID"), (0, u "J"), (3, u "REPL"), (0, u "C"), (2, u "LATIN1"), (1, u "UTF16"), (105, u "(Ljava/lang/StringBuilder;)V")] 217

def k7m0 : Method := { name := "<init>", desc := "()V", sig := { parameters := [], returnType := none }, accessFlags := 1, code := none }
def k7c1 : Code := { maxStack := 5, maxLocals := 2, code := jdk_42_method_3_code, exceptionTable := #[], attributes := #[] }
def k7m1 : Method := { name := "<init>", desc := "([C)V", sig := { parameters := [(.array .char)], returnType := none }, accessFlags := 1, code := some k7c1 }
def k7c2 : Code := { maxStack := 3, maxLocals := 2, code := jdk_42_method_53_code, exceptionTable := #[], attributes := #[] }
def k7m2 : Method := { name := "<init>", desc := "(Ljava/lang/StringBuilder;)V", sig := { parameters := [(.object "java/lang/StringBuilder")], returnType := none }, accessFlags := 1, code := some k7c2 }
def k7c3 : Code := { maxStack := 2, maxLocals := 1, code := jdk_42_method_54_code, exceptionTable := #[], attributes := #[] }
def k7m3 : Method := { name := "length", desc := "()I", sig := { parameters := [], returnType := some .int }, accessFlags := 1, code := some k7c3 }
def k7c4 : Code := { maxStack := 2, maxLocals := 2, code := jdk_42_method_56_code, exceptionTable := #[], attributes := #[] }
def k7m4 : Method := { name := "charAt", desc := "(I)C", sig := { parameters := [.int], returnType := some .char }, accessFlags := 1, code := some k7c4 }
def k7c5 : Code := { maxStack := 5, maxLocals := 4, code := jdk_42_method_147_code, exceptionTable := #[], attributes := #[] }
def k7m5 : Method := { name := "getBytes", desc := "([BIB)V", sig := { parameters := [(.array .byte), .int, .byte], returnType := none }, accessFlags := 0, code := some k7c5 }
def k7c6 : Code := { maxStack := 4, maxLocals := 6, code := jdk_42_method_149_code, exceptionTable := #[], attributes := #[] }
def k7m6 : Method := { name := "<init>", desc := "([CIILjava/lang/Void;)V", sig := { parameters := [(.array .char), .int, .int, (.object "java/lang/Void")], returnType := none }, accessFlags := 2, code := some k7c6 }
def k7c7 : Code := { maxStack := 5, maxLocals := 5, code := jdk_42_method_150_code, exceptionTable := #[], attributes := #[] }
def k7m7 : Method := { name := "<init>", desc := "(Ljava/lang/AbstractStringBuilder;Ljava/lang/Void;)V", sig := { parameters := [(.object "java/lang/AbstractStringBuilder"), (.object "java/lang/Void")], returnType := none }, accessFlags := 0, code := some k7c7 }
def k7c8 : Code := { maxStack := 1, maxLocals := 1, code := jdk_42_method_152_code, exceptionTable := #[], attributes := #[] }
def k7m8 : Method := { name := "coder", desc := "()B", sig := { parameters := [], returnType := some .byte }, accessFlags := 0, code := some k7c8 }
def k7c9 : Code := { maxStack := 1, maxLocals := 1, code := jdk_42_method_154_code, exceptionTable := #[], attributes := #[] }
def k7m9 : Method := { name := "isLatin1", desc := "()Z", sig := { parameters := [], returnType := some .boolean }, accessFlags := 0, code := some k7c9 }
def k7c10 : Code := { maxStack := 3, maxLocals := 2, code := jdk_42_method_155_code, exceptionTable := #[], attributes := #[] }
def k7m10 : Method := { name := "checkIndex", desc := "(II)V", sig := { parameters := [.int, .int], returnType := none }, accessFlags := 8, code := some k7c10 }
def k7c11 : Code := { maxStack := 4, maxLocals := 3, code := jdk_42_method_157_code, exceptionTable := #[], attributes := #[] }
def k7m11 : Method := { name := "checkBoundsOffCount", desc := "(III)I", sig := { parameters := [.int, .int, .int], returnType := some .int }, accessFlags := 8, code := some k7c11 }
/-- java/lang/String -/
def k7 : Class := { plain "java/lang/String" (some 0) with
  accessFlags := 49
  interfaces := #[2, 3, 4, 5, 6]
  cf := some (fileOf pool7 10 #[.nestMembers #[1103]] #[{ accessFlags := 1, nameIndex := 5, descriptorIndex := 6, attributes := #[] }, { accessFlags := 1, nameIndex := 5, descriptorIndex := 1010, attributes := #[] }, { accessFlags := 1, nameIndex := 5, descriptorIndex := 1233, attributes := #[] }, { accessFlags := 1, nameIndex := 507, descriptorIndex := 334, attributes := #[] }, { accessFlags := 1, nameIndex := 497, descriptorIndex := 427, attributes := #[] }, { accessFlags := 0, nameIndex := 532, descriptorIndex := 821, attributes := #[] }, { accessFlags := 2, nameIndex := 5, descriptorIndex := 29, attributes := #[] }, { accessFlags := 0, nameIndex := 5, descriptorIndex := 491, attributes := #[] }, { accessFlags := 0, nameIndex := 17, descriptorIndex := 337, attributes := #[] }, { accessFlags := 0, nameIndex := 494, descriptorIndex := 142, attributes := #[] }, { accessFlags := 8, nameIndex := 501, descriptorIndex := 391, attributes := #[] }, { accessFlags := 8, nameIndex := 36, descriptorIndex := 37, attributes := #[] }] 49 2 #[1106, 1108, 575, 1110, 1112] #[{ accessFlags := 18, nameIndex := 13, descriptorIndex := 14, attributes := #[] }, { accessFlags := 18, nameIndex := 17, descriptorIndex := 18, attributes := #[] }, { accessFlags := 2, nameIndex := 21, descriptorIndex := 22, attributes := #[] }, { accessFlags := 2, nameIndex := 25, descriptorIndex := 26, attributes := #[] }, { accessFlags := 26, nameIndex := 1116, descriptorIndex := 1117, attributes := #[] }, { accessFlags := 24, nameIndex := 40, descriptorIndex := 26, attributes := #[] }, { accessFlags := 26, nameIndex := 1101, descriptorIndex := 1102, attributes := #[] }, { accessFlags := 26, nameIndex := 1121, descriptorIndex := 1122, attributes := #[] }, { accessFlags := 25, nameIndex := 599, descriptorIndex := 600, attributes := #[] }, { accessFlags := 24, nameIndex := 1125, descriptorIndex := 18, attributes := #[] }, { accessFlags := 24, nameIndex := 1127, descriptorIndex := 18, attributes := #[] }])
  fields := #[{ name := "value", type := (.array .byte), accessFlags := 18, slot := 0, constantValue := 0 }, { name := "coder", type := .byte, accessFlags := 18, slot := 1, constantValue := 0 }, { name := "hash", type := .int, accessFlags := 2, slot := 2, constantValue := 0 }, { name := "hashIsZero", type := .boolean, accessFlags := 2, slot := 3, constantValue := 0 }, { name := "serialVersionUID", type := .long, accessFlags := 26, slot := 0, constantValue := 0 }, { name := "COMPACT_STRINGS", type := .boolean, accessFlags := 24, slot := 1, constantValue := 0 }, { name := "serialPersistentFields", type := (.array (.object "java/io/ObjectStreamField")), accessFlags := 26, slot := 2, constantValue := 0 }, { name := "REPL", type := .char, accessFlags := 26, slot := 3, constantValue := 0 }, { name := "CASE_INSENSITIVE_ORDER", type := (.object "java/util/Comparator"), accessFlags := 25, slot := 4, constantValue := 0 }, { name := "LATIN1", type := .byte, accessFlags := 24, slot := 5, constantValue := 0 }, { name := "UTF16", type := .byte, accessFlags := 24, slot := 6, constantValue := 0 }]
  methods := #[k7m0, k7m1, k7m2, k7m3, k7m4, k7m5, k7m6, k7m7, k7m8, k7m9, k7m10, k7m11]
  instanceTypes := #[(.array .byte), .byte, .int, .boolean]
  staticTypes := #[.long, .boolean, (.array (.object "java/io/ObjectStreamField")), .char, (.object "java/util/Comparator"), .byte, .byte]
  resolved := Array.replicate 1451 none
  statics := some 0 }

def pool8 : Array CpInfo := pool [(1, .methodref 2 3), (0, .class_ 4), (0, .nameAndType 5 6), (0, u "java/lang/Object"), (0, u "<init>"), (0, u "()V"), (0, .class_ 8), (0, u "java/lang/StringBuilder"), (0, .methodref 7 10), (0, .nameAndType 5 11), (0, u "(I)V"), (0, .fieldref 13 14), (0, .class_ 15), (0, .nameAndType 16 17), (0, u "com/example/clear_recall/clearrecall/web/Html"), (0, u "out"), (0, u "Ljava/lang/StringBuilder;"), (2, .methodref 7 21), (0, .nameAndType 22 23), (0, u "append"), (0, u "(Ljava/lang/String;)Ljava/lang/StringBuilder;"), (7, .methodref 7 32), (0, .nameAndType 22 33), (0, u "(C)Ljava/lang/StringBuilder;"), (6, .string 41), (0, u "</"), (7, u "(Ljava/lang/String;)Lcom/example/clear_recall/clearrecall/web/Html;"), (2, u "close"), (0, .methodref 7 54), (0, .nameAndType 55 56), (0, u "toString"), (0, u "()Ljava/lang/String;")] 29

def k8c0 : Code := { maxStack := 4, maxLocals := 1, code := prog_19_method_1_code, exceptionTable := #[], attributes := #[] }
def k8m0 : Method := { name := "<init>", desc := "()V", sig := { parameters := [], returnType := none }, accessFlags := 0, code := some k8c0 }
def k8c1 : Code := { maxStack := 2, maxLocals := 2, code := prog_19_method_4_code, exceptionTable := #[], attributes := #[] }
def k8m1 : Method := { name := "close", desc := "(Ljava/lang/String;)Lcom/example/clear_recall/clearrecall/web/Html;", sig := { parameters := [(.object "java/lang/String")], returnType := some (.object "com/example/clear_recall/clearrecall/web/Html") }, accessFlags := 0, code := some k8c1 }
def k8c2 : Code := { maxStack := 1, maxLocals := 1, code := prog_19_method_7_code, exceptionTable := #[], attributes := #[] }
def k8m2 : Method := { name := "toString", desc := "()Ljava/lang/String;", sig := { parameters := [], returnType := some (.object "java/lang/String") }, accessFlags := 1, code := some k8c2 }
/-- com/example/clear_recall/clearrecall/web/Html -/
def k8 : Class := { plain "com/example/clear_recall/clearrecall/web/Html" (some 0) with
  accessFlags := 32
  interfaces := #[]
  cf := some (fileOf pool8 13 #[] #[{ accessFlags := 0, nameIndex := 5, descriptorIndex := 6, attributes := #[] }, { accessFlags := 0, nameIndex := 52, descriptorIndex := 49, attributes := #[] }, { accessFlags := 1, nameIndex := 55, descriptorIndex := 56, attributes := #[] }] 32 2 #[] #[{ accessFlags := 18, nameIndex := 16, descriptorIndex := 17, attributes := #[] }])
  fields := #[{ name := "out", type := (.object "java/lang/StringBuilder"), accessFlags := 18, slot := 0, constantValue := 0 }]
  methods := #[k8m0, k8m1, k8m2]
  instanceTypes := #[(.object "java/lang/StringBuilder")]
  staticTypes := #[]
  resolved := Array.replicate 86 none
  statics := none }

def pool9 : Array CpInfo := pool [(1, .class_ 2), (0, u "java/lang/Appendable"), (0, .class_ 4), (0, u "java/lang/Object")] 9

/-- java/lang/Appendable -/
def k9 : Class := { plain "java/lang/Appendable" (some 0) with
  accessFlags := 1537
  interfaces := #[]
  cf := some (fileOf pool9 1 #[] #[] 1537 3 #[] #[])
  fields := #[]
  methods := #[]
  instanceTypes := #[]
  staticTypes := #[]
  resolved := Array.replicate 14 none
  statics := none }

def pool10 : Array CpInfo := pool [(1, .class_ 2), (0, u "java/lang/String"), (0, .methodref 4 5), (0, .class_ 6), (0, .nameAndType 7 8), (0, u "java/lang/Object"), (0, u "<init>"), (0, u "()V"), (1, .class_ 12), (1, u "java/lang/AbstractStringBuilder"), (0, u "EMPTYVALUE"), (0, u "[B"), (0, .fieldref 10 16), (0, .nameAndType 17 14), (0, u "value"), (0, .fieldref 1 19), (0, .nameAndType 20 21), (0, u "COMPACT_STRINGS"), (0, u "Z"), (0, .fieldref 10 23), (0, .nameAndType 24 25), (0, u "coder"), (0, u "B"), (0, .methodref 27 28), (0, .class_ 29), (0, .nameAndType 30 31), (0, u "java/lang/StringUTF16"), (0, u "newBytesFor"), (0, u "(I)[B"), (0, .methodref 1 33), (0, .nameAndType 34 35), (0, u "length"), (0, u "()I"), (4, .methodref 1 41), (0, .nameAndType 24 42), (0, u "()B"), (2, u "append"), (0, u "(Ljava/lang/String;)Ljava/lang/AbstractStringBuilder;"), (1, .class_ 49), (0, u "java/lang/CharSequence"), (19, u "(Ljava/lang/String;)V"), (5, u "maybeLatin1"), (3, .fieldref 10 80), (0, .nameAndType 81 82), (0, u "count"), (0, u "I"), (0, .methodref 10 84), (0, .nameAndType 85 86), (0, u "isLatin1"), (0, u "()Z"), (1, .class_ 90), (1, u "java/lang/StringLatin1"), (9, .methodref 10 101), (0, .nameAndType 102 103), (0, u "ensureCapacityInternal"), (0, u "(I)V"), (21, .methodref 88 126), (0, .nameAndType 127 128), (0, u "inflate"), (0, u "([BI[BII)V"), (7, u "([BII)V"), (54, .methodref 88 192), (0, .nameAndType 193 194), (0, u "canEncode"), (0, u "(C)Z"), (0, .methodref 10 196), (0, .nameAndType 127 8), (0, .methodref 27 198), (0, .nameAndType 199 136), (0, u "putCharSB"), (8, .methodref 10 209), (0, .nameAndType 210 211), (0, u "putStringAt"), (0, u "(ILjava/lang/String;)V"), (5, u "inflateIfNeededFor"), (2, .nameAndType 221 222), (0, u "getBytes"), (0, u "([BIB)V"), (69, u "(C)Ljava/lang/AbstractStringBuilder;"), (104, .methodref 10 398), (0, .nameAndType 217 69), (0, .methodref 1 220), (3, u "()[B"), (40, .class_ 445), (0, u "java/lang/Appendable"), (106, u "getValue")] 56

def k10m0 : Method := { name := "<init>", desc := "()V", sig := { parameters := [], returnType := none }, accessFlags := 0, code := none }
def k10c1 : Code := { maxStack := 2, maxLocals := 2, code := jdk_68_method_2_code, exceptionTable := #[], attributes := #[] }
def k10m1 : Method := { name := "<init>", desc := "(I)V", sig := { parameters := [.int], returnType := none }, accessFlags := 0, code := some k10c1 }
def k10c2 : Code := { maxStack := 1, maxLocals := 1, code := jdk_68_method_6_code, exceptionTable := #[], attributes := #[] }
def k10m2 : Method := { name := "length", desc := "()I", sig := { parameters := [], returnType := some .int }, accessFlags := 1, code := some k10c2 }
def k10c3 : Code := { maxStack := 4, maxLocals := 3, code := jdk_68_method_9_code, exceptionTable := #[], attributes := #[] }
def k10m3 : Method := { name := "ensureCapacityInternal", desc := "(I)V", sig := { parameters := [.int], returnType := none }, accessFlags := 2, code := some k10c3 }
def k10c4 : Code := { maxStack := 5, maxLocals := 2, code := jdk_68_method_11_code, exceptionTable := #[], attributes := #[] }
def k10m4 : Method := { name := "inflate", desc := "()V", sig := { parameters := [], returnType := none }, accessFlags := 2, code := some k10c4 }
def k10c5 : Code := { maxStack := 3, maxLocals := 3, code := jdk_68_method_22_code, exceptionTable := #[], attributes := #[] }
def k10m5 : Method := { name := "append", desc := "(Ljava/lang/String;)Ljava/lang/AbstractStringBuilder;", sig := { parameters := [(.object "java/lang/String")], returnType := some (.object "java/lang/AbstractStringBuilder") }, accessFlags := 1, code := some k10c5 }
def k10c6 : Code := { maxStack := 5, maxLocals := 2, code := jdk_68_method_31_code, exceptionTable := #[], attributes := #[] }
def k10m6 : Method := { name := "append", desc := "(C)Ljava/lang/AbstractStringBuilder;", sig := { parameters := [.char], returnType := some (.object "java/lang/AbstractStringBuilder") }, accessFlags := 1, code := some k10c6 }
def k10c7 : Code := { maxStack := 1, maxLocals := 1, code := jdk_68_method_64_code, exceptionTable := #[], attributes := #[] }
def k10m7 : Method := { name := "getValue", desc := "()[B", sig := { parameters := [], returnType := some (.array .byte) }, accessFlags := 16, code := some k10c7 }
def k10c8 : Code := { maxStack := 1, maxLocals := 1, code := jdk_68_method_68_code, exceptionTable := #[], attributes := #[] }
def k10m8 : Method := { name := "isLatin1", desc := "()Z", sig := { parameters := [], returnType := some .boolean }, accessFlags := 16, code := some k10c8 }
def k10c9 : Code := { maxStack := 2, maxLocals := 2, code := jdk_68_method_71_code, exceptionTable := #[], attributes := #[] }
def k10m9 : Method := { name := "inflateIfNeededFor", desc := "(Ljava/lang/String;)V", sig := { parameters := [(.object "java/lang/String")], returnType := none }, accessFlags := 2, code := some k10c9 }
def k10c10 : Code := { maxStack := 4, maxLocals := 3, code := jdk_68_method_73_code, exceptionTable := #[], attributes := #[] }
def k10m10 : Method := { name := "putStringAt", desc := "(ILjava/lang/String;)V", sig := { parameters := [.int, (.object "java/lang/String")], returnType := none }, accessFlags := 2, code := some k10c10 }
/-- java/lang/AbstractStringBuilder -/
def k10 : Class := { plain "java/lang/AbstractStringBuilder" (some 0) with
  accessFlags := 1056
  interfaces := #[9, 4]
  cf := some (fileOf pool10 10 #[] #[{ accessFlags := 0, nameIndex := 7, descriptorIndex := 8, attributes := #[] }, { accessFlags := 0, nameIndex := 7, descriptorIndex := 103, attributes := #[] }, { accessFlags := 1, nameIndex := 34, descriptorIndex := 35, attributes := #[] }, { accessFlags := 2, nameIndex := 102, descriptorIndex := 103, attributes := #[] }, { accessFlags := 2, nameIndex := 127, descriptorIndex := 8, attributes := #[] }, { accessFlags := 1, nameIndex := 45, descriptorIndex := 46, attributes := #[] }, { accessFlags := 1, nameIndex := 45, descriptorIndex := 292, attributes := #[] }, { accessFlags := 16, nameIndex := 552, descriptorIndex := 403, attributes := #[] }, { accessFlags := 16, nameIndex := 85, descriptorIndex := 86, attributes := #[] }, { accessFlags := 2, nameIndex := 217, descriptorIndex := 69, attributes := #[] }, { accessFlags := 2, nameIndex := 210, descriptorIndex := 211, attributes := #[] }] 1056 4 #[444, 48] #[{ accessFlags := 0, nameIndex := 17, descriptorIndex := 14, attributes := #[] }, { accessFlags := 0, nameIndex := 24, descriptorIndex := 25, attributes := #[] }, { accessFlags := 0, nameIndex := 75, descriptorIndex := 21, attributes := #[] }, { accessFlags := 0, nameIndex := 81, descriptorIndex := 82, attributes := #[] }, { accessFlags := 26, nameIndex := 13, descriptorIndex := 14, attributes := #[] }])
  fields := #[{ name := "value", type := (.array .byte), accessFlags := 0, slot := 0, constantValue := 0 }, { name := "coder", type := .byte, accessFlags := 0, slot := 1, constantValue := 0 }, { name := "maybeLatin1", type := .boolean, accessFlags := 0, slot := 2, constantValue := 0 }, { name := "count", type := .int, accessFlags := 0, slot := 3, constantValue := 0 }, { name := "EMPTYVALUE", type := (.array .byte), accessFlags := 26, slot := 0, constantValue := 0 }]
  methods := #[k10m0, k10m1, k10m2, k10m3, k10m4, k10m5, k10m6, k10m7, k10m8, k10m9, k10m10]
  instanceTypes := #[(.array .byte), .byte, .boolean, .int]
  staticTypes := #[(.array .byte)]
  resolved := Array.replicate 609 none
  statics := none }

def pool11 : Array CpInfo := pool [(1, .methodref 2 3), (0, .class_ 4), (0, .nameAndType 5 6), (0, u "java/lang/AbstractStringBuilder"), (0, u "<init>"), (0, u "(I)V"), (11, .class_ 20), (1, u "java/lang/String"), (3, .class_ 26), (1, u "java/lang/StringBuilder"), (0, u "append"), (0, u "(Ljava/lang/String;)Ljava/lang/StringBuilder;"), (0, .methodref 2 30), (0, .nameAndType 27 31), (0, u "(Ljava/lang/String;)Ljava/lang/AbstractStringBuilder;"), (18, .methodref 2 51), (0, .nameAndType 27 52), (0, u "(C)Ljava/lang/AbstractStringBuilder;"), (84, .methodref 18 138), (0, .nameAndType 5 139), (0, u "(Ljava/lang/StringBuilder;)V"), (5, u "()V"), (10, u "()I"), (129, u "(C)Ljava/lang/StringBuilder;"), (56, .methodref 2 344), (0, .nameAndType 345 156), (0, u "length"), (3, .class_ 350), (0, u "java/lang/Appendable"), (0, .class_ 352), (0, u "java/io/Serializable"), (0, .class_ 354), (0, u "java/lang/Comparable"), (0, .class_ 356), (0, u "java/lang/CharSequence"), (0, u "serialVersionUID"), (0, u "J"), (40, u "toString"), (0, u "()Ljava/lang/String;")] 21

def k11m0 : Method := { name := "<init>", desc := "()V", sig := { parameters := [], returnType := none }, accessFlags := 1, code := none }
def k11c1 : Code := { maxStack := 2, maxLocals := 2, code := jdk_67_method_2_code, exceptionTable := #[], attributes := #[] }
def k11m1 : Method := { name := "<init>", desc := "(I)V", sig := { parameters := [.int], returnType := none }, accessFlags := 1, code := some k11c1 }
def k11c2 : Code := { maxStack := 2, maxLocals := 2, code := jdk_67_method_7_code, exceptionTable := #[], attributes := #[] }
def k11m2 : Method := { name := "append", desc := "(Ljava/lang/String;)Ljava/lang/StringBuilder;", sig := { parameters := [(.object "java/lang/String")], returnType := some (.object "java/lang/StringBuilder") }, accessFlags := 1, code := some k11c2 }
def k11c3 : Code := { maxStack := 2, maxLocals := 2, code := jdk_67_method_14_code, exceptionTable := #[], attributes := #[] }
def k11m3 : Method := { name := "append", desc := "(C)Ljava/lang/StringBuilder;", sig := { parameters := [.char], returnType := some (.object "java/lang/StringBuilder") }, accessFlags := 1, code := some k11c3 }
def k11c4 : Code := { maxStack := 3, maxLocals := 1, code := jdk_67_method_42_code, exceptionTable := #[], attributes := #[] }
def k11m4 : Method := { name := "toString", desc := "()Ljava/lang/String;", sig := { parameters := [], returnType := some (.object "java/lang/String") }, accessFlags := 1, code := some k11c4 }
def k11c5 : Code := { maxStack := 1, maxLocals := 1, code := jdk_67_method_93_code, exceptionTable := #[], attributes := #[] }
def k11m5 : Method := { name := "length", desc := "()I", sig := { parameters := [], returnType := some .int }, accessFlags := 4161, code := some k11c5 }
/-- java/lang/StringBuilder -/
def k11 : Class := { plain "java/lang/StringBuilder" (some 10) with
  accessFlags := 49
  interfaces := #[9, 2, 3, 4]
  cf := some (fileOf pool11 24 #[] #[{ accessFlags := 1, nameIndex := 5, descriptorIndex := 145, attributes := #[] }, { accessFlags := 1, nameIndex := 5, descriptorIndex := 6, attributes := #[] }, { accessFlags := 1, nameIndex := 27, descriptorIndex := 28, attributes := #[] }, { accessFlags := 1, nameIndex := 27, descriptorIndex := 286, attributes := #[] }, { accessFlags := 1, nameIndex := 399, descriptorIndex := 400, attributes := #[] }, { accessFlags := 4161, nameIndex := 345, descriptorIndex := 156, attributes := #[] }] 49 2 #[349, 351, 353, 355] #[{ accessFlags := 24, nameIndex := 357, descriptorIndex := 358, attributes := #[] }])
  fields := #[{ name := "serialVersionUID", type := .long, accessFlags := 24, slot := 0, constantValue := 0 }]
  methods := #[k11m0, k11m1, k11m2, k11m3, k11m4, k11m5]
  instanceTypes := #[(.array .byte), .byte, .boolean, .int]
  staticTypes := #[.long]
  resolved := Array.replicate 422 none
  statics := none }

def pool12 : Array CpInfo := pool [(2, .class_ 4), (1, u "java/lang/Object"), (0, u "<init>"), (0, u "()V"), (1, .class_ 10), (1, u "java/lang/System"), (0, u "allowSecurityManager"), (0, u "I"), (16, u "cons"), (0, u "Ljava/io/Console;"), (77, .class_ 110), (1, u "java/lang/System$CallersHolder"), (43, u "initialErrStream"), (0, u "Ljava/io/PrintStream;"), (19, u "security"), (0, u "Ljava/lang/SecurityManager;"), (31, .class_ 209), (0, u "java/lang/System$1"), (7, u "props"), (0, u "Ljava/util/Properties;"), (2, u "lineSeparator"), (0, u "Ljava/lang/String;"), (96, .class_ 321), (1, u "java/lang/System$LoggerFinder"), (5, .class_ 328), (0, u "java/lang/System$Logger"), (67, u "err"), (2, u "out"), (91, u "notSupportedJnuEncoding"), (15, u "in"), (17, u "initialIn"), (0, u "Ljava/io/InputStream;"), (35, u "bootLayer"), (0, u "Ljava/lang/ModuleLayer;"), (99, .class_ 664), (0, u "java/lang/System$2"), (9, u "NEVER"), (2, u "MAYBE"), (49, u "arraycopy"), (0, u "(Ljava/lang/Object;ILjava/lang/Object;II)V"), (72, .class_ 802), (0, u "java/lang/System$Logger$Level")] 31

def k12m0 : Method := { name := "<init>", desc := "()V", sig := { parameters := [], returnType := none }, accessFlags := 2, code := none }
def k12m1 : Method := { name := "arraycopy", desc := "(Ljava/lang/Object;ILjava/lang/Object;II)V", sig := { parameters := [(.object "java/lang/Object"), .int, (.object "java/lang/Object"), .int, .int], returnType := none }, accessFlags := 265, code := none }
/-- java/lang/System -/
def k12 : Class := { plain "java/lang/System" (some 0) with
  accessFlags := 49
  interfaces := #[]
  cf := some (fileOf pool12 8 #[.nestMembers #[319, 327, 801, 108, 663, 208]] #[{ accessFlags := 2, nameIndex := 5, descriptorIndex := 6, attributes := #[] }, { accessFlags := 265, nameIndex := 727, descriptorIndex := 728, attributes := #[] }] 49 2 #[] #[{ accessFlags := 25, nameIndex := 507, descriptorIndex := 526, attributes := #[] }, { accessFlags := 25, nameIndex := 399, descriptorIndex := 155, attributes := #[] }, { accessFlags := 25, nameIndex := 396, descriptorIndex := 155, attributes := #[] }, { accessFlags := 10, nameIndex := 525, descriptorIndex := 526, attributes := #[] }, { accessFlags := 26, nameIndex := 674, descriptorIndex := 12, attributes := #[] }, { accessFlags := 26, nameIndex := 677, descriptorIndex := 12, attributes := #[] }, { accessFlags := 10, nameIndex := 11, descriptorIndex := 12, attributes := #[] }, { accessFlags := 74, nameIndex := 175, descriptorIndex := 176, attributes := #[] }, { accessFlags := 10, nameIndex := 491, descriptorIndex := 222, attributes := #[] }, { accessFlags := 74, nameIndex := 29, descriptorIndex := 30, attributes := #[] }, { accessFlags := 74, nameIndex := 154, descriptorIndex := 155, attributes := #[] }, { accessFlags := 10, nameIndex := 217, descriptorIndex := 218, attributes := #[] }, { accessFlags := 10, nameIndex := 221, descriptorIndex := 222, attributes := #[] }, { accessFlags := 8, nameIndex := 562, descriptorIndex := 563, attributes := #[] }])
  fields := #[{ name := "in", type := (.object "java/io/InputStream"), accessFlags := 25, slot := 0, constantValue := 0 }, { name := "out", type := (.object "java/io/PrintStream"), accessFlags := 25, slot := 1, constantValue := 0 }, { name := "err", type := (.object "java/io/PrintStream"), accessFlags := 25, slot := 2, constantValue := 0 }, { name := "initialIn", type := (.object "java/io/InputStream"), accessFlags := 10, slot := 3, constantValue := 0 }, { name := "NEVER", type := .int, accessFlags := 26, slot := 4, constantValue := 0 }, { name := "MAYBE", type := .int, accessFlags := 26, slot := 5, constantValue := 0 }, { name := "allowSecurityManager", type := .int, accessFlags := 10, slot := 6, constantValue := 0 }, { name := "security", type := (.object "java/lang/SecurityManager"), accessFlags := 74, slot := 7, constantValue := 0 }, { name := "notSupportedJnuEncoding", type := (.object "java/lang/String"), accessFlags := 10, slot := 8, constantValue := 0 }, { name := "cons", type := (.object "java/io/Console"), accessFlags := 74, slot := 9, constantValue := 0 }, { name := "initialErrStream", type := (.object "java/io/PrintStream"), accessFlags := 74, slot := 10, constantValue := 0 }, { name := "props", type := (.object "java/util/Properties"), accessFlags := 10, slot := 11, constantValue := 0 }, { name := "lineSeparator", type := (.object "java/lang/String"), accessFlags := 10, slot := 12, constantValue := 0 }, { name := "bootLayer", type := (.object "java/lang/ModuleLayer"), accessFlags := 8, slot := 13, constantValue := 0 }]
  methods := #[k12m0, k12m1]
  instanceTypes := #[]
  staticTypes := #[(.object "java/io/InputStream"), (.object "java/io/PrintStream"), (.object "java/io/PrintStream"), (.object "java/io/InputStream"), .int, .int, .int, (.object "java/lang/SecurityManager"), (.object "java/lang/String"), (.object "java/io/Console"), (.object "java/io/PrintStream"), (.object "java/util/Properties"), (.object "java/lang/String"), (.object "java/lang/ModuleLayer")]
  resolved := Array.replicate 834 none
  statics := none }

def pool13 : Array CpInfo := pool [(1, .class_ 2), (0, u "java/lang/String"), (1, .class_ 6), (1, u "java/lang/Object"), (0, u "<init>"), (0, u "()V"), (0, .methodref 1 10), (0, .nameAndType 11 12), (0, u "checkIndex"), (0, u "(II)V"), (1, .class_ 16), (1, u "java/lang/StringLatin1"), (0, u "inflate"), (2, .class_ 22), (1, u "java/lang/StringUTF16"), (3, .nameAndType 17 27), (0, u "([BI[BII)V"), (25, u "([BI)C"), (36, u "canEncode"), (14, u "(C)Z"), (15, u "$assertionsDisabled"), (0, u "Z"), (98, .class_ 223), (1, u "java/lang/StringLatin1$LinesSpliterator"), (16, .methodref 20 26), (11, u "charAt"), (137, .class_ 391), (0, u "java/lang/StringLatin1$CharsSpliterator")] 3

def k13m0 : Method := { name := "<init>", desc := "()V", sig := { parameters := [], returnType := none }, accessFlags := 0, code := none }
def k13c1 : Code := { maxStack := 2, maxLocals := 2, code := jdk_43_method_2_code, exceptionTable := #[], attributes := #[] }
def k13m1 : Method := { name := "charAt", desc := "([BI)C", sig := { parameters := [(.array .byte), .int], returnType := some .char }, accessFlags := 9, code := some k13c1 }
def k13c2 : Code := { maxStack := 2, maxLocals := 1, code := jdk_43_method_3_code, exceptionTable := #[], attributes := #[] }
def k13m2 : Method := { name := "canEncode", desc := "(C)Z", sig := { parameters := [.char], returnType := some .boolean }, accessFlags := 9, code := some k13c2 }
def k13c3 : Code := { maxStack := 5, maxLocals := 5, code := jdk_43_method_50_code, exceptionTable := #[], attributes := #[] }
def k13m3 : Method := { name := "inflate", desc := "([BI[BII)V", sig := { parameters := [(.array .byte), .int, (.array .byte), .int, .int], returnType := none }, accessFlags := 9, code := some k13c3 }
/-- java/lang/StringLatin1 -/
def k13 : Class := { plain "java/lang/StringLatin1" (some 0) with
  accessFlags := 48
  interfaces := #[]
  cf := some (fileOf pool13 14 #[.nestMembers #[390, 221]] #[{ accessFlags := 0, nameIndex := 7, descriptorIndex := 8, attributes := #[] }, { accessFlags := 9, nameIndex := 252, descriptorIndex := 53, attributes := #[] }, { accessFlags := 9, nameIndex := 90, descriptorIndex := 105, attributes := #[] }, { accessFlags := 9, nameIndex := 17, descriptorIndex := 27, attributes := #[] }] 48 4 #[] #[{ accessFlags := 4120, nameIndex := 121, descriptorIndex := 122, attributes := #[] }])
  fields := #[{ name := "$assertionsDisabled", type := .boolean, accessFlags := 4120, slot := 0, constantValue := 0 }]
  methods := #[k13m0, k13m1, k13m2, k13m3]
  instanceTypes := #[]
  staticTypes := #[.boolean]
  resolved := Array.replicate 395 none
  statics := none }

def pool14 : Array CpInfo := pool [(2, .class_ 4), (1, u "java/lang/Object"), (0, u "<init>"), (0, u "()V"), (7, .class_ 16), (1, u "java/util/Arrays"), (57, .class_ 76), (1, u "java/util/Arrays$NaturalOrder"), (36, .class_ 115), (1, u "java/util/Arrays$LegacyMergeSort"), (1, u "Z"), (21, u "copyOfRange"), (10, .methodref 151 152), (0, .class_ 153), (0, .nameAndType 154 155), (0, u "java/lang/System"), (0, u "arraycopy"), (0, u "(Ljava/lang/Object;ILjava/lang/Object;II)V"), (148, .methodref 305 306), (0, .class_ 307), (0, .nameAndType 308 309), (0, u "java/lang/Math"), (0, u "min"), (0, u "(II)I"), (29, .methodref 14 340), (0, .nameAndType 341 342), (0, u "copyOfRangeByte"), (0, u "([BII)[B"), (0, .methodref 14 344), (0, .nameAndType 345 346), (0, u "checkLength"), (0, u "(II)V"), (28, .class_ 376), (0, u "java/util/Arrays$ArrayList"), (68, u "$assertionsDisabled"), (269, u "MIN_ARRAY_SORT_GRAN"), (0, u "I"), (2, u "INSERTIONSORT_THRESHOLD"), (255, .class_ 976), (0, u "java/util/Arrays$ArrayItr")] 52

def k14m0 : Method := { name := "<init>", desc := "()V", sig := { parameters := [], returnType := none }, accessFlags := 2, code := none }
def k14c1 : Code := { maxStack := 4, maxLocals := 2, code := jdk_65_method_131_code, exceptionTable := #[], attributes := #[] }
def k14m1 : Method := { name := "checkLength", desc := "(II)V", sig := { parameters := [.int, .int], returnType := none }, accessFlags := 10, code := some k14c1 }
def k14c2 : Code := { maxStack := 3, maxLocals := 3, code := jdk_65_method_132_code, exceptionTable := #[], attributes := #[] }
def k14m2 : Method := { name := "copyOfRange", desc := "([BII)[B", sig := { parameters := [(.array .byte), .int, .int], returnType := some (.array .byte) }, accessFlags := 9, code := some k14c2 }
def k14c3 : Code := { maxStack := 6, maxLocals := 5, code := jdk_65_method_133_code, exceptionTable := #[], attributes := #[] }
def k14m3 : Method := { name := "copyOfRangeByte", desc := "([BII)[B", sig := { parameters := [(.array .byte), .int, .int], returnType := some (.array .byte) }, accessFlags := 10, code := some k14c3 }
/-- java/util/Arrays -/
def k14 : Class := { plain "java/util/Arrays" (some 0) with
  accessFlags := 49
  interfaces := #[]
  cf := some (fileOf pool14 14 #[.nestMembers #[975, 375, 113, 74]] #[{ accessFlags := 2, nameIndex := 5, descriptorIndex := 6, attributes := #[] }, { accessFlags := 10, nameIndex := 345, descriptorIndex := 346, attributes := #[] }, { accessFlags := 9, nameIndex := 139, descriptorIndex := 342, attributes := #[] }, { accessFlags := 10, nameIndex := 341, descriptorIndex := 342, attributes := #[] }] 49 2 #[] #[{ accessFlags := 26, nameIndex := 715, descriptorIndex := 716, attributes := #[] }, { accessFlags := 26, nameIndex := 719, descriptorIndex := 716, attributes := #[] }, { accessFlags := 4120, nameIndex := 445, descriptorIndex := 117, attributes := #[] }])
  fields := #[{ name := "MIN_ARRAY_SORT_GRAN", type := .int, accessFlags := 26, slot := 0, constantValue := 0 }, { name := "INSERTIONSORT_THRESHOLD", type := .int, accessFlags := 26, slot := 1, constantValue := 0 }, { name := "$assertionsDisabled", type := .boolean, accessFlags := 4120, slot := 2, constantValue := 0 }]
  methods := #[k14m0, k14m1, k14m2, k14m3]
  instanceTypes := #[]
  staticTypes := #[.int, .int, .boolean]
  resolved := Array.replicate 1029 none
  statics := none }

def pool15 : Array CpInfo := pool [(1, .class_ 2), (0, u "java/lang/Math"), (1, .class_ 6), (1, u "java/lang/Object"), (0, u "<init>"), (0, u "()V"), (89, .class_ 100), (1, u "java/lang/Math$RandomNumberGeneratorHolder"), (71, u "negativeZeroFloatBits"), (0, u "J"), (2, u "negativeZeroDoubleBits"), (24, u "min"), (43, u "$assertionsDisabled"), (0, u "Z"), (88, u "(II)I"), (2, u "twoToTheDoubleScaleDown"), (0, u "D"), (4, u "twoToTheDoubleScaleUp"), (9, u "E"), (3, u "PI"), (2, u "TAU"), (2, u "DEGREES_TO_RADIANS"), (0, u "RADIANS_TO_DEGREES")] 94

def k15m0 : Method := { name := "<init>", desc := "()V", sig := { parameters := [], returnType := none }, accessFlags := 2, code := none }
def k15c1 : Code := { maxStack := 2, maxLocals := 2, code := jdk_29_method_69_code, exceptionTable := #[], attributes := #[] }
def k15m1 : Method := { name := "min", desc := "(II)I", sig := { parameters := [.int, .int], returnType := some .int }, accessFlags := 9, code := some k15c1 }
/-- java/lang/Math -/
def k15 : Class := { plain "java/lang/Math" (some 0) with
  accessFlags := 49
  interfaces := #[]
  cf := some (fileOf pool15 1 #[.nestMembers #[98]] #[{ accessFlags := 2, nameIndex := 7, descriptorIndex := 8, attributes := #[] }, { accessFlags := 9, nameIndex := 201, descriptorIndex := 335, attributes := #[] }] 49 4 #[] #[{ accessFlags := 25, nameIndex := 354, descriptorIndex := 339, attributes := #[] }, { accessFlags := 25, nameIndex := 358, descriptorIndex := 339, attributes := #[] }, { accessFlags := 25, nameIndex := 361, descriptorIndex := 339, attributes := #[] }, { accessFlags := 26, nameIndex := 364, descriptorIndex := 339, attributes := #[] }, { accessFlags := 26, nameIndex := 365, descriptorIndex := 339, attributes := #[] }, { accessFlags := 26, nameIndex := 172, descriptorIndex := 173, attributes := #[] }, { accessFlags := 26, nameIndex := 176, descriptorIndex := 173, attributes := #[] }, { accessFlags := 8, nameIndex := 344, descriptorIndex := 339, attributes := #[] }, { accessFlags := 8, nameIndex := 338, descriptorIndex := 339, attributes := #[] }, { accessFlags := 4120, nameIndex := 245, descriptorIndex := 246, attributes := #[] }])
  fields := #[{ name := "E", type := .double, accessFlags := 25, slot := 0, constantValue := 0 }, { name := "PI", type := .double, accessFlags := 25, slot := 1, constantValue := 0 }, { name := "TAU", type := .double, accessFlags := 25, slot := 2, constantValue := 0 }, { name := "DEGREES_TO_RADIANS", type := .double, accessFlags := 26, slot := 3, constantValue := 0 }, { name := "RADIANS_TO_DEGREES", type := .double, accessFlags := 26, slot := 4, constantValue := 0 }, { name := "negativeZeroFloatBits", type := .long, accessFlags := 26, slot := 5, constantValue := 0 }, { name := "negativeZeroDoubleBits", type := .long, accessFlags := 26, slot := 6, constantValue := 0 }, { name := "twoToTheDoubleScaleUp", type := .double, accessFlags := 8, slot := 7, constantValue := 0 }, { name := "twoToTheDoubleScaleDown", type := .double, accessFlags := 8, slot := 8, constantValue := 0 }, { name := "$assertionsDisabled", type := .boolean, accessFlags := 4120, slot := 9, constantValue := 0 }]
  methods := #[k15m0, k15m1]
  instanceTypes := #[]
  staticTypes := #[.double, .double, .double, .double, .double, .long, .long, .double, .double, .boolean]
  resolved := Array.replicate 460 none
  statics := none }

def pool16 : Array CpInfo := pool [(2, .class_ 4), (1, u "java/lang/Object"), (0, u "<init>"), (0, u "()V"), (17, .class_ 26), (1, u "jdk/internal/util/Preconditions"), (6, u "checkIndex"), (15, u "checkFromIndexSize"), (5, .class_ 56), (0, u "jdk/internal/util/Preconditions$4"), (57, .class_ 115), (0, u "jdk/internal/util/Preconditions$1"), (7, u "SIOOBE_FORMATTER"), (0, u "Ljava/util/function/BiFunction;"), (0, .class_ 126), (0, u "jdk/internal/util/Preconditions$2"), (3, u "AIOOBE_FORMATTER"), (0, .class_ 132), (0, u "jdk/internal/util/Preconditions$3"), (3, u "IOOBE_FORMATTER"), (41, u "(IILjava/util/function/BiFunction;)I"), (4, u "(IIILjava/util/function/BiFunction;)I")] 10

def k16m0 : Method := { name := "<init>", desc := "()V", sig := { parameters := [], returnType := none }, accessFlags := 1, code := none }
def k16c1 : Code := { maxStack := 3, maxLocals := 3, code := jdk_41_method_11_code, exceptionTable := #[], attributes := #[] }
def k16m1 : Method := { name := "checkIndex", desc := "(IILjava/util/function/BiFunction;)I", sig := { parameters := [.int, .int, (.object "java/util/function/BiFunction")], returnType := some .int }, accessFlags := 9, code := some k16c1 }
def k16c2 : Code := { maxStack := 4, maxLocals := 4, code := jdk_41_method_13_code, exceptionTable := #[], attributes := #[] }
def k16m2 : Method := { name := "checkFromIndexSize", desc := "(IIILjava/util/function/BiFunction;)I", sig := { parameters := [.int, .int, .int, (.object "java/util/function/BiFunction")], returnType := some .int }, accessFlags := 9, code := some k16c2 }
/-- jdk/internal/util/Preconditions -/
def k16 : Class := { plain "jdk/internal/util/Preconditions" (some 0) with
  accessFlags := 33
  interfaces := #[]
  cf := some (fileOf pool16 24 #[.nestMembers #[55, 131, 125, 114]] #[{ accessFlags := 1, nameIndex := 5, descriptorIndex := 6, attributes := #[] }, { accessFlags := 9, nameIndex := 33, descriptorIndex := 178, attributes := #[] }, { accessFlags := 9, nameIndex := 49, descriptorIndex := 183, attributes := #[] }] 33 2 #[] #[{ accessFlags := 25, nameIndex := 123, descriptorIndex := 124, attributes := #[] }, { accessFlags := 25, nameIndex := 130, descriptorIndex := 124, attributes := #[] }, { accessFlags := 25, nameIndex := 136, descriptorIndex := 124, attributes := #[] }])
  fields := #[{ name := "SIOOBE_FORMATTER", type := (.object "java/util/function/BiFunction"), accessFlags := 25, slot := 0, constantValue := 0 }, { name := "AIOOBE_FORMATTER", type := (.object "java/util/function/BiFunction"), accessFlags := 25, slot := 1, constantValue := 0 }, { name := "IOOBE_FORMATTER", type := (.object "java/util/function/BiFunction"), accessFlags := 25, slot := 2, constantValue := 0 }]
  methods := #[k16m0, k16m1, k16m2]
  instanceTypes := #[]
  staticTypes := #[(.object "java/util/function/BiFunction"), (.object "java/util/function/BiFunction"), (.object "java/util/function/BiFunction")]
  resolved := Array.replicate 194 none
  statics := some 1 }

def pool17 : Array CpInfo := pool [(3, .class_ 4), (0, u "java/lang/String"), (1, .class_ 8), (1, u "java/lang/Object"), (0, u "<init>"), (0, u "()V"), (0, .methodref 12 13), (0, .class_ 14), (0, .nameAndType 15 16), (0, u "java/lang/StringUTF16"), (0, u "newBytesLength"), (0, u "(I)I"), (3, .integer 1073741823), (23, .fieldref 12 45), (0, .nameAndType 46 47), (0, u "$assertionsDisabled"), (0, u "Z"), (0, .methodref 12 49), (0, .nameAndType 50 51), (0, u "length"), (0, u "([B)I"), (7, .fieldref 12 60), (0, .nameAndType 61 62), (0, u "HI_BYTE_SHIFT"), (0, u "I"), (0, .fieldref 12 64), (0, .nameAndType 65 62), (0, u "LO_BYTE_SHIFT"), (1, .methodref 12 68), (0, .nameAndType 69 70), (0, u "checkIndex"), (0, u "(I[B)V"), (0, .methodref 12 72), (0, .nameAndType 73 74), (0, u "getChar"), (0, u "([BI)C"), (24, u "(II[B)V"), (7, .methodref 12 108), (0, .nameAndType 109 110), (0, u "newBytesFor"), (0, u "(I)[B"), (0, .methodref 12 112), (0, .nameAndType 113 114), (0, u "putChar"), (0, u "([BII)V"), (0, .methodref 12 116), (0, .nameAndType 117 118), (0, u "compress"), (0, u "([CI[BII)I"), (0, .methodref 12 120), (0, .nameAndType 121 122), (0, u "toBytes"), (0, u "([CII)[B"), (17, u "inflate"), (0, u "([BI[BII)V"), (31, .methodref 12 174), (0, .nameAndType 175 99), (0, u "checkBoundsOffCount"), (85, u "coderFromArrayLen"), (0, u "([BI)B"), (18, u "(III)I"), (87, .class_ 371), (1, u "java/lang/StringUTF16$LinesSpliterator"), (20, u "charAt"), (21, .methodref 3 415), (0, .nameAndType 69 416), (0, u "(II)V"), (2, .methodref 3 420), (0, .nameAndType 175 281), (9, u "MAX_LENGTH"), (155, u "putCharSB"), (40, .class_ 628), (0, u "java/lang/StringUTF16$CodePointsSpliterator"), (0, .class_ 630), (0, u "java/lang/StringUTF16$CharsSpliterator")] 4

def k17m0 : Method := { name := "<init>", desc := "()V", sig := { parameters := [], returnType := none }, accessFlags := 0, code := none }
def k17c1 : Code := { maxStack := 1, maxLocals := 1, code := jdk_52_method_2_code, exceptionTable := #[], attributes := #[] }
def k17m1 : Method := { name := "newBytesFor", desc := "(I)[B", sig := { parameters := [.int], returnType := some (.array .byte) }, accessFlags := 9, code := some k17c1 }
def k17c2 : Code := { maxStack := 4, maxLocals := 1, code := jdk_52_method_3_code, exceptionTable := #[], attributes := #[] }
def k17m2 : Method := { name := "newBytesLength", desc := "(I)I", sig := { parameters := [.int], returnType := some .int }, accessFlags := 9, code := some k17c2 }
def k17c3 : Code := { maxStack := 4, maxLocals := 3, code := jdk_52_method_4_code, exceptionTable := #[], attributes := #[] }
def k17m3 : Method := { name := "putChar", desc := "([BII)V", sig := { parameters := [(.array .byte), .int, .int], returnType := none }, accessFlags := 8, code := some k17c3 }
def k17c4 : Code := { maxStack := 3, maxLocals := 2, code := jdk_52_method_5_code, exceptionTable := #[], attributes := #[] }
def k17m4 : Method := { name := "getChar", desc := "([BI)C", sig := { parameters := [(.array .byte), .int], returnType := some .char }, accessFlags := 8, code := some k17c4 }
def k17c5 : Code := { maxStack := 2, maxLocals := 1, code := jdk_52_method_6_code, exceptionTable := #[], attributes := #[] }
def k17m5 : Method := { name := "length", desc := "([B)I", sig := { parameters := [(.array .byte)], returnType := some .int }, accessFlags := 9, code := some k17c5 }
def k17c6 : Code := { maxStack := 4, maxLocals := 5, code := jdk_52_method_14_code, exceptionTable := #[], attributes := #[] }
def k17m6 : Method := { name := "toBytes", desc := "([CII)[B", sig := { parameters := [(.array .char), .int, .int], returnType := some (.array .byte) }, accessFlags := 9, code := some k17c6 }
def k17c7 : Code := { maxStack := 2, maxLocals := 2, code := jdk_52_method_15_code, exceptionTable := #[], attributes := #[] }
def k17m7 : Method := { name := "coderFromArrayLen", desc := "([BI)B", sig := { parameters := [(.array .byte), .int], returnType := some .byte }, accessFlags := 8, code := some k17c7 }
def k17c8 : Code := { maxStack := 5, maxLocals := 6, code := jdk_52_method_16_code, exceptionTable := #[], attributes := #[] }
def k17m8 : Method := { name := "compress", desc := "([CII)[B", sig := { parameters := [(.array .char), .int, .int], returnType := some (.array .byte) }, accessFlags := 9, code := some k17c8 }
def k17c9 : Code := { maxStack := 3, maxLocals := 7, code := jdk_52_method_21_code, exceptionTable := #[], attributes := #[] }
def k17m9 : Method := { name := "compress", desc := "([CI[BII)I", sig := { parameters := [(.array .char), .int, (.array .byte), .int, .int], returnType := some .int }, accessFlags := 9, code := some k17c9 }
def k17c10 : Code := { maxStack := 3, maxLocals := 3, code := jdk_52_method_71_code, exceptionTable := #[], attributes := #[] }
def k17m10 : Method := { name := "putCharSB", desc := "([BII)V", sig := { parameters := [(.array .byte), .int, .int], returnType := none }, accessFlags := 9, code := some k17c10 }
def k17c11 : Code := { maxStack := 2, maxLocals := 2, code := jdk_52_method_83_code, exceptionTable := #[], attributes := #[] }
def k17m11 : Method := { name := "charAt", desc := "([BI)C", sig := { parameters := [(.array .byte), .int], returnType := some .char }, accessFlags := 9, code := some k17c11 }
def k17c12 : Code := { maxStack := 4, maxLocals := 6, code := jdk_52_method_86_code, exceptionTable := #[], attributes := #[] }
def k17m12 : Method := { name := "inflate", desc := "([BI[BII)V", sig := { parameters := [(.array .byte), .int, (.array .byte), .int, .int], returnType := none }, accessFlags := 9, code := some k17c12 }
def k17c13 : Code := { maxStack := 2, maxLocals := 2, code := jdk_52_method_91_code, exceptionTable := #[], attributes := #[] }
def k17m13 : Method := { name := "checkIndex", desc := "(I[B)V", sig := { parameters := [.int, (.array .byte)], returnType := none }, accessFlags := 9, code := some k17c13 }
def k17c14 : Code := { maxStack := 3, maxLocals := 3, code := jdk_52_method_94_code, exceptionTable := #[], attributes := #[] }
def k17m14 : Method := { name := "checkBoundsOffCount", desc := "(II[B)V", sig := { parameters := [.int, .int, (.array .byte)], returnType := none }, accessFlags := 9, code := some k17c14 }
/-- java/lang/StringUTF16 -/
def k17 : Class := { plain "java/lang/StringUTF16" (some 0) with
  accessFlags := 48
  interfaces := #[]
  cf := some (fileOf pool17 12 #[.nestMembers #[627, 629, 369]] #[{ accessFlags := 0, nameIndex := 9, descriptorIndex := 10, attributes := #[] }, { accessFlags := 9, nameIndex := 109, descriptorIndex := 110, attributes := #[] }, { accessFlags := 9, nameIndex := 15, descriptorIndex := 16, attributes := #[] }, { accessFlags := 8, nameIndex := 113, descriptorIndex := 114, attributes := #[] }, { accessFlags := 8, nameIndex := 73, descriptorIndex := 74, attributes := #[] }, { accessFlags := 9, nameIndex := 50, descriptorIndex := 51, attributes := #[] }, { accessFlags := 9, nameIndex := 121, descriptorIndex := 122, attributes := #[] }, { accessFlags := 8, nameIndex := 261, descriptorIndex := 262, attributes := #[] }, { accessFlags := 9, nameIndex := 117, descriptorIndex := 122, attributes := #[] }, { accessFlags := 9, nameIndex := 117, descriptorIndex := 118, attributes := #[] }, { accessFlags := 9, nameIndex := 586, descriptorIndex := 114, attributes := #[] }, { accessFlags := 9, nameIndex := 392, descriptorIndex := 74, attributes := #[] }, { accessFlags := 9, nameIndex := 140, descriptorIndex := 141, attributes := #[] }, { accessFlags := 9, nameIndex := 69, descriptorIndex := 70, attributes := #[] }, { accessFlags := 9, nameIndex := 175, descriptorIndex := 99, attributes := #[] }] 48 6 #[] #[{ accessFlags := 26, nameIndex := 61, descriptorIndex := 62, attributes := #[] }, { accessFlags := 26, nameIndex := 65, descriptorIndex := 62, attributes := #[] }, { accessFlags := 24, nameIndex := 430, descriptorIndex := 62, attributes := #[] }, { accessFlags := 4120, nameIndex := 46, descriptorIndex := 47, attributes := #[] }])
  fields := #[{ name := "HI_BYTE_SHIFT", type := .int, accessFlags := 26, slot := 0, constantValue := 0 }, { name := "LO_BYTE_SHIFT", type := .int, accessFlags := 26, slot := 1, constantValue := 0 }, { name := "MAX_LENGTH", type := .int, accessFlags := 24, slot := 2, constantValue := 0 }, { name := "$assertionsDisabled", type := .boolean, accessFlags := 4120, slot := 3, constantValue := 0 }]
  methods := #[k17m0, k17m1, k17m2, k17m3, k17m4, k17m5, k17m6, k17m7, k17m8, k17m9, k17m10, k17m11, k17m12, k17m13, k17m14]
  instanceTypes := #[]
  staticTypes := #[.int, .int, .int, .boolean]
  resolved := Array.replicate 635 none
  statics := some 2 }

def pool18 : Array CpInfo := pool [(9, u "<init>"), (6, .class_ 18), (1, u "java/lang/Object"), (0, u "()V"), (1, .class_ 23), (1, u "jdk/internal/util/ArraysSupport"), (0, u "LOG2_ARRAY_LONG_INDEX_SCALE"), (0, u "I"), (2, u "U"), (0, u "Ljdk/internal/misc/Unsafe;"), (8, u "BIG_ENDIAN"), (0, u "Z"), (8, u "LOG2_BYTE_BIT_SIZE"), (4, u "LOG2_ARRAY_INT_INDEX_SCALE"), (54, u "JLA"), (0, u "Ljdk/internal/access/JavaLangAccess;"), (11, u "LOG2_ARRAY_BOOLEAN_INDEX_SCALE"), (9, u "LOG2_ARRAY_BYTE_INDEX_SCALE"), (5, u "LOG2_ARRAY_CHAR_INDEX_SCALE"), (5, u "LOG2_ARRAY_SHORT_INDEX_SCALE"), (18, u "LOG2_ARRAY_FLOAT_INDEX_SCALE"), (24, u "LOG2_ARRAY_DOUBLE_INDEX_SCALE"), (89, u "T_BOOLEAN"), (2, u "T_CHAR"), (1, u "T_FLOAT"), (1, u "T_DOUBLE"), (1, u "T_BYTE"), (1, u "T_SHORT"), (1, u "T_INT"), (1, u "T_LONG"), (1, u "SOFT_MAX_ARRAY_LENGTH")] 83

def k18m0 : Method := { name := "<init>", desc := "()V", sig := { parameters := [], returnType := none }, accessFlags := 2, code := none }
/-- jdk/internal/util/ArraysSupport -/
def k18 : Class := { plain "jdk/internal/util/ArraysSupport" (some 0) with
  accessFlags := 33
  interfaces := #[]
  cf := some (fileOf pool18 21 #[] #[{ accessFlags := 2, nameIndex := 9, descriptorIndex := 19, attributes := #[] }] 33 16 #[] #[{ accessFlags := 24, nameIndex := 28, descriptorIndex := 29, attributes := #[] }, { accessFlags := 26, nameIndex := 38, descriptorIndex := 39, attributes := #[] }, { accessFlags := 25, nameIndex := 121, descriptorIndex := 25, attributes := #[] }, { accessFlags := 25, nameIndex := 131, descriptorIndex := 25, attributes := #[] }, { accessFlags := 25, nameIndex := 137, descriptorIndex := 25, attributes := #[] }, { accessFlags := 25, nameIndex := 143, descriptorIndex := 25, attributes := #[] }, { accessFlags := 25, nameIndex := 53, descriptorIndex := 25, attributes := #[] }, { accessFlags := 25, nameIndex := 24, descriptorIndex := 25, attributes := #[] }, { accessFlags := 25, nameIndex := 162, descriptorIndex := 25, attributes := #[] }, { accessFlags := 25, nameIndex := 187, descriptorIndex := 25, attributes := #[] }, { accessFlags := 26, nameIndex := 48, descriptorIndex := 25, attributes := #[] }, { accessFlags := 25, nameIndex := 277, descriptorIndex := 25, attributes := #[] }, { accessFlags := 25, nameIndex := 280, descriptorIndex := 25, attributes := #[] }, { accessFlags := 25, nameIndex := 282, descriptorIndex := 25, attributes := #[] }, { accessFlags := 25, nameIndex := 284, descriptorIndex := 25, attributes := #[] }, { accessFlags := 25, nameIndex := 286, descriptorIndex := 25, attributes := #[] }, { accessFlags := 25, nameIndex := 288, descriptorIndex := 25, attributes := #[] }, { accessFlags := 25, nameIndex := 290, descriptorIndex := 25, attributes := #[] }, { accessFlags := 25, nameIndex := 292, descriptorIndex := 25, attributes := #[] }, { accessFlags := 26, nameIndex := 108, descriptorIndex := 109, attributes := #[] }, { accessFlags := 25, nameIndex := 294, descriptorIndex := 25, attributes := #[] }])
  fields := #[{ name := "U", type := (.object "jdk/internal/misc/Unsafe"), accessFlags := 24, slot := 0, constantValue := 0 }, { name := "BIG_ENDIAN", type := .boolean, accessFlags := 26, slot := 1, constantValue := 0 }, { name := "LOG2_ARRAY_BOOLEAN_INDEX_SCALE", type := .int, accessFlags := 25, slot := 2, constantValue := 0 }, { name := "LOG2_ARRAY_BYTE_INDEX_SCALE", type := .int, accessFlags := 25, slot := 3, constantValue := 0 }, { name := "LOG2_ARRAY_CHAR_INDEX_SCALE", type := .int, accessFlags := 25, slot := 4, constantValue := 0 }, { name := "LOG2_ARRAY_SHORT_INDEX_SCALE", type := .int, accessFlags := 25, slot := 5, constantValue := 0 }, { name := "LOG2_ARRAY_INT_INDEX_SCALE", type := .int, accessFlags := 25, slot := 6, constantValue := 0 }, { name := "LOG2_ARRAY_LONG_INDEX_SCALE", type := .int, accessFlags := 25, slot := 7, constantValue := 0 }, { name := "LOG2_ARRAY_FLOAT_INDEX_SCALE", type := .int, accessFlags := 25, slot := 8, constantValue := 0 }, { name := "LOG2_ARRAY_DOUBLE_INDEX_SCALE", type := .int, accessFlags := 25, slot := 9, constantValue := 0 }, { name := "LOG2_BYTE_BIT_SIZE", type := .int, accessFlags := 26, slot := 10, constantValue := 0 }, { name := "T_BOOLEAN", type := .int, accessFlags := 25, slot := 11, constantValue := 0 }, { name := "T_CHAR", type := .int, accessFlags := 25, slot := 12, constantValue := 0 }, { name := "T_FLOAT", type := .int, accessFlags := 25, slot := 13, constantValue := 0 }, { name := "T_DOUBLE", type := .int, accessFlags := 25, slot := 14, constantValue := 0 }, { name := "T_BYTE", type := .int, accessFlags := 25, slot := 15, constantValue := 0 }, { name := "T_SHORT", type := .int, accessFlags := 25, slot := 16, constantValue := 0 }, { name := "T_INT", type := .int, accessFlags := 25, slot := 17, constantValue := 0 }, { name := "T_LONG", type := .int, accessFlags := 25, slot := 18, constantValue := 0 }, { name := "JLA", type := (.object "jdk/internal/access/JavaLangAccess"), accessFlags := 26, slot := 19, constantValue := 0 }, { name := "SOFT_MAX_ARRAY_LENGTH", type := .int, accessFlags := 25, slot := 20, constantValue := 0 }]
  methods := #[k18m0]
  instanceTypes := #[]
  staticTypes := #[(.object "jdk/internal/misc/Unsafe"), .boolean, .int, .int, .int, .int, .int, .int, .int, .int, .int, .int, .int, .int, .int, .int, .int, .int, .int, (.object "jdk/internal/access/JavaLangAccess"), .int]
  resolved := Array.replicate 378 none
  statics := none }

def pool19 : Array CpInfo := pool [(1, u "java/lang/Cloneable"), (0, .class_ 1), (0, u "java/lang/Object"), (0, .class_ 3)] 3

/-- java/lang/Cloneable -/
def k19 : Class := { plain "java/lang/Cloneable" (some 0) with
  accessFlags := 1537
  interfaces := #[]
  cf := some (fileOf pool19 2 #[] #[] 1537 4 #[] #[])
  fields := #[]
  methods := #[]
  instanceTypes := #[]
  staticTypes := #[]
  resolved := Array.replicate 8 none
  statics := none }

/-- the primitive byte -/
def k20 : Class := { plain "byte" none with kind := .primitive 'B', accessFlags := 0x411 }
/-- [B -/
def k21 : Class := { plain "[B" (some 0) with kind := .array 20 .byte, interfaces := #[19, 2], accessFlags := 1041 }

/-- the primitive char -/
def k22 : Class := { plain "char" none with kind := .primitive 'C', accessFlags := 0x411 }
/-- [C -/
def k23 : Class := { plain "[C" (some 0) with kind := .array 22 .char, interfaces := #[19, 2], accessFlags := 1041 }

/-- the primitive int -/
def k24 : Class := { plain "int" none with kind := .primitive 'I', accessFlags := 0x411 }
/-- [I -/
def k25 : Class := { plain "[I" (some 0) with kind := .array 24 .int, interfaces := #[19, 2], accessFlags := 1041 }

def heap : Heap := #[{ cls := 7, slots := #[.long 0, .int 1, .null, .int 0, .null, .int 0, .int 0], vm := .statics 7 },
  { cls := 16, slots := #[.null, .null, .null], vm := .statics 16 },
  { cls := 17, slots := #[.int 0, .int 8, .int 0, .int 1], vm := .statics 17 }]
def classes : Array Class := #[k0, k1, k2, k3, k4, k5, k6, k7, k8, k9, k10, k11, k12, k13, k14, k15, k16, k17, k18, k19, k20, k21, k22, k23, k24, k25]
def interned : List (Array UInt16 × Addr) := []
def slotsUsed : Nat := 14
def theMethod : MethodId := ⟨1, 1⟩
def args0 : Array Value := #[.int 6, .int 65, .int 300, .int 7]
def aboutOver (below : List Frame) : State where
  vm := { classes := classes, interned := interned.toArray }
  heap := heap
  slotsUsed := slotsUsed
  threads := #[{ frames := .invoking theMethod args0 :: below }]
def below0 : List Frame := [.native { method := ⟨0, 0⟩, args := #[] }]
def about1 : State := aboutOver below0
def p0 : Program := .bare "" "" ""
def e0 : Env := launch0.env 0 0 0
theorem w_frames : about1.frames = Frame.invoking theMethod args0 :: below0 := rfl
set_option maxRecDepth 65536 in
theorem w_args : argsFit about1.vm theMethod args0 = true := by decide +kernel
set_option maxRecDepth 65536 in
theorem w_heap : heapFits about1 = true := by decide +kernel
set_option maxRecDepth 65536 in
theorem w_runnable : about1.curStatus? = some .runnable := by decide +kernel
set_option maxRecDepth 65536 in
theorem w_alone : about1.alone = true := by decide +kernel
set_option maxRecDepth 65536 in
theorem w_named : about1.methodNamed? x = some theMethod := by decide +kernel
set_option maxRecDepth 65536 in
theorem w_hears : about1.hears theMethod below0 = true := by decide +kernel
set_option maxRecDepth 65536 in
theorem w_ripe : about1.ripe theMethod args0 below0 = true := by decide +kernel
theorem w_running : about1.status = .running := rfl
set_option maxRecDepth 65536 in
theorem w_room : about1.hasRoom e0.platform room_1 = true :=
  launch0.hasRoom_least _ room_1 (by decide +kernel) (by decide +kernel) (by decide +kernel) (by decide +kernel) (by decide +kernel) (by decide +kernel)
theorem allAtoms_all (ts : List Jvm.Cond) (a : Array Jvm.Value) (st : Jvm.State) : (allAtoms ts).before a st = ts.all (fun c => c.before a st) := by
  induction ts with
  | nil => rfl
  | cons c t ih =>
    show (Jvm.Cond.and c (allAtoms t)).before a st = _
    rw [Jvm.Cond.before_and, ih, List.all_cons]
def words1 : List Jvm.Cond := Jvm.Cond.code x code maxLocals ret :: tables_1
/-- a 'code' word, met by the world's own term for the bytes: nothing is compared byte by byte -/
theorem code_word {y : MethodName} {bytes : ByteArray} {mx : Nat} {rt : Option FieldType} {a : Array Value} {s : State} {m : MethodId} {meth : Method} {c : Code} (h1 : s.methodNamed? y = some m) (h2 : s.vm.method? m = some meth) (h3 : meth.code = some c) (h4 : c.code = bytes)
    (h5 : (c.maxLocals == mx && c.exceptionTable.isEmpty && decide (c.maxStack ≤ mostOperands) && decide (meth.sig.returnType = rt) && !meth.locks && decide (parseMethodDescriptor y.desc = some meth.sig)) = true) : (Jvm.Cond.code y bytes mx rt).before a s = true := by
  simp only [Bool.and_eq_true, beq_iff_eq, Bool.not_eq_true', decide_eq_true_eq] at h5
  obtain ⟨⟨⟨⟨⟨g1, g2⟩, g3⟩, g4⟩, g5⟩, g6⟩ := h5
  simp [Cond.before, Cond.holds, Cond.value, h1, h2, h3, h4, g1, g2, g3, g4, g5, g6]
def isCode : Jvm.Cond → Bool
  | .code _ _ _ _ => true
  | _ => false
theorem all_split {L : List Jvm.Cond} {P : Jvm.Cond → Bool} (h1 : L.all (fun c => isCode c || P c) = true) (h2 : ∀ c ∈ L.filter isCode, P c = true) : L.all P = true := by
  refine List.all_eq_true.mpr fun c hc => ?_
  have h := List.all_eq_true.mp h1 c hc
  rcases Bool.eq_false_or_eq_true (isCode c) with hi | hi
  · exact h2 c (List.mem_filter.mpr ⟨hc, hi⟩)
  · simpa [hi] using h
set_option maxRecDepth 65536 in
theorem w_c0 : (Jvm.Cond.code x code maxLocals ret).before args0 about1 = true := code_word (m := ⟨1, 1⟩) (meth := k1m1) (c := k1c1) (by decide +kernel) rfl rfl rfl (by decide +kernel)
set_option maxRecDepth 65536 in
theorem w_c1 : (Jvm.Cond.code ({ cls := "com/example/clear_recall/clearrecall/web/HtmlClosePinLaw", name := "tag", desc := "(ICCC)Ljava/lang/String;" } : Jvm.MethodName) method_3_code (4 : Nat) (Option.some (Jvm.ClassFile.FieldType.object "java/lang/String"))).before args0 about1 = true := code_word (m := ⟨1, 2⟩) (meth := k1m2) (c := k1c2) (by decide +kernel) rfl rfl rfl (by decide +kernel)
set_option maxRecDepth 65536 in
theorem w_c2 : (Jvm.Cond.code ({ cls := "com/example/clear_recall/clearrecall/web/Html", name := "<init>", desc := "()V" } : Jvm.MethodName) prog_19_method_1_code (1 : Nat) (Option.none : Option Jvm.ClassFile.FieldType)).before args0 about1 = true := code_word (m := ⟨8, 0⟩) (meth := k8m0) (c := k8c0) (by decide +kernel) rfl rfl rfl (by decide +kernel)
set_option maxRecDepth 65536 in
theorem w_c3 : (Jvm.Cond.code ({ cls := "java/lang/Object", name := "<init>", desc := "()V" } : Jvm.MethodName) object_method_1_code (1 : Nat) (Option.none : Option Jvm.ClassFile.FieldType)).before args0 about1 = true := code_word (m := ⟨0, 0⟩) (meth := k0m0) (c := k0c0) (by decide +kernel) rfl rfl rfl (by decide +kernel)
set_option maxRecDepth 65536 in
theorem w_c4 : (Jvm.Cond.code ({ cls := "java/lang/StringBuilder", name := "<init>", desc := "(I)V" } : Jvm.MethodName) jdk_67_method_2_code (2 : Nat) (Option.none : Option Jvm.ClassFile.FieldType)).before args0 about1 = true := code_word (m := ⟨11, 1⟩) (meth := k11m1) (c := k11c1) (by decide +kernel) rfl rfl rfl (by decide +kernel)
set_option maxRecDepth 65536 in
theorem w_c5 : (Jvm.Cond.code ({ cls := "java/lang/AbstractStringBuilder", name := "<init>", desc := "(I)V" } : Jvm.MethodName) jdk_68_method_2_code (2 : Nat) (Option.none : Option Jvm.ClassFile.FieldType)).before args0 about1 = true := code_word (m := ⟨10, 1⟩) (meth := k10m1) (c := k10c1) (by decide +kernel) rfl rfl rfl (by decide +kernel)
set_option maxRecDepth 65536 in
theorem w_c6 : (Jvm.Cond.code ({ cls := "com/example/clear_recall/clearrecall/web/Html", name := "close", desc := "(Ljava/lang/String;)Lcom/example/clear_recall/clearrecall/web/Html;" } : Jvm.MethodName) prog_19_method_4_code (2 : Nat) (Option.some (Jvm.ClassFile.FieldType.object "com/example/clear_recall/clearrecall/web/Html"))).before args0 about1 = true := code_word (m := ⟨8, 1⟩) (meth := k8m1) (c := k8c1) (by decide +kernel) rfl rfl rfl (by decide +kernel)
set_option maxRecDepth 65536 in
theorem w_c7 : (Jvm.Cond.code ({ cls := "java/lang/StringBuilder", name := "append", desc := "(Ljava/lang/String;)Ljava/lang/StringBuilder;" } : Jvm.MethodName) jdk_67_method_7_code (2 : Nat) (Option.some (Jvm.ClassFile.FieldType.object "java/lang/StringBuilder"))).before args0 about1 = true := code_word (m := ⟨11, 2⟩) (meth := k11m2) (c := k11c2) (by decide +kernel) rfl rfl rfl (by decide +kernel)
set_option maxRecDepth 65536 in
theorem w_c8 : (Jvm.Cond.code ({ cls := "java/lang/AbstractStringBuilder", name := "append", desc := "(Ljava/lang/String;)Ljava/lang/AbstractStringBuilder;" } : Jvm.MethodName) jdk_68_method_22_code (3 : Nat) (Option.some (Jvm.ClassFile.FieldType.object "java/lang/AbstractStringBuilder"))).before args0 about1 = true := code_word (m := ⟨10, 5⟩) (meth := k10m5) (c := k10c5) (by decide +kernel) rfl rfl rfl (by decide +kernel)
set_option maxRecDepth 65536 in
theorem w_c9 : (Jvm.Cond.code ({ cls := "java/lang/String", name := "length", desc := "()I" } : Jvm.MethodName) jdk_42_method_54_code (1 : Nat) (Option.some Jvm.ClassFile.FieldType.int)).before args0 about1 = true := code_word (m := ⟨7, 3⟩) (meth := k7m3) (c := k7c3) (by decide +kernel) rfl rfl rfl (by decide +kernel)
set_option maxRecDepth 65536 in
theorem w_c10 : (Jvm.Cond.code ({ cls := "java/lang/String", name := "coder", desc := "()B" } : Jvm.MethodName) jdk_42_method_152_code (1 : Nat) (Option.some Jvm.ClassFile.FieldType.byte)).before args0 about1 = true := code_word (m := ⟨7, 8⟩) (meth := k7m8) (c := k7c8) (by decide +kernel) rfl rfl rfl (by decide +kernel)
set_option maxRecDepth 65536 in
theorem w_c11 : (Jvm.Cond.code ({ cls := "java/lang/AbstractStringBuilder", name := "ensureCapacityInternal", desc := "(I)V" } : Jvm.MethodName) jdk_68_method_9_code (3 : Nat) (Option.none : Option Jvm.ClassFile.FieldType)).before args0 about1 = true := code_word (m := ⟨10, 3⟩) (meth := k10m3) (c := k10c3) (by decide +kernel) rfl rfl rfl (by decide +kernel)
set_option maxRecDepth 65536 in
theorem w_c12 : (Jvm.Cond.code ({ cls := "java/lang/AbstractStringBuilder", name := "putStringAt", desc := "(ILjava/lang/String;)V" } : Jvm.MethodName) jdk_68_method_73_code (3 : Nat) (Option.none : Option Jvm.ClassFile.FieldType)).before args0 about1 = true := code_word (m := ⟨10, 10⟩) (meth := k10m10) (c := k10c10) (by decide +kernel) rfl rfl rfl (by decide +kernel)
set_option maxRecDepth 65536 in
theorem w_c13 : (Jvm.Cond.code ({ cls := "java/lang/AbstractStringBuilder", name := "inflateIfNeededFor", desc := "(Ljava/lang/String;)V" } : Jvm.MethodName) jdk_68_method_71_code (2 : Nat) (Option.none : Option Jvm.ClassFile.FieldType)).before args0 about1 = true := code_word (m := ⟨10, 9⟩) (meth := k10m9) (c := k10c9) (by decide +kernel) rfl rfl rfl (by decide +kernel)
set_option maxRecDepth 65536 in
theorem w_c14 : (Jvm.Cond.code ({ cls := "java/lang/String", name := "getBytes", desc := "([BIB)V" } : Jvm.MethodName) jdk_42_method_147_code (4 : Nat) (Option.none : Option Jvm.ClassFile.FieldType)).before args0 about1 = true := code_word (m := ⟨7, 5⟩) (meth := k7m5) (c := k7c5) (by decide +kernel) rfl rfl rfl (by decide +kernel)
set_option maxRecDepth 65536 in
theorem w_c15 : (Jvm.Cond.code ({ cls := "java/lang/StringBuilder", name := "append", desc := "(C)Ljava/lang/StringBuilder;" } : Jvm.MethodName) jdk_67_method_14_code (2 : Nat) (Option.some (Jvm.ClassFile.FieldType.object "java/lang/StringBuilder"))).before args0 about1 = true := code_word (m := ⟨11, 3⟩) (meth := k11m3) (c := k11c3) (by decide +kernel) rfl rfl rfl (by decide +kernel)
set_option maxRecDepth 65536 in
theorem w_c16 : (Jvm.Cond.code ({ cls := "java/lang/AbstractStringBuilder", name := "append", desc := "(C)Ljava/lang/AbstractStringBuilder;" } : Jvm.MethodName) jdk_68_method_31_code (2 : Nat) (Option.some (Jvm.ClassFile.FieldType.object "java/lang/AbstractStringBuilder"))).before args0 about1 = true := code_word (m := ⟨10, 6⟩) (meth := k10m6) (c := k10c6) (by decide +kernel) rfl rfl rfl (by decide +kernel)
set_option maxRecDepth 65536 in
theorem w_c17 : (Jvm.Cond.code ({ cls := "java/lang/AbstractStringBuilder", name := "isLatin1", desc := "()Z" } : Jvm.MethodName) jdk_68_method_68_code (1 : Nat) (Option.some Jvm.ClassFile.FieldType.boolean)).before args0 about1 = true := code_word (m := ⟨10, 8⟩) (meth := k10m8) (c := k10c8) (by decide +kernel) rfl rfl rfl (by decide +kernel)
set_option maxRecDepth 65536 in
theorem w_c18 : (Jvm.Cond.code ({ cls := "java/lang/StringLatin1", name := "canEncode", desc := "(C)Z" } : Jvm.MethodName) jdk_43_method_3_code (1 : Nat) (Option.some Jvm.ClassFile.FieldType.boolean)).before args0 about1 = true := code_word (m := ⟨13, 2⟩) (meth := k13m2) (c := k13c2) (by decide +kernel) rfl rfl rfl (by decide +kernel)
set_option maxRecDepth 65536 in
theorem w_c19 : (Jvm.Cond.code ({ cls := "com/example/clear_recall/clearrecall/web/Html", name := "toString", desc := "()Ljava/lang/String;" } : Jvm.MethodName) prog_19_method_7_code (1 : Nat) (Option.some (Jvm.ClassFile.FieldType.object "java/lang/String"))).before args0 about1 = true := code_word (m := ⟨8, 2⟩) (meth := k8m2) (c := k8c2) (by decide +kernel) rfl rfl rfl (by decide +kernel)
set_option maxRecDepth 65536 in
theorem w_c20 : (Jvm.Cond.code ({ cls := "java/lang/StringBuilder", name := "toString", desc := "()Ljava/lang/String;" } : Jvm.MethodName) jdk_67_method_42_code (1 : Nat) (Option.some (Jvm.ClassFile.FieldType.object "java/lang/String"))).before args0 about1 = true := code_word (m := ⟨11, 4⟩) (meth := k11m4) (c := k11c4) (by decide +kernel) rfl rfl rfl (by decide +kernel)
set_option maxRecDepth 65536 in
theorem w_c21 : (Jvm.Cond.code ({ cls := "java/lang/String", name := "<init>", desc := "(Ljava/lang/StringBuilder;)V" } : Jvm.MethodName) jdk_42_method_53_code (2 : Nat) (Option.none : Option Jvm.ClassFile.FieldType)).before args0 about1 = true := code_word (m := ⟨7, 2⟩) (meth := k7m2) (c := k7c2) (by decide +kernel) rfl rfl rfl (by decide +kernel)
set_option maxRecDepth 65536 in
theorem w_c22 : (Jvm.Cond.code ({ cls := "java/lang/String", name := "<init>", desc := "(Ljava/lang/AbstractStringBuilder;Ljava/lang/Void;)V" } : Jvm.MethodName) jdk_42_method_150_code (5 : Nat) (Option.none : Option Jvm.ClassFile.FieldType)).before args0 about1 = true := code_word (m := ⟨7, 7⟩) (meth := k7m7) (c := k7c7) (by decide +kernel) rfl rfl rfl (by decide +kernel)
set_option maxRecDepth 65536 in
theorem w_c23 : (Jvm.Cond.code ({ cls := "java/lang/AbstractStringBuilder", name := "getValue", desc := "()[B" } : Jvm.MethodName) jdk_68_method_64_code (1 : Nat) (Option.some (Jvm.ClassFile.FieldType.array Jvm.ClassFile.FieldType.byte))).before args0 about1 = true := code_word (m := ⟨10, 7⟩) (meth := k10m7) (c := k10c7) (by decide +kernel) rfl rfl rfl (by decide +kernel)
set_option maxRecDepth 65536 in
theorem w_c24 : (Jvm.Cond.code ({ cls := "java/lang/StringBuilder", name := "length", desc := "()I" } : Jvm.MethodName) jdk_67_method_93_code (1 : Nat) (Option.some Jvm.ClassFile.FieldType.int)).before args0 about1 = true := code_word (m := ⟨11, 5⟩) (meth := k11m5) (c := k11c5) (by decide +kernel) rfl rfl rfl (by decide +kernel)
set_option maxRecDepth 65536 in
theorem w_c25 : (Jvm.Cond.code ({ cls := "java/lang/AbstractStringBuilder", name := "length", desc := "()I" } : Jvm.MethodName) jdk_68_method_6_code (1 : Nat) (Option.some Jvm.ClassFile.FieldType.int)).before args0 about1 = true := code_word (m := ⟨10, 2⟩) (meth := k10m2) (c := k10c2) (by decide +kernel) rfl rfl rfl (by decide +kernel)
set_option maxRecDepth 65536 in
theorem w_c26 : (Jvm.Cond.code ({ cls := "java/util/Arrays", name := "copyOfRange", desc := "([BII)[B" } : Jvm.MethodName) jdk_65_method_132_code (3 : Nat) (Option.some (Jvm.ClassFile.FieldType.array Jvm.ClassFile.FieldType.byte))).before args0 about1 = true := code_word (m := ⟨14, 2⟩) (meth := k14m2) (c := k14c2) (by decide +kernel) rfl rfl rfl (by decide +kernel)
set_option maxRecDepth 65536 in
theorem w_c27 : (Jvm.Cond.code ({ cls := "java/util/Arrays", name := "copyOfRangeByte", desc := "([BII)[B" } : Jvm.MethodName) jdk_65_method_133_code (5 : Nat) (Option.some (Jvm.ClassFile.FieldType.array Jvm.ClassFile.FieldType.byte))).before args0 about1 = true := code_word (m := ⟨14, 3⟩) (meth := k14m3) (c := k14c3) (by decide +kernel) rfl rfl rfl (by decide +kernel)
set_option maxRecDepth 65536 in
theorem w_c28 : (Jvm.Cond.code ({ cls := "java/util/Arrays", name := "checkLength", desc := "(II)V" } : Jvm.MethodName) jdk_65_method_131_code (2 : Nat) (Option.none : Option Jvm.ClassFile.FieldType)).before args0 about1 = true := code_word (m := ⟨14, 1⟩) (meth := k14m1) (c := k14c1) (by decide +kernel) rfl rfl rfl (by decide +kernel)
set_option maxRecDepth 65536 in
theorem w_c29 : (Jvm.Cond.code ({ cls := "java/lang/Math", name := "min", desc := "(II)I" } : Jvm.MethodName) jdk_29_method_69_code (2 : Nat) (Option.some Jvm.ClassFile.FieldType.int)).before args0 about1 = true := code_word (m := ⟨15, 1⟩) (meth := k15m1) (c := k15c1) (by decide +kernel) rfl rfl rfl (by decide +kernel)
set_option maxRecDepth 65536 in
theorem w_c30 : (Jvm.Cond.code ({ cls := "com/example/clear_recall/clearrecall/web/HtmlClosePinLaw", name := "closing", desc := "(Ljava/lang/String;IICCC)Z" } : Jvm.MethodName) method_4_code (6 : Nat) (Option.some Jvm.ClassFile.FieldType.boolean)).before args0 about1 = true := code_word (m := ⟨1, 3⟩) (meth := k1m3) (c := k1c3) (by decide +kernel) rfl rfl rfl (by decide +kernel)
set_option maxRecDepth 65536 in
theorem w_c31 : (Jvm.Cond.code ({ cls := "java/lang/String", name := "charAt", desc := "(I)C" } : Jvm.MethodName) jdk_42_method_56_code (2 : Nat) (Option.some Jvm.ClassFile.FieldType.char)).before args0 about1 = true := code_word (m := ⟨7, 4⟩) (meth := k7m4) (c := k7c4) (by decide +kernel) rfl rfl rfl (by decide +kernel)
set_option maxRecDepth 65536 in
theorem w_c32 : (Jvm.Cond.code ({ cls := "java/lang/String", name := "isLatin1", desc := "()Z" } : Jvm.MethodName) jdk_42_method_154_code (1 : Nat) (Option.some Jvm.ClassFile.FieldType.boolean)).before args0 about1 = true := code_word (m := ⟨7, 9⟩) (meth := k7m9) (c := k7c9) (by decide +kernel) rfl rfl rfl (by decide +kernel)
set_option maxRecDepth 65536 in
theorem w_c33 : (Jvm.Cond.code ({ cls := "java/lang/StringLatin1", name := "charAt", desc := "([BI)C" } : Jvm.MethodName) jdk_43_method_2_code (2 : Nat) (Option.some Jvm.ClassFile.FieldType.char)).before args0 about1 = true := code_word (m := ⟨13, 1⟩) (meth := k13m1) (c := k13c1) (by decide +kernel) rfl rfl rfl (by decide +kernel)
set_option maxRecDepth 65536 in
theorem w_c34 : (Jvm.Cond.code ({ cls := "java/lang/String", name := "checkIndex", desc := "(II)V" } : Jvm.MethodName) jdk_42_method_155_code (2 : Nat) (Option.none : Option Jvm.ClassFile.FieldType)).before args0 about1 = true := code_word (m := ⟨7, 10⟩) (meth := k7m10) (c := k7c10) (by decide +kernel) rfl rfl rfl (by decide +kernel)
set_option maxRecDepth 65536 in
theorem w_c35 : (Jvm.Cond.code ({ cls := "jdk/internal/util/Preconditions", name := "checkIndex", desc := "(IILjava/util/function/BiFunction;)I" } : Jvm.MethodName) jdk_41_method_11_code (3 : Nat) (Option.some Jvm.ClassFile.FieldType.int)).before args0 about1 = true := code_word (m := ⟨16, 1⟩) (meth := k16m1) (c := k16c1) (by decide +kernel) rfl rfl rfl (by decide +kernel)
set_option maxRecDepth 65536 in
theorem w_c36 : (Jvm.Cond.code ({ cls := "java/lang/String", name := "<init>", desc := "([C)V" } : Jvm.MethodName) jdk_42_method_3_code (2 : Nat) (Option.none : Option Jvm.ClassFile.FieldType)).before args0 about1 = true := code_word (m := ⟨7, 1⟩) (meth := k7m1) (c := k7c1) (by decide +kernel) rfl rfl rfl (by decide +kernel)
set_option maxRecDepth 65536 in
theorem w_c37 : (Jvm.Cond.code ({ cls := "java/lang/String", name := "<init>", desc := "([CIILjava/lang/Void;)V" } : Jvm.MethodName) jdk_42_method_149_code (6 : Nat) (Option.none : Option Jvm.ClassFile.FieldType)).before args0 about1 = true := code_word (m := ⟨7, 6⟩) (meth := k7m6) (c := k7c6) (by decide +kernel) rfl rfl rfl (by decide +kernel)
set_option maxRecDepth 65536 in
theorem w_c38 : (Jvm.Cond.code ({ cls := "java/lang/StringUTF16", name := "compress", desc := "([CII)[B" } : Jvm.MethodName) jdk_52_method_16_code (6 : Nat) (Option.some (Jvm.ClassFile.FieldType.array Jvm.ClassFile.FieldType.byte))).before args0 about1 = true := code_word (m := ⟨17, 8⟩) (meth := k17m8) (c := k17c8) (by decide +kernel) rfl rfl rfl (by decide +kernel)
set_option maxRecDepth 65536 in
theorem w_c39 : (Jvm.Cond.code ({ cls := "java/lang/StringUTF16", name := "compress", desc := "([CI[BII)I" } : Jvm.MethodName) jdk_52_method_21_code (7 : Nat) (Option.some Jvm.ClassFile.FieldType.int)).before args0 about1 = true := code_word (m := ⟨17, 9⟩) (meth := k17m9) (c := k17c9) (by decide +kernel) rfl rfl rfl (by decide +kernel)
set_option maxRecDepth 65536 in
theorem w_c40 : (Jvm.Cond.code ({ cls := "java/lang/StringUTF16", name := "coderFromArrayLen", desc := "([BI)B" } : Jvm.MethodName) jdk_52_method_15_code (2 : Nat) (Option.some Jvm.ClassFile.FieldType.byte)).before args0 about1 = true := code_word (m := ⟨17, 7⟩) (meth := k17m7) (c := k17c7) (by decide +kernel) rfl rfl rfl (by decide +kernel)
set_option maxRecDepth 65536 in
theorem w_c41 : (Jvm.Cond.code ({ cls := "java/lang/StringUTF16", name := "toBytes", desc := "([CII)[B" } : Jvm.MethodName) jdk_52_method_14_code (5 : Nat) (Option.some (Jvm.ClassFile.FieldType.array Jvm.ClassFile.FieldType.byte))).before args0 about1 = true := code_word (m := ⟨17, 6⟩) (meth := k17m6) (c := k17c6) (by decide +kernel) rfl rfl rfl (by decide +kernel)
set_option maxRecDepth 65536 in
theorem w_c42 : (Jvm.Cond.code ({ cls := "java/lang/StringUTF16", name := "newBytesFor", desc := "(I)[B" } : Jvm.MethodName) jdk_52_method_2_code (1 : Nat) (Option.some (Jvm.ClassFile.FieldType.array Jvm.ClassFile.FieldType.byte))).before args0 about1 = true := code_word (m := ⟨17, 1⟩) (meth := k17m1) (c := k17c1) (by decide +kernel) rfl rfl rfl (by decide +kernel)
set_option maxRecDepth 65536 in
theorem w_c43 : (Jvm.Cond.code ({ cls := "java/lang/StringUTF16", name := "newBytesLength", desc := "(I)I" } : Jvm.MethodName) jdk_52_method_3_code (1 : Nat) (Option.some Jvm.ClassFile.FieldType.int)).before args0 about1 = true := code_word (m := ⟨17, 2⟩) (meth := k17m2) (c := k17c2) (by decide +kernel) rfl rfl rfl (by decide +kernel)
set_option maxRecDepth 65536 in
theorem w_c44 : (Jvm.Cond.code ({ cls := "java/lang/StringUTF16", name := "putChar", desc := "([BII)V" } : Jvm.MethodName) jdk_52_method_4_code (3 : Nat) (Option.none : Option Jvm.ClassFile.FieldType)).before args0 about1 = true := code_word (m := ⟨17, 3⟩) (meth := k17m3) (c := k17c3) (by decide +kernel) rfl rfl rfl (by decide +kernel)
set_option maxRecDepth 65536 in
theorem w_c45 : (Jvm.Cond.code ({ cls := "java/lang/StringUTF16", name := "getChar", desc := "([BI)C" } : Jvm.MethodName) jdk_52_method_5_code (2 : Nat) (Option.some Jvm.ClassFile.FieldType.char)).before args0 about1 = true := code_word (m := ⟨17, 4⟩) (meth := k17m4) (c := k17c4) (by decide +kernel) rfl rfl rfl (by decide +kernel)
set_option maxRecDepth 65536 in
theorem w_c46 : (Jvm.Cond.code ({ cls := "java/lang/AbstractStringBuilder", name := "inflate", desc := "()V" } : Jvm.MethodName) jdk_68_method_11_code (2 : Nat) (Option.none : Option Jvm.ClassFile.FieldType)).before args0 about1 = true := code_word (m := ⟨10, 4⟩) (meth := k10m4) (c := k10c4) (by decide +kernel) rfl rfl rfl (by decide +kernel)
set_option maxRecDepth 65536 in
theorem w_c47 : (Jvm.Cond.code ({ cls := "java/lang/StringLatin1", name := "inflate", desc := "([BI[BII)V" } : Jvm.MethodName) jdk_43_method_50_code (5 : Nat) (Option.none : Option Jvm.ClassFile.FieldType)).before args0 about1 = true := code_word (m := ⟨13, 3⟩) (meth := k13m3) (c := k13c3) (by decide +kernel) rfl rfl rfl (by decide +kernel)
set_option maxRecDepth 65536 in
theorem w_c48 : (Jvm.Cond.code ({ cls := "java/lang/StringUTF16", name := "inflate", desc := "([BI[BII)V" } : Jvm.MethodName) jdk_52_method_86_code (6 : Nat) (Option.none : Option Jvm.ClassFile.FieldType)).before args0 about1 = true := code_word (m := ⟨17, 12⟩) (meth := k17m12) (c := k17c12) (by decide +kernel) rfl rfl rfl (by decide +kernel)
set_option maxRecDepth 65536 in
theorem w_c49 : (Jvm.Cond.code ({ cls := "java/lang/StringUTF16", name := "checkBoundsOffCount", desc := "(II[B)V" } : Jvm.MethodName) jdk_52_method_94_code (3 : Nat) (Option.none : Option Jvm.ClassFile.FieldType)).before args0 about1 = true := code_word (m := ⟨17, 14⟩) (meth := k17m14) (c := k17c14) (by decide +kernel) rfl rfl rfl (by decide +kernel)
set_option maxRecDepth 65536 in
theorem w_c50 : (Jvm.Cond.code ({ cls := "java/lang/StringUTF16", name := "length", desc := "([B)I" } : Jvm.MethodName) jdk_52_method_6_code (1 : Nat) (Option.some Jvm.ClassFile.FieldType.int)).before args0 about1 = true := code_word (m := ⟨17, 5⟩) (meth := k17m5) (c := k17c5) (by decide +kernel) rfl rfl rfl (by decide +kernel)
set_option maxRecDepth 65536 in
theorem w_c51 : (Jvm.Cond.code ({ cls := "java/lang/String", name := "checkBoundsOffCount", desc := "(III)I" } : Jvm.MethodName) jdk_42_method_157_code (3 : Nat) (Option.some Jvm.ClassFile.FieldType.int)).before args0 about1 = true := code_word (m := ⟨7, 11⟩) (meth := k7m11) (c := k7c11) (by decide +kernel) rfl rfl rfl (by decide +kernel)
set_option maxRecDepth 65536 in
theorem w_c52 : (Jvm.Cond.code ({ cls := "jdk/internal/util/Preconditions", name := "checkFromIndexSize", desc := "(IIILjava/util/function/BiFunction;)I" } : Jvm.MethodName) jdk_41_method_13_code (4 : Nat) (Option.some Jvm.ClassFile.FieldType.int)).before args0 about1 = true := code_word (m := ⟨16, 2⟩) (meth := k16m2) (c := k16c2) (by decide +kernel) rfl rfl rfl (by decide +kernel)
set_option maxRecDepth 65536 in
theorem w_c53 : (Jvm.Cond.code ({ cls := "java/lang/StringUTF16", name := "putCharSB", desc := "([BII)V" } : Jvm.MethodName) jdk_52_method_71_code (3 : Nat) (Option.none : Option Jvm.ClassFile.FieldType)).before args0 about1 = true := code_word (m := ⟨17, 10⟩) (meth := k17m10) (c := k17c10) (by decide +kernel) rfl rfl rfl (by decide +kernel)
set_option maxRecDepth 65536 in
theorem w_c54 : (Jvm.Cond.code ({ cls := "java/lang/StringUTF16", name := "checkIndex", desc := "(I[B)V" } : Jvm.MethodName) jdk_52_method_91_code (2 : Nat) (Option.none : Option Jvm.ClassFile.FieldType)).before args0 about1 = true := code_word (m := ⟨17, 13⟩) (meth := k17m13) (c := k17c13) (by decide +kernel) rfl rfl rfl (by decide +kernel)
set_option maxRecDepth 65536 in
theorem w_c55 : (Jvm.Cond.code ({ cls := "java/lang/StringUTF16", name := "charAt", desc := "([BI)C" } : Jvm.MethodName) jdk_52_method_83_code (2 : Nat) (Option.some Jvm.ClassFile.FieldType.char)).before args0 about1 = true := code_word (m := ⟨17, 11⟩) (meth := k17m11) (c := k17c11) (by decide +kernel) rfl rfl rfl (by decide +kernel)
def codes1 : List Jvm.Cond := [Jvm.Cond.code x code maxLocals ret, Jvm.Cond.code ({ cls := "com/example/clear_recall/clearrecall/web/HtmlClosePinLaw", name := "tag", desc := "(ICCC)Ljava/lang/String;" } : Jvm.MethodName) method_3_code (4 : Nat) (Option.some (Jvm.ClassFile.FieldType.object "java/lang/String")), Jvm.Cond.code ({ cls := "com/example/clear_recall/clearrecall/web/Html", name := "<init>", desc := "()V" } : Jvm.MethodName) prog_19_method_1_code (1 : Nat) (Option.none : Option Jvm.ClassFile.FieldType), Jvm.Cond.code ({ cls := "java/lang/Object", name := "<init>", desc := "()V" } : Jvm.MethodName) object_method_1_code (1 : Nat) (Option.none : Option Jvm.ClassFile.FieldType), Jvm.Cond.code ({ cls := "java/lang/StringBuilder", name := "<init>", desc := "(I)V" } : Jvm.MethodName) jdk_67_method_2_code (2 : Nat) (Option.none : Option Jvm.ClassFile.FieldType), Jvm.Cond.code ({ cls := "java/lang/AbstractStringBuilder", name := "<init>", desc := "(I)V" } : Jvm.MethodName) jdk_68_method_2_code (2 : Nat) (Option.none : Option Jvm.ClassFile.FieldType), Jvm.Cond.code ({ cls := "com/example/clear_recall/clearrecall/web/Html", name := "close", desc := "(Ljava/lang/String;)Lcom/example/clear_recall/clearrecall/web/Html;" } : Jvm.MethodName) prog_19_method_4_code (2 : Nat) (Option.some (Jvm.ClassFile.FieldType.object "com/example/clear_recall/clearrecall/web/Html")), Jvm.Cond.code ({ cls := "java/lang/StringBuilder", name := "append", desc := "(Ljava/lang/String;)Ljava/lang/StringBuilder;" } : Jvm.MethodName) jdk_67_method_7_code (2 : Nat) (Option.some (Jvm.ClassFile.FieldType.object "java/lang/StringBuilder")), Jvm.Cond.code ({ cls := "java/lang/AbstractStringBuilder", name := "append", desc := "(Ljava/lang/String;)Ljava/lang/AbstractStringBuilder;" } : Jvm.MethodName) jdk_68_method_22_code (3 : Nat) (Option.some (Jvm.ClassFile.FieldType.object "java/lang/AbstractStringBuilder")), Jvm.Cond.code ({ cls := "java/lang/String", name := "length", desc := "()I" } : Jvm.MethodName) jdk_42_method_54_code (1 : Nat) (Option.some Jvm.ClassFile.FieldType.int), Jvm.Cond.code ({ cls := "java/lang/String", name := "coder", desc := "()B" } : Jvm.MethodName) jdk_42_method_152_code (1 : Nat) (Option.some Jvm.ClassFile.FieldType.byte), Jvm.Cond.code ({ cls := "java/lang/AbstractStringBuilder", name := "ensureCapacityInternal", desc := "(I)V" } : Jvm.MethodName) jdk_68_method_9_code (3 : Nat) (Option.none : Option Jvm.ClassFile.FieldType), Jvm.Cond.code ({ cls := "java/lang/AbstractStringBuilder", name := "putStringAt", desc := "(ILjava/lang/String;)V" } : Jvm.MethodName) jdk_68_method_73_code (3 : Nat) (Option.none : Option Jvm.ClassFile.FieldType), Jvm.Cond.code ({ cls := "java/lang/AbstractStringBuilder", name := "inflateIfNeededFor", desc := "(Ljava/lang/String;)V" } : Jvm.MethodName) jdk_68_method_71_code (2 : Nat) (Option.none : Option Jvm.ClassFile.FieldType), Jvm.Cond.code ({ cls := "java/lang/String", name := "getBytes", desc := "([BIB)V" } : Jvm.MethodName) jdk_42_method_147_code (4 : Nat) (Option.none : Option Jvm.ClassFile.FieldType), Jvm.Cond.code ({ cls := "java/lang/StringBuilder", name := "append", desc := "(C)Ljava/lang/StringBuilder;" } : Jvm.MethodName) jdk_67_method_14_code (2 : Nat) (Option.some (Jvm.ClassFile.FieldType.object "java/lang/StringBuilder")), Jvm.Cond.code ({ cls := "java/lang/AbstractStringBuilder", name := "append", desc := "(C)Ljava/lang/AbstractStringBuilder;" } : Jvm.MethodName) jdk_68_method_31_code (2 : Nat) (Option.some (Jvm.ClassFile.FieldType.object "java/lang/AbstractStringBuilder")), Jvm.Cond.code ({ cls := "java/lang/AbstractStringBuilder", name := "isLatin1", desc := "()Z" } : Jvm.MethodName) jdk_68_method_68_code (1 : Nat) (Option.some Jvm.ClassFile.FieldType.boolean), Jvm.Cond.code ({ cls := "java/lang/StringLatin1", name := "canEncode", desc := "(C)Z" } : Jvm.MethodName) jdk_43_method_3_code (1 : Nat) (Option.some Jvm.ClassFile.FieldType.boolean), Jvm.Cond.code ({ cls := "com/example/clear_recall/clearrecall/web/Html", name := "toString", desc := "()Ljava/lang/String;" } : Jvm.MethodName) prog_19_method_7_code (1 : Nat) (Option.some (Jvm.ClassFile.FieldType.object "java/lang/String")), Jvm.Cond.code ({ cls := "java/lang/StringBuilder", name := "toString", desc := "()Ljava/lang/String;" } : Jvm.MethodName) jdk_67_method_42_code (1 : Nat) (Option.some (Jvm.ClassFile.FieldType.object "java/lang/String")), Jvm.Cond.code ({ cls := "java/lang/String", name := "<init>", desc := "(Ljava/lang/StringBuilder;)V" } : Jvm.MethodName) jdk_42_method_53_code (2 : Nat) (Option.none : Option Jvm.ClassFile.FieldType), Jvm.Cond.code ({ cls := "java/lang/String", name := "<init>", desc := "(Ljava/lang/AbstractStringBuilder;Ljava/lang/Void;)V" } : Jvm.MethodName) jdk_42_method_150_code (5 : Nat) (Option.none : Option Jvm.ClassFile.FieldType), Jvm.Cond.code ({ cls := "java/lang/AbstractStringBuilder", name := "getValue", desc := "()[B" } : Jvm.MethodName) jdk_68_method_64_code (1 : Nat) (Option.some (Jvm.ClassFile.FieldType.array Jvm.ClassFile.FieldType.byte)), Jvm.Cond.code ({ cls := "java/lang/StringBuilder", name := "length", desc := "()I" } : Jvm.MethodName) jdk_67_method_93_code (1 : Nat) (Option.some Jvm.ClassFile.FieldType.int), Jvm.Cond.code ({ cls := "java/lang/AbstractStringBuilder", name := "length", desc := "()I" } : Jvm.MethodName) jdk_68_method_6_code (1 : Nat) (Option.some Jvm.ClassFile.FieldType.int), Jvm.Cond.code ({ cls := "java/util/Arrays", name := "copyOfRange", desc := "([BII)[B" } : Jvm.MethodName) jdk_65_method_132_code (3 : Nat) (Option.some (Jvm.ClassFile.FieldType.array Jvm.ClassFile.FieldType.byte)), Jvm.Cond.code ({ cls := "java/util/Arrays", name := "copyOfRangeByte", desc := "([BII)[B" } : Jvm.MethodName) jdk_65_method_133_code (5 : Nat) (Option.some (Jvm.ClassFile.FieldType.array Jvm.ClassFile.FieldType.byte)), Jvm.Cond.code ({ cls := "java/util/Arrays", name := "checkLength", desc := "(II)V" } : Jvm.MethodName) jdk_65_method_131_code (2 : Nat) (Option.none : Option Jvm.ClassFile.FieldType), Jvm.Cond.code ({ cls := "java/lang/Math", name := "min", desc := "(II)I" } : Jvm.MethodName) jdk_29_method_69_code (2 : Nat) (Option.some Jvm.ClassFile.FieldType.int), Jvm.Cond.code ({ cls := "com/example/clear_recall/clearrecall/web/HtmlClosePinLaw", name := "closing", desc := "(Ljava/lang/String;IICCC)Z" } : Jvm.MethodName) method_4_code (6 : Nat) (Option.some Jvm.ClassFile.FieldType.boolean), Jvm.Cond.code ({ cls := "java/lang/String", name := "charAt", desc := "(I)C" } : Jvm.MethodName) jdk_42_method_56_code (2 : Nat) (Option.some Jvm.ClassFile.FieldType.char), Jvm.Cond.code ({ cls := "java/lang/String", name := "isLatin1", desc := "()Z" } : Jvm.MethodName) jdk_42_method_154_code (1 : Nat) (Option.some Jvm.ClassFile.FieldType.boolean), Jvm.Cond.code ({ cls := "java/lang/StringLatin1", name := "charAt", desc := "([BI)C" } : Jvm.MethodName) jdk_43_method_2_code (2 : Nat) (Option.some Jvm.ClassFile.FieldType.char), Jvm.Cond.code ({ cls := "java/lang/String", name := "checkIndex", desc := "(II)V" } : Jvm.MethodName) jdk_42_method_155_code (2 : Nat) (Option.none : Option Jvm.ClassFile.FieldType), Jvm.Cond.code ({ cls := "jdk/internal/util/Preconditions", name := "checkIndex", desc := "(IILjava/util/function/BiFunction;)I" } : Jvm.MethodName) jdk_41_method_11_code (3 : Nat) (Option.some Jvm.ClassFile.FieldType.int), Jvm.Cond.code ({ cls := "java/lang/String", name := "<init>", desc := "([C)V" } : Jvm.MethodName) jdk_42_method_3_code (2 : Nat) (Option.none : Option Jvm.ClassFile.FieldType), Jvm.Cond.code ({ cls := "java/lang/String", name := "<init>", desc := "([CIILjava/lang/Void;)V" } : Jvm.MethodName) jdk_42_method_149_code (6 : Nat) (Option.none : Option Jvm.ClassFile.FieldType), Jvm.Cond.code ({ cls := "java/lang/StringUTF16", name := "compress", desc := "([CII)[B" } : Jvm.MethodName) jdk_52_method_16_code (6 : Nat) (Option.some (Jvm.ClassFile.FieldType.array Jvm.ClassFile.FieldType.byte)), Jvm.Cond.code ({ cls := "java/lang/StringUTF16", name := "compress", desc := "([CI[BII)I" } : Jvm.MethodName) jdk_52_method_21_code (7 : Nat) (Option.some Jvm.ClassFile.FieldType.int), Jvm.Cond.code ({ cls := "java/lang/StringUTF16", name := "coderFromArrayLen", desc := "([BI)B" } : Jvm.MethodName) jdk_52_method_15_code (2 : Nat) (Option.some Jvm.ClassFile.FieldType.byte), Jvm.Cond.code ({ cls := "java/lang/StringUTF16", name := "toBytes", desc := "([CII)[B" } : Jvm.MethodName) jdk_52_method_14_code (5 : Nat) (Option.some (Jvm.ClassFile.FieldType.array Jvm.ClassFile.FieldType.byte)), Jvm.Cond.code ({ cls := "java/lang/StringUTF16", name := "newBytesFor", desc := "(I)[B" } : Jvm.MethodName) jdk_52_method_2_code (1 : Nat) (Option.some (Jvm.ClassFile.FieldType.array Jvm.ClassFile.FieldType.byte)), Jvm.Cond.code ({ cls := "java/lang/StringUTF16", name := "newBytesLength", desc := "(I)I" } : Jvm.MethodName) jdk_52_method_3_code (1 : Nat) (Option.some Jvm.ClassFile.FieldType.int), Jvm.Cond.code ({ cls := "java/lang/StringUTF16", name := "putChar", desc := "([BII)V" } : Jvm.MethodName) jdk_52_method_4_code (3 : Nat) (Option.none : Option Jvm.ClassFile.FieldType), Jvm.Cond.code ({ cls := "java/lang/StringUTF16", name := "getChar", desc := "([BI)C" } : Jvm.MethodName) jdk_52_method_5_code (2 : Nat) (Option.some Jvm.ClassFile.FieldType.char), Jvm.Cond.code ({ cls := "java/lang/AbstractStringBuilder", name := "inflate", desc := "()V" } : Jvm.MethodName) jdk_68_method_11_code (2 : Nat) (Option.none : Option Jvm.ClassFile.FieldType), Jvm.Cond.code ({ cls := "java/lang/StringLatin1", name := "inflate", desc := "([BI[BII)V" } : Jvm.MethodName) jdk_43_method_50_code (5 : Nat) (Option.none : Option Jvm.ClassFile.FieldType), Jvm.Cond.code ({ cls := "java/lang/StringUTF16", name := "inflate", desc := "([BI[BII)V" } : Jvm.MethodName) jdk_52_method_86_code (6 : Nat) (Option.none : Option Jvm.ClassFile.FieldType), Jvm.Cond.code ({ cls := "java/lang/StringUTF16", name := "checkBoundsOffCount", desc := "(II[B)V" } : Jvm.MethodName) jdk_52_method_94_code (3 : Nat) (Option.none : Option Jvm.ClassFile.FieldType), Jvm.Cond.code ({ cls := "java/lang/StringUTF16", name := "length", desc := "([B)I" } : Jvm.MethodName) jdk_52_method_6_code (1 : Nat) (Option.some Jvm.ClassFile.FieldType.int), Jvm.Cond.code ({ cls := "java/lang/String", name := "checkBoundsOffCount", desc := "(III)I" } : Jvm.MethodName) jdk_42_method_157_code (3 : Nat) (Option.some Jvm.ClassFile.FieldType.int), Jvm.Cond.code ({ cls := "jdk/internal/util/Preconditions", name := "checkFromIndexSize", desc := "(IIILjava/util/function/BiFunction;)I" } : Jvm.MethodName) jdk_41_method_13_code (4 : Nat) (Option.some Jvm.ClassFile.FieldType.int), Jvm.Cond.code ({ cls := "java/lang/StringUTF16", name := "putCharSB", desc := "([BII)V" } : Jvm.MethodName) jdk_52_method_71_code (3 : Nat) (Option.none : Option Jvm.ClassFile.FieldType), Jvm.Cond.code ({ cls := "java/lang/StringUTF16", name := "checkIndex", desc := "(I[B)V" } : Jvm.MethodName) jdk_52_method_91_code (2 : Nat) (Option.none : Option Jvm.ClassFile.FieldType), Jvm.Cond.code ({ cls := "java/lang/StringUTF16", name := "charAt", desc := "([BI)C" } : Jvm.MethodName) jdk_52_method_83_code (2 : Nat) (Option.some Jvm.ClassFile.FieldType.char)]
set_option maxRecDepth 65536 in
theorem codes_eq : words1.filter isCode = codes1 := rfl
theorem w_codes : ∀ c ∈ words1.filter isCode, c.before args0 about1 = true := by
  rw [codes_eq]
  intro c hc
  simp only [codes1, List.mem_cons, List.not_mem_nil, or_false] at hc
  rcases hc with rfl | rfl | rfl | rfl | rfl | rfl | rfl | rfl | rfl | rfl | rfl | rfl | rfl | rfl | rfl | rfl | rfl | rfl | rfl | rfl | rfl | rfl | rfl | rfl | rfl | rfl | rfl | rfl | rfl | rfl | rfl | rfl | rfl | rfl | rfl | rfl | rfl | rfl | rfl | rfl | rfl | rfl | rfl | rfl | rfl | rfl | rfl | rfl | rfl | rfl | rfl | rfl | rfl | rfl | rfl | rfl
  · exact w_c0
  · exact w_c1
  · exact w_c2
  · exact w_c3
  · exact w_c4
  · exact w_c5
  · exact w_c6
  · exact w_c7
  · exact w_c8
  · exact w_c9
  · exact w_c10
  · exact w_c11
  · exact w_c12
  · exact w_c13
  · exact w_c14
  · exact w_c15
  · exact w_c16
  · exact w_c17
  · exact w_c18
  · exact w_c19
  · exact w_c20
  · exact w_c21
  · exact w_c22
  · exact w_c23
  · exact w_c24
  · exact w_c25
  · exact w_c26
  · exact w_c27
  · exact w_c28
  · exact w_c29
  · exact w_c30
  · exact w_c31
  · exact w_c32
  · exact w_c33
  · exact w_c34
  · exact w_c35
  · exact w_c36
  · exact w_c37
  · exact w_c38
  · exact w_c39
  · exact w_c40
  · exact w_c41
  · exact w_c42
  · exact w_c43
  · exact w_c44
  · exact w_c45
  · exact w_c46
  · exact w_c47
  · exact w_c48
  · exact w_c49
  · exact w_c50
  · exact w_c51
  · exact w_c52
  · exact w_c53
  · exact w_c54
  · exact w_c55
set_option maxRecDepth 65536 in
theorem w_t1 : (words1.take 24).all (fun c => isCode c || c.before args0 about1) = true := by decide +kernel
set_option maxRecDepth 65536 in
theorem w_t2 : ((words1.drop 24).take 24).all (fun c => isCode c || c.before args0 about1) = true := by decide +kernel
set_option maxRecDepth 65536 in
theorem w_t3 : (((words1.drop 24).drop 24).take 24).all (fun c => isCode c || c.before args0 about1) = true := by decide +kernel
set_option maxRecDepth 65536 in
theorem w_t4 : ((((words1.drop 24).drop 24).drop 24).take 24).all (fun c => isCode c || c.before args0 about1) = true := by decide +kernel
set_option maxRecDepth 65536 in
theorem w_t5 : (((((words1.drop 24).drop 24).drop 24).drop 24).take 24).all (fun c => isCode c || c.before args0 about1) = true := by decide +kernel
set_option maxRecDepth 65536 in
theorem w_t6 : ((((((words1.drop 24).drop 24).drop 24).drop 24).drop 24).take 24).all (fun c => isCode c || c.before args0 about1) = true := by decide +kernel
set_option maxRecDepth 65536 in
theorem w_t7 : (((((((words1.drop 24).drop 24).drop 24).drop 24).drop 24).drop 24).take 24).all (fun c => isCode c || c.before args0 about1) = true := by decide +kernel
set_option maxRecDepth 65536 in
theorem w_t8 : ((((((((words1.drop 24).drop 24).drop 24).drop 24).drop 24).drop 24).drop 24).take 24).all (fun c => isCode c || c.before args0 about1) = true := by decide +kernel
set_option maxRecDepth 65536 in
theorem w_t9 : (((((((((words1.drop 24).drop 24).drop 24).drop 24).drop 24).drop 24).drop 24).drop 24).take 24).all (fun c => isCode c || c.before args0 about1) = true := by decide +kernel
set_option maxRecDepth 65536 in
theorem w_t10 : ((((((((((words1.drop 24).drop 24).drop 24).drop 24).drop 24).drop 24).drop 24).drop 24).drop 24).take 24).all (fun c => isCode c || c.before args0 about1) = true := by decide +kernel
set_option maxRecDepth 65536 in
theorem w_t11 : ((((((((((words1.drop 24).drop 24).drop 24).drop 24).drop 24).drop 24).drop 24).drop 24).drop 24).drop 24).all (fun c => isCode c || c.before args0 about1) = true := by decide +kernel
theorem w_tables : (allAtoms (Jvm.Cond.code x code maxLocals ret :: tables_1)).before args0 about1 = true := by
  rw [allAtoms_all]
  show words1.all (fun c => c.before args0 about1) = true
  refine all_split ?_ w_codes
  rw [← List.take_append_drop 24 words1, List.all_append, w_t1, ← List.take_append_drop 24 (words1.drop 24), List.all_append, w_t2, ← List.take_append_drop 24 ((words1.drop 24).drop 24), List.all_append, w_t3, ← List.take_append_drop 24 (((words1.drop 24).drop 24).drop 24), List.all_append, w_t4, ← List.take_append_drop 24 ((((words1.drop 24).drop 24).drop 24).drop 24), List.all_append, w_t5, ← List.take_append_drop 24 (((((words1.drop 24).drop 24).drop 24).drop 24).drop 24), List.all_append, w_t6, ← List.take_append_drop 24 ((((((words1.drop 24).drop 24).drop 24).drop 24).drop 24).drop 24), List.all_append, w_t7, ← List.take_append_drop 24 (((((((words1.drop 24).drop 24).drop 24).drop 24).drop 24).drop 24).drop 24), List.all_append, w_t8, ← List.take_append_drop 24 ((((((((words1.drop 24).drop 24).drop 24).drop 24).drop 24).drop 24).drop 24).drop 24), List.all_append, w_t9, ← List.take_append_drop 24 (((((((((words1.drop 24).drop 24).drop 24).drop 24).drop 24).drop 24).drop 24).drop 24).drop 24), List.all_append, w_t10, w_t11]
  rfl
set_option maxRecDepth 65536 in
theorem w_rest : rest_1_c.before args0 about1 = true := by decide +kernel
set_option maxRecDepth 65536 in
theorem w_case : (Jvm.Cond.and given_1 narrow_1).before args0 about1 = true := by decide +kernel
set_option maxRecDepth 65536 in
theorem w_consts : constsHeld consts_1 about1 := Jvm.Lit.constsHeldB_iff.mp (by decide +kernel)
theorem w_applies : (headSpec (Jvm.Cond.code x code maxLocals ret :: tables_1) room_1).applies x e0.platform about1 = true :=
  (Spec.applies_iff w_frames).mpr ⟨w_running, w_runnable, w_alone, w_named, w_hears, w_ripe, w_room, w_tables⟩
theorem atStart : AtStart classFile x code maxLocals ret World_1 tables_1 room_1 Calls_1 rest_1 Pre_1 launch0 p0 e0 about1 theMethod args0 below0 :=
  ⟨lists_1, trivial, launch0.admits_env _ _ _, launch0.least_env, fairChoices_fair.cas, fairChoices_fair.clock, w_frames, w_args, w_heap, w_applies, ⟨w_consts, trivial⟩, w_rest, w_case⟩
end start1
theorem witness_1 : WitnessClaimed_1 := ⟨start1.p0, start1.e0, start1.about1, start1.theMethod, start1.args0, start1.below0, start1.atStart⟩
end Jvm.Pilot.@@N@@
