import JvmDerived
import JvmDerived.Pilot.@@N@@Statement
import JvmDerived.Pilot.@@N@@Code
set_option linter.unusedVariables false
set_option linter.unusedSimpArgs false
namespace Jvm.OwnKit
section Special
open Jvm Jvm.ClassFile Sem Op
variable {Q : Unit → Pre} {E : CtlPost} {e : Env} {d : Bool} {acts : List Action} {s : State} {f : JFrame}
/-- invokespecial of the direct superclass's own method, the entry of either kind -/
theorem wp_super {index a : Nat} {m : MethodId} {k ck : Class} {meth : Method} {args rest : List Value} {cell : Cell} {kcell : Class}
    (hs : s.topJava?.isSome) (hnamed : namesResolved s.vm f.method.cls index m.cls) (hr : s.vm.methodReady f.method.cls index m) (hck : s.vm.classes[f.method.cls]? = some ck) (hni : ck.isInterface = false) (hsup : ck.super = some m.cls)
    (hk : s.vm.classes[m.cls]? = some k) (hm : s.vm.method? m = some meth) (hname : meth.name ≠ "<init>") (hstatic : meth.isStatic = false) (habs : meth.isAbstract = false) (hfound : lookupSpecial s.vm m.cls meth.name meth.desc = .method m)
    (hlen : args.length = meth.sig.parameters.length) (hstack : f.stack = args.reverse ++ .ref a :: rest) (hcell : s.heap[a]? = some cell) (hobj : ∀ c, cell.vm ≠ .statics c) (hkcell : s.vm.classes[cell.cls]? = some kcell) :
    wp (invokespecial.sem index) Q E e d acts (s.setTop f) ↔ E (.invoke m (.ref a :: args).toArray) acts (s.setTop { f with stack := rest }) := by
  obtain ⟨kc, cf, ci, n, h1, h2, h3, h4⟩ := hnamed
  cases h1.symm.trans hck
  have hpre : ∀ {Q' : ClassId → Pre} {d' : Bool} {acts' : List Action}, wp (Jvm.refClassAt index) Q' E e d' acts' (s.setTop f) ↔ Q' m.cls d' acts' (s.setTop f) := by
    intro Q' d' acts'
    rcases h3 with h3 | h3 <;>
      simp [Jvm.refClassAt, Jvm.constantAt, State.method?_setTop f hs, h1, h2, h3, W.resolveClassAt_ready (State.method?_setTop f hs) h4]
  simp only [invokespecial.sem, wp_bind', W.resolveMethodAt_ready (State.method?_setTop f hs) hr]
  simp only [W.theMethod, State.vm_setTop, hm, Option.some.injEq, exists_eq_left', wp_bind', hpre]
  simp [hs, hname, hstatic, habs, h1, hk, hm, hsup, hni, hfound, State.method?_setTop f hs, Jvm.popArgs, ← hlen, popN_top hs hstack, hcell, hobj, hkcell]
end Special
section Super
open Jvm Jvm.ClassFile Sem Op Lib Bundle Jvm.Stand Jvm.Free Jvm.LawKit Jvm.RoadKit
variable {p : Program} {l : Launch} {e : Env} {R : Room} {s : State} {m : MethodId} {args : Array Value} {below : List Frame} {meth : Method} {c : Code} {T : State} {locs : List Loc} {cells slots : Nat} {Z : State} {a0 : Array Value} {h : Heap}
theorem superS (X : Stand p l e R s m args below meth c T locs cells slots) (hx : p.tables.exec = Jvm.exec) (hZ : Z.Warmed39 s.vm) {own K : String} {index : Nat} {y : MethodName} (hown : s.vm.findClass own = some m.cls) (w1 : (Jvm.Cond.methodLink own index y).before a0 Z = true)
    (w3 : (Jvm.Cond.instanceMethod y).before a0 Z = true) (w4 : (Jvm.Cond.superclass own y.cls).before a0 Z = true) (hn : y.name ≠ "<init>") (hy : y.cls ≠ "java/lang/invoke/MethodHandle" ∧ y.cls ≠ "java/lang/invoke/VarHandle") {W : Nat} {Pre : Pt → Array Value → Prop} {Post : Pt → Array Value → Option Value → Pt → Prop} (hK : BackS l R p e below s args y 3 W Pre Post)
    (eT : T.heap = h) {a : Addr} (F : Exa Z h a K) {g : JFrame} (hg : g.method = m) (hsize : g.locals.size = c.maxLocals) {bytes : ByteArray} {maxL : Nat} {ret : Option FieldType} (wc : (Jvm.Cond.code y bytes maxL ret).before a0 Z = true) {argsL rest : List Value}
    (hlen : ∀ sig, parseMethodDescriptor y.desc = some sig → argsL.length = sig.parameters.length) (hstack : g.stack = argsL.reverse ++ .ref a :: rest) (hW : 2 * g.monitorRoom + (rest.map fun v => v.category).sum ≤ W)
    (hdg : decode c.code g.pc = .ok (.invokespecial index, 3)) (hpre : ∀ vm₁, s.WarmedH vm₁ → Pre ⟨T.setVm vm₁, locs, cells, slots⟩ (.ref a :: argsL).toArray) :
    ∃ (v : Option Value) (vm₁ : Vm) (B : Pt), s.WarmedH vm₁ ∧ Stand p l e R (s.setVm B.U.vm) m args below meth c B.U B.locs B.cells B.slots ∧ s.Since B.U.vm B.U.heap.size ∧ T.heap.size ≤ B.U.heap.size ∧ Post ⟨T.setVm vm₁, locs, cells, slots⟩ (.ref a :: argsL).toArray v B ∧
      Steps p.tables e below (T.setTop g) (B.U.setTop { g with pc := g.pc + 3, stack := v.toList ++ rest }) := by
  have hpl : e.platform.magicAccessors = ({} : Platform).magicAccessors := by rw [X.admits.platform]
  obtain ⟨r0, methM, hnamed, hmethM, hstM, habM⟩ := Cond.instanceMethod_spec (mv (args := args) hZ w3)
  obtain ⟨m2, cM, q1, -, -, -, -, -, -, hsig⟩ := Cond.code_spec hnamed (mv (args := args) hZ wc)
  cases hmethM.symm.trans q1
  obtain ⟨ci, hl, hright⟩ := Cond.methodLink_spec hown hnamed (mv (args := args) hZ w1) e.platform hpl
  obtain ⟨kx, hkx, hnx⟩ := className_of_methodNamed hnamed
  obtain ⟨hnm, hds⟩ := name_of_methodNamed hnamed hmethM
  have hE : s.MethodEntry e T.vm m.cls index r0 ci := State.methodEntry X.warmed hl hright fun k hk => by
    cases hkx.symm.trans hk
    rw [hnx]; exact hy
  obtain ⟨dk, cfile, nt, _, _, via, ck, _, hd, hcf, hcp, -⟩ := hl.here
  have hcp' : cfile.constantPool[index]? = some (.methodref ci nt) ∨ cfile.constantPool[index]? = some (.interfaceMethodref ci nt) := by
    cases via
    · exact Or.inl (by simpa using hcp)
    · exact Or.inr (by simpa using hcp)
  have hcn := findClass_of_methodNamed hnamed
  have ws := mv (args := args) hZ w4
  simp only [Cond.before, Cond.holds, Cond.value, hown, hcn, hd, hkx, Option.bind_some, Option.map_some] at ws
  have ws' : ((dk.super = some r0.cls ∧ dk.kind = .ordinary) ∧ kx.kind = .ordinary) ∧ dk.isInterface = false := by simpa using ws
  have alike := hE.warmed.alike
  obtain ⟨dk₂, hdk₂, hres⟩ := hE.classReady
  obtain ⟨dk₃, hdk₃, hed⟩ := alike.2.2 _ _ hd
  cases hdk₂.symm.trans hdk₃
  obtain ⟨kx₂, hkx₂, -⟩ := alike.2.2 _ _ hkx
  obtain ⟨cell, kc, f1, -, f3, f4, -⟩ := F
  obtain ⟨kc', hkc', -⟩ := (State.Warmed39.alike (wtrans (U := T.setVm (T.vm.called m.cls ci index r0)) hZ hE.warmed)).2.2 _ _ f3
  have hfound := lookupSpecial_of_named hnamed hmethM hstM
  have X₁ := X.noted hE.warmed
  subst hg
  obtain ⟨v, B, X', hS, hgr, hpost, hsteps⟩ := hK g.method meth c ⟨T.setVm (T.vm.called g.method.cls ci index r0), locs, cells, slots⟩ { g with stack := rest } (.invokespecial index) r0 (.ref a :: argsL).toArray X₁ rfl hsize hdg hW (X₁.named hnamed) (hpre _ hE.warmed)
  refine ⟨v, _, B, hE.warmed, X', hS, hgr, hpost, ?_⟩
  jvm_step X.here [hx, hdg, invokespecial.wp_cold (e := e) (s := T) (s₀ := s) (f := g) X.here.top hE hd hcf hcp' hmethM,
    wp_super (e := e) (s := T.setVm (T.vm.called g.method.cls ci index r0)) (f := g) (m := r0) (k := kx₂) (ck := dk₂) (meth := methM) (a := a) (args := argsL) (rest := rest) (cell := cell) (kcell := kc')
      X.here.top ⟨dk₂, cfile, ci, nt, hdk₂, by rw [hed]; exact hcf, hcp', dk₂, hdk₂, hres⟩ hE.ready hdk₂ (by rw [hed]; exact ws'.2) (by rw [hed]; exact ws'.1.1.1) hkx₂
      (by show (T.vm.called g.method.cls ci index r0).method? r0 = some methM; rw [alike.method?]; exact hmethM) (by rw [hnm]; exact hn) hstM habM
      (by show lookupSpecial (T.vm.called g.method.cls ci index r0) r0.cls methM.name methM.desc = .method r0; rw [alike.lookupSpecial, hnm, hds]; exact hfound) (hlen _ hsig) hstack (by show T.heap[a]? = some cell; rw [eT]; exact f1)
      (fun z hz => by rw [hz] at f4; cases f4) hkc']
  intro acts1
  rw [doInvoke_state]
  exact hsteps
end Super
end Jvm.OwnKit
namespace Jvm.OwnKit
open Jvm Jvm.ClassFile Sem Op Lib Bundle Jvm.Stand Jvm.Free Jvm.LawKit Jvm.RoadKit
/-- a predicate on where the run stands that goes backwards along steps -/
def Bw (p : Program) (e : Env) (below : List Frame) (F : State → JFrame → Prop) : Prop :=
  ∀ {T T' : State} {g g' : JFrame}, (∀ t, Steps p.tables e below (T'.setTop g') t → Steps p.tables e below (T.setTop g) t) → F T' g' → F T g
/-- where the walk stands: sf: new cells that no booked literal owns; lq: entries whose String is known -/
def Sp (p : Program) (l : Launch) (e : Env) (R : Room) (s : State) (m : MethodId) (args : Array Value) (below : List Frame) (meth : Method) (c : Code) (Z : State) (a0 : Array Value) (EL : List (String × Nat)) (own : String)
    (T : State) (h : Heap) (sf : List Addr) (lq : List (String × Nat × Addr)) (k n : Nat) : Prop :=
  ∃ (vm0 : Vm) (k0 : Nat) (locs : List Loc), Stand p l e R (s.setVm vm0) m args below meth c T locs k n ∧ T.heap = h ∧ s.Since vm0 k0 ∧ k0 ≤ h.size ∧ Z.Warmed39 vm0 ∧ vm0.findClass own = some m.cls ∧
    CHr Z EL s.vm s.heap vm0 h ∧ Fr Z.heap.size locs ∧ Ext Z.heap h ∧ (∀ x ∈ sf, Safe Z EL vm0 h x ∧ Z.heap.size ≤ x ∧ x < h.size) ∧ (∀ q ∈ lq, Lit (s.setVm vm0) q.1 q.2.1 q.2.2) ∧ p.tables.exec = Jvm.exec ∧ EW Z a0 EL
/-- the end of a body's walk -/
def Fin (p : Program) (e : Env) (below : List Frame) (s Z : State) (EL : List (String × Nat)) (Q : Option Value → Heap → List Addr → Prop) (k n : Nat) (T : State) (g : JFrame) : Prop :=
  ∃ (s₂ : State) (o : Outcome), Steps p.tables e below (T.setTop g) s₂ ∧ s₂.status = .running ∧ Ended s₂ below o ∧
    ∃ (v : Option Value) (L : List Loc) (nw : List Addr), o = .returned v ∧ Q v s₂.heap nw ∧ (∀ x ∈ nw, Safe Z EL s₂.vm s₂.heap x ∧ Z.heap.size ≤ x ∧ x < s₂.heap.size) ∧ Fr Z.heap.size L ∧ Ext Z.heap s₂.heap ∧ CHr Z EL s.vm s.heap s₂.vm s₂.heap ∧ ReturnedEndW s o s₂ L k n
/-- a callee's contract -/
def Con (l : Launch) (Z : State) (EL : List (String × Nat)) (y : MethodName) (bytes : ByteArray) (maxL : Nat) (ret : Option FieldType) (rm : Room) (as' : Array Value) (h : Heap) (sf : List Addr) (Q : Option Value → Heap → List Addr → Prop) : Prop :=
  MetFree l y (head1 [Jvm.Cond.code y bytes maxL ret] rm) (fun a U => a = as' ∧ Z.Warmed39 U.vm ∧ U.heap = h ∧ CHv Z EL U.vm h ∧ Ext Z.heap h ∧ ∀ x ∈ sf, Safe Z EL U.vm h x ∧ Z.heap.size ≤ x ∧ x < h.size) (fun _ _ _ _ _ => True)
    (fun _ U o U' => ∃ (v : Option Value) (L : List Loc) (nw : List Addr), o = .returned v ∧ Q v U'.heap nw ∧ (∀ x ∈ nw, Safe Z EL U'.vm U'.heap x ∧ Z.heap.size ≤ x ∧ x < U'.heap.size) ∧ Fr Z.heap.size L ∧ Ext Z.heap U'.heap ∧ CHr Z EL U.vm U.heap U'.vm U'.heap ∧ ReturnedEndW U o U' L rm.cells rm.slots)
/-- a call that comes back -/
def Call (l : Launch) (R : Room) (p : Program) (e : Env) (below : List Frame) (s : State) (args : Array Value) (Z : State) (a0 : Array Value) (EL : List (String × Nat)) (y : MethodName) (len W : Nat) (as' : Array Value) (h : Heap) (sf : List Addr) (kc ks : Nat) (Q : Option Value → Heap → List Addr → Prop) : Prop :=
  ∀ vm0 : Vm, Z.Warmed39 vm0 → CHv Z EL vm0 h → EW Z a0 EL → Ext Z.heap h → (∀ x ∈ sf, Safe Z EL vm0 h x ∧ Z.heap.size ≤ x ∧ x < h.size) →
    BackS l R p e below (s.setVm vm0) args y len W (fun A a => a = as' ∧ A.U.heap = h ∧ A.cells + kc ≤ R.cells ∧ A.slots + ks ≤ R.slots)
      (fun A _ v B => ∃ (L : List Loc) (nw : List Addr), Q v B.U.heap nw ∧ (∀ x ∈ nw, Safe Z EL B.U.vm B.U.heap x ∧ Z.heap.size ≤ x ∧ x < B.U.heap.size) ∧ Fr Z.heap.size L ∧ Ext Z.heap B.U.heap ∧ B.locs = A.locs ++ L ∧ B.cells = A.cells + kc ∧ B.slots = A.slots + ks ∧ CHr Z EL vm0 h B.U.vm B.U.heap)
theorem nin1 {x y : Nat} (h : x ≠ y) : x ∉ ([y] : List Addr) := fun q => h (List.mem_singleton.mp q)
theorem nin2 {x y z : Nat} (h : x ≠ y) (h2 : x ≠ z) : x ∉ ([y, z] : List Addr) := fun q => (List.mem_cons.mp q).elim h fun q => h2 (List.mem_singleton.mp q)
theorem qk1 {a k : Nat} {ws : List Addr} (h : (a : Addr) ∈ ws ∨ k ≤ a) : ∀ x ∈ ([a] : List Addr), x ∈ ws ∨ k ≤ x := fun x hx => by cases List.mem_singleton.mp hx; exact h
theorem natlt {a b : Nat} (h : a < b) : a < b := h
theorem natne {a b : Nat} (h : a ≠ b) : a ≠ b := h
theorem acmp_same {x : Value} : Jvm.Free.XT.acmp .ne x x = false := by simp [Jvm.Free.XT.acmp]
section Kit
variable {p : Program} {l : Launch} {e : Env} {R : Room} {s : State} {m : MethodId} {args : Array Value} {below : List Frame} {meth : Method} {c : Code} {Z : State} {a0 : Array Value} {EL : List (String × Nat)} {own : String}
  {T : State} {h h' : Heap} {sf : List Addr} {lq : List (String × Nat × Addr)} {k n : Nat} {F : State → JFrame → Prop} {Q : Option Value → Heap → List Addr → Prop}
theorem Fin.bw {kc ks : Nat} : Bw p e below (Fin p e below s Z EL Q kc ks) := fun st ⟨s₂, o, h1, r⟩ => ⟨s₂, o, st _ h1, r⟩
theorem Sp.here (S : Sp p l e R s m args below meth c Z a0 EL own T h sf lq k n) : At T m c below := by obtain ⟨_, _, _, X, -⟩ := S; exact X.here
theorem Sp.hx (S : Sp p l e R s m args below meth c Z a0 EL own T h sf lq k n) : p.tables.exec = Jvm.exec := by obtain ⟨_, _, _, -, -, -, -, -, -, -, -, -, -, -, q, -⟩ := S; exact q
theorem Sp.old (S : Sp p l e R s m args below meth c Z a0 EL own T h sf lq k n) : Ext Z.heap h := by obtain ⟨_, _, _, -, -, -, -, -, -, -, -, q, -⟩ := S; exact q
theorem Sp.isnew (S : Sp p l e R s m args below meth c Z a0 EL own T h sf lq k n) {x : Addr} (hx : x ∈ sf) : Z.heap.size ≤ x := by obtain ⟨_, _, _, -, -, -, -, -, -, -, -, -, q, -⟩ := S; exact (q x hx).2.1
theorem Sp.mono (S : Sp p l e R s m args below meth c Z a0 EL own T h sf lq k n) {k' n' : Nat} (hk : k ≤ k') (hn : n ≤ n') : Sp p l e R s m args below meth c Z a0 EL own T h sf lq k' n' := by
  obtain ⟨vm0, k0, locs, X, r⟩ := S
  exact ⟨vm0, k0, locs, X.mono hk hn, r⟩
theorem Sp.sub (S : Sp p l e R s m args below meth c Z a0 EL own T h sf lq k n) {sf' : List Addr} (hs : ∀ x ∈ sf', x ∈ sf) : Sp p l e R s m args below meth c Z a0 EL own T h sf' lq k n := by
  obtain ⟨vm0, k0, locs, X, h1, h2, h3, h4, h5, h6, h7, h8, h9, r⟩ := S
  exact ⟨vm0, k0, locs, X, h1, h2, h3, h4, h5, h6, h7, h8, fun x hx => h9 x (hs x hx), r⟩
theorem Sp.noLit (S : Sp p l e R s m args below meth c Z a0 EL own T h sf lq k n) : Sp p l e R s m args below meth c Z a0 EL own T h sf [] k n := by
  obtain ⟨vm0, k0, locs, X, h1, h2, h3, h4, h5, h6, h7, h8, h9, h10, r⟩ := S
  exact ⟨vm0, k0, locs, X, h1, h2, h3, h4, h5, h6, h7, h8, h9, (fun _ q => nomatch q), r⟩
/-- a body, entered -/
theorem Con.of {y : MethodName} {bytes : ByteArray} {maxL : Nat} {ret : Option FieldType} {rm : Room} {as' : Array Value} (hpl : plainFor y = true) (hEW : EW Z a0 EL)
    (body : ∀ (p : Program) (e : Env) (s : State) (m : MethodId) (below : List Frame) (meth : Method) (c : Code) (T : State) (F : State → JFrame → Prop), Bw p e below F → (∀ {T : State} {g : JFrame}, Fin p e below s Z EL Q rm.cells rm.slots T g → F T g) →
      c.code = bytes → c.maxLocals = maxL → meth.sig.returnType = ret → meth.locks = false → meth.name = y.name → Sp p l e rm s m as' below meth c Z a0 EL y.cls T h sf [] 0 0 → F T (entryFrame m as' maxL)) :
    Con l Z EL y bytes maxL ret rm as' h sf Q := by
  refine MetFree.of_bodySF hpl (hisR (ws := [])) ?_
  intro p e s m args below meth c s₁ Bd hml0 hP hK
  obtain ⟨rfl, hZ, hh, hC, hE, hsf⟩ := hP
  have hX : Stand p l e rm (s.setVm s.vm) m args below meth c s₁ [] 0 0 := Stand.of_body Bd
  have e0 : s₁.heap = h := by rw [← hh, Bd.state]; rfl
  refine body p e s m below meth c s₁ (Fin p e below s Z EL Q rm.cells rm.slots) Fin.bw (fun q => q) Bd.bytes hml0 Bd.returns Bd.notSynchronized (name_of_methodNamed Bd.named Bd.method).1 ⟨s.vm, 0, [], hX, e0, (State.WarmedH.refl s).since 0, Nat.zero_le _, hZ, findClass_of_methodNamed Bd.named, ?_, Fr.nil _, hE, hsf, (fun _ q => nomatch q), Bd.exec, hEW⟩
  rw [← hh] at hC ⊢
  exact CHr.refl hC
theorem Call.con {y : MethodName} {bytes : ByteArray} {maxL : Nat} {ret : Option FieldType} {rm : Room} {as' : Array Value} {len W : Nat} (hM : Con l Z EL y bytes maxL ret rm as' h sf Q)
    (wc : (Jvm.Cond.code y bytes maxL ret).before a0 Z = true) (wz : (Jvm.Cond.initialized y.cls).before a0 Z = true) (hf : rm.frames + 1 ≤ R.frames) (hl : W + (maxL + 11) + rm.locals ≤ R.locals) :
    Call l R p e below s args Z a0 EL y len W as' h sf rm.cells rm.slots Q := fun vm0 hZ hC hEL hE hsf =>
  BackS.of_freeW (bytes := bytes) (maxL := maxL) (ret := ret) (E := fun _ first o t L k n => k = rm.cells ∧ n = rm.slots ∧ ∃ (v : Option Value) (nw : List Addr), o = .returned v ∧ Q v t.heap nw ∧ (∀ x ∈ nw, Safe Z EL t.vm t.heap x ∧ Z.heap.size ≤ x ∧ x < t.heap.size) ∧ Fr Z.heap.size L ∧ Ext Z.heap t.heap ∧ CHr Z EL first.vm first.heap t.vm t.heap) hM hf hl
    (fun m meth c A a Y hp => have hU : Z.Warmed39 A.U.vm := wtrans (s := s.setVm vm0) hZ Y.warmed
      ⟨by show (Jvm.Cond.and _ .tt).before a A.U = true; rw [Cond.before_and, mv hU wc]; rfl, mv hU wc, mv hU wz, hp.2.2.1, hp.2.2.2⟩)
    (fun m meth c A a g mk Y hp => ⟨hp.1, wtrans (s := s.setVm vm0) hZ Y.warmed, hp.2.1, (CHv.at Y hZ hEL hC).1, hE, fun x hx => ⟨(CHv.at Y hZ hEL hC).safe (hsf x hx).2.2 (hsf x hx).1, (hsf x hx).2⟩⟩) (fun _ _ _ _ _ _ _ _ _ => trivial)
    (fun _ _ _ _ ⟨v, L, nw, h1, h2, h3, h4, h5, h6, h7⟩ => ⟨L, _, _, h7, rfl, rfl, v, nw, h1, h2, h3, h4, h5, h6⟩)
    (fun m meth c A a g mk v t L k n Y hp _ _ ⟨e1, e2, v', nw, e3, e4, e5, e6, e7, e8⟩ => by
      cases e3; subst e1 e2
      refine ⟨L, nw, e4, e5, e6, e7, rfl, rfl, rfl, (CHv.at Y hZ hEL hC).trans ?_⟩
      rw [← hp.2.1]; exact e8)
/-- a law of the other form: its callee interns nothing -/
theorem Call.back {y : MethodName} {as' : Array Value} {len W kc ks : Nat} {ws : List Addr} {Qb : Option Value → Heap → List Loc → Prop} (hws : ∀ x ∈ ws, x ∈ sf)
    (hK : ∀ s' : State, Z.Warmed39 s'.vm → Back l R p e below s' args y len W (fun A a => a = as' ∧ A.U.heap = h ∧ A.cells + kc ≤ R.cells ∧ A.slots + ks ≤ R.slots) (fun A _ v B => ∃ L, Qb v B.U.heap L ∧ B.locs = A.locs ++ L ∧ B.cells = A.cells + kc ∧ B.slots = A.slots + ks))
    (hq : ∀ v h' L, Qb v h' L → Fr Z.heap.size L ∧ Keep h h' ws ∧ ∃ nw, Q v h' nw ∧ ∀ x ∈ nw, h.size ≤ x ∧ x < h'.size) :
    Call l R p e below s args Z a0 EL y len W as' h sf kc ks Q := fun vm0 hZ hC hEL hE hsf => by
  intro m meth c A g ig mk a X hg hsize hdg hW hn hp
  obtain ⟨v, B, X', ⟨L, hQ, hl, hc, hs⟩, st⟩ := hK (s.setVm vm0) hZ m meth c A g ig mk a X hg hsize hdg hW hn hp
  obtain ⟨hFr, K, nw, q1, q2⟩ := hq _ _ _ hQ
  have R1 : CHr Z EL vm0 h B.U.vm h := CHv.at (h := h) X' hZ hEL hC
  have hsafe : ∀ x ∈ ws, Safe Z EL B.U.vm h x := fun x hx => R1.safe (hsf x (hws x hx)).2.2 (hsf x (hws x hx)).1
  have R2 : CHr Z EL B.U.vm h B.U.vm B.U.heap := CHr.keep K hsafe R1.1
  have hE' : Ext Z.heap B.U.heap := ⟨Nat.le_trans hE.1 K.1, fun x cl q => K.2.1 x cl (hE.2 x cl q) fun z => absurd (Array.getElem?_eq_some_iff.mp q).1 (Nat.not_lt.mpr (hsf x (hws x z)).2.1)⟩
  refine ⟨v, B, X'.retabled X'.warmed.wide, X'.warmed.since _, by rw [hp.2.1]; exact K.1, ⟨L, nw, q1, fun x hx => ⟨fun Bq => ?_, Nat.le_trans hE.1 (q2 x hx).1, (q2 x hx).2⟩, hFr, hE', hl, hc, hs, R1.trans R2⟩, st⟩
  have Bq' : Bk Z EL B.U.vm h x := (CHv.keepStep K hsafe R1.1).2 x Bq
  exact Safe.new (q2 x hx).1 Bq'
/-- the same, where the heap is as it was -/
theorem Call.pure {y : MethodName} {as' : Array Value} {len W : Nat} {Qv : Option Value → Prop} 
    (hK : ∀ s' : State, Z.Warmed39 s'.vm → Back l R p e below s' args y len W (fun A a => a = as' ∧ A.U.heap = h ∧ A.cells + 0 ≤ R.cells ∧ A.slots + 0 ≤ R.slots) (fun A _ v B => ∃ L, (Qv v ∧ L = [] ∧ B.U.heap = h) ∧ B.locs = A.locs ++ L ∧ B.cells = A.cells + 0 ∧ B.slots = A.slots + 0)) :
    Call l R p e below s args Z a0 EL y len W as' h sf 0 0 (fun v h' nw => Qv v ∧ nw = [] ∧ h = h') :=
  Call.back (ws := []) (Qb := fun v h' L => Qv v ∧ L = [] ∧ h' = h) (fun _ q => nomatch q) hK fun v h' L ⟨h1, h2, h3⟩ => by
    subst h2 h3
    exact ⟨Fr.nil _, Keep.refl _ _, [], ⟨h1, rfl, rfl⟩, fun _ q => nomatch q⟩
/-- behind a call -/
theorem Sp.after {vm0 : Vm} {k0 : Nat} {locs : List Loc} {kc ks : Nat} {B : Pt}
    (hS : s.Since vm0 k0) (hk : k0 ≤ h.size) (hZ : Z.Warmed39 vm0) (ho : vm0.findClass own = some m.cls) (hC : CHr Z EL s.vm s.heap vm0 h) (hN : Fr Z.heap.size locs) (hsf : ∀ x ∈ sf, Safe Z EL vm0 h x ∧ Z.heap.size ≤ x ∧ x < h.size) (hlt : ∀ q ∈ lq, Lit (s.setVm vm0) q.1 q.2.1 q.2.2) (hx : p.tables.exec = Jvm.exec) (hW : EW Z a0 EL)
    (X : Stand p l e R ((s.setVm vm0).setVm B.U.vm) m args below meth c B.U B.locs B.cells B.slots) (h2 : (s.setVm vm0).Since B.U.vm B.U.heap.size)
    {L : List Loc} {nw : List Addr} (q2 : ∀ x ∈ nw, Safe Z EL B.U.vm B.U.heap x ∧ Z.heap.size ≤ x ∧ x < B.U.heap.size) (q3 : Fr Z.heap.size L) (q4 : Ext Z.heap B.U.heap) (q5 : B.locs = locs ++ L) (q6 : B.cells = k + kc) (q7 : B.slots = n + ks) (q8 : CHr Z EL vm0 h B.U.vm B.U.heap) :
    Sp p l e R s m args below meth c Z a0 EL own B.U B.U.heap (nw ++ sf) lq (k + kc) (n + ks) := by
  rw [← q6, ← q7]
  refine ⟨B.U.vm, B.U.heap.size, B.locs, X, rfl, hS.trans h2 (Nat.le_trans hk q8.2.1), Nat.le_refl _, State.Warmed39.trans (t := s.setVm vm0) hZ h2.1, (h2.1.alike.findClass _ _).trans ho, hC.trans q8, by rw [q5]; exact hN.app q3, q4, fun x hx' => ?_, fun q hq => Lit.stays (hlt q hq) h2.1, hx, hW⟩
  rcases List.mem_append.mp hx' with z | z
  · exact q2 x z
  · exact ⟨q8.safe (hsf x z).2.2 (hsf x z).1, (hsf x z).2.1, Nat.lt_of_lt_of_le (hsf x z).2.2 q8.2.1⟩
theorem Sp.special (B : Bw p e below F) (S : Sp p l e R s m args below meth c Z a0 EL own T h sf lq k n) {ix : Nat} {y : MethodName} {bytes : ByteArray} {maxL : Nat} {a : Addr} {argsL rest st : List Value} {sfc : List Addr} {kc ks W pc : Nat} {Ls : Array Slot} (hy1 : y.name = "<init>")
    (w1 : (Jvm.Cond.methodLink own ix y).before a0 Z = true) (w2 : (Jvm.Cond.instanceMethod y).before a0 Z = true) (w3 : (Jvm.Cond.code y bytes maxL none).before a0 Z = true) (hy : y.cls ≠ "java/lang/invoke/MethodHandle" ∧ y.cls ≠ "java/lang/invoke/VarHandle")
    (C : Call l R p e below s args Z a0 EL y 3 W (.ref a :: argsL).toArray h sfc kc ks Q) (hsub : ∀ x ∈ sfc, x ∈ sf) (hkc : k + kc ≤ R.cells) (hks : n + ks ≤ R.slots) (hml : Ls.size = c.maxLocals)
    (hlen : ∀ sig, parseMethodDescriptor y.desc = some sig → argsL.length = sig.parameters.length) (hst : st = argsL.reverse ++ .ref a :: rest) (hW : (rest.map fun v => v.category).sum ≤ W) (hd : decode c.code pc = .ok (.invokespecial ix, 3))
    (K : ∀ (v : Option Value) (T' : State) (h' : Heap) (nw : List Addr), Sp p l e R s m args below meth c Z a0 EL own T' h' (nw ++ sf) lq (k + kc) (n + ks) → Q v h' nw → F T' (mkF m (pc + 3) Ls (v.toList ++ rest))) : F T (mkF m pc Ls st) := by
  obtain ⟨vm0, k0, locs, X, eT, hS, hk, hZ, ho, hC, hN, hE, hsf, hlt, hx, hEW⟩ := S
  obtain ⟨v, vm₁, B', hw, X', h2, hgr, ⟨L, nw, q1, q2, q3, q4, q5, q6, q7, q8⟩, st'⟩ := X.specialBackS hx hy1 ho (mvT (s := s.setVm vm0) hZ w1) (mvT (s := s.setVm vm0) hZ w2) (mvT (s := s.setVm vm0) hZ w3) hy (C vm0 hZ hC.1 hEW hE fun x hx => hsf x (hsub x hx)) (g := mkF m pc Ls st) rfl hml (Steps.refl _) hlen hst (by show 2 * 0 + _ ≤ _; omega) hd (fun vm₁ _ => ⟨rfl, eT, hkc, hks⟩)
  exact B (fun t kt => st'.trans kt) (K v B'.U B'.U.heap nw (Sp.after hS hk hZ ho hC hN hsf hlt hx hEW X' h2 q2 q3 q4 q5 q6 q7 q8) q1)
theorem Sp.static (B : Bw p e below F) (S : Sp p l e R s m args below meth c Z a0 EL own T h sf lq k n) {ix : Nat} {y : MethodName} {bytes : ByteArray} {maxL : Nat} {ret : Option FieldType} {argsL rest st : List Value} {sfc : List Addr} {kc ks W pc : Nat} {Ls : Array Slot}
    (w1 : (Jvm.Cond.methodLink own ix y).before a0 Z = true) (w2 : (Jvm.Cond.static y).before a0 Z = true) (wz : (Jvm.Cond.initialized y.cls).before a0 Z = true) (w3 : (Jvm.Cond.code y bytes maxL ret).before a0 Z = true) (hy : y.cls ≠ "java/lang/invoke/MethodHandle" ∧ y.cls ≠ "java/lang/invoke/VarHandle")
    (C : Call l R p e below s args Z a0 EL y 3 W argsL.toArray h sfc kc ks Q) (hsub : ∀ x ∈ sfc, x ∈ sf) (hkc : k + kc ≤ R.cells) (hks : n + ks ≤ R.slots) (hml : Ls.size = c.maxLocals)
    (hlen : ∀ sig, parseMethodDescriptor y.desc = some sig → argsL.length = sig.parameters.length) (hst : st = argsL.reverse ++ rest) (hW : (rest.map fun v => v.category).sum ≤ W) (hd : decode c.code pc = .ok (.invokestatic ix, 3))
    (K : ∀ (v : Option Value) (T' : State) (h' : Heap) (nw : List Addr), Sp p l e R s m args below meth c Z a0 EL own T' h' (nw ++ sf) lq (k + kc) (n + ks) → Q v h' nw → F T' (mkF m (pc + 3) Ls (v.toList ++ rest))) : F T (mkF m pc Ls st) := by
  obtain ⟨vm0, k0, locs, X, eT, hS, hk, hZ, ho, hC, hN, hE, hsf, hlt, hx, hEW⟩ := S
  obtain ⟨v, vm₁, B', hw, X', h2, hgr, ⟨L, nw, q1, q2, q3, q4, q5, q6, q7, q8⟩, st'⟩ := callSS X hx ho (mvT (s := s.setVm vm0) hZ w1) (mvT (s := s.setVm vm0) hZ w2) (mvT (s := s.setVm vm0) hZ wz) (mvT (s := s.setVm vm0) hZ w3) hy (C vm0 hZ hC.1 hEW hE fun x hx => hsf x (hsub x hx)) (g := mkF m pc Ls st) rfl hml hlen hst (by show 2 * 0 + _ ≤ _; omega) hd (fun vm₁ _ => ⟨rfl, eT, hkc, hks⟩)
  exact B (fun t kt => st'.trans kt) (K v B'.U B'.U.heap nw (Sp.after hS hk hZ ho hC hN hsf hlt hx hEW X' h2 q2 q3 q4 q5 q6 q7 q8) q1)
theorem Sp.virt (B : Bw p e below F) (S : Sp p l e R s m args below meth c Z a0 EL own T h sf lq k n) {ix : Nat} {y z : MethodName} {C : String} {a : Addr} {argsL rest st : List Value} {sfc : List Addr} {kc ks W pc : Nat} {Ls : Array Slot}
    (w1 : (Jvm.Cond.methodLink own ix y).before a0 Z = true) (w2 : (Jvm.Cond.declares y).before a0 Z = true) (wf : (Jvm.Cond.selects y.cls y y).before a0 Z = true) (w3 : (Jvm.Cond.selects C y z).before a0 Z = true) (w4 : (Jvm.Cond.instanceMethod z).before a0 Z = true) (hy : y.cls ≠ "java/lang/invoke/MethodHandle" ∧ y.cls ≠ "java/lang/invoke/VarHandle")
    (CC : Call l R p e below s args Z a0 EL z 3 W (.ref a :: argsL).toArray h sfc kc ks Q) (E : Exa Z h a C) (hsub : ∀ x ∈ sfc, x ∈ sf) (hkc : k + kc ≤ R.cells) (hks : n + ks ≤ R.slots) (hml : Ls.size = c.maxLocals)
    (hlen : ∀ sig, parseMethodDescriptor y.desc = some sig → argsL.length = sig.parameters.length) (hst : st = argsL.reverse ++ .ref a :: rest) (hW : (rest.map fun v => v.category).sum ≤ W) (hd : decode c.code pc = .ok (.invokevirtual ix, 3))
    (K : ∀ (v : Option Value) (T' : State) (h' : Heap) (nw : List Addr), Sp p l e R s m args below meth c Z a0 EL own T' h' (nw ++ sf) lq (k + kc) (n + ks) → Q v h' nw → F T' (mkF m (pc + 3) Ls (v.toList ++ rest))) : F T (mkF m pc Ls st) := by
  obtain ⟨vm0, k0, locs, X, eT, hS, hk, hZ, ho, hC, hN, hE, hsf, hlt, hx, hEW⟩ := S
  obtain ⟨cB, kB, r1, r2, r3⟩ := isOf (s := s.setVm vm0) hZ eT E
  obtain ⟨v, vm₁, B', hw, X', h2, hgr, ⟨L, nw, q1, q2, q3, q4, q5, q6, q7, q8⟩, st'⟩ := X.virtualBackS hx ho (mvT (s := s.setVm vm0) hZ w1) (mvT (s := s.setVm vm0) hZ w2) (notFace_of_selects (args := #[]) (mvT (s := s.setVm vm0) hZ wf)) (mvT (s := s.setVm vm0) hZ w3) (mvT (s := s.setVm vm0) hZ w4) hy (CC vm0 hZ hC.1 hEW hE fun x hx => hsf x (hsub x hx)) r1 r3 (g := mkF m pc Ls st) rfl hml (Steps.refl _) hlen hst (by show 2 * 0 + _ ≤ _; omega) hd (fun vm₁ _ => ⟨rfl, eT, hkc, hks⟩)
  exact B (fun t kt => st'.trans kt) (K v B'.U B'.U.heap nw (Sp.after hS hk hZ ho hC hN hsf hlt hx hEW X' h2 q2 q3 q4 q5 q6 q7 q8) q1)
theorem Sp.super (B : Bw p e below F) (S : Sp p l e R s m args below meth c Z a0 EL own T h sf lq k n) {ix : Nat} {y : MethodName} {bytes : ByteArray} {maxL : Nat} {ret : Option FieldType} {K0 : String} {a : Addr} {argsL rest st : List Value} {sfc : List Addr} {kc ks W pc : Nat} {Ls : Array Slot} (hn : y.name ≠ "<init>")
    (w1 : (Jvm.Cond.methodLink own ix y).before a0 Z = true) (w2 : (Jvm.Cond.instanceMethod y).before a0 Z = true) (w4 : (Jvm.Cond.superclass own y.cls).before a0 Z = true) (w3 : (Jvm.Cond.code y bytes maxL ret).before a0 Z = true) (hy : y.cls ≠ "java/lang/invoke/MethodHandle" ∧ y.cls ≠ "java/lang/invoke/VarHandle")
    (C : Call l R p e below s args Z a0 EL y 3 W (.ref a :: argsL).toArray h sfc kc ks Q) (E : Exa Z h a K0) (hsub : ∀ x ∈ sfc, x ∈ sf) (hkc : k + kc ≤ R.cells) (hks : n + ks ≤ R.slots) (hml : Ls.size = c.maxLocals)
    (hlen : ∀ sig, parseMethodDescriptor y.desc = some sig → argsL.length = sig.parameters.length) (hst : st = argsL.reverse ++ .ref a :: rest) (hW : (rest.map fun v => v.category).sum ≤ W) (hd : decode c.code pc = .ok (.invokespecial ix, 3))
    (K : ∀ (v : Option Value) (T' : State) (h' : Heap) (nw : List Addr), Sp p l e R s m args below meth c Z a0 EL own T' h' (nw ++ sf) lq (k + kc) (n + ks) → Q v h' nw → F T' (mkF m (pc + 3) Ls (v.toList ++ rest))) : F T (mkF m pc Ls st) := by
  obtain ⟨vm0, k0, locs, X, eT, hS, hk, hZ, ho, hC, hN, hE, hsf, hlt, hx, hEW⟩ := S
  obtain ⟨v, vm₁, B', hw, X', h2, hgr, ⟨L, nw, q1, q2, q3, q4, q5, q6, q7, q8⟩, st'⟩ := superS (s := s.setVm vm0) X hx hZ ho w1 w2 w4 hn hy (C vm0 hZ hC.1 hEW hE fun x hx => hsf x (hsub x hx)) eT E (g := mkF m pc Ls st) rfl hml w3 hlen hst (by show 2 * 0 + _ ≤ _; omega) hd (fun vm₁ _ => ⟨rfl, eT, hkc, hks⟩)
  exact B (fun t kt => st'.trans kt) (K v B'.U B'.U.heap nw (Sp.after hS hk hZ ho hC hN hsf hlt hx hEW X' h2 q2 q3 q4 q5 q6 q7 q8) q1)
/-- the heap as it was: what a law that makes no change hands on -/
theorem Sp.same (S : Sp p l e R s m args below meth c Z a0 EL own T h sf lq k n) {P : State → Prop} (st : ∀ (vm0 : Vm) (locs : List Loc), Stand p l e R (s.setVm vm0) m args below meth c T locs k n → Z.Warmed39 vm0 → vm0.findClass own = some m.cls → T.heap = h → ∃ T', Stand p l e R (s.setVm vm0) m args below meth c T' locs k n ∧ T'.heap = h ∧ P T') :
    ∃ T', Sp p l e R s m args below meth c Z a0 EL own T' h sf lq k n ∧ P T' := by
  obtain ⟨vm0, k0, locs, X, eT, r1, r2, hZ, ho, r⟩ := S
  obtain ⟨T', X', e', st'⟩ := st vm0 locs X hZ ho eT
  exact ⟨T', ⟨vm0, k0, locs, X', e', r1, r2, hZ, ho, r⟩, st'⟩
theorem Sp.get (B : Bw p e below F) (S : Sp p l e R s m args below meth c Z a0 EL own T h sf lq k n) {R0 O nm d : String} {ix pc : Nat} {Ls : Array Slot} {a : Addr} {v : Value} {rest : List Value} (w : (Jvm.Cond.fieldLink own ix R0 nm d).before a0 Z = true) (via : Via Z R0 O nm d) (Fl : Fld Z h a O nm d v) (hd : decode c.code pc = .ok (.getfield ix, 3))
    (K : ∀ T', Sp p l e R s m args below meth c Z a0 EL own T' h sf lq k n → F T' (mkF m (pc + 3) Ls (v :: rest))) : F T (mkF m pc Ls (.ref a :: rest)) := by
  obtain ⟨T', S', st⟩ := S.same fun vm0 locs X hZ ho eT => getF X S.hx hZ ho (host := "") (Or.inl w) via eT Fl (g := mkF m pc Ls (.ref a :: rest)) rfl rfl hd
  exact B st (K T' S')
theorem Sp.getS (B : Bw p e below F) (S : Sp p l e R s m args below meth c Z a0 EL own T h sf lq k n) {R0 O nm d : String} {ix pc : Nat} {Ls : Array Slot} {v : Value} {st : List Value} (w : (Jvm.Cond.fieldLink own ix R0 nm d).before a0 Z = true) (via : Via Z R0 O nm d) (Fs : Sta Z Z.heap O nm d v) (hd : decode c.code pc = .ok (.getstatic ix, 3))
    (K : ∀ T', Sp p l e R s m args below meth c Z a0 EL own T' h sf lq k n → F T' (mkF m (pc + 3) Ls (v :: st))) : F T (mkF m pc Ls st) := by
  obtain ⟨T', S', st'⟩ := S.same fun vm0 locs X hZ ho eT => RoadKit.getS X S.hx hZ (host := "") ho w via eT (Fs.ext S.old) (g := mkF m pc Ls st) rfl hd
  exact B st' (K T' S')
theorem Sp.cast (B : Bw p e below F) (S : Sp p l e R s m args below meth c Z a0 EL own T h sf lq k n) {C : String} {ix pc : Nat} {Ls : Array Slot} {a : Addr} {rest : List Value} (w : (Jvm.Cond.classLink own ix C).before a0 Z = true) (I : Ins Z h a C true) (hd : decode c.code pc = .ok (.checkcast ix, 3))
    (K : ∀ T', Sp p l e R s m args below meth c Z a0 EL own T' h sf lq k n → F T' (mkF m (pc + 3) Ls (.ref a :: rest))) : F T (mkF m pc Ls (.ref a :: rest)) := by
  obtain ⟨T', S', st'⟩ := S.same fun vm0 locs X hZ ho eT => castY X S.hx hZ ho w eT I (g := mkF m pc Ls (.ref a :: rest)) rfl rfl hd
  exact B st' (K T' S')
theorem Sp.instY (B : Bw p e below F) (S : Sp p l e R s m args below meth c Z a0 EL own T h sf lq k n) {C : String} {ix pc : Nat} {Ls : Array Slot} {a : Addr} {rest : List Value} (w : (Jvm.Cond.classLink own ix C).before a0 Z = true) (I : Ins Z h a C true) (hd : decode c.code pc = .ok (.instanceof ix, 3))
    (K : ∀ T', Sp p l e R s m args below meth c Z a0 EL own T' h sf lq k n → F T' (mkF m (pc + 3) Ls (.int 1 :: rest))) : F T (mkF m pc Ls (.ref a :: rest)) := by
  obtain ⟨T', S', st'⟩ := S.same fun vm0 locs X hZ ho eT => RoadKit.instY X S.hx hZ ho w eT I (g := mkF m pc Ls (.ref a :: rest)) rfl rfl hd
  exact B st' (K T' S')
theorem Sp.initO (B : Bw p e below F) (S : Sp p l e R s m args below meth c Z a0 EL own T h sf lq k n) {ix pc W : Nat} {Ls : Array Slot} {a : Addr} {rest : List Value} (w1 : (Jvm.Cond.methodLink own ix Lib.objectInit).before a0 Z = true) (w2 : (Jvm.Cond.instanceMethod Lib.objectInit).before a0 Z = true) (w3 : (Jvm.Cond.code Lib.objectInit ⟨#[0xb1]⟩ 1 none).before a0 Z = true)
    (hml : Ls.size = c.maxLocals) (hd : decode c.code pc = .ok (.invokespecial ix, 3)) (hf : 1 ≤ R.frames) (hW : (rest.map fun v => v.category).sum ≤ W) (hl : W + 12 ≤ R.locals)
    (K : ∀ T', Sp p l e R s m args below meth c Z a0 EL own T' h sf lq k n → F T' (mkF m (pc + 3) Ls rest)) : F T (mkF m pc Ls (.ref a :: rest)) := by
  obtain ⟨T', S', st'⟩ := S.same fun vm0 locs X hZ ho eT => RoadKit.initO X S.hx hZ ho w1 w2 w3 eT (g := mkF m pc Ls (.ref a :: rest)) rfl hml rfl hd hf (W := W) (by show 2 * 0 + _ ≤ _; omega) hl
  exact B st' (K T' S')
/-- one place of a new cell written -/
theorem Sp.wr {T' : State} {vm0 : Vm} {k0 : Nat} {locs : List Loc} {a : Addr} {sl : Nat} {v : Value} (X : Stand p l e R (s.setVm vm0) m args below meth c T' (locs ++ [⟨a, sl⟩]) k n) (eT : T'.heap = h') (hS : s.Since vm0 k0) (hk : k0 ≤ h.size) (hZ : Z.Warmed39 vm0) (ho : vm0.findClass own = some m.cls) (hC : CHr Z EL s.vm s.heap vm0 h) (hN : Fr Z.heap.size locs) (hE : Ext Z.heap h)
    (hsf : ∀ x ∈ sf, Safe Z EL vm0 h x ∧ Z.heap.size ≤ x ∧ x < h.size) (hlt : ∀ q ∈ lq, Lit (s.setVm vm0) q.1 q.2.1 q.2.2) (hx : p.tables.exec = Jvm.exec) (hEW : EW Z a0 EL) (W : Wr h h' a sl v) (ha : a ∈ sf) : Sp p l e R s m args below meth c Z a0 EL own T' h' sf lq k n := by
  have hs := W.size
  refine ⟨vm0, k0, _, X, eT, hS, by rw [hs]; exact hk, hZ, ho, hC.trans (CHr.wr W (hsf a ha).1 hC.1), Fr.snoc X hN (hsf a ha).2.1, ⟨by rw [hs]; exact hE.1, fun x cl q => ?_⟩, fun x hx' => ⟨Safe.wr W (hsf a ha).1 hC.1 (hsf x hx').1, (hsf x hx').2.1, by rw [hs]; exact (hsf x hx').2.2⟩, hlt, hx, hEW⟩
  exact (Keep.of_wr W).2.1 x cl (hE.2 x cl q) (ninS (Nat.ne_of_lt (Nat.lt_of_lt_of_le (Array.getElem?_eq_some_iff.mp q).1 (hsf a ha).2.1)) nin0)
theorem Sp.put (B : Bw p e below F) (S : Sp p l e R s m args below meth c Z a0 EL own T h sf lq k n) {R0 O nm d C : String} {ix kk pc : Nat} {ty : FieldType} {Ls : Array Slot} {a : Addr} {v v' old : Value} {rest : List Value} (w : (Jvm.Cond.fieldLink own ix R0 nm d).before a0 Z = true) (via : Via Z R0 O nm d) (Fl : Fld Z h a O nm d old) (E : Exa Z h a C)
    (L : (Jvm.Cond.lays C O nm d).before a0 Z = true ∨ ((Jvm.Cond.laysFinal C O nm d).before a0 Z = true ∧ own = O ∧ meth.name = "<init>")) (wi : (Jvm.Cond.instantiable C kk).before a0 Z = true) (hty : parseFieldDescriptor d = some ty) (hn : narrow ty v = v') (hf : fits ty v' = true) (ha : a ∈ sf) (hd : decode c.code pc = .ok (.putfield ix, 3))
    (K : ∀ T' h', Sp p l e R s m args below meth c Z a0 EL own T' h' sf lq k n → Wr h h' a (RoadKit.slotOf Z O nm d) v' → F T' (mkF m (pc + 3) Ls rest)) : F T (mkF m pc Ls (v :: .ref a :: rest)) := by
  obtain ⟨vm0, k0, locs, X, eT, hS, hk, hZ, ho, hC, hN, hE, hsf, hlt, hx, hEW⟩ := S
  obtain ⟨T', h', X', e', W, st⟩ := putFN X hx hZ ho w via eT Fl E L wi hty hn hf (g := mkF m pc Ls (v :: .ref a :: rest)) rfl rfl hd
  exact B st (K T' h' (Sp.wr X' e' hS hk hZ ho hC hN hE hsf hlt hx hEW W ha) W)
/-- a cell made -/
theorem Sp.grow {T' : State} {vm0 : Vm} {k0 k' n' : Nat} {locs : List Loc} (X : Stand p l e R (s.setVm vm0) m args below meth c T' locs k' n') (eT : T'.heap = h') (hS : s.Since vm0 k0) (hk : k0 ≤ h.size) (hZ : Z.Warmed39 vm0) (ho : vm0.findClass own = some m.cls) (hC : CHr Z EL s.vm s.heap vm0 h) (hN : Fr Z.heap.size locs) (hE : Ext Z.heap h)
    (hsf : ∀ x ∈ sf, Safe Z EL vm0 h x ∧ Z.heap.size ≤ x ∧ x < h.size) (hlt : ∀ q ∈ lq, Lit (s.setVm vm0) q.1 q.2.1 q.2.2) (hx : p.tables.exec = Jvm.exec) (hEW : EW Z a0 EL) (E : Ext h h') (hlt' : h.size < h'.size) : Sp p l e R s m args below meth c Z a0 EL own T' h' (h.size :: sf) lq k' n' := by
  refine ⟨vm0, k0, _, X, eT, hS, Nat.le_trans hk E.1, hZ, ho, hC.trans (CHr.ext E hC.1), hN, ⟨Nat.le_trans hE.1 E.1, fun x cl q => E.2 _ _ (hE.2 x cl q)⟩, fun x hx' => ?_, hlt, hx, hEW⟩
  rcases List.mem_cons.mp hx' with rfl | q
  · exact ⟨Safe.ext E hC.1 (Safe.new (Nat.le_refl _)), hE.1, hlt'⟩
  · exact ⟨Safe.ext E hC.1 (hsf x q).1, (hsf x q).2.1, Nat.lt_of_lt_of_le (hsf x q).2.2 E.1⟩
theorem Sp.newO (B : Bw p e below F) (S : Sp p l e R s m args below meth c Z a0 EL own T h sf lq k n) {C : String} {ix kk pc : Nat} {Ls : Array Slot} {st : List Value} (w : (Jvm.Cond.classLink own ix C).before a0 Z = true) (wi : (Jvm.Cond.instantiable C kk).before a0 Z = true) (wz : (Jvm.Cond.initialized C).before a0 Z = true) (hd : decode c.code pc = .ok (.new ix, 3)) (hc : k + 1 ≤ R.cells) (hl : n + kk ≤ R.slots)
    (K : ∀ T' h' a, Sp p l e R s m args below meth c Z a0 EL own T' h' (a :: sf) lq (k + 1) (n + kk) → Ext h h' → h.size ≤ a → Exa Z h' a C → (∀ {O nm d : String} {ty : FieldType}, Laid Z a0 C O nm d → parseFieldDescriptor d = some ty → Fld Z h' a O nm d (defaultValue ty)) → F T' (mkF m (pc + 3) Ls (.ref a :: st))) : F T (mkF m pc Ls st) := by
  obtain ⟨vm0, k0, locs, X, eT, hS, hk, hZ, ho, hC, hN, hE, hsf, hlt, hx, hEW⟩ := S
  obtain ⟨T', h', X', e', E, A, D, -, st'⟩ := RoadKit.newO X hx hZ ho w wi wz eT (g := mkF m pc Ls st) rfl hd hc hl
  exact B st' (K T' h' h.size (Sp.grow X' e' hS hk hZ ho hC hN hE hsf hlt hx hEW E A.lt) E (Nat.le_refl _) A fun a b => D a b)
theorem Sp.newP (B : Bw p e below F) (S : Sp p l e R s m args below meth c Z a0 EL own T h sf lq k n) {aty : ArrayType} {cap pc : Nat} {Ls : Array Slot} {z : Int32} {rest : List Value} {ad : String} (w : (Jvm.Cond.arrayClass (newarray.typeOf aty)).before a0 Z = true) (hd : decode c.code pc = .ok (.newarray aty, 2)) (hn : ¬ z < 0) (hcap : z.toNatClampNeg ≤ cap) (hb : cap * 8 ≤ 536870912) (hc : k + 1 ≤ R.cells) (hl : n + cap ≤ R.slots) (had : "[" ++ (newarray.typeOf aty).toString = ad)
    (K : ∀ T' h' a kA, Sp p l e R s m args below meth c Z a0 EL own T' h' (a :: sf) lq (k + 1) (n + cap) → Ext h h' → h.size ≤ a → Exa Z h' a ad → Arv Z h' a kA (newarray.typeOf aty) z [] (defaultValue (newarray.typeOf aty)) → F T' (mkF m (pc + 2) Ls (.ref a :: rest))) : F T (mkF m pc Ls (.int z :: rest)) := by
  obtain ⟨vm0, k0, locs, X, eT, hS, hk, hZ, ho, hC, hN, hE, hsf, hlt, hx, hEW⟩ := S
  obtain ⟨T', h', cA, X', e', E, A, Ex, st'⟩ := newPE X hx hZ w eT (g := mkF m pc Ls (.int z :: rest)) rfl hd rfl hn hcap hb hc hl had
  exact B st' (K T' h' h.size cA (Sp.grow X' e' hS hk hZ ho hC hN hE hsf hlt hx hEW E A.lt) E (Nat.le_refl _) Ex (Arv.new A hn))
theorem Sp.stC (B : Bw p e below F) (S : Sp p l e R s m args below meth c Z a0 EL own T h sf lq k n) {a : Addr} {kA : ClassId} {z j x x' : Int32} {vs : List Value} {dv : Value} {i pc : Nat} {Ls : Array Slot} {rest : List Value} (V : Arv Z h a kA .char z vs dv) (hj : ¬ j < 0 ∧ j < z) (hi : j.toNatClampNeg = i) (hil : i < vs.length) (hx' : nar .char x = x') (ha : a ∈ sf) (hd : decode c.code pc = .ok (.castore, 1))
    (K : ∀ T' h', Sp p l e R s m args below meth c Z a0 EL own T' h' sf lq k n → Wr h h' a j.toNatClampNeg (.int x') → Arv Z h' a kA .char z (vs.set i (.int x')) dv → F T' (mkF m (pc + 1) Ls rest)) : F T (mkF m pc Ls (.int x :: .int j :: .ref a :: rest)) := by
  obtain ⟨vm0, k0, locs, X, eT, hS, hk, hZ, ho, hC, hN, hE, hsf, hlt, hx, hEW⟩ := S
  obtain ⟨cl, A, q1, q2, q3, H, G⟩ := V
  obtain ⟨T', h', X', e', W, st⟩ := RoadKit.stC X hx hZ eT A (inb_of q2 hj) (g := mkF m pc Ls (.int x :: .int j :: .ref a :: rest)) rfl rfl hd
  have hf : fits .char (.int x') = true := hx' ▸ fits_nar_char x
  rw [hx'] at W
  exact B st (K T' h' (Sp.wr X' e' hS hk hZ ho hC hN hE hsf hlt hx hEW W ha) W (Arv.set A q1 q2 q3 H G hf W i hi hil))
theorem Sp.stB (B : Bw p e below F) (S : Sp p l e R s m args below meth c Z a0 EL own T h sf lq k n) {a : Addr} {kA : ClassId} {z j x x' : Int32} {vs : List Value} {dv : Value} {i pc : Nat} {Ls : Array Slot} {rest : List Value} (V : Arv Z h a kA .byte z vs dv) (hj : ¬ j < 0 ∧ j < z) (hi : j.toNatClampNeg = i) (hil : i < vs.length) (hx' : nar .byte x = x') (ha : a ∈ sf) (hd : decode c.code pc = .ok (.bastore, 1))
    (K : ∀ T' h', Sp p l e R s m args below meth c Z a0 EL own T' h' sf lq k n → Wr h h' a j.toNatClampNeg (.int x') → Arv Z h' a kA .byte z (vs.set i (.int x')) dv → F T' (mkF m (pc + 1) Ls rest)) : F T (mkF m pc Ls (.int x :: .int j :: .ref a :: rest)) := by
  obtain ⟨vm0, k0, locs, X, eT, hS, hk, hZ, ho, hC, hN, hE, hsf, hlt, hx, hEW⟩ := S
  obtain ⟨cl, A, q1, q2, q3, H, G⟩ := V
  obtain ⟨T', h', X', e', W, st⟩ := RoadKit.stB X hx hZ eT A (inb_of q2 hj) (g := mkF m pc Ls (.int x :: .int j :: .ref a :: rest)) rfl rfl hd
  have hf : fits .byte (.int x') = true := hx' ▸ fits_nar_byte x
  rw [hx'] at W
  exact B st (K T' h' (Sp.wr X' e' hS hk hZ ho hC hN hE hsf hlt hx hEW W ha) W (Arv.set A q1 q2 q3 H G hf W i hi hil))
theorem Sp.alen (B : Bw p e below F) (S : Sp p l e R s m args below meth c Z a0 EL own T h sf lq k n) {a : Addr} {kA : ClassId} {ty : FieldType} {z : Int32} {vs : List Value} {dv : Value} {pc : Nat} {Ls : Array Slot} {rest : List Value} (V : Arv Z h a kA ty z vs dv) (hd : decode c.code pc = .ok (.arraylength, 1))
    (K : F T (mkF m (pc + 1) Ls (.int z :: rest))) : F T (mkF m pc Ls (.ref a :: rest)) := by
  obtain ⟨vm0, k0, locs, X, eT, hS, hk, hZ, ho, hC, hN, hE, hsf, hlt, hx, hEW⟩ := S
  obtain ⟨cl, A, q1, q2, q3, H, G⟩ := V
  refine B (fun t kt => ?_) K
  refine X.arraylength hx (by rw [eT]; exact A.1) (State.isArrayOf_alike hZ.alike A.2.1) (g := mkF m pc Ls (.ref a :: rest)) rfl rfl hd _ ?_
  rw [len_of q2 q3]
  exact kt
theorem Sp.cald (B : Bw p e below F) (S : Sp p l e R s m args below meth c Z a0 EL own T h sf lq k n) {a : Addr} {kA : ClassId} {z j x : Int32} {vs : List Value} {dv : Value} {pc : Nat} {Ls : Array Slot} {rest : List Value} (V : Arv Z h a kA .char z vs dv) (hj : ¬ j < 0 ∧ j < z) (hv : vs.getD j.toNatClampNeg dv = .int x) (hd : decode c.code pc = .ok (.caload, 1))
    (K : F T (mkF m (pc + 1) Ls (.int x :: rest))) : F T (mkF m pc Ls (.int j :: .ref a :: rest)) := by
  obtain ⟨vm0, k0, locs, X, eT, hS, hk, hZ, ho, hC, hN, hE, hsf, hlt, hx, hEW⟩ := S
  obtain ⟨cl, A, q1, q2, q3, H, G⟩ := V
  refine B (fun t kt => ?_) K
  exact X.caload hx (j := j) (v := .int x) (by rw [eT]; exact A.1) (State.isArrayOf_alike hZ.alike A.2.1) A.2.2 (inb_of q2 hj) (H.at (inb_of q2 hj) hv) (g := mkF m pc Ls (.int j :: .ref a :: rest)) rfl rfl hd _ kt
theorem Sp.bald (B : Bw p e below F) (S : Sp p l e R s m args below meth c Z a0 EL own T h sf lq k n) {a : Addr} {kA : ClassId} {z j x : Int32} {vs : List Value} {dv : Value} {pc : Nat} {Ls : Array Slot} {rest : List Value} (V : Arv Z h a kA .byte z vs dv) (hj : ¬ j < 0 ∧ j < z) (hv : vs.getD j.toNatClampNeg dv = .int x) (hd : decode c.code pc = .ok (.baload, 1))
    (K : F T (mkF m (pc + 1) Ls (.int x :: rest))) : F T (mkF m pc Ls (.int j :: .ref a :: rest)) := by
  obtain ⟨vm0, k0, locs, X, eT, hS, hk, hZ, ho, hC, hN, hE, hsf, hlt, hx, hEW⟩ := S
  obtain ⟨cl, A, q1, q2, q3, H, G⟩ := V
  refine B (fun t kt => ?_) K
  exact X.baloadBytes hx (j := j) (v := .int x) (by rw [eT]; exact A.1) (State.isArrayOf_alike hZ.alike A.2.1) A.2.2 (inb_of q2 hj) (H.at (inb_of q2 hj) hv) (g := mkF m pc Ls (.int j :: .ref a :: rest)) rfl rfl hd _ kt
theorem Sp.irem (B : Bw p e below F) (S : Sp p l e R s m args below meth c Z a0 EL own T h sf lq k n) {x y : Int32} {pc : Nat} {Ls : Array Slot} {rest : List Value} (hy : y ≠ 0) (hd : decode c.code pc = .ok (.irem, 1))
    (K : F T (mkF m (pc + 1) Ls (.int (x % y) :: rest))) : F T (mkF m pc Ls (.int y :: .int x :: rest)) := by
  obtain ⟨vm0, k0, locs, X, eT, hS, hk, hZ, ho, hC, hN, hE, hsf, hlt, hx, hEW⟩ := S
  exact B (fun t kt => iremM X hx (g := mkF m pc Ls (.int y :: .int x :: rest)) rfl hd rfl hy kt) K
theorem Sp.ldcI (B : Bw p e below F) (S : Sp p l e R s m args below meth c Z a0 EL own T h sf lq k n) {v : Int32} {ix pc : Nat} {Ls : Array Slot} {st : List Value} (w : (Jvm.Cond.constant own ix v).before a0 Z = true) (hd : decode c.code pc = .ok (.ldc ix, 2))
    (K : F T (mkF m (pc + 2) Ls (.int v :: st))) : F T (mkF m pc Ls st) := by
  obtain ⟨vm0, k0, locs, X, eT, hS, hk, hZ, ho, hC, hN, hE, hsf, hlt, hx, hEW⟩ := S
  exact B (fun t kt => X.ldcI hx ho (mvT (s := s.setVm vm0) hZ w) (g := mkF m pc Ls st) rfl hd kt) K
/-- more room than is asked -/
theorem Call.mono {y : MethodName} {as' : Array Value} {len W kc ks kc' ks' : Nat} (C : Call l R p e below s args Z a0 EL y len W as' h sf kc ks Q) (hk : kc ≤ kc') (hs : ks ≤ ks') : Call l R p e below s args Z a0 EL y len W as' h sf kc' ks' Q := fun vm0 hZ hC hEL hE hsf => by
  intro m meth c A g ig mk a X hg hsize hdg hW hn hp
  obtain ⟨v, B, X', h2, hgr, ⟨L, nw, q1, q2, q3, q4, q5, q6, q7, q8⟩, st⟩ := C vm0 hZ hC hEL hE hsf m meth c A g ig mk a X hg hsize hdg hW hn ⟨hp.1, hp.2.1, Nat.le_trans (Nat.add_le_add_left hk _) hp.2.2.1, Nat.le_trans (Nat.add_le_add_left hs _) hp.2.2.2⟩
  exact ⟨v, ⟨B.U, B.locs, A.cells + kc', A.slots + ks'⟩, X'.mono (by rw [q6]; exact Nat.add_le_add_left hk _) (by rw [q7]; exact Nat.add_le_add_left hs _), h2, hgr, ⟨L, nw, q1, q2, q3, q4, q5, rfl, rfl, q8⟩, st⟩
theorem Call.imp {y : MethodName} {as' : Array Value} {len W kc ks : Nat} {Q' : Option Value → Heap → List Addr → Prop} (C : Call l R p e below s args Z a0 EL y len W as' h sf kc ks Q) (hq : ∀ v h' nw, Q v h' nw → Q' v h' nw) : Call l R p e below s args Z a0 EL y len W as' h sf kc ks Q' := fun vm0 hZ hC hEL hE hsf => by
  intro m meth c A g ig mk a X hg hsize hdg hW hn hp
  obtain ⟨v, B, X', h2, hgr, ⟨L, nw, q1, q2⟩, st⟩ := C vm0 hZ hC hEL hE hsf m meth c A g ig mk a X hg hsize hdg hW hn hp
  exact ⟨v, B, X', h2, hgr, ⟨L, nw, hq _ _ _ q1, q2⟩, st⟩
/-- a virtual call whose named method's class is seen to be no interface by another method of that class -/
theorem Sp.virtN (B : Bw p e below F) (S : Sp p l e R s m args below meth c Z a0 EL own T h sf lq k n) {ix : Nat} {y y' z : MethodName} {C C' : String} {a : Addr} {argsL rest st : List Value} {sfc : List Addr} {kc ks W pc : Nat} {Ls : Array Slot}
    (w1 : (Jvm.Cond.methodLink own ix y).before a0 Z = true) (w2 : (Jvm.Cond.declares y).before a0 Z = true) (wf : (Jvm.Cond.selects C' y' y').before a0 Z = true) (hc : y'.cls = y.cls) (w3 : (Jvm.Cond.selects C y z).before a0 Z = true) (w4 : (Jvm.Cond.instanceMethod z).before a0 Z = true) (hy : y.cls ≠ "java/lang/invoke/MethodHandle" ∧ y.cls ≠ "java/lang/invoke/VarHandle")
    (CC : Call l R p e below s args Z a0 EL z 3 W (.ref a :: argsL).toArray h sfc kc ks Q) (E : Exa Z h a C) (hsub : ∀ x ∈ sfc, x ∈ sf) (hkc : k + kc ≤ R.cells) (hks : n + ks ≤ R.slots) (hml : Ls.size = c.maxLocals)
    (hlen : ∀ sig, parseMethodDescriptor y.desc = some sig → argsL.length = sig.parameters.length) (hst : st = argsL.reverse ++ .ref a :: rest) (hW : (rest.map fun v => v.category).sum ≤ W) (hd : decode c.code pc = .ok (.invokevirtual ix, 3))
    (K : ∀ (v : Option Value) (T' : State) (h' : Heap) (nw : List Addr), Sp p l e R s m args below meth c Z a0 EL own T' h' (nw ++ sf) lq (k + kc) (n + ks) → Q v h' nw → F T' (mkF m (pc + 3) Ls (v.toList ++ rest))) : F T (mkF m pc Ls st) := by
  obtain ⟨vm0, k0, locs, X, eT, hS, hk, hZ, ho, hC, hN, hE, hsf, hlt, hx, hEW⟩ := S
  obtain ⟨cB, kB, r1, r2, r3⟩ := isOf (s := s.setVm vm0) hZ eT E
  have hnf : NotFace (s.setVm vm0) y := fun r0 h0 => by
    obtain ⟨c2, r2', m2, -, -, q3, -, kP, hkP, hkPi⟩ := Cond.selects_spec (mvT (s := s.setVm vm0) (args := #[]) hZ wf)
    have e1 := findClass_of_methodNamed h0
    have e2 := findClass_of_methodNamed q3
    rw [hc] at e2
    have e3 : r0.cls = m2.cls := Option.some.inj (e1.symm.trans e2)
    exact ⟨kP, by rw [e3]; exact hkP, hkPi⟩
  obtain ⟨v, vm₁, B', hw, X', h2, hgr, ⟨L, nw, q1, q2, q3, q4, q5, q6, q7, q8⟩, st'⟩ := X.virtualBackS hx ho (mvT (s := s.setVm vm0) hZ w1) (mvT (s := s.setVm vm0) hZ w2) hnf (mvT (s := s.setVm vm0) hZ w3) (mvT (s := s.setVm vm0) hZ w4) hy (CC vm0 hZ hC.1 hEW hE fun x hx => hsf x (hsub x hx)) r1 r3 (g := mkF m pc Ls st) rfl hml (Steps.refl _) hlen hst (by show 2 * 0 + _ ≤ _; omega) hd (fun vm₁ _ => ⟨rfl, eT, hkc, hks⟩)
  exact B (fun t kt => st'.trans kt) (K v B'.U B'.U.heap nw (Sp.after hS hk hZ ho hC hN hsf hlt hx hEW X' h2 q2 q3 q4 q5 q6 q7 q8) q1)
/-- invokevirtual of a private method -/
theorem Sp.priv (B : Bw p e below F) (S : Sp p l e R s m args below meth c Z a0 EL own T h sf lq k n) {ix : Nat} {y : MethodName} {bytes : ByteArray} {maxL : Nat} {ret : Option FieldType} {C C' : String} {a : Addr} {argsL rest st : List Value} {sfc : List Addr} {kc ks W pc : Nat} {Ls : Array Slot}
    (w1 : (Jvm.Cond.methodLink own ix y).before a0 Z = true) (w2 : (Jvm.Cond.instanceMethod y).before a0 Z = true) (wf : (Jvm.Cond.selects C' y y).before a0 Z = true) (wp : (Jvm.Cond.privateMethod y).before a0 Z = true) (w3 : (Jvm.Cond.code y bytes maxL ret).before a0 Z = true) (hy : y.cls ≠ "java/lang/invoke/MethodHandle" ∧ y.cls ≠ "java/lang/invoke/VarHandle")
    (CC : Call l R p e below s args Z a0 EL y 3 W (.ref a :: argsL).toArray h sfc kc ks Q) (E : Exa Z h a C) (hsub : ∀ x ∈ sfc, x ∈ sf) (hkc : k + kc ≤ R.cells) (hks : n + ks ≤ R.slots) (hml : Ls.size = c.maxLocals)
    (hlen : ∀ sig, parseMethodDescriptor y.desc = some sig → argsL.length = sig.parameters.length) (hst : st = argsL.reverse ++ .ref a :: rest) (hW : (rest.map fun v => v.category).sum ≤ W) (hd : decode c.code pc = .ok (.invokevirtual ix, 3))
    (K : ∀ (v : Option Value) (T' : State) (h' : Heap) (nw : List Addr), Sp p l e R s m args below meth c Z a0 EL own T' h' (nw ++ sf) lq (k + kc) (n + ks) → Q v h' nw → F T' (mkF m (pc + 3) Ls (v.toList ++ rest))) : F T (mkF m pc Ls st) := by
  obtain ⟨vm0, k0, locs, X, eT, hS, hk, hZ, ho, hC, hN, hE, hsf, hlt, hx, hEW⟩ := S
  obtain ⟨cB, kB, r1, r2, cell, hcell, hcls, hstat⟩ := isOf (s := s.setVm vm0) hZ eT E
  obtain ⟨mk, methM, hnamed, hmethM, hstM, habM⟩ := Cond.instanceMethod_spec (mvT (s := s.setVm vm0) (args := args) hZ w2)
  obtain ⟨methM', cM, hmethM', -, -, -, -, -, -, hsigM⟩ := Cond.code_spec hnamed (mvT (s := s.setVm vm0) (args := args) hZ w3)
  cases hmethM.symm.trans hmethM'
  obtain ⟨c2, r2', m2, -, -, q3, -, kP, hkP, hkPi⟩ := Cond.selects_spec (mvT (s := s.setVm vm0) (args := args) hZ wf)
  cases hnamed.symm.trans q3
  have hselP : selectMethod e.platform (s.setVm vm0).vm cell.cls mk = .method mk := selectMethod_private hmethM (Cond.privateMethod_at (mvP (s := s.setVm vm0) (args := args) hZ wp) mk methM hnamed hmethM)
  obtain ⟨vm₁, X₁, hstep₁⟩ := X.invokevirtual hx ho (mvT (s := s.setVm vm0) hZ w1) hnamed hmethM hstM hkP hkPi hy (a := a) (cell := cell) hcell (fun z q => by rw [q] at hstat; cases hstat) hselP hmethM habM hkP hkPi (g := mkF m pc Ls st) rfl (argsL := argsL) (rest := rest) (hlen _ hsigM) hst hd
  obtain ⟨v, B', X', h2, hgr, ⟨L, nw, q1, q2, q3, q4, q5, q6, q7, q8⟩, st'⟩ := CC vm0 hZ hC.1 hEW hE (fun x hx => hsf x (hsub x hx)) m meth c ⟨T.setVm vm₁, locs, k, n⟩ (mkF m pc Ls rest) (.invokevirtual ix) mk (.ref a :: argsL).toArray X₁ rfl hml hd (by show 2 * 0 + (rest.map fun v => v.category).sum ≤ W; omega) (X₁.named hnamed) ⟨rfl, eT, hkc, hks⟩
  exact B (fun t kt => ((hstep₁ _ fun acts => by rw [doInvoke_state]; exact Steps.refl _).trans st').trans kt) (K v B'.U B'.U.heap nw (Sp.after hS hk hZ ho hC hN hsf hlt hx hEW X' h2 q2 q3 q4 q5 q6 q7 q8) q1)
/-- System.arraycopy of a primitive array into another (or the same) -/
theorem Sp.acopy (B : Bw p e below F) (S : Sp p l e R s m args below meth c Z a0 EL own T h sf lq k n) {ix pc W : Nat} {a b : Addr} {kA kB : ClassId} {ty : FieldType} {z z' sp dp nn : Int32} {vs vd us : List Value} {dv dd : Value} {Ls : Array Slot} {rest : List Value}
    (w1 : (Jvm.Cond.methodLink own ix Jvm.Stand.acN).before a0 Z = true) (w2 : (Jvm.Cond.native Jvm.Stand.acN).before a0 Z = true) (w3 : (Jvm.Cond.static Jvm.Stand.acN).before a0 Z = true) (w4 : (Jvm.Cond.initialized "java/lang/System").before a0 Z = true) (V : Arv Z h a kA ty z vs dv) (V' : Arv Z h b kB ty z' vd dd) (hty : refKind ty = false)
    (h1 : ¬ sp < 0) (h2 : ¬ dp < 0) (h3 : ¬ nn < 0) (h4 : sp.toNatClampNeg + nn.toNatClampNeg ≤ z.toNatClampNeg) (h5 : dp.toNatClampNeg + nn.toNatClampNeg ≤ z'.toNatClampNeg) (hus : us = (List.range nn.toNatClampNeg).map fun i => vs.getD (sp.toNatClampNeg + i) dv) (hl : dp.toNatClampNeg + nn.toNatClampNeg ≤ vd.length) (hb : b ∈ sf) (hml : Ls.size = c.maxLocals)
    (hf : 1 ≤ R.frames) (hW : (rest.map fun v => v.category).sum ≤ W) (hlo : W + 18 ≤ R.locals) (hd : decode c.code pc = .ok (.invokestatic ix, 3))
    (K : ∀ T' h', Sp p l e R s m args below meth c Z a0 EL own T' h' sf lq k n → Keep h h' [b] → Arv Z h' b kB ty z' (vd.take dp.toNatClampNeg ++ us ++ vd.drop (dp.toNatClampNeg + nn.toNatClampNeg)) dd → F T' (mkF m (pc + 3) Ls rest)) : F T (mkF m pc Ls (.int nn :: .int dp :: .ref b :: .int sp :: .ref a :: rest)) := by
  obtain ⟨vm0, k0, locs, X, eT, hS, hk, hZ, ho, hC, hN, hE, hsf, hlt, hx, hEW⟩ := S
  obtain ⟨T', h', L, X', e', N, Kp, V2, st⟩ := cpA X hx hZ ho w1 w2 w3 w4 eT V V' (Or.inl ⟨rfl, hty⟩) h1 h2 h3 h4 h5 hus hl hN (hsf b hb).2.1 (g := mkF m pc Ls (.int nn :: .int dp :: .ref b :: .int sp :: .ref a :: rest)) rfl hml rfl hd hf (by show 2 * 0 + _ ≤ _; omega) hlo
  have hs1 : ∀ x ∈ [b], Safe Z EL vm0 h x := fun x hx' => by cases List.mem_singleton.mp hx'; exact (hsf b hb).1
  refine B st (K T' h' ⟨vm0, k0, L, X', e', hS, Nat.le_trans hk Kp.1, hZ, ho, hC.trans (CHr.keep Kp hs1 hC.1), N, ⟨Nat.le_trans hE.1 Kp.1, fun x cl q => Kp.2.1 x cl (hE.2 x cl q) (nin1 (Nat.ne_of_lt (Nat.lt_of_lt_of_le (Array.getElem?_eq_some_iff.mp q).1 (hsf b hb).2.1)))⟩, fun x hx' => ⟨Safe.keep Kp hs1 hC.1 (hsf x hx').1, (hsf x hx').2.1, Nat.lt_of_lt_of_le (hsf x hx').2.2 Kp.1⟩, hlt, hx, hEW⟩ Kp V2)
/-- a String constant of EL loaded, its text read -/
theorem Sp.ldc (B : Bw p e below F) (S : Sp p l e R s m args below meth c Z a0 EL own T h sf lq k n) {text : String} {ix nn pc : Nat} {Ls : Array Slot} {st : List Value} (w : (Jvm.Cond.stringLink own ix text).before a0 Z = true) (wS : ∀ a ∈ Bundle.stringAtoms, a.before a0 Z = true) (hmem : (own, ix) ∈ EL)
    {vs : List Value} {z : Int32} (ht : (∀ c ∈ text.toList, c.toNat < 256) ∧ text.toList.map (fun c => Value.int (Jvm.Lit.byteI c.toNat.toUInt16)) = vs) (hz : ¬ z < 0) (hl : z.toNatClampNeg = vs.length) (hd : decode c.code pc = .ok (.ldc ix, 2)) (hn : 4 * text.toList.length ≤ nn) (hbig : nn ≤ 536870912) (hc : k + 2 ≤ R.cells) (hl' : n + (nn + 4) ≤ R.slots)
    (K : ∀ T' h' a b kb, Sp p l e R s m args below meth c Z a0 EL own T' h' sf [(own, ix, a)] (k + 2) (n + (nn + 4)) → Ext h h' → Exa Z h' a "java/lang/String" → Fld Z h' a "java/lang/String" "coder" "B" (.int 0) → Fld Z h' a "java/lang/String" "value" "[B" (.ref b) → Arv Z h' b kb .byte z vs (.int 0) → (∀ x ∈ sf, x ≠ a ∧ x ≠ b) → F T' (mkF m (pc + 2) Ls (.ref a :: st))) : F T (mkF m pc Ls st) := by
  obtain ⟨vm0, k0, locs, X, eT, hS, hk, hZ, ho, hC, hN, hE, hsf, hlt, hx, hEW⟩ := S
  obtain ⟨a, T', h', k1, b, kb, X', e', E, hS', hk', hZ', ho', e1, e2, e3, e4, e5, e6, hCr, hL, hne, st'⟩ := ldcCH X hx hZ ho w wS eT hS hk hEW hmem hC.1 ht hz hl (g := mkF m pc Ls st) rfl hd hn hbig hc hl'
  refine B st' (K T' h' a b kb ⟨T'.vm, k1, locs, X', e', hS', hk', hZ', ho', hC.trans hCr, hN, ⟨Nat.le_trans hE.1 E.1, fun x cl q => E.2 _ _ (hE.2 x cl q)⟩, fun x hx' => ⟨hCr.safe (hsf x hx').2.2 (hsf x hx').1, (hsf x hx').2.1, Nat.lt_of_lt_of_le (hsf x hx').2.2 E.1⟩, fun q hq => ?_, hx, hEW⟩ E e1 e2 e3 e4 fun x hx' => hne x (hCr.safe (hsf x hx').2.2 (hsf x hx').1))
  cases List.mem_singleton.mp hq
  exact hL
/-- the same entry again -/
theorem Sp.ldcA (B : Bw p e below F) (S : Sp p l e R s m args below meth c Z a0 EL own T h sf lq k n) {text : String} {ix pc : Nat} {a : Addr} {Ls : Array Slot} {st : List Value} (w : (Jvm.Cond.stringLink own ix text).before a0 Z = true) (hq : (own, ix, a) ∈ lq) (hd : decode c.code pc = .ok (.ldc ix, 2))
    (K : F T (mkF m (pc + 2) Ls (.ref a :: st))) : F T (mkF m pc Ls st) := by
  obtain ⟨vm0, k0, locs, X, eT, hS, hk, hZ, ho, hC, hN, hE, hsf, hlt, hx, hEW⟩ := S
  exact B (ldcAgain X hx hZ ho w (hlt _ hq) (g := mkF m pc Ls st) rfl hd) K
/-- returns -/
theorem Sp.leave {kc ks : Nat} (S : Sp p l e R s m args below meth c Z a0 EL own T h sf lq kc ks) {v : Option Value} (hv : meth.sig.returnType = none → v = none) (hlk : meth.locks = false) {nw : List Addr} (hq : Q v h nw) (hnw : ∀ x ∈ nw, x ∈ sf) {g : JFrame}
    (go : ∀ (vm0 : Vm) (locs : List Loc) (fs : List Frame), Stand p l e R (s.setVm vm0) m args below meth c T locs kc ks → (∀ (f : JFrame) (acts : List Action), f.method = m → f.locked = none → f.entered = [] → (doReturn e (T.setTop f) acts v).1 = T.setFrames fs) → Steps p.tables e below (T.setTop g) (T.setFrames fs)) :
    Fin p e below s Z EL Q kc ks T g := by
  obtain ⟨vm0, k0, locs, X, eT, hS, hk, hZ, ho, hC, hN, hE, hsf, hlt, hx, hEW⟩ := S
  obtain ⟨fs, h1, h2, h3, h4⟩ := X.leaveW hS (by rw [eT]; exact hk) hv hlk
  have R1 : CHr Z EL vm0 h T.vm h := CHv.at X hZ hEW hC.1
  refine ⟨_, _, go vm0 locs fs X h1, h2, h3, v, locs, nw, rfl, by show Q v T.heap nw; rw [eT]; exact hq, fun x hx' => ?_, hN, by show Ext Z.heap T.heap; rw [eT]; exact hE, by show CHr Z EL s.vm s.heap T.vm T.heap; rw [eT]; exact hC.trans R1, h4⟩
  have q := hsf x (hnw x hx')
  show Safe Z EL T.vm T.heap x ∧ Z.heap.size ≤ x ∧ x < T.heap.size
  rw [eT]; exact ⟨R1.safe q.2.2 q.1, q.2⟩
theorem Sp.ret {kc ks pc : Nat} {Ls : Array Slot} (S : Sp p l e R s m args below meth c Z a0 EL own T h sf lq kc ks) (hr : meth.sig.returnType = none) (hlk : meth.locks = false) (hd : decode c.code pc = .ok (.return_, 1)) {nw : List Addr} (hq : Q none h nw) (hnw : ∀ x ∈ nw, x ∈ sf) : Fin p e below s Z EL Q kc ks T (mkF m pc Ls []) :=
  S.leave (fun _ => rfl) hlk hq hnw fun vm0 locs fs X hl => X.returnOut S.hx hr hd hl
theorem Sp.retV {kc ks pc : Nat} {Ls : Array Slot} {t : FieldType} {w : Value} {i : Instr} {rest : List Value} (S : Sp p l e R s m args below meth c Z a0 EL own T h sf lq kc ks) (hr : meth.sig.returnType = some t) (hlk : meth.locks = false) (hn : narrow t w = w)
    (hi : (i = .ireturn ∧ (t = .int ∨ t = .boolean ∨ t = .byte ∨ t = .char ∨ t = .short) ∧ ∃ z, w = .int z) ∨ (i = .lreturn ∧ t = .long ∧ ∃ z, w = .long z) ∨ (i = .dreturn ∧ t = .double ∧ ∃ z, w = .double z) ∨ (i = .freturn ∧ t = .float ∧ ∃ z, w = .float z) ∨ (i = .areturn ∧ t.isReference = true ∧ w.isRef = true))
    (hd : decode c.code pc = .ok (i, 1)) {nw : List Addr} (hq : Q (some w) h nw) (hnw : ∀ x ∈ nw, x ∈ sf) : Fin p e below s Z EL Q kc ks T (mkF m pc Ls (w :: rest)) :=
  S.leave (fun q => by rw [hr] at q; cases q) hlk hq hnw fun vm0 locs fs X hl => retOut X S.hx hr hn hi hd hl
theorem Sp.retA {kc ks pc : Nat} {Ls : Array Slot} {t : FieldType} {w : Value} {rest : List Value} (S : Sp p l e R s m args below meth c Z a0 EL own T h sf lq kc ks) (hr : meth.sig.returnType = some t) (hlk : meth.locks = false) (ht : t.isReference = true) (hw : w.isRef = true)
    (hd : decode c.code pc = .ok (.areturn, 1)) {nw : List Addr} (hq : Q (some w) h nw) (hnw : ∀ x ∈ nw, x ∈ sf) : Fin p e below s Z EL Q kc ks T (mkF m pc Ls (w :: rest)) :=
  S.retV hr hlk (by cases w <;> first | (cases hw; done) | (cases t <;> rfl)) (Or.inr (Or.inr (Or.inr (Or.inr ⟨rfl, ht, hw⟩)))) hd hq hnw
theorem Sp.retI {kc ks pc : Nat} {Ls : Array Slot} {t : FieldType} {z : Int32} {rest : List Value} (S : Sp p l e R s m args below meth c Z a0 EL own T h sf lq kc ks) (hr : meth.sig.returnType = some t) (hlk : meth.locks = false) (ht : t = .int ∨ t = .boolean ∨ t = .byte ∨ t = .char ∨ t = .short) (hn : narrow t (.int z) = .int z)
    (hd : decode c.code pc = .ok (.ireturn, 1)) {nw : List Addr} (hq : Q (some (.int z)) h nw) (hnw : ∀ x ∈ nw, x ∈ sf) : Fin p e below s Z EL Q kc ks T (mkF m pc Ls (.int z :: rest)) :=
  S.retV hr hlk hn (Or.inl ⟨rfl, ht, z, rfl⟩) hd hq hnw
/-- an object by its class and some of its fields -/
def Ob (Z : State) (a0 : Array Value) (h : Heap) (a : Addr) (C : String) (fs : List (String × String × String × Value)) : Prop :=
  Exa Z h a C ∧ ∀ f ∈ fs, Laid Z a0 C f.1 f.2.1 f.2.2.1 ∧ (∃ t, parseFieldDescriptor f.2.2.1 = some t) ∧ Fld Z h a f.1 f.2.1 f.2.2.1 f.2.2.2
theorem all_nil {α : Type} {P : α → Prop} : ∀ x ∈ ([] : List α), P x := fun _ q => nomatch q
theorem all_cons {α : Type} {P : α → Prop} {y : α} {L : List α} (q : P y) (r : ∀ x ∈ L, P x) : ∀ x ∈ y :: L, P x := fun x z => (List.mem_cons.mp z).elim (fun u => u ▸ q) (r x)
section Obj
variable {a b : Addr} {C : String} {fs : List (String × String × String × Value)}
theorem Ob.lt (O : Ob Z a0 h a C fs) : @LT.lt Nat _ a h.size := O.1.lt
theorem Ob.ext (O : Ob Z a0 h a C fs) (E : Ext h h') : Ob Z a0 h' a C fs := ⟨O.1.ext E, fun f hf => ⟨(O.2 f hf).1, (O.2 f hf).2.1, (O.2 f hf).2.2.ext E⟩⟩
theorem Ob.keep {ws : List Addr} (O : Ob Z a0 h a C fs) (K : Keep h h' ws) (q : a ∉ ws) : Ob Z a0 h' a C fs := ⟨O.1.keep K, fun f hf => ⟨(O.2 f hf).1, (O.2 f hf).2.1, (O.2 f hf).2.2.keep K q⟩⟩
theorem Ob.other {sl : Nat} {v : Value} (O : Ob Z a0 h a C fs) (W : Wr h h' b sl v) (q : a ≠ b) : Ob Z a0 h' a C fs := O.keep (Keep.of_wr W) (ninS q nin0)
theorem Ob.f (O : Ob Z a0 h a C fs) {i : Nat} {x : String × String × String × Value} (hi : fs[i]? = some x) : Fld Z h a x.1 x.2.1 x.2.2.1 x.2.2.2 := (O.2 x (List.mem_of_getElem? hi)).2.2
theorem Ob.laid (O : Ob Z a0 h a C fs) {i : Nat} {x : String × String × String × Value} (hi : fs[i]? = some x) : Laid Z a0 C x.1 x.2.1 x.2.2.1 := (O.2 x (List.mem_of_getElem? hi)).1
theorem Ob.put (O : Ob Z a0 h a C fs) {i : Nat} {O' nm d : String} {old v : Value} {ns : List String} (hi : fs[i]? = some (O', nm, d, old)) (hns : fs.map (·.2.1) = ns) (hnd : ns.Nodup) (W : Wr h h' a (RoadKit.slotOf Z O' nm d) v) : Ob Z a0 h' a C (fs.set i (O', nm, d, v)) := by
  subst hns
  have hil : i < fs.length := (List.getElem?_eq_some_iff.mp hi).1
  refine ⟨O.1.wr W, fun f hf => ?_⟩
  obtain ⟨j, hj⟩ := List.getElem?_of_mem hf
  rw [List.getElem?_set] at hj
  by_cases hij : i = j
  · subst hij
    simp only [if_true, hil] at hj
    cases hj
    have q1 := O.laid hi
    have q2 := (O.2 _ (List.mem_of_getElem? hi)).2.1
    have q3 := (O.f hi).same W
    exact ⟨q1, q2, q3⟩
  · simp only [hij, if_false] at hj
    obtain ⟨t, ht⟩ := (O.2 _ (List.mem_of_getElem? hi)).2.1
    obtain ⟨t', ht'⟩ := (O.2 _ (List.mem_of_getElem? hj)).2.1
    have hne : f.2.1 ≠ nm := fun q => by
      have e1 : (fs.map (·.2.1))[i]? = some nm := by rw [List.getElem?_map, hi]; rfl
      have e2 : (fs.map (·.2.1))[j]? = some nm := by rw [List.getElem?_map, hj, ← q]; rfl
      have hil' : i < (fs.map (·.2.1)).length := by rw [List.length_map]; exact hil
      exact hij ((List.getElem?_inj hil' hnd).mp (e1.trans e2.symm))
    have q1 := O.laid hj
    have q2 := O.laid hi
    have q3 := O.f hj
    exact ⟨q1, ⟨t', ht'⟩, q3.other W (Or.inr (slot_ne q1 q2 hne ht' ht))⟩
theorem Ob.new (A : Exa Z h a C) (D : ∀ {O nm d : String} {ty : FieldType}, Laid Z a0 C O nm d → parseFieldDescriptor d = some ty → Fld Z h a O nm d (defaultValue ty)) (ls : List (String × String × String × FieldType)) (hl : ∀ q ∈ ls, Laid Z a0 C q.1 q.2.1 q.2.2.1 ∧ parseFieldDescriptor q.2.2.1 = some q.2.2.2) :
    Ob Z a0 h a C (ls.map fun q => (q.1, q.2.1, q.2.2.1, defaultValue q.2.2.2)) := ⟨A, fun f hf => by
  obtain ⟨q, hq, rfl⟩ := List.mem_map.mp hf
  exact ⟨(hl q hq).1, ⟨_, (hl q hq).2⟩, D (hl q hq).1 (hl q hq).2⟩⟩
theorem Sp.getO (B : Bw p e below F) (S : Sp p l e R s m args below meth c Z a0 EL own T h sf lq k n) {O' nm d : String} {ix pc i : Nat} {Ls : Array Slot} {v : Value} {rest : List Value} (w : (Jvm.Cond.fieldLink own ix O' nm d).before a0 Z = true) (O : Ob Z a0 h a C fs) (hi : fs[i]? = some (O', nm, d, v)) (hd : decode c.code pc = .ok (.getfield ix, 3))
    (K : ∀ T', Sp p l e R s m args below meth c Z a0 EL own T' h sf lq k n → F T' (mkF m (pc + 3) Ls (v :: rest))) : F T (mkF m pc Ls (.ref a :: rest)) :=
  Sp.get B S w Via.refl (O.f hi) hd K
theorem Sp.putO (B : Bw p e below F) (S : Sp p l e R s m args below meth c Z a0 EL own T h sf lq k n) {O' nm d : String} {ix kk pc i : Nat} {ty : FieldType} {Ls : Array Slot} {v v' old : Value} {rest : List Value} {ns : List String} (w : (Jvm.Cond.fieldLink own ix O' nm d).before a0 Z = true) (O : Ob Z a0 h a C fs) (hi : fs[i]? = some (O', nm, d, old)) (hns : fs.map (·.2.1) = ns) (hnd : ns.Nodup)
    (L : (Jvm.Cond.lays C O' nm d).before a0 Z = true ∨ ((Jvm.Cond.laysFinal C O' nm d).before a0 Z = true ∧ own = O' ∧ meth.name = "<init>")) (wi : (Jvm.Cond.instantiable C kk).before a0 Z = true) (hty : parseFieldDescriptor d = some ty) (hn : narrow ty v = v') (hf : fits ty v' = true) (ha : a ∈ sf) (hd : decode c.code pc = .ok (.putfield ix, 3))
    (K : ∀ T' h', Sp p l e R s m args below meth c Z a0 EL own T' h' sf lq k n → Keep h h' [a] → Ob Z a0 h' a C (fs.set i (O', nm, d, v')) → F T' (mkF m (pc + 3) Ls rest)) : F T (mkF m pc Ls (v :: .ref a :: rest)) :=
  Sp.put B S w Via.refl (O.f hi) O.1 L wi hty hn hf ha hd fun T' h' S' W => K T' h' S' (Keep.of_wr W) (O.put hi hns hnd W)
end Obj
end Kit
end Jvm.OwnKit
/- laws to paste: Road.backArv, Road.CodA, Road.low_at, StrChars.narrow_ch, StrChars.chr8_lo8 (cut by pick.py; bodies as the Statement names them) -/
namespace Jvm.Pilot.@@N@@
namespace StrChars
open Jvm Sem ClassFile Op Lib Jvm.Stand Jvm.Free.XT Jvm.Free.ALB Jvm.Free.JM Jvm.Free
open Jvm.Lib.Cold (StaticIs)
/-- a char array whose places are chars -/
def Ch (a : Addr) (A : Cell) (U : State) : Prop := Arr .char a A U ∧ Typed .char A
theorem Ch.mv {a : Addr} {A : Cell} {U U' : State} (h : Ch a A U) (hal : U.vm.Alike U'.vm) (hh : U'.heap = U.heap) : Ch a A U' := ⟨h.1.mv hal hh, h.2⟩
theorem Ch.keep {a : Addr} {A : Cell} {U U' : State} (h : Ch a A U) (hal : U.vm.Alike U'.vm) (hk : U'.heap[a]? = some A) : Ch a A U' := ⟨h.1.keep hal hk, h.2⟩
/-- what place i of a char[]'s cell holds -/
def cv (A : Cell) (i : Nat) : Int32 := match A.slots[i]? with | some (.int x) => x | _ => 0
theorem Ch.get {a : Addr} {A : Cell} {U : State} (h : Ch a A U) {i : Nat} (hi : i < A.slots.size) : A.slots[i]? = some (.int (cv A i)) := by
  have e := Array.getElem?_eq_getElem hi
  have f := h.2 i _ e
  unfold cv; rw [e]
  generalize A.slots[i] = v at f
  cases v <;> simp [fits] at f ⊢
/-- the byte that i2b leaves of a char -/
def lo8 (x : Int32) : Int32 := x.toInt8.toInt32
theorem fits_lo8 (y : Int32) : fits .byte (.int (lo8 y)) = true := by
  have h1 := y.toInt8.le_toInt
  have h2 := y.toInt8.toInt_lt
  simp only [lo8, fits, Bool.and_eq_true, decide_eq_true_eq, Int32.le_iff_toInt_le, Int8.toInt_toInt32, show (-128 : Int32).toInt = -128 from by decide, show (127 : Int32).toInt = 127 from by decide]
  omega
/-- A' is A but that each place j of lo .. hi - 1 holds f j -/
def Laid (A A' : Cell) (lo hi : Nat) (f : Nat → Value) : Prop := A'.cls = A.cls ∧ A'.vm = A.vm ∧ A'.slots.size = A.slots.size ∧ ∀ i, A'.slots[i]? = if lo ≤ i ∧ i < hi then some (f i) else A.slots[i]?
theorem Laid.zero (A : Cell) (lo : Nat) (f : Nat → Value) : Laid A A lo (lo + 0) f := ⟨rfl, rfl, rfl, fun i => by rw [if_neg (by omega)]⟩
theorem Laid.step {A Ak : Cell} {lo k : Nat} {f : Nat → Value} {v : Value} (h : Laid A Ak lo k f) (hlo : lo ≤ k) (hk : k < Ak.slots.size) (hv : v = f k) : Laid A (Ak.setSlot k v) lo (k + 1) f := by
  refine ⟨h.1, h.2.1, by simpa [Cell.setSlot] using h.2.2.1, fun i => ?_⟩
  by_cases e : k = i
  · subst e; rw [Cell.slots_setSlot_self v hk, if_pos (by omega), hv]
  · rw [Cell.slots_setSlot_ne v e, h.2.2.2 i]
    by_cases q : lo ≤ i ∧ i < k
    · rw [if_pos q, if_pos (by omega)]
    · rw [if_neg q, if_neg (by omega)]
def U16 : String := "java/lang/StringUTF16"
namespace Cmp5
def yN : MethodName := ⟨"java/lang/StringUTF16", "compress", "([CI[BII)I"⟩
abbrev yB : ByteArray := jdk_52_method_21_code
theorem d0 : decode yB 0 = .ok (.iconst 0, 1) := by decide +kernel
theorem d1 : decode yB 1 = .ok (.istore 5, 2) := by decide +kernel
theorem d3 : decode yB 3 = .ok (.iload 5, 2) := by decide +kernel
theorem d5 : decode yB 5 = .ok (.iload 4, 2) := by decide +kernel
theorem d7 : decode yB 7 = .ok (.if_icmp (.ge) 37, 3) := by decide +kernel
theorem d10 : decode yB 10 = .ok (.aload_n 0, 1) := by decide +kernel
theorem d11 : decode yB 11 = .ok (.iload_n 1, 1) := by decide +kernel
theorem d12 : decode yB 12 = .ok (.caload, 1) := by decide +kernel
theorem d13 : decode yB 13 = .ok (.istore 6, 2) := by decide +kernel
theorem d15 : decode yB 15 = .ok (.iload 6, 2) := by decide +kernel
theorem d17 : decode yB 17 = .ok (.sipush 255, 3) := by decide +kernel
theorem d20 : decode yB 20 = .ok (.if_icmp (.le) 6, 3) := by decide +kernel
theorem d26 : decode yB 26 = .ok (.aload_n 2, 1) := by decide +kernel
theorem d27 : decode yB 27 = .ok (.iload_n 3, 1) := by decide +kernel
theorem d28 : decode yB 28 = .ok (.iload 6, 2) := by decide +kernel
theorem d30 : decode yB 30 = .ok (.i2b, 1) := by decide +kernel
theorem d31 : decode yB 31 = .ok (.bastore, 1) := by decide +kernel
theorem d32 : decode yB 32 = .ok (.iinc 1 1, 3) := by decide +kernel
theorem d35 : decode yB 35 = .ok (.iinc 3 1, 3) := by decide +kernel
theorem d38 : decode yB 38 = .ok (.iinc 5 1, 3) := by decide +kernel
theorem d41 : decode yB 41 = .ok (.goto (-38), 3) := by decide +kernel
theorem d44 : decode yB 44 = .ok (.iload 4, 2) := by decide +kernel
theorem d46 : decode yB 46 = .ok (.ireturn, 1) := by decide +kernel
def site : List Cond := []
def tab : Cond := tabOf yN yB 7 (some .int) site
def P (b : Addr) (A : Cell) (d : Addr) (B : Cell) (o q len : Nat) (args : Array Value) (s : State) : Prop := args = #[.ref b, .int (Int32.ofNat o), .ref d, .int (Int32.ofNat q), .int (Int32.ofNat len)] ∧ Ch b A s ∧ Arr .byte d B s ∧ b ≠ d ∧ o + len ≤ A.slots.size ∧ q + len ≤ B.slots.size ∧ ∀ i, i < len → ¬ 255 < cv A (o + i)
def E (b : Addr) (A : Cell) (d : Addr) (B : Cell) (o q len : Nat) (r : Option Value) (s u : State) : Prop := r = some (.int (Int32.ofNat len)) ∧ ∃ B', Put d B' s u ∧ Laid B B' q (q + len) (fun j => Value.int (lo8 (cv A (o + (j - q)))))
/-- no char of the range above 255: len; the places written hold each char's low byte -/
theorem law (l : Launch) (b : Addr) (A : Cell) (d : Addr) (B : Cell) (o q len : Nat) : Law l yN 5 5 0 0 yB 7 (some .int) site (P b A d B o q len) (E b A d B o q len) (copyLocs d q len) 0 0 := by
  refine Law.of_walk (plainFor_of_name (by decide +kernel)) (by decide +kernel) (by decide +kernel) (by decide) (fun _ _ h => by rw [h.1]; rfl) (fun _ U U' hal hh h => ⟨h.1, h.2.1.mv hal hh, h.2.2.1.mv hal hh, h.2.2.2⟩) (fun r U U' V V' h1 hal h2 h => ⟨h.1, h.2.elim fun B' q => ⟨B', q.1.mv h1 h2, q.2⟩⟩) ?_
  intro p e s m args below meth c s₁ X0 hexec hbytes hml hret hlk hnm hown hh0 W hP
  obtain ⟨rfl, hA, hB, hne, l1, l2, hp⟩ := hP
  have c1 : Steps p.tables e below (s₁.setTop (entryFrame m #[.ref b, .int (Int32.ofNat o), .ref d, .int (Int32.ofNat q), .int (Int32.ofNat len)] 7)) (s₁.setTop (mkF m 0 #[.val (.ref b), .val (.int (Int32.ofNat o)), .val (.ref d), .val (.int (Int32.ofNat q)), .val (.int (Int32.ofNat len)), .unset, .unset] [])) := entry rfl
  have hA0 := hA.1.mv X0.warmed.alike hh0
  have hB0 := hB.mv X0.warmed.alike hh0
  have a31 := hA.1.2.2.2
  have c2 : Steps p.tables e below (s₁.setTop (entryFrame m #[.ref b, .int (Int32.ofNat o), .ref d, .int (Int32.ofNat q), .int (Int32.ofNat len)] 7)) (s₁.setTop (mkF m 3 #[.val (.ref b), .val (.int (Int32.ofNat o)), .val (.ref d), .val (.int (Int32.ofNat q)), .val (.int (Int32.ofNat len)), .val (.int 0), .unset] [])) := c1.trans (by
    refine iconstV X0.here hexec rfl 0 (hb hbytes d0) (by decide) ?_
    refine XS.istore X0.here hexec rfl (hb hbytes d1) rfl rfl ?_
    exact Steps.refl _)
  have loop : ∀ (r i : Nat), i + r = len → ∀ (z : Slot), (z = .unset ∨ ∃ w, z = .val w ∧ w.category = 1) → ∀ (Tl : State) (Bk : Cell), Stand p l e { frames := 0, locals := 0, cells := 0, slots := 0 } s m #[.ref b, .int (Int32.ofNat o), .ref d, .int (Int32.ofNat q), .int (Int32.ofNat len)] below meth c Tl ([] ++ copyLocs d q i) 0 0 → Put d Bk s₁ Tl → Laid B Bk q (q + i) (fun j => Value.int (lo8 (cv A (o + (j - q))))) →
      Steps p.tables e below (s₁.setTop (entryFrame m #[.ref b, .int (Int32.ofNat o), .ref d, .int (Int32.ofNat q), .int (Int32.ofNat len)] 7)) (Tl.setTop (mkF m 3 #[.val (.ref b), .val (.int (Int32.ofNat (o + i))), .val (.ref d), .val (.int (Int32.ofNat (q + i))), .val (.int (Int32.ofNat len)), .val (.int (Int32.ofNat i)), z] [])) → ∃ (T' : State) (B' : Cell) (z' : Slot), Stand p l e { frames := 0, locals := 0, cells := 0, slots := 0 } s m #[.ref b, .int (Int32.ofNat o), .ref d, .int (Int32.ofNat q), .int (Int32.ofNat len)] below meth c T' ([] ++ copyLocs d q len) 0 0 ∧ Put d B' s₁ T' ∧ Laid B B' q (q + len) (fun j => Value.int (lo8 (cv A (o + (j - q))))) ∧
      Steps p.tables e below (s₁.setTop (entryFrame m #[.ref b, .int (Int32.ofNat o), .ref d, .int (Int32.ofNat q), .int (Int32.ofNat len)] 7)) (T'.setTop (mkF m 3 #[.val (.ref b), .val (.int (Int32.ofNat (o + len))), .val (.ref d), .val (.int (Int32.ofNat (q + len))), .val (.int (Int32.ofNat len)), .val (.int (Int32.ofNat len)), z'] [])) := by
    intro r
    induction r with
    | zero =>
      intro i hi z hz Tl Bk Xl pl fl cl
      have hil : i = len := by omega
      rw [hil] at Xl fl cl
      exact ⟨Tl, Bk, z, Xl, pl, fl, cl⟩
    | succ r ih =>
      intro i hi z hz Tl Bk Xl pl fl cl
      have all := X0.warmed.alike.symm.trans Xl.warmed.alike
      have hAl := hA0.keep all (pl.other hne hA0.1)
      have hBk := hB0.like all pl.1 fl.1 fl.2.1 fl.2.2.1
      have hlt : q + i < Bk.slots.size := by rw [fl.2.2.1]; omega
      have c3 : Steps p.tables e below (s₁.setTop (entryFrame m #[.ref b, .int (Int32.ofNat o), .ref d, .int (Int32.ofNat q), .int (Int32.ofNat len)] 7)) (Tl.setTop (mkF m 12 #[.val (.ref b), .val (.int (Int32.ofNat (o + i))), .val (.ref d), .val (.int (Int32.ofNat (q + i))), .val (.int (Int32.ofNat len)), .val (.int (Int32.ofNat i)), z] [.int (Int32.ofNat (o + i)), .ref b])) := cl.trans (by
        refine XS.iload Xl.here hexec rfl (hb hbytes d3) rfl ?_
        refine XS.iload Xl.here hexec rfl (hb hbytes d5) rfl ?_
        refine XS.icmpNo Xl.here hexec rfl (hb hbytes d7) rfl (ii_ge_f (lt32 (by omega) (by omega))) ?_
        refine XS.aloadN Xl.here hexec rfl (hb hbytes d10) rfl rfl ?_
        refine XS.iloadN Xl.here hexec rfl (hb hbytes d11) rfl ?_
        exact Steps.refl _)
      have c4 : Steps p.tables e below (s₁.setTop (entryFrame m #[.ref b, .int (Int32.ofNat o), .ref d, .int (Int32.ofNat q), .int (Int32.ofNat len)] 7)) (Tl.setTop (mkF m 13 #[.val (.ref b), .val (.int (Int32.ofNat (o + i))), .val (.ref d), .val (.int (Int32.ofNat (q + i))), .val (.int (Int32.ofNat len)), .val (.int (Int32.ofNat i)), z] [.int (cv A (o + i))])) := c3.trans (by
        refine Xl.aget hexec hAl rfl (hA.get (i := o + i) (by omega)) rfl rfl (hb hbytes d12) ?_
        exact Steps.refl _)
      have c5 : Steps p.tables e below (s₁.setTop (entryFrame m #[.ref b, .int (Int32.ofNat o), .ref d, .int (Int32.ofNat q), .int (Int32.ofNat len)] 7)) (Tl.setTop (mkF m 15 #[.val (.ref b), .val (.int (Int32.ofNat (o + i))), .val (.ref d), .val (.int (Int32.ofNat (q + i))), .val (.int (Int32.ofNat len)), .val (.int (Int32.ofNat i)), .val (.int (cv A (o + i)))] [])) := c4.trans (by
        refine XS.istoreS Xl.here hexec rfl (hb hbytes d13) rfl rfl hz ?_
        exact Steps.refl _)
      have c6 : Steps p.tables e below (s₁.setTop (entryFrame m #[.ref b, .int (Int32.ofNat o), .ref d, .int (Int32.ofNat q), .int (Int32.ofNat len)] 7)) (Tl.setTop (mkF m 31 #[.val (.ref b), .val (.int (Int32.ofNat (o + i))), .val (.ref d), .val (.int (Int32.ofNat (q + i))), .val (.int (Int32.ofNat len)), .val (.int (Int32.ofNat i)), .val (.int (cv A (o + i)))] [.int (lo8 (cv A (o + i))), .int (Int32.ofNat (q + i)), .ref d])) := c5.trans (by
        refine XS.iload Xl.here hexec rfl (hb hbytes d15) rfl ?_
        refine sipushV Xl.here hexec rfl 255 (hb hbytes d17) (by decide) ?_
        refine XS.icmpYes Xl.here hexec rfl (pc0 := 20) rfl (hb hbytes d20) rfl (ii_le_t (hp i (by omega))) (by decide) rfl ?_
        refine XS.aloadN Xl.here hexec rfl (hb hbytes d26) rfl rfl ?_
        refine XS.iloadN Xl.here hexec rfl (hb hbytes d27) rfl ?_
        refine XS.iload Xl.here hexec rfl (hb hbytes d28) rfl ?_
        refine i2b Xl.here hexec rfl (hb hbytes d30) rfl ?_
        exact Steps.refl _)
      obtain ⟨T7, X7, p7, st7⟩ := Xl.aput hexec hBk rfl hlt rfl (fits_lo8 (cv A (o + i))) (g := (mkF m 31 #[.val (.ref b), .val (.int (Int32.ofNat (o + i))), .val (.ref d), .val (.int (Int32.ofNat (q + i))), .val (.int (Int32.ofNat len)), .val (.int (Int32.ofNat i)), .val (.int (cv A (o + i)))] [.int (lo8 (cv A (o + i))), .int (Int32.ofNat (q + i)), .ref d])) rfl (rest := []) rfl (hb hbytes d31)
      have c8 : Steps p.tables e below (s₁.setTop (entryFrame m #[.ref b, .int (Int32.ofNat o), .ref d, .int (Int32.ofNat q), .int (Int32.ofNat len)] 7)) (T7.setTop (mkF m 32 #[.val (.ref b), .val (.int (Int32.ofNat (o + i))), .val (.ref d), .val (.int (Int32.ofNat (q + i))), .val (.int (Int32.ofNat len)), .val (.int (Int32.ofNat i)), .val (.int (cv A (o + i)))] [])) := c6.trans (st7 _ (Steps.refl _))
      have c9 : Steps p.tables e below (s₁.setTop (entryFrame m #[.ref b, .int (Int32.ofNat o), .ref d, .int (Int32.ofNat q), .int (Int32.ofNat len)] 7)) (T7.setTop (mkF m 3 #[.val (.ref b), .val (.int (Int32.ofNat (o + i) + 1)), .val (.ref d), .val (.int (Int32.ofNat (q + i) + 1)), .val (.int (Int32.ofNat len)), .val (.int (Int32.ofNat i + 1)), .val (.int (cv A (o + i)))] [])) := c8.trans (by
        refine iincV X7.here hexec rfl 1 (hb hbytes d32) (by decide) rfl rfl ?_
        refine iincV X7.here hexec rfl 1 (hb hbytes d35) (by decide) rfl rfl ?_
        refine iincV X7.here hexec rfl 1 (hb hbytes d38) (by decide) rfl rfl ?_
        refine XS.goto X7.here hexec rfl (pc0 := 41) rfl (hb hbytes d41) (by decide) rfl ?_
        exact Steps.refl _)
      have c10 : Steps p.tables e below (s₁.setTop (entryFrame m #[.ref b, .int (Int32.ofNat o), .ref d, .int (Int32.ofNat q), .int (Int32.ofNat len)] 7)) (T7.setTop (mkF m 3 #[.val (.ref b), .val (.int (Int32.ofNat (o + (i + 1)))), .val (.ref d), .val (.int (Int32.ofNat (q + (i + 1)))), .val (.int (Int32.ofNat len)), .val (.int (Int32.ofNat (i + 1))), .val (.int (cv A (o + i)))] [])) := by
        have := c9
        rw [succ32, succ32, succ32] at this
        exact this
      exact ih (i + 1) (by omega) _ (Or.inr ⟨_, rfl, rfl⟩) T7 _ (by rw [copyLocs_step, ← List.append_assoc]; exact X7) (pl.trans p7) (fl.step (by omega) hlt (by simp)) c10
  obtain ⟨T9, B9, z9, X9, p9, f9, g9⟩ := loop len 0 (by omega) .unset (Or.inl rfl) s₁ B (by simpa [copyLocs] using X0) ⟨hB0.1, fun _ _ => rfl, rfl⟩ (Laid.zero _ _ _) c2
  have c11 : Steps p.tables e below (s₁.setTop (entryFrame m #[.ref b, .int (Int32.ofNat o), .ref d, .int (Int32.ofNat q), .int (Int32.ofNat len)] 7)) (T9.setTop (mkF m 46 #[.val (.ref b), .val (.int (Int32.ofNat (o + len))), .val (.ref d), .val (.int (Int32.ofNat (q + len))), .val (.int (Int32.ofNat len)), .val (.int (Int32.ofNat len)), z9] [.int (Int32.ofNat len)])) := g9.trans (by
    refine XS.iload X9.here hexec rfl (hb hbytes d3) rfl ?_
    refine XS.iload X9.here hexec rfl (hb hbytes d5) rfl ?_
    refine XS.icmpYes X9.here hexec rfl (pc0 := 7) rfl (hb hbytes d7) rfl (ii_ge_t (nlt32 (by omega) (Nat.le_refl _))) (by decide) rfl ?_
    refine XS.iload X9.here hexec rfl (hb hbytes d44) rfl ?_
    exact Steps.refl _)
  exact ⟨T9, some (.int (Int32.ofNat len)), _, _, _, X9, by simp, rfl, rfl, (fun h => by cases h), ⟨rfl, B9, p9.from hh0, f9⟩, fun fs hl => c11.trans (X9.ireturnOut hexec hret rfl (Or.inl rfl) (hb hbytes d46) hl)⟩
end Cmp5
namespace Cmp3
def yN : MethodName := ⟨"java/lang/StringUTF16", "compress", "([CII)[B"⟩
abbrev yB : ByteArray := jdk_52_method_16_code
theorem d0 : decode yB 0 = .ok (.iload_n 2, 1) := by decide +kernel
theorem d1 : decode yB 1 = .ok (.newarray .byte, 2) := by decide +kernel
theorem d3 : decode yB 3 = .ok (.astore_n 3, 1) := by decide +kernel
theorem d4 : decode yB 4 = .ok (.aload_n 0, 1) := by decide +kernel
theorem d5 : decode yB 5 = .ok (.iload_n 1, 1) := by decide +kernel
theorem d6 : decode yB 6 = .ok (.aload_n 3, 1) := by decide +kernel
theorem d7 : decode yB 7 = .ok (.iconst 0, 1) := by decide +kernel
theorem d8 : decode yB 8 = .ok (.iload_n 2, 1) := by decide +kernel
theorem d9 : decode yB 9 = .ok (.invokestatic 115, 3) := by decide +kernel
theorem d12 : decode yB 12 = .ok (.istore 4, 2) := by decide +kernel
theorem d14 : decode yB 14 = .ok (.iload 4, 2) := by decide +kernel
theorem d16 : decode yB 16 = .ok (.iload_n 2, 1) := by decide +kernel
theorem d17 : decode yB 17 = .ok (.if_icmp (.eq) 40, 3) := by decide +kernel
theorem d57 : decode yB 57 = .ok (.aload_n 3, 1) := by decide +kernel
theorem d58 : decode yB 58 = .ok (.areturn, 1) := by decide +kernel
def site : List Cond := [.arrayClass .byte, Cmp5.tab] ++ staticW U16 115 Cmp5.yN
def tab : Cond := tabOf yN yB 6 (some (.array .byte)) site
def P (b : Addr) (A : Cell) (o len : Nat) (args : Array Value) (s : State) : Prop := args = #[.ref b, .int (Int32.ofNat o), .int (Int32.ofNat len)] ∧ Ch b A s ∧ o + len ≤ A.slots.size ∧ len ≤ 536870912 ∧ ∀ i, i < len → ¬ 255 < cv A (o + i)
def E (b : Addr) (A : Cell) (o len : Nat) (r : Option Value) (s u : State) : Prop := NewArr .byte "[B" len (fun j => .int (lo8 (cv A (o + j)))) r s u ∧ u.heap.size = s.heap.size + 1
/-- no char of the range above 255: a new byte[] of their low bytes -/
theorem law (l : Launch) (b : Addr) (A : Cell) (o len : Nat) : Law l yN 3 3 1 18 yB 6 (some (.array .byte)) site (P b A o len) (E b A o len) [] 1 len := by
  refine Law.of_walk (plainFor_of_name (by decide +kernel)) (by decide +kernel) (by decide +kernel) (by decide) (fun _ _ h => by rw [h.1]; rfl) (fun _ U U' hal hh h => ⟨h.1, h.2.1.mv hal hh, h.2.2⟩) (fun r U U' V V' h1 hal h2 h => ⟨NewArr.mv r U U' V V' h1 hal h2 h.1, by rw [h1, h2]; exact h.2⟩) ?_
  intro p e s m args below meth c s₁ X0 hexec hbytes hml hret hlk hnm hown hh0 W hP
  obtain ⟨rfl, hA, l1, l2, hp⟩ := hP
  have a31 := hA.1.2.2.2
  have c1 : Steps p.tables e below (s₁.setTop (entryFrame m #[.ref b, .int (Int32.ofNat o), .int (Int32.ofNat len)] 6)) (s₁.setTop (mkF m 0 #[.val (.ref b), .val (.int (Int32.ofNat o)), .val (.int (Int32.ofNat len)), .unset, .unset, .unset] [])) := entry rfl
  have c2 : Steps p.tables e below (s₁.setTop (entryFrame m #[.ref b, .int (Int32.ofNat o), .int (Int32.ofNat len)] 6)) (s₁.setTop (mkF m 1 #[.val (.ref b), .val (.int (Int32.ofNat o)), .val (.int (Int32.ofNat len)), .unset, .unset, .unset] [.int (Int32.ofNat len)])) := c1.trans (by
    refine XS.iloadN X0.here hexec rfl (hb hbytes d0) rfl ?_
    exact Steps.refl _)
  obtain ⟨T3, B3, X3, ba3, bs3, bv3, bh3, bf3, st3⟩ := X0.anew hexec (atype := .byte) (wk W (.arrayClass .byte)) rfl (by show len * 1 ≤ _; omega) (by omega) (g := (mkF m 1 #[.val (.ref b), .val (.int (Int32.ofNat o)), .val (.int (Int32.ofNat len)), .unset, .unset, .unset] [.int (Int32.ofNat len)])) rfl (hb hbytes d1) (rest := []) rfl (Nat.le_refl _) (by show 0 + len ≤ len; omega)
  rw [hh0] at ba3 st3
  have kp3 : XT.Kept s T3 := (XT.Kept.of_eq hh0).push bh3
  have hA3 := hA.keep X3.warmed.alike (kp3 _ _ hA.1.1)
  have hne : b ≠ s.heap.size := hA.1.ne
  have c4 : Steps p.tables e below (s₁.setTop (entryFrame m #[.ref b, .int (Int32.ofNat o), .int (Int32.ofNat len)] 6)) (T3.setTop (mkF m 3 #[.val (.ref b), .val (.int (Int32.ofNat o)), .val (.int (Int32.ofNat len)), .unset, .unset, .unset] [.ref s.heap.size])) := c2.trans (st3 _ (Steps.refl _))
  have c5 : Steps p.tables e below (s₁.setTop (entryFrame m #[.ref b, .int (Int32.ofNat o), .int (Int32.ofNat len)] 6)) (T3.setTop (mkF m 9 #[.val (.ref b), .val (.int (Int32.ofNat o)), .val (.int (Int32.ofNat len)), .val (.ref s.heap.size), .unset, .unset] [.int (Int32.ofNat len), .int 0, .ref s.heap.size, .int (Int32.ofNat o), .ref b])) := c4.trans (by
    refine XS.astoreN X3.here hexec rfl (hb hbytes d3) rfl rfl rfl ?_
    refine XS.aloadN X3.here hexec rfl (hb hbytes d4) rfl rfl ?_
    refine XS.iloadN X3.here hexec rfl (hb hbytes d5) rfl ?_
    refine XS.aloadN X3.here hexec rfl (hb hbytes d6) rfl rfl ?_
    refine iconstV X3.here hexec rfl 0 (hb hbytes d7) (by decide) ?_
    refine XS.iloadN X3.here hexec rfl (hb hbytes d8) rfl ?_
    exact Steps.refl _)
  obtain ⟨v6, T6, X6, E6, g6⟩ := X3.callS hexec (Cmp5.law l b A s.heap.size B3 o 0 len) hown (wks W (staticW U16 115 Cmp5.yN)) (wk W Cmp5.tab) (W := 0) (Nat.le_of_ble_eq_true rfl) (Nat.le_of_ble_eq_true rfl) (Nat.le_refl _) (by show 0 + len + 0 ≤ len; omega) (g := (mkF m 9 #[.val (.ref b), .val (.int (Int32.ofNat o)), .val (.int (Int32.ofNat len)), .val (.ref s.heap.size), .unset, .unset] [.int (Int32.ofNat len), .int (Int32.ofNat 0), .ref s.heap.size, .int (Int32.ofNat o), .ref b])) rfl (by rw [hml]; rfl) c5 (argsL := [.ref b, .int (Int32.ofNat o), .ref s.heap.size, .int (Int32.ofNat 0), .int (Int32.ofNat len)]) (rest := []) rfl rfl (by show 2 * 0 + 0 ≤ _; decide) (hb hbytes d9) (⟨rfl, hA3, ba3, hne, l1, by rw [bs3]; simp, hp⟩)
  obtain ⟨rfl, B6, p6, f6⟩ := E6
  have c7 : Steps p.tables e below (s₁.setTop (entryFrame m #[.ref b, .int (Int32.ofNat o), .int (Int32.ofNat len)] 6)) (T6.setTop (mkF m 12 #[.val (.ref b), .val (.int (Int32.ofNat o)), .val (.int (Int32.ofNat len)), .val (.ref s.heap.size), .unset, .unset] [.int (Int32.ofNat len)])) := g6
  have c8 : Steps p.tables e below (s₁.setTop (entryFrame m #[.ref b, .int (Int32.ofNat o), .int (Int32.ofNat len)] 6)) (T6.setTop (mkF m 58 #[.val (.ref b), .val (.int (Int32.ofNat o)), .val (.int (Int32.ofNat len)), .val (.ref s.heap.size), .val (.int (Int32.ofNat len)), .unset] [.ref s.heap.size])) := c7.trans (by
    refine XS.istore X6.here hexec rfl (hb hbytes d12) rfl rfl ?_
    refine XS.iload X6.here hexec rfl (hb hbytes d14) rfl ?_
    refine XS.iloadN X6.here hexec rfl (hb hbytes d16) rfl ?_
    refine XS.icmpYes X6.here hexec rfl (pc0 := 17) rfl (hb hbytes d17) rfl (ii_eq_t rfl) (by decide) rfl ?_
    refine XS.aloadN X6.here hexec rfl (hb hbytes d57) rfl rfl ?_
    exact Steps.refl _)
  have X8 := X6.wide (L' := []) (cells' := 1) (slots' := len) (fun x hx hlt => by
    simp only [List.nil_append, copyLocs, List.mem_map, List.mem_range] at hx
    obtain ⟨i, -, rfl⟩ := hx
    exact absurd hlt (Nat.lt_irrefl _)) (Nat.le_refl _) (by omega)
  exact ⟨T6, some (.ref s.heap.size), _, _, _, X8, rfl, rfl, rfl, (fun h => by cases h), ⟨⟨rfl, B6, ba3.like (X3.warmed.alike.symm.trans X6.warmed.alike) p6.1 f6.1 f6.2.1 f6.2.2.1, f6.2.1.trans bv3, by rw [X6.warmed.alike.findClass, f6.1]; exact bf3, by rw [f6.2.2.1, bs3]; simp, fun j hj => by rw [f6.2.2.2 j, if_pos (by omega)]; rfl, kp3.put p6 (Nat.le_refl _)⟩, by rw [p6.2.2, bh3, hh0]; simp⟩, fun fs hl => c8.trans (X8.areturnOut hexec rfl hret rfl (hb hbytes d58) hl)⟩
end Cmp3
namespace CodL
def yN : MethodName := ⟨"java/lang/StringUTF16", "coderFromArrayLen", "([BI)B"⟩
abbrev yB : ByteArray := jdk_52_method_15_code
theorem d0 : decode yB 0 = .ok (.iload_n 1, 1) := by decide +kernel
theorem d1 : decode yB 1 = .ok (.aload_n 0, 1) := by decide +kernel
theorem d2 : decode yB 2 = .ok (.arraylength, 1) := by decide +kernel
theorem d3 : decode yB 3 = .ok (.isub, 1) := by decide +kernel
theorem d4 : decode yB 4 = .ok (.bipush 31, 2) := by decide +kernel
theorem d6 : decode yB 6 = .ok (.iushr, 1) := by decide +kernel
theorem d7 : decode yB 7 = .ok (.i2b, 1) := by decide +kernel
theorem d8 : decode yB 8 = .ok (.ireturn, 1) := by decide +kernel
def site : List Cond := []
def tab : Cond := tabOf yN yB 2 (some .byte) site
def P (d : Addr) (B : Cell) (args : Array Value) (s : State) : Prop := args = #[.ref d, .int (Int32.ofNat B.slots.size)] ∧ Arr .byte d B s
def E (r : Option Value) (s u : State) : Prop := XT.PureE (some (.int 0)) r s u
/-- an array as long as the number of chars: LATIN1 -/
theorem law (l : Launch) (d : Addr) (B : Cell) : Law l yN 2 2 0 0 yB 2 (some .byte) site (P d B) E [] 0 0 := by
  refine Law.of_walk (plainFor_of_name (by decide +kernel)) (by decide +kernel) (by decide +kernel) (by decide) (fun _ _ h => by rw [h.1]; rfl) (fun _ U U' hal hh h => ⟨h.1, h.2.mv hal hh⟩) (fun r U U' V V' h1 hal h2 h => XT.PureE.mv r U U' V V' h1 hal h2 h) ?_
  intro p e s m args below meth c s₁ X0 hexec hbytes hml hret hlk hnm hown hh0 W hP
  obtain ⟨rfl, hB⟩ := hP
  have hB0 := hB.mv X0.warmed.alike hh0
  have c1 : Steps p.tables e below (s₁.setTop (entryFrame m #[.ref d, .int (Int32.ofNat B.slots.size)] 2)) (s₁.setTop (mkF m 0 #[.val (.ref d), .val (.int (Int32.ofNat B.slots.size))] [])) := entry rfl
  have c2 : Steps p.tables e below (s₁.setTop (entryFrame m #[.ref d, .int (Int32.ofNat B.slots.size)] 2)) (s₁.setTop (mkF m 2 #[.val (.ref d), .val (.int (Int32.ofNat B.slots.size))] [.ref d, .int (Int32.ofNat B.slots.size)])) := c1.trans (by
    refine XS.iloadN X0.here hexec rfl (hb hbytes d0) rfl ?_
    refine XS.aloadN X0.here hexec rfl (hb hbytes d1) rfl rfl ?_
    exact Steps.refl _)
  have c3 : Steps p.tables e below (s₁.setTop (entryFrame m #[.ref d, .int (Int32.ofNat B.slots.size)] 2)) (s₁.setTop (mkF m 8 #[.val (.ref d), .val (.int (Int32.ofNat B.slots.size))] [.int (lo8 (ushr (Int32.ofNat B.slots.size - Int32.ofNat B.slots.size) 31))])) := c2.trans (by
    refine X0.alen hexec hB0 rfl rfl (hb hbytes d2) ?_
    refine XS.isub X0.here hexec rfl (hb hbytes d3) rfl ?_
    refine bipushV X0.here hexec rfl 31 (hb hbytes d4) (by decide) ?_
    refine iushr X0.here hexec rfl (hb hbytes d6) rfl ?_
    refine i2b X0.here hexec rfl (hb hbytes d7) rfl ?_
    exact Steps.refl _)
  have e0 : lo8 (ushr (Int32.ofNat B.slots.size - Int32.ofNat B.slots.size) 31) = 0 := by rw [Int32.sub_self]; decide
  rw [e0] at c3
  exact ⟨s₁, some (.int 0), _, _, _, X0, rfl, rfl, rfl, (fun h => by cases h), ⟨rfl, hh0⟩, fun fs hl => c3.trans (X0.ireturnOut hexec hret rfl (Or.inr (Or.inr (Or.inl rfl))) (hb hbytes d8) hl)⟩
end CodL
/-- the String at a is Latin-1 over a new byte[] (the heap's one new cell): the low bytes of the len chars of A from o on; every cell but a is kept -/
def Got (a : Addr) (D : Cell) (fV fC : Field) (A : Cell) (o len : Nat) (r : Option Value) (s u : State) : Prop := r = none ∧ ∃ D' V : Cell, Blank "java/lang/String" a D' u ∧ Same D D' [fV.slot, fC.slot] ∧ D'.slots[fV.slot]? = some (.ref s.heap.size) ∧ D'.slots[fC.slot]? = some (.int 0) ∧ Arr .byte s.heap.size V u ∧ V.vm = .none ∧ u.vm.findClass "[B" = some V.cls ∧ V.slots.size = len ∧ (∀ j, j < len → V.slots[j]? = some (.int (lo8 (cv A (o + j))))) ∧ (∀ (y : Addr) (c : Cell), y ≠ a → s.heap[y]? = some c → u.heap[y]? = some c) ∧ u.heap.size = s.heap.size + 1
theorem Got.mv {a : Addr} {D A : Cell} {fV fC : Field} {o len : Nat} : ∀ r (U U' V V' : State), U'.heap = U.heap → V.vm.Alike V'.vm → V'.heap = V.heap → Got a D fV fC A o len r U V → Got a D fV fC A o len r U' V' :=
  fun r U U' V V' h1 hal h2 ⟨e0, D', X, a1, a2, a3, a4, a5, a6, a7, a8, a9, a10, a11⟩ => ⟨e0, D', X, a1.mv hal h2, a2, by rw [h1]; exact a3, a4, by rw [h1]; exact a5.mv hal h2, a6, by rw [hal.findClass]; exact a7, a8, a9, by rw [h1, h2]; exact a10, by rw [h1, h2]; exact a11⟩
namespace New4
def yN : MethodName := ⟨"java/lang/String", "<init>", "([CIILjava/lang/Void;)V"⟩
abbrev yB : ByteArray := jdk_42_method_149_code
theorem d0 : decode yB 0 = .ok (.aload_n 0, 1) := by decide +kernel
theorem d1 : decode yB 1 = .ok (.invokespecial 1, 3) := by decide +kernel
theorem d4 : decode yB 4 = .ok (.iload_n 3, 1) := by decide +kernel
theorem d5 : decode yB 5 = .ok (.ifCond (.ne) 22, 3) := by decide +kernel
theorem d27 : decode yB 27 = .ok (.getstatic 38, 3) := by decide +kernel
theorem d30 : decode yB 30 = .ok (.ifCond (.eq) 28, 3) := by decide +kernel
theorem d33 : decode yB 33 = .ok (.aload_n 1, 1) := by decide +kernel
theorem d34 : decode yB 34 = .ok (.iload_n 2, 1) := by decide +kernel
theorem d35 : decode yB 35 = .ok (.iload_n 3, 1) := by decide +kernel
theorem d36 : decode yB 36 = .ok (.invokestatic 177, 3) := by decide +kernel
theorem d39 : decode yB 39 = .ok (.astore 5, 2) := by decide +kernel
theorem d41 : decode yB 41 = .ok (.aload_n 0, 1) := by decide +kernel
theorem d42 : decode yB 42 = .ok (.aload 5, 2) := by decide +kernel
theorem d44 : decode yB 44 = .ok (.iload_n 3, 1) := by decide +kernel
theorem d45 : decode yB 45 = .ok (.invokestatic 47, 3) := by decide +kernel
theorem d48 : decode yB 48 = .ok (.putfield 15, 3) := by decide +kernel
theorem d51 : decode yB 51 = .ok (.aload_n 0, 1) := by decide +kernel
theorem d52 : decode yB 52 = .ok (.aload 5, 2) := by decide +kernel
theorem d54 : decode yB 54 = .ok (.putfield 9, 3) := by decide +kernel
theorem d57 : decode yB 57 = .ok (.return_, 1) := by decide +kernel
def site : List Cond := [.fieldLink "java/lang/String" 38 "java/lang/String" "COMPACT_STRINGS" "Z", Cmp3.tab, CodL.tab, .laysFinal "java/lang/String" "java/lang/String" "value" "[B", .fieldLink "java/lang/String" 9 "java/lang/String" "value" "[B", .laysFinal "java/lang/String" "java/lang/String" "coder" "B", .fieldLink "java/lang/String" 15 "java/lang/String" "coder" "B"] ++ objW "java/lang/String" 1 ++ staticW "java/lang/String" 177 Cmp3.yN ++ staticW "java/lang/String" 47 CodL.yN
def tab : Cond := tabOf yN yB 6 none site
def P (a : Addr) (D : Cell) (fV fC : Field) (b : Addr) (A : Cell) (z : Int32) (o len : Nat) (args : Array Value) (s : State) : Prop := args = #[.ref a, .ref b, .int (Int32.ofNat o), .int (Int32.ofNat len), .null] ∧ Blank "java/lang/String" a D s ∧ Found "java/lang/String" "value" "[B" fV s ∧ Found "java/lang/String" "coder" "B" fC s ∧ Ch b A s ∧ StaticIs s "java/lang/String" "COMPACT_STRINGS" "Z" (.int z) ∧ ¬ z = 0 ∧ 0 < len ∧ o + len ≤ A.slots.size ∧ len ≤ 536870912 ∧ ∀ i, i < len → ¬ 255 < cv A (o + i)
def E (a : Addr) (D : Cell) (fV fC : Field) (A : Cell) (o len : Nat) (r : Option Value) (s u : State) : Prop := Got a D fV fC A o len r s u
/-- len > 0, no char of the range above 255: a Latin-1 String of their low bytes -/
theorem law (l : Launch) (a : Addr) (D : Cell) (fV fC : Field) (b : Addr) (A : Cell) (z : Int32) (o len : Nat) : Law l yN 5 4 2 35 yB 6 none site (P a D fV fC b A z o len) (E a D fV fC A o len) [⟨a, fC.slot⟩, ⟨a, fV.slot⟩] 1 len := by
  refine Law.of_walk (plainFor_of_name (by decide +kernel)) (by decide +kernel) (by decide +kernel) (by decide) (fun _ _ h => by rw [h.1]; rfl) (fun _ U U' hal hh h => ⟨h.1, h.2.1.mv hal hh, h.2.2.1.al hal, h.2.2.2.1.al hal, h.2.2.2.2.1.mv hal hh, h.2.2.2.2.2.1.there hal hh, h.2.2.2.2.2.2⟩) (fun r U U' V V' h1 hal h2 h => Got.mv r U U' V V' h1 hal h2 h) ?_
  intro p e s m args below meth c s₁ X0 hexec hbytes hml hret hlk hnm hown hh0 W hP
  obtain ⟨rfl, hB, f1, f2, hA, s1, hz, l0, l1, l2, hp⟩ := hP
  have a31 := hA.1.2.2.2
  have c1 : Steps p.tables e below (s₁.setTop (entryFrame m #[.ref a, .ref b, .int (Int32.ofNat o), .int (Int32.ofNat len), .null] 6)) (s₁.setTop (mkF m 0 #[.val (.ref a), .val (.ref b), .val (.int (Int32.ofNat o)), .val (.int (Int32.ofNat len)), .val .null, .unset] [])) := entry rfl
  have c2 : Steps p.tables e below (s₁.setTop (entryFrame m #[.ref a, .ref b, .int (Int32.ofNat o), .int (Int32.ofNat len), .null] 6)) (s₁.setTop (mkF m 1 #[.val (.ref a), .val (.ref b), .val (.int (Int32.ofNat o)), .val (.int (Int32.ofNat len)), .val .null, .unset] [.ref a])) := c1.trans (by
    refine XS.aloadN X0.here hexec rfl (hb hbytes d0) rfl rfl ?_
    exact Steps.refl _)
  obtain ⟨T3, X3, q3, st3⟩ := X0.oinit hexec hown (wks W (objW "java/lang/String" 1)) (g := (mkF m 1 #[.val (.ref a), .val (.ref b), .val (.int (Int32.ofNat o)), .val (.int (Int32.ofNat len)), .val .null, .unset] [.ref a])) rfl (by rw [hml]; rfl) (rest := []) rfl (hb hbytes d1) (W := 0) (by show 2 * 0 + 0 ≤ _; decide) (Nat.le_of_ble_eq_true rfl) (Nat.le_of_ble_eq_true rfl)
  have hh3 := q3.trans hh0
  have c4 : Steps p.tables e below (s₁.setTop (entryFrame m #[.ref a, .ref b, .int (Int32.ofNat o), .int (Int32.ofNat len), .null] 6)) (T3.setTop (mkF m 27 #[.val (.ref a), .val (.ref b), .val (.int (Int32.ofNat o)), .val (.int (Int32.ofNat len)), .val .null, .unset] [])) := (c2.trans (st3 _ (Steps.refl _))).trans (by
    refine XS.iloadN X3.here hexec rfl (hb hbytes d4) rfl ?_
    refine XS.ifYes X3.here hexec rfl (pc0 := 5) rfl (hb hbytes d5) rfl (i0_ne_t (nz32 (by omega) l0)) (by decide) rfl ?_
    exact Steps.refl _)
  obtain ⟨T5, X5, q5, st5⟩ := X3.sget hexec hown (wk W (.fieldLink "java/lang/String" 38 "java/lang/String" "COMPACT_STRINGS" "Z")) s1 (fun _ _ h => by rw [hh3]; exact h) (g := (mkF m 27 #[.val (.ref a), .val (.ref b), .val (.int (Int32.ofNat o)), .val (.int (Int32.ofNat len)), .val .null, .unset] [])) rfl (hb hbytes d27)
  have hh5 := q5.trans hh3
  have c6 : Steps p.tables e below (s₁.setTop (entryFrame m #[.ref a, .ref b, .int (Int32.ofNat o), .int (Int32.ofNat len), .null] 6)) (T5.setTop (mkF m 30 #[.val (.ref a), .val (.ref b), .val (.int (Int32.ofNat o)), .val (.int (Int32.ofNat len)), .val .null, .unset] [.int z])) := c4.trans (st5 _ (Steps.refl _))
  have c7 : Steps p.tables e below (s₁.setTop (entryFrame m #[.ref a, .ref b, .int (Int32.ofNat o), .int (Int32.ofNat len), .null] 6)) (T5.setTop (mkF m 36 #[.val (.ref a), .val (.ref b), .val (.int (Int32.ofNat o)), .val (.int (Int32.ofNat len)), .val .null, .unset] [.int (Int32.ofNat len), .int (Int32.ofNat o), .ref b])) := c6.trans (by
    refine XS.ifNo X5.here hexec rfl (hb hbytes d30) rfl (i0_eq_f hz) ?_
    refine XS.aloadN X5.here hexec rfl (hb hbytes d33) rfl rfl ?_
    refine XS.iloadN X5.here hexec rfl (hb hbytes d34) rfl ?_
    refine XS.iloadN X5.here hexec rfl (hb hbytes d35) rfl ?_
    exact Steps.refl _)
  obtain ⟨v8, T8, X8, E8, g8⟩ := X5.callS hexec (Cmp3.law l b A o len) hown (wks W (staticW "java/lang/String" 177 Cmp3.yN)) (wk W Cmp3.tab) (W := 0) (Nat.le_of_ble_eq_true rfl) (Nat.le_of_ble_eq_true rfl) (Nat.le_refl _) (by show 0 + len ≤ len; omega) (g := (mkF m 36 #[.val (.ref a), .val (.ref b), .val (.int (Int32.ofNat o)), .val (.int (Int32.ofNat len)), .val .null, .unset] [.int (Int32.ofNat len), .int (Int32.ofNat o), .ref b])) rfl (by rw [hml]; rfl) c7 (argsL := [.ref b, .int (Int32.ofNat o), .int (Int32.ofNat len)]) (rest := []) rfl rfl (by show 2 * 0 + 0 ≤ _; decide) (hb hbytes d36) (⟨rfl, hA.mv X5.warmed.alike hh5, l1, l2, hp⟩)
  obtain ⟨e8, z8⟩ := E8
  obtain ⟨rfl, N, n1, n2, n3, n4, n5, n6⟩ := NewArr.mv _ T5 s _ _ hh5.symm (Vm.Alike.refl _) rfl e8
  rw [hh5] at z8
  have hB1 := hB.keep X8.warmed.alike (n6 _ _ hB.1)
  have hne : s.heap.size ≠ a := (Nat.ne_of_lt (Array.getElem?_eq_some_iff.mp hB.1).1).symm
  have c9 : Steps p.tables e below (s₁.setTop (entryFrame m #[.ref a, .ref b, .int (Int32.ofNat o), .int (Int32.ofNat len), .null] 6)) (T8.setTop (mkF m 39 #[.val (.ref a), .val (.ref b), .val (.int (Int32.ofNat o)), .val (.int (Int32.ofNat len)), .val .null, .unset] [.ref s.heap.size])) := g8
  have c10 : Steps p.tables e below (s₁.setTop (entryFrame m #[.ref a, .ref b, .int (Int32.ofNat o), .int (Int32.ofNat len), .null] 6)) (T8.setTop (mkF m 45 #[.val (.ref a), .val (.ref b), .val (.int (Int32.ofNat o)), .val (.int (Int32.ofNat len)), .val .null, .val (.ref s.heap.size)] [.int (Int32.ofNat N.slots.size), .ref s.heap.size, .ref a])) := by
    have hc : Steps p.tables e below (s₁.setTop (entryFrame m #[.ref a, .ref b, .int (Int32.ofNat o), .int (Int32.ofNat len), .null] 6)) (T8.setTop (mkF m 45 #[.val (.ref a), .val (.ref b), .val (.int (Int32.ofNat o)), .val (.int (Int32.ofNat len)), .val .null, .val (.ref s.heap.size)] [.int (Int32.ofNat len), .ref s.heap.size, .ref a])) := c9.trans (by
      refine XS.astore X8.here hexec rfl (hb hbytes d39) rfl rfl rfl ?_
      refine XS.aloadN X8.here hexec rfl (hb hbytes d41) rfl rfl ?_
      refine XS.aload X8.here hexec rfl (hb hbytes d42) rfl rfl ?_
      refine XS.iloadN X8.here hexec rfl (hb hbytes d44) rfl ?_
      exact Steps.refl _)
    rw [n4]; exact hc
  obtain ⟨v11, T11, X11, E11, g11⟩ := X8.callS hexec (CodL.law l s.heap.size N) hown (wks W (staticW "java/lang/String" 47 CodL.yN)) (wk W CodL.tab) (W := 1) (Nat.le_of_ble_eq_true rfl) (Nat.le_of_ble_eq_true rfl) (Nat.le_refl _) (by show 0 + len + 0 ≤ len; omega) (g := (mkF m 45 #[.val (.ref a), .val (.ref b), .val (.int (Int32.ofNat o)), .val (.int (Int32.ofNat len)), .val .null, .val (.ref s.heap.size)] [.int (Int32.ofNat N.slots.size), .ref s.heap.size, .ref a])) rfl (by rw [hml]; rfl) c10 (argsL := [.ref s.heap.size, .int (Int32.ofNat N.slots.size)]) (rest := [.ref a]) rfl rfl (by show 2 * 0 + (1 + 0) ≤ _; decide) (hb hbytes d45) (⟨rfl, n1⟩)
  obtain ⟨rfl, q11⟩ := E11
  have hB11 := hB1.mv (X8.warmed.alike.symm.trans X11.warmed.alike) q11
  have c12 : Steps p.tables e below (s₁.setTop (entryFrame m #[.ref a, .ref b, .int (Int32.ofNat o), .int (Int32.ofNat len), .null] 6)) (T11.setTop (mkF m 48 #[.val (.ref a), .val (.ref b), .val (.int (Int32.ofNat o)), .val (.int (Int32.ofNat len)), .val .null, .val (.ref s.heap.size)] [.int 0, .ref a])) := g11
  obtain ⟨T13, X13, p13, bl13, sl13, st13⟩ := X11.finit hexec hown (wk W (.fieldLink "java/lang/String" 15 "java/lang/String" "coder" "B")) (Or.inr ⟨_, (wk W (.laysFinal "java/lang/String" "java/lang/String" "coder" "B"))⟩) (Or.inl ⟨rfl, hnm⟩) f2 (Or.inl rfl) hB11 (t := .byte) (by decide +kernel) rfl (g := (mkF m 48 #[.val (.ref a), .val (.ref b), .val (.int (Int32.ofNat o)), .val (.int (Int32.ofNat len)), .val .null, .val (.ref s.heap.size)] [.int 0, .ref a])) rfl (rest := []) rfl (hb hbytes d48)
  have c14 : Steps p.tables e below (s₁.setTop (entryFrame m #[.ref a, .ref b, .int (Int32.ofNat o), .int (Int32.ofNat len), .null] 6)) (T13.setTop (mkF m 54 #[.val (.ref a), .val (.ref b), .val (.int (Int32.ofNat o)), .val (.int (Int32.ofNat len)), .val .null, .val (.ref s.heap.size)] [.ref s.heap.size, .ref a])) := (c12.trans (st13 _ (Steps.refl _))).trans (by
    refine XS.aloadN X13.here hexec rfl (hb hbytes d51) rfl rfl ?_
    refine XS.aload X13.here hexec rfl (hb hbytes d52) rfl rfl ?_
    exact Steps.refl _)
  obtain ⟨T15, X15, p15, bl15, sl15, st15⟩ := X13.finit hexec hown (wk W (.fieldLink "java/lang/String" 9 "java/lang/String" "value" "[B")) (Or.inr ⟨_, (wk W (.laysFinal "java/lang/String" "java/lang/String" "value" "[B"))⟩) (Or.inl ⟨rfl, hnm⟩) f1 (Or.inl rfl) bl13 (t := (.array .byte)) (by decide +kernel) rfl (g := (mkF m 54 #[.val (.ref a), .val (.ref b), .val (.int (Int32.ofNat o)), .val (.int (Int32.ofNat len)), .val .null, .val (.ref s.heap.size)] [.ref s.heap.size, .ref a])) rfl (rest := []) rfl (hb hbytes d54)
  have c16 : Steps p.tables e below (s₁.setTop (entryFrame m #[.ref a, .ref b, .int (Int32.ofNat o), .int (Int32.ofNat len), .null] 6)) (T15.setTop (mkF m 57 #[.val (.ref a), .val (.ref b), .val (.int (Int32.ofNat o)), .val (.int (Int32.ofNat len)), .val .null, .val (.ref s.heap.size)] [])) := c14.trans (st15 _ (Steps.refl _))
  have ap := apart (Or.inr ⟨_, (wk W (.laysFinal "java/lang/String" "java/lang/String" "value" "[B"))⟩) (Or.inr ⟨_, (wk W (.laysFinal "java/lang/String" "java/lang/String" "coder" "B"))⟩) f1 f2 (t₁ := .array .byte) (t₂ := .byte) (by decide +kernel) (by decide +kernel) (by decide)
  have al := X8.warmed.alike.symm.trans X15.warmed.alike
  have n7 : T11.heap[s.heap.size]? = some N := by rw [q11]; exact n1.1
  exact ⟨T15, none, _, _, _, X15, by simp, rfl, by omega, (fun _ => rfl), ⟨rfl, _, N, bl15, ((Same.refl D _).set _ (by simp)).set _ (by simp), sl15, (Cell.slots_setSlot_ne _ ap).trans sl13, n1.keep al (p15.other hne (p13.other hne n7)), n2, by rw [al.findClass]; exact n3, n4, n5, fun y c h1 h2 => p15.other h1 (p13.other h1 (by rw [q11]; exact n6 y c h2)), by rw [p15.2.2, p13.2.2, q11]; exact z8⟩, fun fs hl => c16.trans (X15.returnOut hexec hret (hb hbytes d57) hl)⟩
end New4
namespace New1
def yN : MethodName := ⟨"java/lang/String", "<init>", "([C)V"⟩
abbrev yB : ByteArray := jdk_42_method_3_code
theorem d0 : decode yB 0 = .ok (.aload_n 0, 1) := by decide +kernel
theorem d1 : decode yB 1 = .ok (.aload_n 1, 1) := by decide +kernel
theorem d2 : decode yB 2 = .ok (.iconst 0, 1) := by decide +kernel
theorem d3 : decode yB 3 = .ok (.aload_n 1, 1) := by decide +kernel
theorem d4 : decode yB 4 = .ok (.arraylength, 1) := by decide +kernel
theorem d5 : decode yB 5 = .ok (.aconst_null, 1) := by decide +kernel
theorem d6 : decode yB 6 = .ok (.invokespecial 27, 3) := by decide +kernel
theorem d9 : decode yB 9 = .ok (.return_, 1) := by decide +kernel
def site : List Cond := [New4.tab] ++ initW "java/lang/String" 27 New4.yN
def tab : Cond := tabOf yN yB 2 none site
def P (a : Addr) (D : Cell) (fV fC : Field) (b : Addr) (A : Cell) (z : Int32) (args : Array Value) (s : State) : Prop := args = #[.ref a, .ref b] ∧ Blank "java/lang/String" a D s ∧ Found "java/lang/String" "value" "[B" fV s ∧ Found "java/lang/String" "coder" "B" fC s ∧ Ch b A s ∧ StaticIs s "java/lang/String" "COMPACT_STRINGS" "Z" (.int z) ∧ ¬ z = 0 ∧ 0 < A.slots.size ∧ A.slots.size ≤ 536870912 ∧ ∀ i, i < A.slots.size → ¬ 255 < cv A i
def E (a : Addr) (D : Cell) (fV fC : Field) (A : Cell) (r : Option Value) (s u : State) : Prop := Got a D fV fC A 0 A.slots.size r s u
/-- new String(chars), not empty, no char above 255: a Latin-1 String of their low bytes -/
theorem law (l : Launch) (a : Addr) (D : Cell) (fV fC : Field) (b : Addr) (A : Cell) (z : Int32) : Law l yN 2 1 3 52 yB 2 none site (P a D fV fC b A z) (E a D fV fC A) [⟨a, fC.slot⟩, ⟨a, fV.slot⟩] 1 A.slots.size := by
  refine Law.of_walk (plainFor_of_name (by decide +kernel)) (by decide +kernel) (by decide +kernel) (by decide) (fun _ _ h => by rw [h.1]; rfl) (fun _ U U' hal hh h => ⟨h.1, h.2.1.mv hal hh, h.2.2.1.al hal, h.2.2.2.1.al hal, h.2.2.2.2.1.mv hal hh, h.2.2.2.2.2.1.there hal hh, h.2.2.2.2.2.2⟩) (fun r U U' V V' h1 hal h2 h => Got.mv r U U' V V' h1 hal h2 h) ?_
  intro p e s m args below meth c s₁ X0 hexec hbytes hml hret hlk hnm hown hh0 W hP
  obtain ⟨rfl, hB, f1, f2, hA, s1, hz, l0, l2, hp⟩ := hP
  have c1 : Steps p.tables e below (s₁.setTop (entryFrame m #[.ref a, .ref b] 2)) (s₁.setTop (mkF m 0 #[.val (.ref a), .val (.ref b)] [])) := entry rfl
  have c2 : Steps p.tables e below (s₁.setTop (entryFrame m #[.ref a, .ref b] 2)) (s₁.setTop (mkF m 6 #[.val (.ref a), .val (.ref b)] [.null, .int (Int32.ofNat A.slots.size), .int 0, .ref b, .ref a])) := c1.trans (by
    refine XS.aloadN X0.here hexec rfl (hb hbytes d0) rfl rfl ?_
    refine XS.aloadN X0.here hexec rfl (hb hbytes d1) rfl rfl ?_
    refine iconstV X0.here hexec rfl 0 (hb hbytes d2) (by decide) ?_
    refine XS.aloadN X0.here hexec rfl (hb hbytes d3) rfl rfl ?_
    refine X0.alen hexec (hA.1.mv X0.warmed.alike hh0) rfl rfl (hb hbytes d4) ?_
    refine XS.aconstNull X0.here hexec rfl (hb hbytes d5) ?_
    exact Steps.refl _)
  obtain ⟨v3, T3, X3, E3, g3⟩ := X0.callN hexec (New4.law l a D fV fC b A z 0 A.slots.size) rfl hown (wks W (initW "java/lang/String" 27 New4.yN)) (W New4.tab (by simp only [site, List.mem_cons, List.mem_append, true_or, or_true])) (W := 0) (Nat.le_of_ble_eq_true rfl) (Nat.le_of_ble_eq_true rfl) (Nat.le_refl _) (by show 0 + A.slots.size ≤ A.slots.size; omega) (g := (mkF m 6 #[.val (.ref a), .val (.ref b)] [.null, .int (Int32.ofNat A.slots.size), .int (Int32.ofNat 0), .ref b, .ref a])) rfl (by rw [hml]; rfl) c2 (argsL := [.ref b, .int (Int32.ofNat 0), .int (Int32.ofNat A.slots.size), .null]) (rest := []) rfl rfl (by show 2 * 0 + 0 ≤ _; decide) (hb hbytes d6) (⟨rfl, hB.mv X0.warmed.alike hh0, f1.al X0.warmed.alike, f2.al X0.warmed.alike, hA.mv X0.warmed.alike hh0, s1.there X0.warmed.alike hh0, hz, l0, by omega, l2, fun i hi => by rw [Nat.zero_add]; exact hp i hi⟩)
  have e0 := Got.mv _ s₁ s _ _ hh0.symm (Vm.Alike.refl _) rfl E3
  obtain rfl := e0.1
  have c4 : Steps p.tables e below (s₁.setTop (entryFrame m #[.ref a, .ref b] 2)) (T3.setTop (mkF m 9 #[.val (.ref a), .val (.ref b)] [])) := g3
  exact ⟨T3, none, _, _, _, X3, by simp, rfl, by omega, (fun _ => rfl), e0, fun fs hl => c4.trans (X3.returnOut hexec hret (hb hbytes d9) hl)⟩
theorem pays {l : Launch} {R : Room} {p : Program} {e : Env} {below : List Frame} {s : State} {sargs : Array Value} {len W : Nat} (a : Addr) (D : Cell) (fV fC : Field) (b : Addr) (A : Cell) (z : Int32) (htab : tab.before sargs s = true) (hfr : 4 ≤ R.frames) (hlo : W + 65 ≤ R.locals) :
    Back l R p e below s sargs yN len W (fun A₁ a₁ => A₁.cells + 1 ≤ R.cells ∧ A₁.slots + A.slots.size ≤ R.slots ∧ P a D fV fC b A z a₁ A₁.U) (fun A₁ _ v₁ B₁ => E a D fV fC A v₁ A₁.U B₁.U ∧ B₁.locs = A₁.locs ++ [⟨a, fC.slot⟩, ⟨a, fV.slot⟩] ∧ B₁.cells = A₁.cells + 1 ∧ B₁.slots = A₁.slots + A.slots.size) :=
  (law l a D fV fC b A z).pays htab hfr (by omega)
end New1
/-- the byte, read back as charAt reads it, is the char -/
theorem lo8_mask {x : Int32} (h0 : ¬ x < 0) (h1 : ¬ 255 < x) : lo8 x &&& 255 = x := by
  have t : ∀ k : Fin 256, lo8 (Int32.ofNat k.val) &&& 255 = Int32.ofNat k.val := by decide +kernel
  rw [Int32.lt_iff_toInt_lt] at h0 h1
  have e0 : (0 : Int32).toInt = 0 := rfl
  have e1 : (255 : Int32).toInt = 255 := rfl
  obtain ⟨k, hk⟩ : ∃ k : Nat, x.toInt = k := ⟨x.toInt.toNat, by omega⟩
  have hx : x = Int32.ofNat k := Int32.toInt_inj.mp (by rw [hk, Int32.toInt_ofNat_small (by omega)])
  rw [hx]
  exact t ⟨k, by omega⟩
end StrChars
namespace StrChars.Road
open Jvm Sem ClassFile Op Lib Jvm.Stand Jvm.Free Jvm.Free.XT
open Jvm.Lib.Cold (StaticIs)
abbrev ST : String := "java/lang/String"
/-- every table word that New1's law asks, flat -/
abbrev words : List Jvm.Cond := [.code New1.yN New1.yB 2 none, .initialized ST, .methodLink ST 27 New4.yN, .instanceMethod New4.yN,
  .code New4.yN New4.yB 6 none, .fieldLink ST 38 ST "COMPACT_STRINGS" "Z", .laysFinal ST ST "value" "[B", .fieldLink ST 9 ST "value" "[B", .laysFinal ST ST "coder" "B", .fieldLink ST 15 ST "coder" "B",
  .methodLink ST 1 Lib.objectInit, .instanceMethod Lib.objectInit, .code Lib.objectInit ⟨#[0xb1]⟩ 1 none, .methodLink ST 177 Cmp3.yN, .static Cmp3.yN, .methodLink ST 47 CodL.yN, .static CodL.yN,
  .code Cmp3.yN Cmp3.yB 6 (some (.array .byte)), .initialized U16, .arrayClass .byte, .methodLink U16 115 Cmp5.yN, .static Cmp5.yN, .code Cmp5.yN Cmp5.yB 7 (some .int), .code CodL.yN CodL.yB 2 (some .byte)]
theorem tab_of {a : Array Value} {s : State} (h : ∀ w ∈ words, w.before a s = true) : New1.tab.before a s = true := by
  have h5 : Cmp5.tab.before a s = true := unparts (wk h (.code Cmp5.yN Cmp5.yB 7 (some .int))) (wks h (.initialized Cmp5.yN.cls :: Cmp5.site))
  have hc : CodL.tab.before a s = true := unparts (wk h (.code CodL.yN CodL.yB 2 (some .byte))) (wks h (.initialized CodL.yN.cls :: CodL.site))
  have q5 : ∀ w ∈ Cmp5.tab :: words, w.before a s = true := fun w hw => (List.mem_cons.mp hw).elim (fun e => e ▸ h5) (h w)
  have h3 : Cmp3.tab.before a s = true := unparts (wk q5 (.code Cmp3.yN Cmp3.yB 6 (some (.array .byte)))) (wks q5 (.initialized Cmp3.yN.cls :: Cmp3.site))
  have q3 : ∀ w ∈ Cmp3.tab :: CodL.tab :: words, w.before a s = true := fun w hw => (List.mem_cons.mp hw).elim (fun e => e ▸ h3) fun hw => (List.mem_cons.mp hw).elim (fun e => e ▸ hc) (h w)
  have h4 : New4.tab.before a s = true := unparts (wk q3 (.code New4.yN New4.yB 6 none)) (wks q3 (.initialized New4.yN.cls :: New4.site))
  have q4 : ∀ w ∈ New4.tab :: words, w.before a s = true := fun w hw => (List.mem_cons.mp hw).elim (fun e => e ▸ h4) (h w)
  exact unparts (wk q4 (.code New1.yN New1.yB 2 none)) (wks q4 (.initialized New1.yN.cls :: New1.site))
/-- the words ride from the start Z to the walk's own state -/
theorem moved {Z s : State} {a0 args : Array Value} (hZ : Z.Warmed39 s.vm) (hw : ∀ d ∈ words, d.before a0 Z = true) : ∀ d ∈ words, d.before args s = true := fun d hd => by
  have q := hw d hd
  have t : ∀ d ∈ words, d = .arrayClass .byte ∨ (d.onTables && d.keepsFace) = true := by decide +kernel
  rcases t d hd with rfl | t
  · exact RoadKit.mvA hZ q
  · exact RoadKit.mv hZ q t
/-- WHAT COMES BACK, over the tables of the start Z: h the heap at the call, h' behind it -/
def Q (Z : State) (x : Addr) (A : Cell) (h : Heap) (v : Option Value) (h' : Heap) (L : List Loc) : Prop := v = none ∧ (∀ y ∈ L, y.base = x) ∧ RoadKit.Keep h h' [x] ∧ h'.size = h.size + 1 ∧ RoadKit.Exa Z h' x ST ∧ RoadKit.Fld Z h' x ST "value" "[B" (.ref h.size) ∧ RoadKit.Fld Z h' x ST "coder" "B" (.int 0) ∧
  (∃ V : Cell, RoadKit.Arr Z h' h.size V .byte ∧ V.vm = .none ∧ Z.vm.findClass "[B" = some V.cls ∧ V.slots.size = A.slots.size ∧ ∀ j, j < A.slots.size → V.slots[j]? = some (.int (lo8 (cv A j)))) ∧
  ∀ (O n d : String) (w : Value), RoadKit.Fld Z h x O n d w → RoadKit.slotOf Z O n d ≠ RoadKit.slotOf Z ST "value" "[B" → RoadKit.slotOf Z O n d ≠ RoadKit.slotOf Z ST "coder" "B" → RoadKit.Fld Z h' x O n d w
/-- **new String(chars) AT A CALL, IN THE ROAD'S FORM**: for specialBack behind newO: x the fresh String, b the char[] with the cell A -/
theorem back {p : Program} {l : Launch} {e : Env} {R : Room} {s : State} {args : Array Value} {below : List Frame} {len W : Nat} {Z : State} {a0 : Array Value} {h : Heap} (hZ : Z.Warmed39 s.vm) (hw : ∀ d ∈ words, d.before a0 Z = true) {kI : Nat} (wi : (Jvm.Cond.instantiable ST kI).before a0 Z = true)
    {x b : Addr} {A : Cell} {z : Int32} {v0 c0 : Value} (E : RoadKit.Exa Z h x ST) (V : RoadKit.Fld Z h x ST "value" "[B" v0) (C : RoadKit.Fld Z h x ST "coder" "B" c0) (K : RoadKit.Arr Z h b A .char) (hty : Typed .char A) (S : RoadKit.Sta Z h ST "COMPACT_STRINGS" "Z" (.int z)) (hz : ¬ z = 0)
    (l0 : 0 < A.slots.size) (l2 : A.slots.size ≤ 536870912) (hp : ∀ i, i < A.slots.size → ¬ 255 < cv A i) (hfr : 4 ≤ R.frames) (hlo : W + 65 ≤ R.locals) :
    Back l R p e below s args New1.yN len W (fun P a => a = #[.ref x, .ref b] ∧ P.U.heap = h ∧ P.cells + 1 ≤ R.cells ∧ P.slots + A.slots.size ≤ R.slots)
      (fun P _ v B => ∃ L, Q Z x A h v B.U.heap L ∧ B.locs = P.locs ++ L ∧ B.cells = P.cells + 1 ∧ B.slots = P.slots + A.slots.size) := by
  intro m meth c P g ig mk a X hg hsize hdg hW hn hp'
  obtain ⟨rfl, rfl, r1, r2⟩ := hp'
  have al : Z.vm.Alike P.U.vm := hZ.alike.trans X.warmed.alike
  obtain ⟨D, cfV, kV, iV, fV, hD, gV, stV, knV, obV, asV, slV⟩ := id V
  obtain ⟨D', cfC, kC, iC, fC, hD', gC, stC, -, -, asC, slC⟩ := id C
  cases hD.symm.trans hD'
  obtain ⟨D2, kD, e1, e2, e3, e4, e5⟩ := id E
  cases hD.symm.trans e1
  obtain ⟨c2, k2, i1, i2, i3, -⟩ := Cond.instantiable_spec wi
  cases e2.symm.trans i1
  cases e3.symm.trans i2
  obtain ⟨kU, u1, u2⟩ := al.2.2 _ _ e3
  have hB : Blank ST x D P.U := ⟨hD, ⟨knV, fun q hq => by rw [hq] at obV; cases obV⟩, by rw [al.findClass]; exact e2, kU, u1, by rw [u2]; exact i3, by rw [u2]; exact e5 i3⟩
  have F1 : Found ST "value" "[B" fV P.U := ⟨SBG.found_only al ⟨cfV, kV, iV, gV⟩, stV⟩
  have F2 : Found ST "coder" "B" fC P.U := ⟨SBG.found_only al ⟨cfC, kC, iC, gC⟩, stC⟩
  have hA : Ch b A P.U := ⟨⟨K.1, State.isArrayOf_alike al K.2.1, K.2.2, by omega⟩, hty⟩
  have hS : StaticIs P.U ST "COMPACT_STRINGS" "Z" (.int z) := by
    obtain ⟨cfS, iS, kS, fS, st, cS, t1, t2, t3, t4, t5, t6, t7⟩ := S
    exact StaticIs.there (s := { Z with heap := P.U.heap }) ⟨cfS, iS, kS, fS, st, cS, t1, t2, t3, t4, t5, (fun q => by rw [q] at t6; cases t6), t7⟩ al rfl
  obtain ⟨v, B, X', ⟨⟨hv, E', V', q1, q2, q3, q4, q5, q6, q7, q8, q9, q10, q11⟩, hl, hc, hs⟩, st⟩ := New1.pays x D fV fC b A z (tab_of (moved hZ hw)) hfr hlo m meth c P g ig mk _ X hg hsize hdg hW hn ⟨r1, r2, rfl, hB, F1, F2, hA, hS, hz, l0, l2, hp⟩
  have al' : Z.vm.Alike B.U.vm := hZ.alike.trans X'.warmed.alike
  have hsz : E'.slots.size = D.slots.size := by
    obtain ⟨-, -, -, kB, w1, w2, w3⟩ := q1
    obtain ⟨kB', y1, y2⟩ := al'.2.2 _ _ e3
    rw [q2.2.1] at w1
    cases w1.symm.trans y1
    rw [w3, e5 i3, y2]
  refine ⟨v, B, X', ⟨_, ⟨hv, ?_, ⟨by omega, fun y cy hy hn' => q10 y cy (by simpa using hn') hy, fun y cy hy => ?_⟩, q11, ⟨E', _, q1.1, by rw [q2.2.1]; exact e2, by rw [q2.2.1]; exact e3, by rw [q2.1]; exact obV, fun _ => by rw [hsz]; exact e5 i3⟩,
    ⟨E', cfV, kV, iV, fV, q1.1, gV, stV, by rw [q2.1]; exact knV, by rw [q2.1]; exact obV, by rw [q2.2.1]; exact asV, q3⟩, ⟨E', cfC, kC, iC, fC, q1.1, gC, stC, by rw [q2.1]; exact knV, by rw [q2.1]; exact obV, by rw [q2.2.1]; exact asC, q4⟩,
    ⟨V', ⟨q5.1, State.isArrayOf_alike al'.symm q5.2.1, q5.2.2.1⟩, q6, by rw [← al'.findClass]; exact q7, q8, fun j hj => by have := q9 j hj; rwa [Nat.zero_add] at this⟩, fun O n d w F n1 n2 => ?_⟩, hl, hc, hs⟩, st⟩
  · intro y hy
    simp only [List.mem_cons, List.not_mem_nil, or_false] at hy
    rcases hy with rfl | rfl <;> rfl
  · by_cases q : y = x
    · subst q
      cases hD.symm.trans hy
      exact ⟨E', q1.1, q2.2.1, q2.1, hsz⟩
    · exact ⟨cy, q10 y cy q hy, rfl, rfl, rfl⟩
  · obtain ⟨D3, cf, k, i, f, g1, g2, g3, g4, g5, g6, g7⟩ := F
    cases hD.symm.trans g1
    simp only [RoadKit.slotOf, g2, gV, gC, Option.map_some, Option.getD_some] at n1 n2
    exact ⟨E', cf, k, i, f, q1.1, g2, g3, by rw [q2.1]; exact g4, by rw [q2.1]; exact g5, by rw [q2.2.1]; exact g6, by rw [q2.2.2 f.slot (by simp [n1, n2])]; exact g7⟩
end StrChars.Road
namespace StrChars.Road
open Jvm Sem ClassFile Op Lib Jvm.Stand Jvm.Free Jvm.Free.XT
/-- WHAT COMES BACK, the byte[] as a list of values -/
def QA (Z : State) (x : Addr) (zn : Int32) (cs : List Int32) (h : Heap) (v : Option Value) (h' : Heap) (L : List Loc) : Prop := v = none ∧ (∀ y ∈ L, y.base = x) ∧ RoadKit.Keep h h' [x] ∧ h'.size = h.size + 1 ∧ RoadKit.Exa Z h' x ST ∧ RoadKit.Fld Z h' x ST "value" "[B" (.ref h.size) ∧ RoadKit.Fld Z h' x ST "coder" "B" (.int 0) ∧
  (∃ kb, Z.vm.findClass "[B" = some kb ∧ RoadKit.Arv Z h' h.size kb .byte zn (cs.map fun c => .int (lo8 c)) (.int 0)) ∧
  ∀ (O n d : String) (w : Value), RoadKit.Fld Z h x O n d w → RoadKit.slotOf Z O n d ≠ RoadKit.slotOf Z ST "value" "[B" → RoadKit.slotOf Z O n d ≠ RoadKit.slotOf Z ST "coder" "B" → RoadKit.Fld Z h' x O n d w
/-- **new String(chars) AT A CALL, THE ARRAYS AS LISTS**: the char[] at b holds cs, not empty, no char above 255 -/
theorem backArv {p : Program} {l : Launch} {e : Env} {R : Room} {s : State} {args : Array Value} {below : List Frame} {len W : Nat} {Z : State} {a0 : Array Value} {h : Heap} (hZ : Z.Warmed39 s.vm) (hw : ∀ d ∈ words, d.before a0 Z = true) {kI : Nat} (wi : (Jvm.Cond.instantiable ST kI).before a0 Z = true)
    {x b : Addr} {k : ClassId} {zn z : Int32} {cs : List Int32} {dv v0 c0 : Value} (E : RoadKit.Exa Z h x ST) (V : RoadKit.Fld Z h x ST "value" "[B" v0) (C : RoadKit.Fld Z h x ST "coder" "B" c0) (K : RoadKit.Arv Z h b k .char zn (cs.map Value.int) dv) (S : RoadKit.Sta Z h ST "COMPACT_STRINGS" "Z" (.int z)) (hz : ¬ z = 0)
    (hlen : zn.toNatClampNeg = cs.length) (h0 : 0 < cs.length) (hbig : cs.length ≤ 536870912) (hall : ∀ c ∈ cs, ¬ 255 < c) (hfr : 4 ≤ R.frames) (hlo : W + 65 ≤ R.locals) :
    Back l R p e below s args New1.yN len W (fun P a => a = #[.ref x, .ref b] ∧ P.U.heap = h ∧ P.cells + 1 ≤ R.cells ∧ P.slots + cs.length ≤ R.slots)
      (fun P _ v B => ∃ L, QA Z x zn cs h v B.U.heap L ∧ B.locs = P.locs ++ L ∧ B.cells = P.cells + 1 ∧ B.slots = P.slots + cs.length) := by
  obtain ⟨A, K1, K2, K3, K4, K5, K6⟩ := K
  have e : A.slots.size = cs.length := K3.trans hlen
  have hat : ∀ (i : Nat) (hi : i < cs.length), A.slots[i]? = some (.int cs[i]) := fun i hi => by rw [K5 i (by omega)]; simp [List.getD_eq_getElem?_getD, hi]
  have hcv : ∀ (i : Nat) (hi : i < cs.length), cv A i = cs[i] := fun i hi => by unfold cv; rw [hat i hi]
  have hty : Typed .char A := fun i v hv => by
    have hi : i < A.slots.size := (Array.getElem?_eq_some_iff.mp hv).1
    have q := K5 i hi
    rw [hv] at q
    rw [Option.some.inj q]
    exact K6 i hi
  refine Back.mono (back hZ hw wi E V C K1 hty S hz (by omega) (by omega) (fun i hi => by rw [hcv i (by omega)]; exact hall _ (List.getElem_mem _)) hfr hlo) (fun P a hp => ⟨hp.1, hp.2.1, hp.2.2.1, by rw [e]; exact hp.2.2.2⟩) (fun P a v B hp hq => ?_)
  obtain ⟨L, ⟨q1, q2, q3, q4, q5, q6, q7, ⟨V', v1, v2, v3, v4, v5⟩, q9⟩, hl, hc, hs⟩ := hq
  refine ⟨L, ⟨q1, q2, q3, q4, q5, q6, q7, ⟨V'.cls, v3, V', v1, rfl, by rw [v4, e, hlen], K4, fun i hi => ?_, fun i hi => ?_⟩, q9⟩, hl, hc, by rw [hs, e]⟩
  · have hi' : i < cs.length := by omega
    rw [v5 i (by omega), hcv i hi']; simp [List.getD_eq_getElem?_getD, hi']
  · have hi' : i < cs.length := by omega
    simp only [List.getD_eq_getElem?_getD, List.getElem?_map, List.getElem?_eq_getElem hi', Option.map_some, Option.getD_some]
    exact fits_lo8 _
end StrChars.Road
namespace StrChars
open Jvm Sem ClassFile Op Lib Jvm.Stand Jvm.Free.XT Jvm.Free.ALB Jvm.Free.JM Jvm.Free
open Jvm.Lib.Cold (StaticIs)
def hi8 (x : Int32) : Int32 := lo8 (x >>> ((8 : Int32) &&& 31))
/-- what StringUTF16.getChar makes of two bytes -/
def pairCh (u v : Int32) : Int32 := (((u &&& 255) <<< ((0 : Int32) &&& 31)) ||| ((v &&& 255) <<< ((8 : Int32) &&& 31))).toUInt32.toUInt16.toUInt32.toInt32
theorem lo8_and (x : Int32) : (lo8 x &&& 255).toBitVec.toNat = x.toBitVec.toNat % 256 := by
  have h : (lo8 x).toBitVec = (x.toBitVec.signExtend 8).signExtend 32 := by rw [lo8, Int8.toBitVec_toInt32, Int32.toBitVec_toInt8]
  rw [Int32.toBitVec_and, BitVec.toNat_and, h]
  have e : ((x.toBitVec.signExtend 8).signExtend 32).toNat % 256 = x.toBitVec.toNat % 256 := by
    rw [BitVec.toNat_signExtend]
    have hlt := x.toBitVec.isLt
    simp only [BitVec.toNat_setWidth, BitVec.toNat_signExtend]
    split <;> split <;> omega
  rw [← e]
  exact Nat.and_two_pow_sub_one_eq_mod _ 8
theorem pair_says {c : Int32} (h0 : ¬ c < 0) (h1 : ¬ 65535 < c) : pairCh (lo8 c) (hi8 c) = c := by
  rw [Int32.lt_iff_toInt_lt] at h0 h1
  have e0 : (0 : Int32).toInt = 0 := rfl
  have e1 : (65535 : Int32).toInt = 65535 := rfl
  have hc : c.toInt = c.toBitVec.toNat := by
    have := c.toBitVec.isLt
    have e : c.toInt = c.toBitVec.toInt := rfl
    rw [e] at h0 h1
    rw [e]
    rw [BitVec.toInt_eq_toNat_cond] at h0 h1 ⊢
    split at h0 <;> split <;> omega
  have hn : c.toBitVec.toNat < 65536 := by omega
  have a1 := lo8_and c
  have a2 : (hi8 c &&& 255).toBitVec.toNat = c.toBitVec.toNat / 256 := by
    rw [hi8, lo8_and]
    have e : ((8 : Int32) &&& 31) = 8 := by decide
    rw [e, Int32.toBitVec_shiftRight]
    have e2 : ((8 : Int32).toBitVec.smod 32) = 8#32 := by decide
    rw [e2, BitVec.sshiftRight_eq', BitVec.toNat_sshiftRight_of_msb_false (by rw [BitVec.msb_eq_false_iff_two_mul_lt]; omega)]
    show c.toBitVec.toNat >>> 8 % 256 = _
    rw [Nat.shiftRight_eq_div_pow]
    omega
  unfold pairCh
  apply Int32.toBitVec_inj.mp
  apply BitVec.eq_of_toNat_eq
  have f0 : ((0 : Int32) &&& 31) = 0 := by decide
  have f8 : ((8 : Int32) &&& 31) = 8 := by decide
  rw [f0, f8]
  have g : (((lo8 c &&& 255) <<< (0 : Int32)) ||| ((hi8 c &&& 255) <<< (8 : Int32))).toBitVec.toNat = c.toBitVec.toNat := by
    rw [Int32.toBitVec_or, Int32.toBitVec_shiftLeft, Int32.toBitVec_shiftLeft]
    have s0 : ((0 : Int32).toBitVec.smod 32) = 0#32 := by decide
    have s8 : ((8 : Int32).toBitVec.smod 32) = 8#32 := by decide
    rw [s0, s8, BitVec.toNat_or]
    simp only [BitVec.shiftLeft_eq', BitVec.toNat_shiftLeft, a1, a2]
    show (c.toBitVec.toNat % 256) <<< 0 % 2 ^ 32 ||| (c.toBitVec.toNat / 256) <<< 8 % 2 ^ 32 = _
    rw [Nat.shiftLeft_zero, Nat.mod_eq_of_lt (show c.toBitVec.toNat % 256 < 2 ^ 32 by omega), Nat.mod_eq_of_lt (show (c.toBitVec.toNat / 256) <<< 8 < 2 ^ 32 by rw [Nat.shiftLeft_eq]; omega), Nat.or_comm, ← Nat.shiftLeft_add_eq_or_of_lt (by omega), Nat.shiftLeft_eq]
    omega
  show BitVec.toNat (((((lo8 c &&& 255) <<< (0 : Int32)) ||| ((hi8 c &&& 255) <<< (8 : Int32))).toBitVec.setWidth 16).setWidth 32) = _
  rw [BitVec.toNat_setWidth, BitVec.toNat_setWidth, g]
  omega
end StrChars
namespace StrChars
open Jvm Sem ClassFile Op Lib Jvm.Stand Jvm.Free.XT Jvm.Free.ALB Jvm.Free.JM Jvm.Free
open Jvm.Lib.Cold (StaticIs)
/-- charAt's cast of a byte read back -/
def chr8 (u : Int32) : Int32 := (u &&& 255).toUInt32.toUInt16.toUInt32.toInt32
theorem chr8_lo8 {c : Int32} (h0 : ¬ c < 0) (h1 : ¬ 255 < c) : chr8 (lo8 c) = c := by
  have t : ∀ k : Fin 256, (Int32.ofNat k.val).toUInt32.toUInt16.toUInt32.toInt32 = Int32.ofNat k.val := by decide +kernel
  unfold chr8
  rw [lo8_mask h0 h1]
  rw [Int32.lt_iff_toInt_lt] at h0 h1
  have e0 : (0 : Int32).toInt = 0 := rfl
  have e1 : (255 : Int32).toInt = 255 := rfl
  obtain ⟨k, hk⟩ : ∃ k : Nat, c.toInt = k := ⟨c.toInt.toNat, by omega⟩
  have hx : c = Int32.ofNat k := Int32.toInt_inj.mp (by rw [hk, Int32.toInt_ofNat_small (by omega)])
  rw [hx]
  exact t ⟨k, by omega⟩
theorem narrow_ch {c : Int32} (h0 : ¬ c < 0) (h1 : ¬ 65535 < c) : narrow .char (.int c) = .int c := by
  have q : narrow .char (.int (pairCh (lo8 c) (hi8 c))) = .int (pairCh (lo8 c) (hi8 c)) := narrow_c _
  rwa [pair_says h0 h1] at q
end StrChars
namespace StrChars.Road
open Jvm Sem ClassFile Op Lib Jvm.Stand Jvm.Free Jvm.Free.XT
open Jvm.Lib.Cold (StaticIs)
/-- the bytes of the chars cs, low before high -/
def wideBytes : List Int32 → List Value
  | [] => []
  | c :: cs => .int (lo8 c) :: .int (hi8 c) :: wideBytes cs
theorem low_at (d : Value) (cs : List Int32) (j : Nat) (h : j < cs.length) : (cs.map fun c => Value.int (lo8 c)).getD j d = .int (lo8 (cs.getD j 0)) := by
  simp [List.getD_eq_getElem?_getD, h]
/-- an array of N2 bytes vs codes the chars cs by the coder cd -/
def CodA (cs : List Int32) (cd N2 : Int32) (vs : List Value) : Prop := (cd = 0 ∧ N2 = Int32.ofNat cs.length ∧ vs = (cs.map fun c => Value.int (lo8 c)) ∧ ∀ c ∈ cs, ¬ 255 < c) ∨ (cd = 1 ∧ N2 = Int32.ofNat (2 * cs.length) ∧ vs = wideBytes cs ∧ ∃ c ∈ cs, 255 < c)
end StrChars.Road
end Jvm.Pilot.@@N@@
namespace Jvm.Pilot.@@N@@
open Jvm Jvm.ClassFile Sem Op Lib Jvm.Free Jvm.Free.XT Jvm.Stand Jvm.LawKit Jvm.RoadKit Jvm.OwnKit Bundle Jvm.Pilot.@@N@@.Jvm.D
abbrev own_lo (c : Int32) : Int32 := StrChars.lo8 c
theorem own_sm {i n : Nat} (h : i < n) (hn : n ≤ 4000) : Int32.ofNat i < Int32.ofNat n := by
  rw [Int32.lt_iff_toInt_lt, Int32.toInt_ofNat_small (by omega), Int32.toInt_ofNat_small (by omega)]; omega
theorem own_nn (n : Nat) (hn : n ≤ 4000) : ¬ Int32.ofNat n < 0 := by
  rw [Int32.lt_iff_toInt_lt, Int32.toInt_ofNat_small (by omega)]
  have z : (0 : Int32).toInt = 0 := by decide
  omega
theorem own_irr (n : Nat) : ¬ Int32.ofNat n < Int32.ofNat n := by rw [Int32.lt_iff_toInt_lt]; omega
theorem own_in {i n : Nat} (h : i < n) (hn : n ≤ 4000) : ¬ Int32.ofNat i < 0 ∧ Int32.ofNat i < Int32.ofNat n := ⟨own_nn i (by omega), own_sm h hn⟩
theorem own_cl (n : Nat) (hn : n ≤ 4000) : (Int32.ofNat n).toNatClampNeg = n := by
  show (Int32.ofNat n).toInt.toNat = n
  rw [Int32.toInt_ofNat_small (by omega)]; rfl
theorem own_inc (i : Nat) : Int32.ofNat i + (1 : Int32) = Int32.ofNat (i + 1) := by rw [Int32.ofNat_add]; rfl
theorem own_inj {i n : Nat} (h : i < n) (hn : n ≤ 4000) : ¬ Int32.ofNat i = Int32.ofNat n := fun e => by
  have := congrArg Int32.toInt e
  rw [Int32.toInt_ofNat_small (by omega), Int32.toInt_ofNat_small (by omega)] at this; omega
theorem own_getD {cs : List Int32} {i : Nat} (h : i < cs.length) (hn : cs.length ≤ 4000) (d : Value) : (cs.map Value.int).getD (Int32.ofNat i).toNatClampNeg d = .int (cs.getD i 0) := by
  rw [own_cl i (by omega)]; simp [List.getD_eq_getElem?_getD, h]
def own_Str (Z : State) (a0 : Array Value) (h : Heap) (x t : Addr) (cs : List Int32) : Prop := ∃ (kb : ClassId) (cd N2 : Int32) (vs : List Value), Ob Z a0 h x "java/lang/String" [("java/lang/String", "value", "[B", (.ref t)), ("java/lang/String", "coder", "B", (.int cd))] ∧ Arv Z h t kb .byte N2 vs (.int 0) ∧ StrChars.Road.CodA cs cd N2 vs ∧ (∀ c ∈ cs, ¬ c < 0 ∧ ¬ (65535 : Int32) < c) ∧ cs.length ≤ 4000
theorem own_Str.ext {Z : State} {a0 : Array Value} {h h' : Heap} {x t : Addr} {cs : List Int32} (G : own_Str Z a0 h x t cs) (E : Ext h h') : own_Str Z a0 h' x t cs := by obtain ⟨kb, cd, N2, vs, O, V, r⟩ := G; exact ⟨kb, cd, N2, vs, O.ext E, V.ext E, r⟩
theorem own_Str.keep {Z : State} {a0 : Array Value} {h h' : Heap} {x t : Addr} {cs : List Int32} {ws : List Addr} (G : own_Str Z a0 h x t cs) (K : Keep h h' ws) (q : x ∉ ws) (r : t ∉ ws) : own_Str Z a0 h' x t cs := by obtain ⟨kb, cd, N2, vs, O, V, z⟩ := G; exact ⟨kb, cd, N2, vs, O.keep K q, V.keep K r, z⟩
theorem own_Str.lt {Z : State} {a0 : Array Value} {h : Heap} {x t : Addr} {cs : List Int32} (G : own_Str Z a0 h x t cs) : x < h.size ∧ t < h.size := by obtain ⟨kb, cd, N2, vs, O, V, z⟩ := G; exact ⟨O.lt, V.lt⟩
theorem e_n4_d0 : decode jdk_42_method_149_code 0 = .ok (.aload_n 0, 1) := by decide +kernel
theorem e_n4_d1 : decode jdk_42_method_149_code 1 = .ok (.invokespecial 1, 3) := by decide +kernel
theorem e_n4_d4 : decode jdk_42_method_149_code 4 = .ok (.iload_n 3, 1) := by decide +kernel
theorem e_n4_d5 : decode jdk_42_method_149_code 5 = .ok (.ifCond .ne 22, 3) := by decide +kernel
theorem e_n4_d8 : decode jdk_42_method_149_code 8 = .ok (.aload_n 0, 1) := by decide +kernel
theorem e_n4_d9 : decode jdk_42_method_149_code 9 = .ok (.ldc 7, 2) := by decide +kernel
theorem e_n4_d11 : decode jdk_42_method_149_code 11 = .ok (.getfield 9, 3) := by decide +kernel
theorem e_n4_d14 : decode jdk_42_method_149_code 14 = .ok (.putfield 9, 3) := by decide +kernel
theorem e_n4_d17 : decode jdk_42_method_149_code 17 = .ok (.aload_n 0, 1) := by decide +kernel
theorem e_n4_d18 : decode jdk_42_method_149_code 18 = .ok (.ldc 7, 2) := by decide +kernel
theorem e_n4_d20 : decode jdk_42_method_149_code 20 = .ok (.getfield 15, 3) := by decide +kernel
theorem e_n4_d23 : decode jdk_42_method_149_code 23 = .ok (.putfield 15, 3) := by decide +kernel
theorem e_n4_d26 : decode jdk_42_method_149_code 26 = .ok (.return_, 1) := by decide +kernel
theorem e_n4_ef (m : MethodId) (x b : Addr) : entryFrame m #[(.ref x), (.ref b), (.int 0), (.int 0), (.null)] 6 = mkF m 0 #[.val (.ref x), .val (.ref b), .val (.int 0), .val (.int 0), .val (.null), .unset] [] := by first | (simp [entryFrame, mkF, argsToLocals, Value.category]; done) | rfl
theorem e_n4_pn : plainFor (⟨"java/lang/String", "<init>", "([CIILjava/lang/Void;)V"⟩ : MethodName) = true := by first | exact plainFor_of_name (by first | (simp [plainName, overriddenIn]; done) | decide +kernel) | decide +kernel
set_option maxRecDepth 65536 in
set_option maxHeartbeats 40000000 in
theorem e_n4 (l : Launch) (Z : State) (a0 : Array Value) (EL : List (String × Nat)) (hw : ∀ d ∈ tables_1, d.before a0 Z = true) (hEW : EW Z a0 EL) (h : Heap) (hS : ∀ d ∈ Bundle.stringAtoms, d.before a0 Z = true) (hmem : ("java/lang/String", 7) ∈ EL) (x b : Addr) (v0 c0 : Value) (O : Ob Z a0 h x "java/lang/String" [("java/lang/String", "value", "[B", v0), ("java/lang/String", "coder", "B", c0)]) :
    Con l Z EL (⟨"java/lang/String", "<init>", "([CIILjava/lang/Void;)V"⟩ : MethodName) jdk_42_method_149_code 6 none ({ frames := 1, cells := 4, slots := 8, locals := 12 } : Room) #[(.ref x), (.ref b), (.int 0), (.int 0), (.null)] h [x] (fun v h' nw => v = none ∧ nw = [] ∧ Keep h h' [x] ∧ ∃ t kb, t ≠ x ∧ Ob Z a0 h' x "java/lang/String" [("java/lang/String", "value", "[B", (.ref t)), ("java/lang/String", "coder", "B", (.int 0))] ∧ Arv Z h' t kb .byte 0 [] (.int 0)) := by
  refine Con.of e_n4_pn hEW ?_
  intro p e s m below meth c T F B hF hby hml hr hlk hnm S
  rw [e_n4_ef]
  have KK := Keep.refl h [x]
  show F T (mkF m 0 #[.val (.ref x), .val (.ref b), .val (.int 0), .val (.int 0), .val (.null), .unset] [])
  refine B (fun tgt kt => XS.aloadN S.here S.hx rfl (hb hby e_n4_d0) rfl rfl kt) ?_
  show F T (mkF m 1 #[.val (.ref x), .val (.ref b), .val (.int 0), .val (.int 0), .val (.null), .unset] [(.ref x)])
  refine Sp.initO B S (hw _ (List.mem_of_getElem? (i := 15) rfl)) (hw _ (List.mem_of_getElem? (i := 16) rfl)) (hw _ (List.mem_of_getElem? (i := 17) rfl)) (by rw [hml]; rfl) (hb hby e_n4_d1) (by decide) (W := 0) (by decide) (by decide) fun T S => ?_
  show F T (mkF m 4 #[.val (.ref x), .val (.ref b), .val (.int 0), .val (.int 0), .val (.null), .unset] [])
  refine B (fun tgt kt => XS.iloadN S.here S.hx rfl (hb hby e_n4_d4) rfl kt) ?_
  show F T (mkF m 5 #[.val (.ref x), .val (.ref b), .val (.int 0), .val (.int 0), .val (.null), .unset] [(.int 0)])
  refine B (fun tgt kt => XS.ifNo S.here S.hx rfl (hb hby e_n4_d5) rfl (i0_ne_f rfl) kt) ?_
  show F T (mkF m 8 #[.val (.ref x), .val (.ref b), .val (.int 0), .val (.int 0), .val (.null), .unset] [])
  refine B (fun tgt kt => XS.aloadN S.here S.hx rfl (hb hby e_n4_d8) rfl rfl kt) ?_
  show F T (mkF m 9 #[.val (.ref x), .val (.ref b), .val (.int 0), .val (.int 0), .val (.null), .unset] [(.ref x)])
  refine Sp.ldc B S (hw _ (List.mem_of_getElem? (i := 18) rfl)) hS hmem (vs := []) (z := 0) (by decide) (by decide) (by decide) (hb hby e_n4_d9) (nn := 0) (by decide) (by decide) (by decide) (by decide) fun T h1 q qt kqt S E Xq Cq Wq Vqt Nq => ?_
  show F T (mkF m 11 #[.val (.ref x), .val (.ref b), .val (.int 0), .val (.int 0), .val (.null), .unset] [(.ref q), (.ref x)])
  have hq : @Ne Nat x q ∧ @Ne Nat x qt := Nq x (by simp)
  replace O := O.ext E
  replace KK := KK.ext E
  refine Sp.get B S (hw _ (List.mem_of_getElem? (i := 24) rfl)) Via.refl Wq (hb hby e_n4_d11) fun T S => ?_
  show F T (mkF m 14 #[.val (.ref x), .val (.ref b), .val (.int 0), .val (.int 0), .val (.null), .unset] [(.ref qt), (.ref x)])
  refine Sp.putO B S (hw _ (List.mem_of_getElem? (i := 24) rfl)) O (i := 0) rfl (ns := ["value", "coder"]) rfl (by decide) (Or.inr ⟨(hw _ (List.mem_of_getElem? (i := 20) rfl)), rfl, hnm⟩) (hw _ (List.mem_of_getElem? (i := 5) rfl)) (ty := (.array .byte)) (by decide) (v' := .ref qt) rfl rfl (by simp) (hb hby e_n4_d14) fun T h2 S K O => ?_
  replace O : Ob Z a0 h2 x "java/lang/String" [("java/lang/String", "value", "[B", (.ref qt)), ("java/lang/String", "coder", "B", c0)] := O
  show F T (mkF m 17 #[.val (.ref x), .val (.ref b), .val (.int 0), .val (.int 0), .val (.null), .unset] [])
  replace KK := KK.trans K (qk1 (by first | (refine Or.inl ?_; simp; done) | (refine Or.inr ?_; omega)))
  replace Vqt := Vqt.keep K (nin1 (by omega))
  refine B (fun tgt kt => XS.aloadN S.here S.hx rfl (hb hby e_n4_d17) rfl rfl kt) ?_
  show F T (mkF m 18 #[.val (.ref x), .val (.ref b), .val (.int 0), .val (.int 0), .val (.null), .unset] [(.ref x)])
  refine Sp.ldc B S (hw _ (List.mem_of_getElem? (i := 18) rfl)) hS hmem (vs := []) (z := 0) (by decide) (by decide) (by decide) (hb hby e_n4_d18) (nn := 0) (by decide) (by decide) (by decide) (by decide) fun T h3 q2 q2t kq2t S E Xq2 Cq2 Wq2 Vq2t Nq2 => ?_
  show F T (mkF m 20 #[.val (.ref x), .val (.ref b), .val (.int 0), .val (.int 0), .val (.null), .unset] [(.ref q2), (.ref x)])
  replace O := O.ext E
  replace KK := KK.ext E
  replace Vqt := Vqt.ext E
  refine Sp.get B S (hw _ (List.mem_of_getElem? (i := 25) rfl)) Via.refl Cq2 (hb hby e_n4_d20) fun T S => ?_
  show F T (mkF m 23 #[.val (.ref x), .val (.ref b), .val (.int 0), .val (.int 0), .val (.null), .unset] [(.int 0), (.ref x)])
  refine Sp.putO B S (hw _ (List.mem_of_getElem? (i := 25) rfl)) O (i := 1) rfl (ns := ["value", "coder"]) rfl (by decide) (Or.inr ⟨(hw _ (List.mem_of_getElem? (i := 21) rfl)), rfl, hnm⟩) (hw _ (List.mem_of_getElem? (i := 5) rfl)) (ty := .byte) (by decide) (v' := .int 0) rfl rfl (by simp) (hb hby e_n4_d23) fun T h4 S K O => ?_
  replace O : Ob Z a0 h4 x "java/lang/String" [("java/lang/String", "value", "[B", (.ref qt)), ("java/lang/String", "coder", "B", (.int 0))] := O
  show F T (mkF m 26 #[.val (.ref x), .val (.ref b), .val (.int 0), .val (.int 0), .val (.null), .unset] [])
  replace KK := KK.trans K (qk1 (by first | (refine Or.inl ?_; simp; done) | (refine Or.inr ?_; omega)))
  replace Vqt := Vqt.keep K (nin1 (by omega))
  exact hF (S.ret hr hlk (hb hby e_n4_d26) (nw := []) ⟨rfl, rfl, KK, qt, kqt, natne (by omega), O, Vqt⟩ (by simp))
theorem e_n1_d0 : decode jdk_42_method_3_code 0 = .ok (.aload_n 0, 1) := by decide +kernel
theorem e_n1_d1 : decode jdk_42_method_3_code 1 = .ok (.aload_n 1, 1) := by decide +kernel
theorem e_n1_d2 : decode jdk_42_method_3_code 2 = .ok (.iconst 0, 1) := by decide +kernel
theorem e_n1_d3 : decode jdk_42_method_3_code 3 = .ok (.aload_n 1, 1) := by decide +kernel
theorem e_n1_d4 : decode jdk_42_method_3_code 4 = .ok (.arraylength, 1) := by decide +kernel
theorem e_n1_d5 : decode jdk_42_method_3_code 5 = .ok (.aconst_null, 1) := by decide +kernel
theorem e_n1_d6 : decode jdk_42_method_3_code 6 = .ok (.invokespecial 27, 3) := by decide +kernel
theorem e_n1_d9 : decode jdk_42_method_3_code 9 = .ok (.return_, 1) := by decide +kernel
theorem e_n1_p27 : parseMethodDescriptor "([CIILjava/lang/Void;)V" = some ⟨[(.array .char), .int, .int, (.object "java/lang/Void")], none⟩ := by decide +kernel
theorem e_n1_ef (m : MethodId) (x b : Addr) : entryFrame m #[(.ref x), (.ref b)] 2 = mkF m 0 #[.val (.ref x), .val (.ref b)] [] := by first | (simp [entryFrame, mkF, argsToLocals, Value.category]; done) | rfl
theorem e_n1_pn : plainFor (⟨"java/lang/String", "<init>", "([C)V"⟩ : MethodName) = true := by first | exact plainFor_of_name (by first | (simp [plainName, overriddenIn]; done) | decide +kernel) | decide +kernel
set_option maxRecDepth 65536 in
set_option maxHeartbeats 40000000 in
theorem e_n1 (l : Launch) (Z : State) (a0 : Array Value) (EL : List (String × Nat)) (hw : ∀ d ∈ tables_1, d.before a0 Z = true) (hEW : EW Z a0 EL) (h : Heap) (hS : ∀ d ∈ Bundle.stringAtoms, d.before a0 Z = true) (hmem : ("java/lang/String", 7) ∈ EL) (x b : Addr) (v0 c0 : Value) (O : Ob Z a0 h x "java/lang/String" [("java/lang/String", "value", "[B", v0), ("java/lang/String", "coder", "B", c0)]) (kA : ClassId) (vs : List Value) (dv : Value) (V : Arv Z h b kA .char 0 vs dv) :
    Con l Z EL (⟨"java/lang/String", "<init>", "([C)V"⟩ : MethodName) jdk_42_method_3_code 2 none ({ frames := 2, cells := 4, slots := 8, locals := 29 } : Room) #[(.ref x), (.ref b)] h [x] (fun v h' nw => v = none ∧ nw = [] ∧ Keep h h' [x] ∧ ∃ t kb, t ≠ x ∧ Ob Z a0 h' x "java/lang/String" [("java/lang/String", "value", "[B", (.ref t)), ("java/lang/String", "coder", "B", (.int 0))] ∧ Arv Z h' t kb .byte 0 [] (.int 0)) := by
  refine Con.of e_n1_pn hEW ?_
  intro p e s m below meth c T F B hF hby hml hr hlk hnm S
  rw [e_n1_ef]
  show F T (mkF m 0 #[.val (.ref x), .val (.ref b)] [])
  refine B (fun tgt kt => XS.aloadN S.here S.hx rfl (hb hby e_n1_d0) rfl rfl kt) ?_
  show F T (mkF m 1 #[.val (.ref x), .val (.ref b)] [(.ref x)])
  refine B (fun tgt kt => XS.aloadN S.here S.hx rfl (hb hby e_n1_d1) rfl rfl kt) ?_
  show F T (mkF m 2 #[.val (.ref x), .val (.ref b)] [(.ref b), (.ref x)])
  refine B (fun tgt kt => XS.iconst S.here S.hx rfl (hb hby e_n1_d2) kt) ?_
  show F T (mkF m 3 #[.val (.ref x), .val (.ref b)] [(.int (0 : Int32)), (.ref b), (.ref x)])
  refine B (fun tgt kt => XS.aloadN S.here S.hx rfl (hb hby e_n1_d3) rfl rfl kt) ?_
  show F T (mkF m 4 #[.val (.ref x), .val (.ref b)] [(.ref b), (.int (0 : Int32)), (.ref b), (.ref x)])
  refine Sp.alen B S V (hb hby e_n1_d4) ?_
  show F T (mkF m 5 #[.val (.ref x), .val (.ref b)] [(.int 0), (.int (0 : Int32)), (.ref b), (.ref x)])
  refine B (fun tgt kt => XS.aconstNull S.here S.hx rfl (hb hby e_n1_d5) kt) ?_
  show F T (mkF m 6 #[.val (.ref x), .val (.ref b)] [(.null), (.int 0), (.int (0 : Int32)), (.ref b), (.ref x)])
  refine Sp.special B S (y := (⟨"java/lang/String", "<init>", "([CIILjava/lang/Void;)V"⟩ : MethodName)) (argsL := [(.ref b), (.int (0 : Int32)), (.int 0), (.null)]) (rest := []) rfl (hw _ (List.mem_of_getElem? (i := 11) rfl)) (hw _ (List.mem_of_getElem? (i := 12) rfl)) (hw _ (List.mem_of_getElem? (i := 14) rfl)) (by decide) (Call.con (W := 0) (e_n4 l Z a0 EL hw hEW h hS hmem x b v0 c0 O) (hw _ (List.mem_of_getElem? (i := 14) rfl)) (hw _ (List.mem_of_getElem? (i := 6) rfl)) (by decide) (by decide)) (by simp) (by decide) (by decide) (by rw [hml]; rfl) (lenOf e_n1_p27 rfl) rfl (Nat.le_of_eq rfl) (hb hby e_n1_d6) fun v T h1 nw S hQ => ?_
  obtain ⟨rfl, rfl, KK, t, kb, ne, O, Vt⟩ := hQ
  show F T (mkF m 9 #[.val (.ref x), .val (.ref b)] [])
  exact hF (S.ret hr hlk (hb hby e_n1_d9) (nw := []) ⟨rfl, rfl, KK, t, kb, ne, O, Vt⟩ (by simp))
set_option maxRecDepth 65536 in
set_option maxHeartbeats 40000000 in
theorem own_new {p : Program} {l : Launch} {e : Env} {R : Room} {s : State} {args : Array Value} {below : List Frame} {W : Nat} (Z : State) (a0 : Array Value) (EL : List (String × Nat)) (hw : ∀ d ∈ tables_1, d.before a0 Z = true) (hEW : EW Z a0 EL) (h : Heap) (hS : ∀ d ∈ Bundle.stringAtoms, d.before a0 Z = true) (hmem : ("java/lang/String", 7) ∈ EL) (zc : Int32) (CS : Sta Z Z.heap "java/lang/String" "COMPACT_STRINGS" "Z" (.int zc)) (hzc : ¬ zc = 0)  (cs : List Int32) (hn : cs.length ≤ 8) (hlat : ∀ c ∈ cs, ¬ c < 0 ∧ ¬ (255 : Int32) < c) (x b : Addr) (hxb : x ≠ b) (hx0 : Z.heap.size ≤ x) (hE : Ext Z.heap h) (v0 c0 : Value) (O : Ob Z a0 h x "java/lang/String" [("java/lang/String", "value", "[B", v0), ("java/lang/String", "coder", "B", c0)]) (kb : ClassId) (dv : Value) (V : Arv Z h b kb .char (Int32.ofNat cs.length) (cs.map Value.int) dv) (hfr : 4 ≤ R.frames) (hlo : W + 65 ≤ R.locals) :
    Call l R p e below s args Z a0 EL (⟨"java/lang/String", "<init>", "([C)V"⟩ : MethodName) 3 W #[.ref x, .ref b] h [x] 4 24 (fun v h' nw => v = none ∧ nw = [] ∧ Keep h h' [x] ∧ ∃ t, t ≠ x ∧ own_Str Z a0 h' x t cs) := by
  have hws : ∀ d ∈ StrChars.Road.words, d.before a0 Z = true := fun d hd => hw d ((by decide +kernel : ∀ d ∈ StrChars.Road.words, d ∈ tables_1) d hd)
  have lx := O.lt
  by_cases h0 : cs = []
  · subst h0
    refine Call.imp (Call.mono (Call.con (W := W) (e_n1 l Z a0 EL hw hEW h hS hmem x b v0 c0 O kb _ dv V) (hw _ (List.mem_of_getElem? (i := 10) rfl)) (hw _ (List.mem_of_getElem? (i := 6) rfl)) (by show 2 + 1 ≤ _; omega) (by show W + (2 + 11) + 29 ≤ _; omega)) (by decide) (by decide)) ?_
    rintro v h' nw ⟨rfl, rfl, K, t, kt, ne, O, Vt⟩
    exact ⟨rfl, rfl, K, t, ne, kt, 0, 0, [], O, Vt, Or.inl ⟨rfl, rfl, rfl, by simp⟩, by simp, by decide⟩
  have h1 : 0 < cs.length := List.length_pos_iff.mpr h0
  refine Call.imp (Call.mono (Call.back (ws := [x]) (kc := 1) (ks := cs.length) (by simp) (fun s' hZ => StrChars.Road.backArv (W := W) hZ hws (kI := 4) (hw _ (List.mem_of_getElem? (i := 5) rfl)) O.1 (O.f (i := 0) rfl) (O.f (i := 1) rfl) V (CS.ext hE) hzc (own_cl _ (by omega)) h1 (by omega) (fun c hc => (hlat c hc).2) (by omega) (by omega)) (Qb := fun v h' L => StrChars.Road.QA Z x (Int32.ofNat cs.length) cs h v h' L) (Q := fun v h' nw => (∃ L, StrChars.Road.QA Z x (Int32.ofNat cs.length) cs h v h' L) ∧ nw = []) (fun v h' L q => ⟨fun y hy => by rw [q.2.1 y hy]; exact hx0, q.2.2.1, [], ⟨⟨L, q⟩, rfl⟩, fun _ z => nomatch z⟩)) (by decide) (by omega)) ?_
  rintro v h' nw ⟨⟨L, q1, q2, q3, q4, q5, q6, q7, ⟨kt, -, Vt⟩, q9⟩, rfl⟩
  exact ⟨q1, rfl, q3, h.size, natne (by omega), kt, 0, _, _, ⟨q5, all_cons ⟨O.laid (i := 0) (x := ("java/lang/String", "value", "[B", v0)) rfl, ⟨_, (by decide : parseFieldDescriptor "[B" = some (.array .byte))⟩, q6⟩ (all_cons ⟨O.laid (i := 1) (x := ("java/lang/String", "coder", "B", c0)) rfl, ⟨_, (by decide : parseFieldDescriptor "B" = some .byte)⟩, q7⟩ all_nil)⟩, Vt, Or.inl ⟨rfl, rfl, rfl, fun c hc => (hlat c hc).2⟩, fun c hc => ⟨(hlat c hc).1, fun q => (hlat c hc).2 (Int32.lt_trans (by decide) q)⟩, by omega⟩
def own_L (Z : State) (h : Heap) (x t : Addr) (cs : List Int32) : Prop := Exa Z h x "java/lang/String" ∧ Fld Z h x "java/lang/String" "value" "[B" (.ref t) ∧ Fld Z h x "java/lang/String" "coder" "B" (.int 0) ∧ ∃ kb, Arv Z h t kb .byte (Int32.ofNat cs.length) (cs.map fun q => Value.int (StrChars.lo8 q)) (.int 0)
theorem own_L.ext {Z : State} {h h' : Heap} {x t : Addr} {cs : List Int32} (G : own_L Z h x t cs) (E : Ext h h') : own_L Z h' x t cs := by obtain ⟨a, b, c, kb, V⟩ := G; exact ⟨a.ext E, b.ext E, c.ext E, kb, V.ext E⟩
theorem own_L.keep {Z : State} {h h' : Heap} {x t : Addr} {cs : List Int32} {ws : List Addr} (G : own_L Z h x t cs) (K : Keep h h' ws) (q : x ∉ ws) (r : t ∉ ws) : own_L Z h' x t cs := by obtain ⟨a, b, c, kb, V⟩ := G; exact ⟨a.keep K, b.keep K q, c.keep K q, kb, V.keep K r⟩
theorem own_L.lt {Z : State} {h : Heap} {x t : Addr} {cs : List Int32} (G : own_L Z h x t cs) : @LT.lt Nat _ x h.size ∧ @LT.lt Nat _ t h.size := by obtain ⟨a, b, c, kb, V⟩ := G; exact ⟨a.lt, V.lt⟩
theorem own_toL {Z : State} {a0 : Array Value} {h : Heap} {x t : Addr} {cs : List Int32} (G : own_Str Z a0 h x t cs) (hl : ∀ q ∈ cs, ¬ q < 0 ∧ ¬ (255 : Int32) < q) : own_L Z h x t cs := by
  obtain ⟨kb, cd, N2, vs, O, V, hcd, hbd, hle⟩ := G
  rcases hcd with ⟨rfl, rfl, rfl, _⟩ | ⟨rfl, rfl, rfl, q, hq, hq2⟩
  · exact ⟨O.1, O.f (i := 0) rfl, O.f (i := 1) rfl, kb, V⟩
  · exact absurd hq2 (hl q hq).2
def own_SB (Z : State) (a0 : Array Value) (h : Heap) (b t : Addr) (ds : List Int32) : Prop := Ob Z a0 h b "java/lang/StringBuilder" [("java/lang/AbstractStringBuilder", "value", "[B", (.ref t)), ("java/lang/AbstractStringBuilder", "coder", "B", (.int 0)), ("java/lang/AbstractStringBuilder", "count", "I", (.int (Int32.ofNat ds.length)))] ∧ ∃ kt, Arv Z h t kt .byte 16 (ds.map fun q => Value.int (StrChars.lo8 q)) (.int 0)
theorem own_SB.ext {Z : State} {a0 : Array Value} {h h' : Heap} {b t : Addr} {ds : List Int32} (G : own_SB Z a0 h b t ds) (E : Ext h h') : own_SB Z a0 h' b t ds := by obtain ⟨O, kt, V⟩ := G; exact ⟨O.ext E, kt, V.ext E⟩
theorem own_SB.keep0 {Z : State} {a0 : Array Value} {h h' : Heap} {b t : Addr} {ds : List Int32} (G : own_SB Z a0 h b t ds) (K : Keep h h' []) : own_SB Z a0 h' b t ds := by obtain ⟨O, kt, V⟩ := G; exact ⟨O.keep K (by simp), kt, V.keep K (by simp)⟩
theorem own_SB.lt {Z : State} {a0 : Array Value} {h : Heap} {b t : Addr} {ds : List Int32} (G : own_SB Z a0 h b t ds) : @LT.lt Nat _ b h.size ∧ @LT.lt Nat _ t h.size := by obtain ⟨O, kt, V⟩ := G; exact ⟨O.lt, V.lt⟩
theorem own_qk2 {a b k : Nat} {ws : List Addr} (h : (a : Addr) ∈ ws ∨ k ≤ a) (h2 : (b : Addr) ∈ ws ∨ k ≤ b) : ∀ x ∈ ([a, b] : List Addr), x ∈ ws ∨ k ≤ x := fun x hx => by
  rcases List.mem_cons.mp hx with r | r
  · cases r; exact h
  · cases List.mem_singleton.mp r; exact h2
theorem own_narc {c : Int32} (h : ¬ c < 0 ∧ ¬ (255 : Int32) < c) : nar .char c = c := by
  have q := StrChars.narrow_ch h.1 (fun q => h.2 (Int32.lt_trans (by decide) q))
  injection q
theorem own_nch {c : Int32} (h : ¬ c < 0 ∧ ¬ (255 : Int32) < c) : narrow .char (.int c) = .int c := StrChars.narrow_ch h.1 (fun q => h.2 (Int32.lt_trans (by decide) q))
theorem own_nb (y : Int32) : nar .byte (y.toInt8.toInt32) = StrChars.lo8 y := by
  show y.toInt8.toInt32.toInt8.toInt32 = y.toInt8.toInt32
  simp
theorem own_mem {cs : List Int32} {i : Nat} (h : i < cs.length) : cs.getD i 0 ∈ cs := by rw [List.getD_eq_getElem?_getD, List.getElem?_eq_getElem h]; exact List.getElem_mem h
theorem own_c8 (x : Int32) : ¬ (x &&& (255 : Int32)).toUInt32.toUInt16.toUInt32.toInt32 < 0 ∧ ¬ (255 : Int32) < (x &&& (255 : Int32)).toUInt32.toUInt16.toUInt32.toInt32 := by
  have a := c_mask x 255 8 (by decide) (by decide)
  have q := c_i2c (x &&& 255)
  have z : (0 : Int32).toInt = 0 := by decide
  have m : (255 : Int32).toInt = 255 := by decide
  constructor <;> (rw [Int32.lt_iff_toInt_lt]; omega)
theorem own_r3 (x : Int32) : (x &&& (3 : Int32)) % (3 : Int32) = 0 ∨ (x &&& (3 : Int32)) % (3 : Int32) = 1 ∨ (x &&& (3 : Int32)) % (3 : Int32) = 2 := by
  have a := c_mask x 3 2 (by decide) (by decide)
  have e : (3 : Int32).toInt = 3 := by decide
  have q := (c_iremV (x &&& 3) 3).1 (by omega) (by rw [e]; omega)
  rw [e] at q
  have e0 : (0 : Int32).toInt = 0 := by decide
  have e1 : (1 : Int32).toInt = 1 := by decide
  have e2 : (2 : Int32).toInt = 2 := by decide
  have r : ((x &&& (3 : Int32)) % (3 : Int32)).toInt = 0 ∨ ((x &&& (3 : Int32)) % (3 : Int32)).toInt = 1 ∨ ((x &&& (3 : Int32)) % (3 : Int32)).toInt = 2 := by omega
  rcases r with r | r | r
  · exact Or.inl (Int32.toInt_inj.mp (r.trans e0.symm))
  · exact Or.inr (Or.inl (Int32.toInt_inj.mp (r.trans e1.symm)))
  · exact Or.inr (Or.inr (Int32.toInt_inj.mp (r.trans e2.symm)))
theorem own_sub0 (a : Int32) : a - (0 : Int32) = a := by simp
theorem own_shr0 (n : Nat) (hn : n ≤ 8) : Int32.ofNat n >>> ((0 : Int32) &&& 31) = Int32.ofNat n := (by decide : ∀ k : Fin 9, Int32.ofNat k.1 >>> ((0 : Int32) &&& 31) = Int32.ofNat k.1) ⟨n, by omega⟩
theorem own_shl0 (n : Nat) (hn : n ≤ 8) : Int32.ofNat n <<< ((0 : Int32) &&& 31) = Int32.ofNat n := (by decide : ∀ k : Fin 9, Int32.ofNat k.1 <<< ((0 : Int32) &&& 31) = Int32.ofNat k.1) ⟨n, by omega⟩
theorem own_ec (n : Nat) (hn : n ≤ 8) : ¬ (0 : Int32) < Int32.ofNat n - ((16 : Int32) >>> ((0 : Int32) &&& 31)) := (by decide : ∀ k : Fin 9, ¬ (0 : Int32) < Int32.ofNat k.1 - ((16 : Int32) >>> ((0 : Int32) &&& 31))) ⟨n, by omega⟩
theorem own_us (cs : List Int32) (hn : cs.length ≤ 4000) : (cs.map fun q => Value.int (StrChars.lo8 q)) = (List.range (Int32.ofNat cs.length).toNatClampNeg).map fun i => (cs.map fun q => Value.int (StrChars.lo8 q)).getD ((0 : Int32).toNatClampNeg + i) (.int 0) := by
  rw [own_cl _ hn]
  have e : (0 : Int32).toNatClampNeg = 0 := by decide
  rw [e]
  apply List.ext_getElem
  · simp
  · intro i h1 h2
    have h3 : i < cs.length := by simpa using h1
    simp [List.getD_eq_getElem?_getD, h3]
theorem own_cp (A us : List Value) (z : Value) (n : Nat) : (A ++ List.replicate n z).take A.length ++ us ++ (A ++ List.replicate n z).drop (A.length + n) = A ++ us := by
  rw [List.take_left', List.drop_eq_nil_of_le (by simp), List.append_nil]; rfl
def own_mk (n c d : Int32) : List Int32 := if n = 0 then [] else if n = 1 then [c] else [c, d]
theorem own_mk0 (c d : Int32) : own_mk 0 c d = [] := rfl
theorem own_mk1 (c d : Int32) : own_mk 1 c d = [c] := rfl
theorem own_mk2 (c d : Int32) : own_mk 2 c d = [c, d] := rfl
theorem own_mkl {n c d : Int32} : (own_mk n c d).length ≤ 2 := by unfold own_mk; split; decide; split <;> simp
theorem own_mkb {n c d : Int32} (h1 : ¬ c < 0 ∧ ¬ (255 : Int32) < c) (h2 : ¬ d < 0 ∧ ¬ (255 : Int32) < d) : ∀ q ∈ own_mk n c d, ¬ q < 0 ∧ ¬ (255 : Int32) < q := by
  unfold own_mk; split
  · exact all_nil
  · split
    · exact all_cons h1 all_nil
    · exact all_cons h1 (all_cons h2 all_nil)
theorem b_cod_d0 : decode jdk_42_method_152_code 0 = .ok (.getstatic 38, 3) := by decide +kernel
theorem b_cod_d3 : decode jdk_42_method_152_code 3 = .ok (.ifCond .eq 10, 3) := by decide +kernel
theorem b_cod_d6 : decode jdk_42_method_152_code 6 = .ok (.aload_n 0, 1) := by decide +kernel
theorem b_cod_d7 : decode jdk_42_method_152_code 7 = .ok (.getfield 15, 3) := by decide +kernel
theorem b_cod_d10 : decode jdk_42_method_152_code 10 = .ok (.goto 4, 3) := by decide +kernel
theorem b_cod_d14 : decode jdk_42_method_152_code 14 = .ok (.ireturn, 1) := by decide +kernel
theorem b_cod_ef (m : MethodId) (x : Addr) : entryFrame m #[(.ref x)] 1 = mkF m 0 #[.val (.ref x)] [] := by first | (simp [entryFrame, mkF, argsToLocals, Value.category]; done) | rfl
theorem b_cod_pn : plainFor (⟨"java/lang/String", "coder", "()B"⟩ : MethodName) = true := by first | exact plainFor_of_name (by first | (simp [plainName, overriddenIn]; done) | decide +kernel) | decide +kernel
set_option maxRecDepth 65536 in
set_option maxHeartbeats 40000000 in
theorem b_cod (l : Launch) (Z : State) (a0 : Array Value) (EL : List (String × Nat)) (hw : ∀ d ∈ tables_1, d.before a0 Z = true) (hEW : EW Z a0 EL) (h : Heap) (zc : Int32) (CS : Sta Z Z.heap "java/lang/String" "COMPACT_STRINGS" "Z" (.int zc)) (hzc : ¬ zc = 0) (x : Addr) (C : Fld Z h x "java/lang/String" "coder" "B" (.int 0)) :
    Con l Z EL (⟨"java/lang/String", "coder", "()B"⟩ : MethodName) jdk_42_method_152_code 1 (some .byte) ({ frames := 0, cells := 0, slots := 0, locals := 0 } : Room) #[(.ref x)] h [] (fun v h' nw => v = some (.int 0) ∧ nw = [] ∧ h = h') := by
  refine Con.of b_cod_pn hEW ?_
  intro p e s m below meth c T F B hF hby hml hr hlk hnm S
  rw [b_cod_ef]
  show F T (mkF m 0 #[.val (.ref x)] [])
  refine Sp.getS B S (hw _ (List.mem_of_getElem? (i := 85) rfl)) Via.refl CS (hb hby b_cod_d0) fun T S => ?_
  show F T (mkF m 3 #[.val (.ref x)] [(.int zc)])
  refine B (fun tgt kt => XS.ifNo S.here S.hx rfl (hb hby b_cod_d3) rfl (i0_eq_f hzc) kt) ?_
  show F T (mkF m 6 #[.val (.ref x)] [])
  refine B (fun tgt kt => XS.aloadN S.here S.hx rfl (hb hby b_cod_d6) rfl rfl kt) ?_
  show F T (mkF m 7 #[.val (.ref x)] [(.ref x)])
  refine Sp.get B S (hw _ (List.mem_of_getElem? (i := 25) rfl)) Via.refl C (hb hby b_cod_d7) fun T S => ?_
  show F T (mkF m 10 #[.val (.ref x)] [(.int 0)])
  refine B (fun tgt kt => XS.goto S.here S.hx rfl (pc0 := 10) (pc' := 14) rfl (hb hby b_cod_d10) (by decide) (by decide) kt) ?_
  show F T (mkF m 14 #[.val (.ref x)] [(.int 0)])
  exact hF (S.retI hr hlk (by simp) (by decide) (hb hby b_cod_d14) (nw := []) ⟨rfl, rfl, rfl⟩ (by simp))
theorem b_isl_d0 : decode jdk_42_method_154_code 0 = .ok (.getstatic 38, 3) := by decide +kernel
theorem b_isl_d3 : decode jdk_42_method_154_code 3 = .ok (.ifCond .eq 14, 3) := by decide +kernel
theorem b_isl_d6 : decode jdk_42_method_154_code 6 = .ok (.aload_n 0, 1) := by decide +kernel
theorem b_isl_d7 : decode jdk_42_method_154_code 7 = .ok (.getfield 15, 3) := by decide +kernel
theorem b_isl_d10 : decode jdk_42_method_154_code 10 = .ok (.ifCond .ne 7, 3) := by decide +kernel
theorem b_isl_d13 : decode jdk_42_method_154_code 13 = .ok (.iconst 1, 1) := by decide +kernel
theorem b_isl_d14 : decode jdk_42_method_154_code 14 = .ok (.goto 4, 3) := by decide +kernel
theorem b_isl_d18 : decode jdk_42_method_154_code 18 = .ok (.ireturn, 1) := by decide +kernel
theorem b_isl_ef (m : MethodId) (x : Addr) : entryFrame m #[(.ref x)] 1 = mkF m 0 #[.val (.ref x)] [] := by first | (simp [entryFrame, mkF, argsToLocals, Value.category]; done) | rfl
theorem b_isl_pn : plainFor (⟨"java/lang/String", "isLatin1", "()Z"⟩ : MethodName) = true := by first | exact plainFor_of_name (by first | (simp [plainName, overriddenIn]; done) | decide +kernel) | decide +kernel
set_option maxRecDepth 65536 in
set_option maxHeartbeats 40000000 in
theorem b_isl (l : Launch) (Z : State) (a0 : Array Value) (EL : List (String × Nat)) (hw : ∀ d ∈ tables_1, d.before a0 Z = true) (hEW : EW Z a0 EL) (h : Heap) (zc : Int32) (CS : Sta Z Z.heap "java/lang/String" "COMPACT_STRINGS" "Z" (.int zc)) (hzc : ¬ zc = 0) (x : Addr) (C : Fld Z h x "java/lang/String" "coder" "B" (.int 0)) :
    Con l Z EL (⟨"java/lang/String", "isLatin1", "()Z"⟩ : MethodName) jdk_42_method_154_code 1 (some .boolean) ({ frames := 0, cells := 0, slots := 0, locals := 0 } : Room) #[(.ref x)] h [] (fun v h' nw => v = some (.int 1) ∧ nw = [] ∧ h = h') := by
  refine Con.of b_isl_pn hEW ?_
  intro p e s m below meth c T F B hF hby hml hr hlk hnm S
  rw [b_isl_ef]
  show F T (mkF m 0 #[.val (.ref x)] [])
  refine Sp.getS B S (hw _ (List.mem_of_getElem? (i := 85) rfl)) Via.refl CS (hb hby b_isl_d0) fun T S => ?_
  show F T (mkF m 3 #[.val (.ref x)] [(.int zc)])
  refine B (fun tgt kt => XS.ifNo S.here S.hx rfl (hb hby b_isl_d3) rfl (i0_eq_f hzc) kt) ?_
  show F T (mkF m 6 #[.val (.ref x)] [])
  refine B (fun tgt kt => XS.aloadN S.here S.hx rfl (hb hby b_isl_d6) rfl rfl kt) ?_
  show F T (mkF m 7 #[.val (.ref x)] [(.ref x)])
  refine Sp.get B S (hw _ (List.mem_of_getElem? (i := 25) rfl)) Via.refl C (hb hby b_isl_d7) fun T S => ?_
  show F T (mkF m 10 #[.val (.ref x)] [(.int 0)])
  refine B (fun tgt kt => XS.ifNo S.here S.hx rfl (hb hby b_isl_d10) rfl (i0_ne_f rfl) kt) ?_
  show F T (mkF m 13 #[.val (.ref x)] [])
  refine B (fun tgt kt => XS.iconst S.here S.hx rfl (hb hby b_isl_d13) kt) ?_
  show F T (mkF m 14 #[.val (.ref x)] [(.int (1 : Int32))])
  refine B (fun tgt kt => XS.goto S.here S.hx rfl (pc0 := 14) (pc' := 18) rfl (hb hby b_isl_d14) (by decide) (by decide) kt) ?_
  show F T (mkF m 18 #[.val (.ref x)] [(.int (1 : Int32))])
  exact hF (S.retI hr hlk (by simp) (by decide) (hb hby b_isl_d18) (nw := []) ⟨rfl, rfl, rfl⟩ (by simp))
theorem b_len_d0 : decode jdk_42_method_54_code 0 = .ok (.aload_n 0, 1) := by decide +kernel
theorem b_len_d1 : decode jdk_42_method_54_code 1 = .ok (.getfield 9, 3) := by decide +kernel
theorem b_len_d4 : decode jdk_42_method_54_code 4 = .ok (.arraylength, 1) := by decide +kernel
theorem b_len_d5 : decode jdk_42_method_54_code 5 = .ok (.aload_n 0, 1) := by decide +kernel
theorem b_len_d6 : decode jdk_42_method_54_code 6 = .ok (.invokevirtual 335, 3) := by decide +kernel
theorem b_len_d9 : decode jdk_42_method_54_code 9 = .ok (.ishr, 1) := by decide +kernel
theorem b_len_d10 : decode jdk_42_method_54_code 10 = .ok (.ireturn, 1) := by decide +kernel
theorem b_len_p335 : parseMethodDescriptor "()B" = some ⟨[], (some .byte)⟩ := by decide +kernel
theorem b_len_ef (m : MethodId) (x : Addr) : entryFrame m #[(.ref x)] 1 = mkF m 0 #[.val (.ref x)] [] := by first | (simp [entryFrame, mkF, argsToLocals, Value.category]; done) | rfl
theorem b_len_pn : plainFor (⟨"java/lang/String", "length", "()I"⟩ : MethodName) = true := by first | exact plainFor_of_name (by first | (simp [plainName, overriddenIn]; done) | decide +kernel) | decide +kernel
set_option maxRecDepth 65536 in
set_option maxHeartbeats 40000000 in
theorem b_len (l : Launch) (Z : State) (a0 : Array Value) (EL : List (String × Nat)) (hw : ∀ d ∈ tables_1, d.before a0 Z = true) (hEW : EW Z a0 EL) (h : Heap) (zc : Int32) (CS : Sta Z Z.heap "java/lang/String" "COMPACT_STRINGS" "Z" (.int zc)) (hzc : ¬ zc = 0) (x t : Addr) (cs : List Int32) (hn : cs.length ≤ 8) (G : own_L Z h x t cs) :
    Con l Z EL (⟨"java/lang/String", "length", "()I"⟩ : MethodName) jdk_42_method_54_code 1 (some .int) ({ frames := 1, cells := 0, slots := 0, locals := 13 } : Room) #[(.ref x)] h [] (fun v h' nw => v = some (.int (Int32.ofNat cs.length)) ∧ nw = [] ∧ h = h') := by
  refine Con.of b_len_pn hEW ?_
  intro p e s m below meth c T F B hF hby hml hr hlk hnm S
  rw [b_len_ef]
  show F T (mkF m 0 #[.val (.ref x)] [])
  obtain ⟨Ex, Vx, C, kb, V⟩ := G
  refine B (fun tgt kt => XS.aloadN S.here S.hx rfl (hb hby b_len_d0) rfl rfl kt) ?_
  show F T (mkF m 1 #[.val (.ref x)] [(.ref x)])
  refine Sp.get B S (hw _ (List.mem_of_getElem? (i := 24) rfl)) Via.refl Vx (hb hby b_len_d1) fun T S => ?_
  show F T (mkF m 4 #[.val (.ref x)] [(.ref t)])
  refine Sp.alen B S V (hb hby b_len_d4) ?_
  show F T (mkF m 5 #[.val (.ref x)] [(.int (Int32.ofNat cs.length))])
  refine B (fun tgt kt => XS.aloadN S.here S.hx rfl (hb hby b_len_d5) rfl rfl kt) ?_
  show F T (mkF m 6 #[.val (.ref x)] [(.ref x), (.int (Int32.ofNat cs.length))])
  refine Sp.virt B S (y := (⟨"java/lang/String", "coder", "()B"⟩ : MethodName)) (C := "java/lang/String") (argsL := []) (rest := [(.int (Int32.ofNat cs.length))]) (hw _ (List.mem_of_getElem? (i := 80) rfl)) (hw _ (List.mem_of_getElem? (i := 81) rfl)) (hw _ (List.mem_of_getElem? (i := 83) rfl)) (hw _ (List.mem_of_getElem? (i := 83) rfl)) (hw _ (List.mem_of_getElem? (i := 82) rfl)) (by decide) (Call.con (W := 1) (b_cod l Z a0 EL hw hEW _ zc CS hzc x C) (hw _ (List.mem_of_getElem? (i := 84) rfl)) (hw _ (List.mem_of_getElem? (i := 6) rfl)) (by decide) (by decide)) Ex (by simp) (by decide) (by decide) (by rw [hml]; rfl) (lenOf b_len_p335 rfl) rfl (Nat.le_of_eq rfl) (hb hby b_len_d6) fun v T h1 nw S hQ => ?_
  obtain ⟨rfl, rfl, rfl⟩ := hQ
  show F T (mkF m 9 #[.val (.ref x)] [(.int 0), (.int (Int32.ofNat cs.length))])
  refine B (fun tgt kt => XT.ishr S.here S.hx rfl (hb hby b_len_d9) rfl kt) ?_
  show F T (mkF m 10 #[.val (.ref x)] [(.int ((Int32.ofNat cs.length) >>> ((0 : Int32) &&& 31)))])
  rw [own_shr0 _ hn]
  exact hF (S.retI hr hlk (by simp) rfl (hb hby b_len_d10) (nw := []) ⟨rfl, rfl, rfl⟩ (by simp))
theorem b_ai_d0 : decode jdk_68_method_2_code 0 = .ok (.aload_n 0, 1) := by decide +kernel
theorem b_ai_d1 : decode jdk_68_method_2_code 1 = .ok (.invokespecial 3, 3) := by decide +kernel
theorem b_ai_d4 : decode jdk_68_method_2_code 4 = .ok (.getstatic 18, 3) := by decide +kernel
theorem b_ai_d7 : decode jdk_68_method_2_code 7 = .ok (.ifCond .eq 18, 3) := by decide +kernel
theorem b_ai_d10 : decode jdk_68_method_2_code 10 = .ok (.aload_n 0, 1) := by decide +kernel
theorem b_ai_d11 : decode jdk_68_method_2_code 11 = .ok (.iload_n 1, 1) := by decide +kernel
theorem b_ai_d12 : decode jdk_68_method_2_code 12 = .ok (.newarray .byte, 2) := by decide +kernel
theorem b_ai_d14 : decode jdk_68_method_2_code 14 = .ok (.putfield 15, 3) := by decide +kernel
theorem b_ai_d17 : decode jdk_68_method_2_code 17 = .ok (.aload_n 0, 1) := by decide +kernel
theorem b_ai_d18 : decode jdk_68_method_2_code 18 = .ok (.iconst 0, 1) := by decide +kernel
theorem b_ai_d19 : decode jdk_68_method_2_code 19 = .ok (.putfield 22, 3) := by decide +kernel
theorem b_ai_d22 : decode jdk_68_method_2_code 22 = .ok (.goto 16, 3) := by decide +kernel
theorem b_ai_d38 : decode jdk_68_method_2_code 38 = .ok (.return_, 1) := by decide +kernel
theorem b_ai_ef (m : MethodId) (b : Addr) : entryFrame m #[(.ref b), (.int 16)] 2 = mkF m 0 #[.val (.ref b), .val (.int 16)] [] := by first | (simp [entryFrame, mkF, argsToLocals, Value.category]; done) | rfl
theorem b_ai_pn : plainFor (⟨"java/lang/AbstractStringBuilder", "<init>", "(I)V"⟩ : MethodName) = true := by first | exact plainFor_of_name (by first | (simp [plainName, overriddenIn]; done) | decide +kernel) | decide +kernel
set_option maxRecDepth 65536 in
set_option maxHeartbeats 40000000 in
theorem b_ai (l : Launch) (Z : State) (a0 : Array Value) (EL : List (String × Nat)) (hw : ∀ d ∈ tables_1, d.before a0 Z = true) (hEW : EW Z a0 EL) (h : Heap) (zc : Int32) (CS : Sta Z Z.heap "java/lang/String" "COMPACT_STRINGS" "Z" (.int zc)) (hzc : ¬ zc = 0) (b : Addr) (O : Ob Z a0 h b "java/lang/StringBuilder" [("java/lang/AbstractStringBuilder", "value", "[B", .null), ("java/lang/AbstractStringBuilder", "coder", "B", (.int 0)), ("java/lang/AbstractStringBuilder", "count", "I", (.int 0))]) :
    Con l Z EL (⟨"java/lang/AbstractStringBuilder", "<init>", "(I)V"⟩ : MethodName) jdk_68_method_2_code 2 none ({ frames := 1, cells := 1, slots := 16, locals := 12 } : Room) #[(.ref b), (.int 16)] h [b] (fun v h' nw => ∃ t, v = none ∧ nw = [t] ∧ h.size ≤ t ∧ Keep h h' [b] ∧ own_SB Z a0 h' b t []) := by
  refine Con.of b_ai_pn hEW ?_
  intro p e s m below meth c T F B hF hby hml hr hlk hnm S
  rw [b_ai_ef]
  show F T (mkF m 0 #[.val (.ref b), .val (.int 16)] [])
  have KK := Keep.refl h [b]
  have lb := natlt O.lt
  refine B (fun tgt kt => XS.aloadN S.here S.hx rfl (hb hby b_ai_d0) rfl rfl kt) ?_
  show F T (mkF m 1 #[.val (.ref b), .val (.int 16)] [(.ref b)])
  refine Sp.initO B S (hw _ (List.mem_of_getElem? (i := 59) rfl)) (hw _ (List.mem_of_getElem? (i := 16) rfl)) (hw _ (List.mem_of_getElem? (i := 17) rfl)) (by rw [hml]; rfl) (hb hby b_ai_d1) (by decide) (W := 0) (by decide) (by decide) fun T S => ?_
  show F T (mkF m 4 #[.val (.ref b), .val (.int 16)] [])
  refine Sp.getS B S (hw _ (List.mem_of_getElem? (i := 60) rfl)) Via.refl CS (hb hby b_ai_d4) fun T S => ?_
  show F T (mkF m 7 #[.val (.ref b), .val (.int 16)] [(.int zc)])
  refine B (fun tgt kt => XS.ifNo S.here S.hx rfl (hb hby b_ai_d7) rfl (i0_eq_f hzc) kt) ?_
  show F T (mkF m 10 #[.val (.ref b), .val (.int 16)] [])
  refine B (fun tgt kt => XS.aloadN S.here S.hx rfl (hb hby b_ai_d10) rfl rfl kt) ?_
  show F T (mkF m 11 #[.val (.ref b), .val (.int 16)] [(.ref b)])
  refine B (fun tgt kt => XS.iloadN S.here S.hx rfl (hb hby b_ai_d11) rfl kt) ?_
  show F T (mkF m 12 #[.val (.ref b), .val (.int 16)] [(.int 16), (.ref b)])
  refine Sp.newP B S (cap := 16) (hw _ (List.mem_of_getElem? (i := 19) rfl)) (hb hby b_ai_d12) (by decide) (by decide) (by decide) (by decide) (by decide) (ad := "[B") (by decide) fun T h1 t kt S E gt Xt Vt => ?_
  show F T (mkF m 14 #[.val (.ref b), .val (.int 16)] [(.ref t), (.ref b)])
  replace O := O.ext E
  replace KK := KK.ext E
  refine Sp.putO B S (hw _ (List.mem_of_getElem? (i := 61) rfl)) O (i := 0) rfl (ns := ["value", "coder", "count"]) rfl (by decide) (Or.inl (hw _ (List.mem_of_getElem? (i := 62) rfl))) (hw _ (List.mem_of_getElem? (i := 48) rfl)) (ty := (.array .byte)) (by decide) (v' := .ref t) rfl rfl (by simp) (hb hby b_ai_d14) fun T h2 S K O => ?_
  replace O : Ob Z a0 h2 b "java/lang/StringBuilder" [("java/lang/AbstractStringBuilder", "value", "[B", (.ref t)), ("java/lang/AbstractStringBuilder", "coder", "B", (.int 0)), ("java/lang/AbstractStringBuilder", "count", "I", (.int 0))] := O
  show F T (mkF m 17 #[.val (.ref b), .val (.int 16)] [])
  replace KK := KK.trans K (qk1 (by first | (refine Or.inl ?_; simp; done) | (refine Or.inr ?_; omega)))
  replace Vt := Vt.keep K (nin1 (by omega))
  refine B (fun tgt kt => XS.aloadN S.here S.hx rfl (hb hby b_ai_d17) rfl rfl kt) ?_
  show F T (mkF m 18 #[.val (.ref b), .val (.int 16)] [(.ref b)])
  refine B (fun tgt kt => XS.iconst S.here S.hx rfl (hb hby b_ai_d18) kt) ?_
  show F T (mkF m 19 #[.val (.ref b), .val (.int 16)] [(.int (0 : Int32)), (.ref b)])
  refine Sp.putO B S (hw _ (List.mem_of_getElem? (i := 63) rfl)) O (i := 1) rfl (ns := ["value", "coder", "count"]) rfl (by decide) (Or.inl (hw _ (List.mem_of_getElem? (i := 64) rfl))) (hw _ (List.mem_of_getElem? (i := 48) rfl)) (ty := .byte) (by decide) (v' := .int (0 : Int32)) rfl rfl (by simp) (hb hby b_ai_d19) fun T h3 S K O => ?_
  replace O : Ob Z a0 h3 b "java/lang/StringBuilder" [("java/lang/AbstractStringBuilder", "value", "[B", (.ref t)), ("java/lang/AbstractStringBuilder", "coder", "B", (.int (0 : Int32))), ("java/lang/AbstractStringBuilder", "count", "I", (.int 0))] := O
  show F T (mkF m 22 #[.val (.ref b), .val (.int 16)] [])
  replace KK := KK.trans K (qk1 (by first | (refine Or.inl ?_; simp; done) | (refine Or.inr ?_; omega)))
  replace Vt := Vt.keep K (nin1 (by omega))
  refine B (fun tgt kt => XS.goto S.here S.hx rfl (pc0 := 22) (pc' := 38) rfl (hb hby b_ai_d22) (by decide) (by decide) kt) ?_
  show F T (mkF m 38 #[.val (.ref b), .val (.int 16)] [])
  exact hF (S.ret hr hlk (hb hby b_ai_d38) (nw := [t]) ⟨t, rfl, rfl, gt, KK, O, kt, Vt⟩ (by simp))
theorem b_si_d0 : decode jdk_67_method_1_code 0 = .ok (.aload_n 0, 1) := by decide +kernel
theorem b_si_d1 : decode jdk_67_method_1_code 1 = .ok (.bipush 16, 2) := by decide +kernel
theorem b_si_d3 : decode jdk_67_method_1_code 3 = .ok (.invokespecial 1, 3) := by decide +kernel
theorem b_si_d6 : decode jdk_67_method_1_code 6 = .ok (.return_, 1) := by decide +kernel
theorem b_si_p1 : parseMethodDescriptor "(I)V" = some ⟨[.int], none⟩ := by decide +kernel
theorem b_si_ef (m : MethodId) (b : Addr) : entryFrame m #[(.ref b)] 1 = mkF m 0 #[.val (.ref b)] [] := by first | (simp [entryFrame, mkF, argsToLocals, Value.category]; done) | rfl
theorem b_si_pn : plainFor (⟨"java/lang/StringBuilder", "<init>", "()V"⟩ : MethodName) = true := by first | exact plainFor_of_name (by first | (simp [plainName, overriddenIn]; done) | decide +kernel) | decide +kernel
set_option maxRecDepth 65536 in
set_option maxHeartbeats 40000000 in
theorem b_si (l : Launch) (Z : State) (a0 : Array Value) (EL : List (String × Nat)) (hw : ∀ d ∈ tables_1, d.before a0 Z = true) (hEW : EW Z a0 EL) (h : Heap) (zc : Int32) (CS : Sta Z Z.heap "java/lang/String" "COMPACT_STRINGS" "Z" (.int zc)) (hzc : ¬ zc = 0) (b : Addr) (O : Ob Z a0 h b "java/lang/StringBuilder" [("java/lang/AbstractStringBuilder", "value", "[B", .null), ("java/lang/AbstractStringBuilder", "coder", "B", (.int 0)), ("java/lang/AbstractStringBuilder", "count", "I", (.int 0))]) :
    Con l Z EL (⟨"java/lang/StringBuilder", "<init>", "()V"⟩ : MethodName) jdk_67_method_1_code 1 none ({ frames := 2, cells := 1, slots := 16, locals := 25 } : Room) #[(.ref b)] h [b] (fun v h' nw => ∃ t, v = none ∧ nw = [t] ∧ h.size ≤ t ∧ Keep h h' [b] ∧ own_SB Z a0 h' b t []) := by
  refine Con.of b_si_pn hEW ?_
  intro p e s m below meth c T F B hF hby hml hr hlk hnm S
  rw [b_si_ef]
  show F T (mkF m 0 #[.val (.ref b)] [])
  refine B (fun tgt kt => XS.aloadN S.here S.hx rfl (hb hby b_si_d0) rfl rfl kt) ?_
  show F T (mkF m 1 #[.val (.ref b)] [(.ref b)])
  refine B (fun tgt kt => XS.bipush S.here S.hx rfl (hb hby b_si_d1) kt) ?_
  show F T (mkF m 3 #[.val (.ref b)] [(.int (16 : Int32)), (.ref b)])
  refine Sp.special B S (y := (⟨"java/lang/AbstractStringBuilder", "<init>", "(I)V"⟩ : MethodName)) (argsL := [(.int (16 : Int32))]) (rest := []) rfl (hw _ (List.mem_of_getElem? (i := 53) rfl)) (hw _ (List.mem_of_getElem? (i := 54) rfl)) (hw _ (List.mem_of_getElem? (i := 58) rfl)) (by decide) (Call.con (W := 0) (b_ai l Z a0 EL hw hEW _ zc CS hzc b O) (hw _ (List.mem_of_getElem? (i := 58) rfl)) (hw _ (List.mem_of_getElem? (i := 57) rfl)) (by decide) (by decide)) (by simp) (by decide) (by decide) (by rw [hml]; rfl) (lenOf b_si_p1 rfl) rfl (Nat.le_of_eq rfl) (hb hby b_si_d3) fun v T h1 nw S hQ => ?_
  obtain ⟨t, rfl, rfl, gt, K, G⟩ := hQ
  show F T (mkF m 6 #[.val (.ref b)] [])
  exact hF (S.ret hr hlk (hb hby b_si_d6) (nw := [t]) ⟨t, rfl, rfl, gt, K, G⟩ (by simp))
theorem b_ec_d0 : decode jdk_68_method_9_code 0 = .ok (.aload_n 0, 1) := by decide +kernel
theorem b_ec_d1 : decode jdk_68_method_9_code 1 = .ok (.getfield 15, 3) := by decide +kernel
theorem b_ec_d4 : decode jdk_68_method_9_code 4 = .ok (.arraylength, 1) := by decide +kernel
theorem b_ec_d5 : decode jdk_68_method_9_code 5 = .ok (.aload_n 0, 1) := by decide +kernel
theorem b_ec_d6 : decode jdk_68_method_9_code 6 = .ok (.getfield 22, 3) := by decide +kernel
theorem b_ec_d9 : decode jdk_68_method_9_code 9 = .ok (.ishr, 1) := by decide +kernel
theorem b_ec_d10 : decode jdk_68_method_9_code 10 = .ok (.istore_n 2, 1) := by decide +kernel
theorem b_ec_d11 : decode jdk_68_method_9_code 11 = .ok (.iload_n 1, 1) := by decide +kernel
theorem b_ec_d12 : decode jdk_68_method_9_code 12 = .ok (.iload_n 2, 1) := by decide +kernel
theorem b_ec_d13 : decode jdk_68_method_9_code 13 = .ok (.isub, 1) := by decide +kernel
theorem b_ec_d14 : decode jdk_68_method_9_code 14 = .ok (.ifCond .le 24, 3) := by decide +kernel
theorem b_ec_d38 : decode jdk_68_method_9_code 38 = .ok (.return_, 1) := by decide +kernel
theorem b_ec_ef (m : MethodId) (b : Addr) (n : Nat) : entryFrame m #[(.ref b), (.int (Int32.ofNat n))] 3 = mkF m 0 #[.val (.ref b), .val (.int (Int32.ofNat n)), .unset] [] := by first | (simp [entryFrame, mkF, argsToLocals, Value.category]; done) | rfl
theorem b_ec_pn : plainFor (⟨"java/lang/AbstractStringBuilder", "ensureCapacityInternal", "(I)V"⟩ : MethodName) = true := by first | exact plainFor_of_name (by first | (simp [plainName, overriddenIn]; done) | decide +kernel) | decide +kernel
set_option maxRecDepth 65536 in
set_option maxHeartbeats 40000000 in
theorem b_ec (l : Launch) (Z : State) (a0 : Array Value) (EL : List (String × Nat)) (hw : ∀ d ∈ tables_1, d.before a0 Z = true) (hEW : EW Z a0 EL) (h : Heap) (b t : Addr) (hbt : b ≠ t) (ds : List Int32) (G : own_SB Z a0 h b t ds) (n : Nat) (hn : n ≤ 8) :
    Con l Z EL (⟨"java/lang/AbstractStringBuilder", "ensureCapacityInternal", "(I)V"⟩ : MethodName) jdk_68_method_9_code 3 none ({ frames := 0, cells := 0, slots := 0, locals := 0 } : Room) #[(.ref b), (.int (Int32.ofNat n))] h [] (fun v h' nw => v = none ∧ nw = [] ∧ h = h') := by
  refine Con.of b_ec_pn hEW ?_
  intro p e s m below meth c T F B hF hby hml hr hlk hnm S
  rw [b_ec_ef]
  show F T (mkF m 0 #[.val (.ref b), .val (.int (Int32.ofNat n)), .unset] [])
  obtain ⟨O, kt, V⟩ := G
  refine B (fun tgt kt => XS.aloadN S.here S.hx rfl (hb hby b_ec_d0) rfl rfl kt) ?_
  show F T (mkF m 1 #[.val (.ref b), .val (.int (Int32.ofNat n)), .unset] [(.ref b)])
  refine Sp.getO B S (hw _ (List.mem_of_getElem? (i := 61) rfl)) O (i := 0) rfl (hb hby b_ec_d1) fun T S => ?_
  show F T (mkF m 4 #[.val (.ref b), .val (.int (Int32.ofNat n)), .unset] [(.ref t)])
  refine Sp.alen B S V (hb hby b_ec_d4) ?_
  show F T (mkF m 5 #[.val (.ref b), .val (.int (Int32.ofNat n)), .unset] [(.int (16 : Int32))])
  refine B (fun tgt kt => XS.aloadN S.here S.hx rfl (hb hby b_ec_d5) rfl rfl kt) ?_
  show F T (mkF m 6 #[.val (.ref b), .val (.int (Int32.ofNat n)), .unset] [(.ref b), (.int (16 : Int32))])
  refine Sp.getO B S (hw _ (List.mem_of_getElem? (i := 63) rfl)) O (i := 1) rfl (hb hby b_ec_d6) fun T S => ?_
  show F T (mkF m 9 #[.val (.ref b), .val (.int (Int32.ofNat n)), .unset] [(.int 0), (.int (16 : Int32))])
  refine B (fun tgt kt => XT.ishr S.here S.hx rfl (hb hby b_ec_d9) rfl kt) ?_
  show F T (mkF m 10 #[.val (.ref b), .val (.int (Int32.ofNat n)), .unset] [(.int ((16 : Int32) >>> ((0 : Int32) &&& 31)))])
  refine B (fun tgt kt => XS.istoreN S.here S.hx rfl (hb hby b_ec_d10) rfl (l' := #[.val (.ref b), .val (.int (Int32.ofNat n)), .val (.int ((16 : Int32) >>> ((0 : Int32) &&& 31)))]) rfl kt) ?_
  show F T (mkF m 11 #[.val (.ref b), .val (.int (Int32.ofNat n)), .val (.int ((16 : Int32) >>> ((0 : Int32) &&& 31)))] [])
  refine B (fun tgt kt => XS.iloadN S.here S.hx rfl (hb hby b_ec_d11) rfl kt) ?_
  show F T (mkF m 12 #[.val (.ref b), .val (.int (Int32.ofNat n)), .val (.int ((16 : Int32) >>> ((0 : Int32) &&& 31)))] [(.int (Int32.ofNat n))])
  refine B (fun tgt kt => XS.iloadN S.here S.hx rfl (hb hby b_ec_d12) rfl kt) ?_
  show F T (mkF m 13 #[.val (.ref b), .val (.int (Int32.ofNat n)), .val (.int ((16 : Int32) >>> ((0 : Int32) &&& 31)))] [(.int ((16 : Int32) >>> ((0 : Int32) &&& 31))), (.int (Int32.ofNat n))])
  refine B (fun tgt kt => XS.isub S.here S.hx rfl (hb hby b_ec_d13) rfl kt) ?_
  show F T (mkF m 14 #[.val (.ref b), .val (.int (Int32.ofNat n)), .val (.int ((16 : Int32) >>> ((0 : Int32) &&& 31)))] [(.int ((Int32.ofNat n) - ((16 : Int32) >>> ((0 : Int32) &&& 31))))])
  refine B (fun tgt kt => XS.ifYes S.here S.hx rfl (pc0 := 14) (pc' := 38) rfl (hb hby b_ec_d14) rfl (i0_le_t (own_ec n hn)) (by decide) (by decide) kt) ?_
  show F T (mkF m 38 #[.val (.ref b), .val (.int (Int32.ofNat n)), .val (.int ((16 : Int32) >>> ((0 : Int32) &&& 31)))] [])
  exact hF (S.ret hr hlk (hb hby b_ec_d38) (nw := []) ⟨rfl, rfl, rfl⟩ (by simp))
theorem b_in_d0 : decode jdk_68_method_71_code 0 = .ok (.getstatic 18, 3) := by decide +kernel
theorem b_in_d3 : decode jdk_68_method_71_code 3 = .ok (.ifCond .eq 18, 3) := by decide +kernel
theorem b_in_d6 : decode jdk_68_method_71_code 6 = .ok (.aload_n 0, 1) := by decide +kernel
theorem b_in_d7 : decode jdk_68_method_71_code 7 = .ok (.getfield 22, 3) := by decide +kernel
theorem b_in_d10 : decode jdk_68_method_71_code 10 = .ok (.aload_n 1, 1) := by decide +kernel
theorem b_in_d11 : decode jdk_68_method_71_code 11 = .ok (.invokevirtual 40, 3) := by decide +kernel
theorem b_in_d14 : decode jdk_68_method_71_code 14 = .ok (.if_icmp .eq 7, 3) := by decide +kernel
theorem b_in_d21 : decode jdk_68_method_71_code 21 = .ok (.return_, 1) := by decide +kernel
theorem b_in_p40 : parseMethodDescriptor "()B" = some ⟨[], (some .byte)⟩ := by decide +kernel
theorem b_in_ef (m : MethodId) (b x : Addr) : entryFrame m #[(.ref b), (.ref x)] 2 = mkF m 0 #[.val (.ref b), .val (.ref x)] [] := by first | (simp [entryFrame, mkF, argsToLocals, Value.category]; done) | rfl
theorem b_in_pn : plainFor (⟨"java/lang/AbstractStringBuilder", "inflateIfNeededFor", "(Ljava/lang/String;)V"⟩ : MethodName) = true := by first | exact plainFor_of_name (by first | (simp [plainName, overriddenIn]; done) | decide +kernel) | decide +kernel
set_option maxRecDepth 65536 in
set_option maxHeartbeats 40000000 in
theorem b_in (l : Launch) (Z : State) (a0 : Array Value) (EL : List (String × Nat)) (hw : ∀ d ∈ tables_1, d.before a0 Z = true) (hEW : EW Z a0 EL) (h : Heap) (zc : Int32) (CS : Sta Z Z.heap "java/lang/String" "COMPACT_STRINGS" "Z" (.int zc)) (hzc : ¬ zc = 0) (b t : Addr) (hbt : b ≠ t) (ds : List Int32) (G : own_SB Z a0 h b t ds) (x : Addr) (Ex : Exa Z h x "java/lang/String") (C : Fld Z h x "java/lang/String" "coder" "B" (.int 0)) :
    Con l Z EL (⟨"java/lang/AbstractStringBuilder", "inflateIfNeededFor", "(Ljava/lang/String;)V"⟩ : MethodName) jdk_68_method_71_code 2 none ({ frames := 1, cells := 0, slots := 0, locals := 13 } : Room) #[(.ref b), (.ref x)] h [] (fun v h' nw => v = none ∧ nw = [] ∧ h = h') := by
  refine Con.of b_in_pn hEW ?_
  intro p e s m below meth c T F B hF hby hml hr hlk hnm S
  rw [b_in_ef]
  show F T (mkF m 0 #[.val (.ref b), .val (.ref x)] [])
  obtain ⟨O, kt, V⟩ := G
  refine Sp.getS B S (hw _ (List.mem_of_getElem? (i := 60) rfl)) Via.refl CS (hb hby b_in_d0) fun T S => ?_
  show F T (mkF m 3 #[.val (.ref b), .val (.ref x)] [(.int zc)])
  refine B (fun tgt kt => XS.ifNo S.here S.hx rfl (hb hby b_in_d3) rfl (i0_eq_f hzc) kt) ?_
  show F T (mkF m 6 #[.val (.ref b), .val (.ref x)] [])
  refine B (fun tgt kt => XS.aloadN S.here S.hx rfl (hb hby b_in_d6) rfl rfl kt) ?_
  show F T (mkF m 7 #[.val (.ref b), .val (.ref x)] [(.ref b)])
  refine Sp.getO B S (hw _ (List.mem_of_getElem? (i := 63) rfl)) O (i := 1) rfl (hb hby b_in_d7) fun T S => ?_
  show F T (mkF m 10 #[.val (.ref b), .val (.ref x)] [(.int 0)])
  refine B (fun tgt kt => XS.aloadN S.here S.hx rfl (hb hby b_in_d10) rfl rfl kt) ?_
  show F T (mkF m 11 #[.val (.ref b), .val (.ref x)] [(.ref x), (.int 0)])
  refine Sp.virt B S (y := (⟨"java/lang/String", "coder", "()B"⟩ : MethodName)) (C := "java/lang/String") (argsL := []) (rest := [(.int 0)]) (hw _ (List.mem_of_getElem? (i := 103) rfl)) (hw _ (List.mem_of_getElem? (i := 81) rfl)) (hw _ (List.mem_of_getElem? (i := 83) rfl)) (hw _ (List.mem_of_getElem? (i := 83) rfl)) (hw _ (List.mem_of_getElem? (i := 82) rfl)) (by decide) (Call.con (W := 1) (b_cod l Z a0 EL hw hEW _ zc CS hzc x C) (hw _ (List.mem_of_getElem? (i := 84) rfl)) (hw _ (List.mem_of_getElem? (i := 6) rfl)) (by decide) (by decide)) Ex (by simp) (by decide) (by decide) (by rw [hml]; rfl) (lenOf b_in_p40 rfl) rfl (Nat.le_of_eq rfl) (hb hby b_in_d11) fun v T h1 nw S hQ => ?_
  obtain ⟨rfl, rfl, rfl⟩ := hQ
  show F T (mkF m 14 #[.val (.ref b), .val (.ref x)] [(.int 0), (.int 0)])
  refine B (fun tgt kt => XS.icmpYes S.here S.hx rfl (pc0 := 14) (pc' := 21) rfl (hb hby b_in_d14) rfl (ii_eq_t rfl) (by decide) (by decide) kt) ?_
  show F T (mkF m 21 #[.val (.ref b), .val (.ref x)] [])
  exact hF (S.ret hr hlk (hb hby b_in_d21) (nw := []) ⟨rfl, rfl, rfl⟩ (by simp))
theorem b_gv_d0 : decode jdk_68_method_64_code 0 = .ok (.aload_n 0, 1) := by decide +kernel
theorem b_gv_d1 : decode jdk_68_method_64_code 1 = .ok (.getfield 15, 3) := by decide +kernel
theorem b_gv_d4 : decode jdk_68_method_64_code 4 = .ok (.areturn, 1) := by decide +kernel
theorem b_gv_ef (m : MethodId) (b : Addr) : entryFrame m #[(.ref b)] 1 = mkF m 0 #[.val (.ref b)] [] := by first | (simp [entryFrame, mkF, argsToLocals, Value.category]; done) | rfl
theorem b_gv_pn : plainFor (⟨"java/lang/AbstractStringBuilder", "getValue", "()[B"⟩ : MethodName) = true := by first | exact plainFor_of_name (by first | (simp [plainName, overriddenIn]; done) | decide +kernel) | decide +kernel
set_option maxRecDepth 65536 in
set_option maxHeartbeats 40000000 in
theorem b_gv (l : Launch) (Z : State) (a0 : Array Value) (EL : List (String × Nat)) (hw : ∀ d ∈ tables_1, d.before a0 Z = true) (hEW : EW Z a0 EL) (h : Heap) (b t : Addr) (hbt : b ≠ t) (ds : List Int32) (G : own_SB Z a0 h b t ds) :
    Con l Z EL (⟨"java/lang/AbstractStringBuilder", "getValue", "()[B"⟩ : MethodName) jdk_68_method_64_code 1 (some (.array .byte)) ({ frames := 0, cells := 0, slots := 0, locals := 0 } : Room) #[(.ref b)] h [] (fun v h' nw => v = some (.ref t) ∧ nw = [] ∧ h = h') := by
  refine Con.of b_gv_pn hEW ?_
  intro p e s m below meth c T F B hF hby hml hr hlk hnm S
  rw [b_gv_ef]
  show F T (mkF m 0 #[.val (.ref b)] [])
  obtain ⟨O, kt, V⟩ := G
  refine B (fun tgt kt => XS.aloadN S.here S.hx rfl (hb hby b_gv_d0) rfl rfl kt) ?_
  show F T (mkF m 1 #[.val (.ref b)] [(.ref b)])
  refine Sp.getO B S (hw _ (List.mem_of_getElem? (i := 61) rfl)) O (i := 0) rfl (hb hby b_gv_d1) fun T S => ?_
  show F T (mkF m 4 #[.val (.ref b)] [(.ref t)])
  exact hF (S.retA hr hlk rfl rfl (hb hby b_gv_d4) (nw := []) ⟨rfl, rfl, rfl⟩ (by simp))
theorem b_al_d0 : decode jdk_68_method_6_code 0 = .ok (.aload_n 0, 1) := by decide +kernel
theorem b_al_d1 : decode jdk_68_method_6_code 1 = .ok (.getfield 79, 3) := by decide +kernel
theorem b_al_d4 : decode jdk_68_method_6_code 4 = .ok (.ireturn, 1) := by decide +kernel
theorem b_al_ef (m : MethodId) (b : Addr) : entryFrame m #[(.ref b)] 1 = mkF m 0 #[.val (.ref b)] [] := by first | (simp [entryFrame, mkF, argsToLocals, Value.category]; done) | rfl
theorem b_al_pn : plainFor (⟨"java/lang/AbstractStringBuilder", "length", "()I"⟩ : MethodName) = true := by first | exact plainFor_of_name (by first | (simp [plainName, overriddenIn]; done) | decide +kernel) | decide +kernel
set_option maxRecDepth 65536 in
set_option maxHeartbeats 40000000 in
theorem b_al (l : Launch) (Z : State) (a0 : Array Value) (EL : List (String × Nat)) (hw : ∀ d ∈ tables_1, d.before a0 Z = true) (hEW : EW Z a0 EL) (h : Heap) (b t : Addr) (hbt : b ≠ t) (ds : List Int32) (G : own_SB Z a0 h b t ds) :
    Con l Z EL (⟨"java/lang/AbstractStringBuilder", "length", "()I"⟩ : MethodName) jdk_68_method_6_code 1 (some .int) ({ frames := 0, cells := 0, slots := 0, locals := 0 } : Room) #[(.ref b)] h [] (fun v h' nw => v = some (.int (Int32.ofNat ds.length)) ∧ nw = [] ∧ h = h') := by
  refine Con.of b_al_pn hEW ?_
  intro p e s m below meth c T F B hF hby hml hr hlk hnm S
  rw [b_al_ef]
  show F T (mkF m 0 #[.val (.ref b)] [])
  obtain ⟨O, kt, V⟩ := G
  refine B (fun tgt kt => XS.aloadN S.here S.hx rfl (hb hby b_al_d0) rfl rfl kt) ?_
  show F T (mkF m 1 #[.val (.ref b)] [(.ref b)])
  refine Sp.getO B S (hw _ (List.mem_of_getElem? (i := 86) rfl)) O (i := 2) rfl (hb hby b_al_d1) fun T S => ?_
  show F T (mkF m 4 #[.val (.ref b)] [(.int (Int32.ofNat ds.length))])
  exact hF (S.retI hr hlk (by simp) rfl (hb hby b_al_d4) (nw := []) ⟨rfl, rfl, rfl⟩ (by simp))
theorem b_sl_d0 : decode jdk_67_method_93_code 0 = .ok (.aload_n 0, 1) := by decide +kernel
theorem b_sl_d1 : decode jdk_67_method_93_code 1 = .ok (.invokespecial 343, 3) := by decide +kernel
theorem b_sl_d4 : decode jdk_67_method_93_code 4 = .ok (.ireturn, 1) := by decide +kernel
theorem b_sl_p343 : parseMethodDescriptor "()I" = some ⟨[], (some .int)⟩ := by decide +kernel
theorem b_sl_ef (m : MethodId) (b : Addr) : entryFrame m #[(.ref b)] 1 = mkF m 0 #[.val (.ref b)] [] := by first | (simp [entryFrame, mkF, argsToLocals, Value.category]; done) | rfl
theorem b_sl_pn : plainFor (⟨"java/lang/StringBuilder", "length", "()I"⟩ : MethodName) = true := by first | exact plainFor_of_name (by first | (simp [plainName, overriddenIn]; done) | decide +kernel) | decide +kernel
set_option maxRecDepth 65536 in
set_option maxHeartbeats 40000000 in
theorem b_sl (l : Launch) (Z : State) (a0 : Array Value) (EL : List (String × Nat)) (hw : ∀ d ∈ tables_1, d.before a0 Z = true) (hEW : EW Z a0 EL) (h : Heap) (b t : Addr) (hbt : b ≠ t) (ds : List Int32) (G : own_SB Z a0 h b t ds) :
    Con l Z EL (⟨"java/lang/StringBuilder", "length", "()I"⟩ : MethodName) jdk_67_method_93_code 1 (some .int) ({ frames := 1, cells := 0, slots := 0, locals := 12 } : Room) #[(.ref b)] h [] (fun v h' nw => v = some (.int (Int32.ofNat ds.length)) ∧ nw = [] ∧ h = h') := by
  refine Con.of b_sl_pn hEW ?_
  intro p e s m below meth c T F B hF hby hml hr hlk hnm S
  rw [b_sl_ef]
  show F T (mkF m 0 #[.val (.ref b)] [])
  refine B (fun tgt kt => XS.aloadN S.here S.hx rfl (hb hby b_sl_d0) rfl rfl kt) ?_
  show F T (mkF m 1 #[.val (.ref b)] [(.ref b)])
  refine Sp.super B S (y := (⟨"java/lang/AbstractStringBuilder", "length", "()I"⟩ : MethodName)) (argsL := []) (rest := []) (by decide) (hw _ (List.mem_of_getElem? (i := 137) rfl)) (hw _ (List.mem_of_getElem? (i := 133) rfl)) (hw _ (List.mem_of_getElem? (i := 72) rfl)) (hw _ (List.mem_of_getElem? (i := 138) rfl)) (by decide) (Call.con (W := 0) (b_al l Z a0 EL hw hEW _ b t hbt ds G) (hw _ (List.mem_of_getElem? (i := 138) rfl)) (hw _ (List.mem_of_getElem? (i := 57) rfl)) (by decide) (by decide)) G.1.1 (by simp) (by decide) (by decide) (by rw [hml]; rfl) (lenOf b_sl_p343 rfl) rfl (Nat.le_of_eq rfl) (hb hby b_sl_d1) fun v T h1 nw S hQ => ?_
  obtain ⟨rfl, rfl, rfl⟩ := hQ
  show F T (mkF m 4 #[.val (.ref b)] [(.int (Int32.ofNat ds.length))])
  exact hF (S.retI hr hlk (by simp) rfl (hb hby b_sl_d4) (nw := []) ⟨rfl, rfl, rfl⟩ (by simp))
theorem b_ail_d0 : decode jdk_68_method_68_code 0 = .ok (.getstatic 18, 3) := by decide +kernel
theorem b_ail_d3 : decode jdk_68_method_68_code 3 = .ok (.ifCond .eq 14, 3) := by decide +kernel
theorem b_ail_d6 : decode jdk_68_method_68_code 6 = .ok (.aload_n 0, 1) := by decide +kernel
theorem b_ail_d7 : decode jdk_68_method_68_code 7 = .ok (.getfield 22, 3) := by decide +kernel
theorem b_ail_d10 : decode jdk_68_method_68_code 10 = .ok (.ifCond .ne 7, 3) := by decide +kernel
theorem b_ail_d13 : decode jdk_68_method_68_code 13 = .ok (.iconst 1, 1) := by decide +kernel
theorem b_ail_d14 : decode jdk_68_method_68_code 14 = .ok (.goto 4, 3) := by decide +kernel
theorem b_ail_d18 : decode jdk_68_method_68_code 18 = .ok (.ireturn, 1) := by decide +kernel
theorem b_ail_ef (m : MethodId) (b : Addr) : entryFrame m #[(.ref b)] 1 = mkF m 0 #[.val (.ref b)] [] := by first | (simp [entryFrame, mkF, argsToLocals, Value.category]; done) | rfl
theorem b_ail_pn : plainFor (⟨"java/lang/AbstractStringBuilder", "isLatin1", "()Z"⟩ : MethodName) = true := by first | exact plainFor_of_name (by first | (simp [plainName, overriddenIn]; done) | decide +kernel) | decide +kernel
set_option maxRecDepth 65536 in
set_option maxHeartbeats 40000000 in
theorem b_ail (l : Launch) (Z : State) (a0 : Array Value) (EL : List (String × Nat)) (hw : ∀ d ∈ tables_1, d.before a0 Z = true) (hEW : EW Z a0 EL) (h : Heap) (zc : Int32) (CS : Sta Z Z.heap "java/lang/String" "COMPACT_STRINGS" "Z" (.int zc)) (hzc : ¬ zc = 0) (b t : Addr) (hbt : b ≠ t) (ds : List Int32) (G : own_SB Z a0 h b t ds) :
    Con l Z EL (⟨"java/lang/AbstractStringBuilder", "isLatin1", "()Z"⟩ : MethodName) jdk_68_method_68_code 1 (some .boolean) ({ frames := 0, cells := 0, slots := 0, locals := 0 } : Room) #[(.ref b)] h [] (fun v h' nw => v = some (.int 1) ∧ nw = [] ∧ h = h') := by
  refine Con.of b_ail_pn hEW ?_
  intro p e s m below meth c T F B hF hby hml hr hlk hnm S
  rw [b_ail_ef]
  show F T (mkF m 0 #[.val (.ref b)] [])
  obtain ⟨O, kt, V⟩ := G
  refine Sp.getS B S (hw _ (List.mem_of_getElem? (i := 60) rfl)) Via.refl CS (hb hby b_ail_d0) fun T S => ?_
  show F T (mkF m 3 #[.val (.ref b)] [(.int zc)])
  refine B (fun tgt kt => XS.ifNo S.here S.hx rfl (hb hby b_ail_d3) rfl (i0_eq_f hzc) kt) ?_
  show F T (mkF m 6 #[.val (.ref b)] [])
  refine B (fun tgt kt => XS.aloadN S.here S.hx rfl (hb hby b_ail_d6) rfl rfl kt) ?_
  show F T (mkF m 7 #[.val (.ref b)] [(.ref b)])
  refine Sp.getO B S (hw _ (List.mem_of_getElem? (i := 63) rfl)) O (i := 1) rfl (hb hby b_ail_d7) fun T S => ?_
  show F T (mkF m 10 #[.val (.ref b)] [(.int 0)])
  refine B (fun tgt kt => XS.ifNo S.here S.hx rfl (hb hby b_ail_d10) rfl (i0_ne_f rfl) kt) ?_
  show F T (mkF m 13 #[.val (.ref b)] [])
  refine B (fun tgt kt => XS.iconst S.here S.hx rfl (hb hby b_ail_d13) kt) ?_
  show F T (mkF m 14 #[.val (.ref b)] [(.int (1 : Int32))])
  refine B (fun tgt kt => XS.goto S.here S.hx rfl (pc0 := 14) (pc' := 18) rfl (hb hby b_ail_d14) (by decide) (by decide) kt) ?_
  show F T (mkF m 18 #[.val (.ref b)] [(.int (1 : Int32))])
  exact hF (S.retI hr hlk (by simp) (by decide) (hb hby b_ail_d18) (nw := []) ⟨rfl, rfl, rfl⟩ (by simp))
theorem b_gb_d0 : decode jdk_42_method_147_code 0 = .ok (.aload_n 0, 1) := by decide +kernel
theorem b_gb_d1 : decode jdk_42_method_147_code 1 = .ok (.invokevirtual 335, 3) := by decide +kernel
theorem b_gb_d4 : decode jdk_42_method_147_code 4 = .ok (.iload_n 3, 1) := by decide +kernel
theorem b_gb_d5 : decode jdk_42_method_147_code 5 = .ok (.if_icmp .ne 23, 3) := by decide +kernel
theorem b_gb_d8 : decode jdk_42_method_147_code 8 = .ok (.aload_n 0, 1) := by decide +kernel
theorem b_gb_d9 : decode jdk_42_method_147_code 9 = .ok (.getfield 9, 3) := by decide +kernel
theorem b_gb_d12 : decode jdk_42_method_147_code 12 = .ok (.iconst 0, 1) := by decide +kernel
theorem b_gb_d13 : decode jdk_42_method_147_code 13 = .ok (.aload_n 1, 1) := by decide +kernel
theorem b_gb_d14 : decode jdk_42_method_147_code 14 = .ok (.iload_n 2, 1) := by decide +kernel
theorem b_gb_d15 : decode jdk_42_method_147_code 15 = .ok (.iload_n 3, 1) := by decide +kernel
theorem b_gb_d16 : decode jdk_42_method_147_code 16 = .ok (.ishl, 1) := by decide +kernel
theorem b_gb_d17 : decode jdk_42_method_147_code 17 = .ok (.aload_n 0, 1) := by decide +kernel
theorem b_gb_d18 : decode jdk_42_method_147_code 18 = .ok (.getfield 9, 3) := by decide +kernel
theorem b_gb_d21 : decode jdk_42_method_147_code 21 = .ok (.arraylength, 1) := by decide +kernel
theorem b_gb_d22 : decode jdk_42_method_147_code 22 = .ok (.invokestatic 212, 3) := by decide +kernel
theorem b_gb_d25 : decode jdk_42_method_147_code 25 = .ok (.goto 18, 3) := by decide +kernel
theorem b_gb_d43 : decode jdk_42_method_147_code 43 = .ok (.return_, 1) := by decide +kernel
theorem b_gb_p335 : parseMethodDescriptor "()B" = some ⟨[], (some .byte)⟩ := by decide +kernel
theorem b_gb_ef (m : MethodId) (x t : Addr) (ds : List Int32) : entryFrame m #[(.ref x), (.ref t), (.int (Int32.ofNat ds.length)), (.int 0)] 4 = mkF m 0 #[.val (.ref x), .val (.ref t), .val (.int (Int32.ofNat ds.length)), .val (.int 0)] [] := by first | (simp [entryFrame, mkF, argsToLocals, Value.category]; done) | rfl
theorem b_gb_pn : plainFor (⟨"java/lang/String", "getBytes", "([BIB)V"⟩ : MethodName) = true := by first | exact plainFor_of_name (by first | (simp [plainName, overriddenIn]; done) | decide +kernel) | decide +kernel
set_option maxRecDepth 65536 in
set_option maxHeartbeats 40000000 in
theorem b_gb (l : Launch) (Z : State) (a0 : Array Value) (EL : List (String × Nat)) (hw : ∀ d ∈ tables_1, d.before a0 Z = true) (hEW : EW Z a0 EL) (h : Heap) (zc : Int32) (CS : Sta Z Z.heap "java/lang/String" "COMPACT_STRINGS" "Z" (.int zc)) (hzc : ¬ zc = 0) (b t : Addr) (hbt : b ≠ t) (ds : List Int32) (G : own_SB Z a0 h b t ds) (x tx : Addr) (cs : List Int32) (hn : cs.length ≤ 8) (hdn : ds.length ≤ 8) (Gx : own_L Z h x tx cs) :
    Con l Z EL (⟨"java/lang/String", "getBytes", "([BIB)V"⟩ : MethodName) jdk_42_method_147_code 4 none ({ frames := 1, cells := 0, slots := 0, locals := 18 } : Room) #[(.ref x), (.ref t), (.int (Int32.ofNat ds.length)), (.int 0)] h [t] (fun v h' nw => v = none ∧ nw = [] ∧ Keep h h' [t] ∧ ∃ kt, Arv Z h' t kt .byte 16 ((ds.map fun q => Value.int (StrChars.lo8 q)) ++ (cs.map fun q => Value.int (StrChars.lo8 q))) (.int 0)) := by
  refine Con.of b_gb_pn hEW ?_
  intro p e s m below meth c T F B hF hby hml hr hlk hnm S
  rw [b_gb_ef]
  show F T (mkF m 0 #[.val (.ref x), .val (.ref t), .val (.int (Int32.ofNat ds.length)), .val (.int 0)] [])
  obtain ⟨O, kt, V⟩ := G
  obtain ⟨Ex, Vx, C, kb, Vv⟩ := Gx
  refine B (fun tgt kt => XS.aloadN S.here S.hx rfl (hb hby b_gb_d0) rfl rfl kt) ?_
  show F T (mkF m 1 #[.val (.ref x), .val (.ref t), .val (.int (Int32.ofNat ds.length)), .val (.int 0)] [(.ref x)])
  refine Sp.virt B S (y := (⟨"java/lang/String", "coder", "()B"⟩ : MethodName)) (C := "java/lang/String") (argsL := []) (rest := []) (hw _ (List.mem_of_getElem? (i := 80) rfl)) (hw _ (List.mem_of_getElem? (i := 81) rfl)) (hw _ (List.mem_of_getElem? (i := 83) rfl)) (hw _ (List.mem_of_getElem? (i := 83) rfl)) (hw _ (List.mem_of_getElem? (i := 82) rfl)) (by decide) (Call.con (W := 0) (b_cod l Z a0 EL hw hEW _ zc CS hzc x C) (hw _ (List.mem_of_getElem? (i := 84) rfl)) (hw _ (List.mem_of_getElem? (i := 6) rfl)) (by decide) (by decide)) Ex (by simp) (by decide) (by decide) (by rw [hml]; rfl) (lenOf b_gb_p335 rfl) rfl (Nat.le_of_eq rfl) (hb hby b_gb_d1) fun v T h1 nw S hQ => ?_
  obtain ⟨rfl, rfl, rfl⟩ := hQ
  show F T (mkF m 4 #[.val (.ref x), .val (.ref t), .val (.int (Int32.ofNat ds.length)), .val (.int 0)] [(.int 0)])
  refine B (fun tgt kt => XS.iloadN S.here S.hx rfl (hb hby b_gb_d4) rfl kt) ?_
  show F T (mkF m 5 #[.val (.ref x), .val (.ref t), .val (.int (Int32.ofNat ds.length)), .val (.int 0)] [(.int 0), (.int 0)])
  refine B (fun tgt kt => XS.icmpNo S.here S.hx rfl (hb hby b_gb_d5) rfl (ii_ne_f rfl) kt) ?_
  show F T (mkF m 8 #[.val (.ref x), .val (.ref t), .val (.int (Int32.ofNat ds.length)), .val (.int 0)] [])
  refine B (fun tgt kt => XS.aloadN S.here S.hx rfl (hb hby b_gb_d8) rfl rfl kt) ?_
  show F T (mkF m 9 #[.val (.ref x), .val (.ref t), .val (.int (Int32.ofNat ds.length)), .val (.int 0)] [(.ref x)])
  refine Sp.get B S (hw _ (List.mem_of_getElem? (i := 24) rfl)) Via.refl Vx (hb hby b_gb_d9) fun T S => ?_
  show F T (mkF m 12 #[.val (.ref x), .val (.ref t), .val (.int (Int32.ofNat ds.length)), .val (.int 0)] [(.ref tx)])
  refine B (fun tgt kt => XS.iconst S.here S.hx rfl (hb hby b_gb_d12) kt) ?_
  show F T (mkF m 13 #[.val (.ref x), .val (.ref t), .val (.int (Int32.ofNat ds.length)), .val (.int 0)] [(.int (0 : Int32)), (.ref tx)])
  refine B (fun tgt kt => XS.aloadN S.here S.hx rfl (hb hby b_gb_d13) rfl rfl kt) ?_
  show F T (mkF m 14 #[.val (.ref x), .val (.ref t), .val (.int (Int32.ofNat ds.length)), .val (.int 0)] [(.ref t), (.int (0 : Int32)), (.ref tx)])
  refine B (fun tgt kt => XS.iloadN S.here S.hx rfl (hb hby b_gb_d14) rfl kt) ?_
  show F T (mkF m 15 #[.val (.ref x), .val (.ref t), .val (.int (Int32.ofNat ds.length)), .val (.int 0)] [(.int (Int32.ofNat ds.length)), (.ref t), (.int (0 : Int32)), (.ref tx)])
  refine B (fun tgt kt => XS.iloadN S.here S.hx rfl (hb hby b_gb_d15) rfl kt) ?_
  show F T (mkF m 16 #[.val (.ref x), .val (.ref t), .val (.int (Int32.ofNat ds.length)), .val (.int 0)] [(.int 0), (.int (Int32.ofNat ds.length)), (.ref t), (.int (0 : Int32)), (.ref tx)])
  refine B (fun tgt kt => XT.ishl S.here S.hx rfl (hb hby b_gb_d16) rfl kt) ?_
  show F T (mkF m 17 #[.val (.ref x), .val (.ref t), .val (.int (Int32.ofNat ds.length)), .val (.int 0)] [(.int ((Int32.ofNat ds.length) <<< ((0 : Int32) &&& 31))), (.ref t), (.int (0 : Int32)), (.ref tx)])
  rw [own_shl0 _ hdn]
  show F T (mkF m 17 #[.val (.ref x), .val (.ref t), .val (.int (Int32.ofNat ds.length)), .val (.int 0)] [(.int (Int32.ofNat ds.length)), (.ref t), (.int (0 : Int32)), (.ref tx)])
  refine B (fun tgt kt => XS.aloadN S.here S.hx rfl (hb hby b_gb_d17) rfl rfl kt) ?_
  show F T (mkF m 18 #[.val (.ref x), .val (.ref t), .val (.int (Int32.ofNat ds.length)), .val (.int 0)] [(.ref x), (.int (Int32.ofNat ds.length)), (.ref t), (.int (0 : Int32)), (.ref tx)])
  refine Sp.get B S (hw _ (List.mem_of_getElem? (i := 24) rfl)) Via.refl Vx (hb hby b_gb_d18) fun T S => ?_
  show F T (mkF m 21 #[.val (.ref x), .val (.ref t), .val (.int (Int32.ofNat ds.length)), .val (.int 0)] [(.ref tx), (.int (Int32.ofNat ds.length)), (.ref t), (.int (0 : Int32)), (.ref tx)])
  refine Sp.alen B S Vv (hb hby b_gb_d21) ?_
  show F T (mkF m 22 #[.val (.ref x), .val (.ref t), .val (.int (Int32.ofNat ds.length)), .val (.int 0)] [(.int (Int32.ofNat cs.length)), (.int (Int32.ofNat ds.length)), (.ref t), (.int (0 : Int32)), (.ref tx)])
  have ld : (ds.map fun q => Value.int (StrChars.lo8 q)).length = ds.length := List.length_map ..
  replace V := V.pad (pad_rep _ (.int 0) cs.length)
  refine Sp.acopy B S (hw _ (List.mem_of_getElem? (i := 109) rfl)) (hw _ (List.mem_of_getElem? (i := 112) rfl)) (hw _ (List.mem_of_getElem? (i := 110) rfl)) (hw _ (List.mem_of_getElem? (i := 111) rfl)) Vv V rfl (by decide) (own_nn _ (by omega)) (own_nn _ (by omega)) (by rw [own_cl _ (by omega)]; show 0 + _ ≤ _; first | omega | (rw [own_cl _ (by omega)]; omega) | (show _ ≤ 16; omega)) (by rw [own_cl ds.length (by omega), own_cl cs.length (by omega)]; show _ ≤ 16; omega) (own_us cs (by omega)) (by rw [own_cl ds.length (by omega), own_cl cs.length (by omega), List.length_append, ld, List.length_replicate]; exact Nat.le_refl _) (by simp) (by rw [hml]; rfl) (by decide) (W := 0) (by decide) (by decide) (hb hby b_gb_d22) fun T h2 S K V => ?_
  show F T (mkF m 25 #[.val (.ref x), .val (.ref t), .val (.int (Int32.ofNat ds.length)), .val (.int 0)] [])
  rw [own_cl ds.length (by omega), own_cl cs.length (by omega), ← ld, own_cp] at V
  refine B (fun tgt kt => XS.goto S.here S.hx rfl (pc0 := 25) (pc' := 43) rfl (hb hby b_gb_d25) (by decide) (by decide) kt) ?_
  show F T (mkF m 43 #[.val (.ref x), .val (.ref t), .val (.int (Int32.ofNat ds.length)), .val (.int 0)] [])
  exact hF (S.ret hr hlk (hb hby b_gb_d43) (nw := []) ⟨rfl, rfl, K, kt, V⟩ (by simp))
theorem b_ps_d0 : decode jdk_68_method_73_code 0 = .ok (.aload_n 0, 1) := by decide +kernel
theorem b_ps_d1 : decode jdk_68_method_73_code 1 = .ok (.aload_n 2, 1) := by decide +kernel
theorem b_ps_d2 : decode jdk_68_method_73_code 2 = .ok (.invokevirtual 397, 3) := by decide +kernel
theorem b_ps_d5 : decode jdk_68_method_73_code 5 = .ok (.aload_n 2, 1) := by decide +kernel
theorem b_ps_d6 : decode jdk_68_method_73_code 6 = .ok (.aload_n 0, 1) := by decide +kernel
theorem b_ps_d7 : decode jdk_68_method_73_code 7 = .ok (.getfield 15, 3) := by decide +kernel
theorem b_ps_d10 : decode jdk_68_method_73_code 10 = .ok (.iload_n 1, 1) := by decide +kernel
theorem b_ps_d11 : decode jdk_68_method_73_code 11 = .ok (.aload_n 0, 1) := by decide +kernel
theorem b_ps_d12 : decode jdk_68_method_73_code 12 = .ok (.getfield 22, 3) := by decide +kernel
theorem b_ps_d15 : decode jdk_68_method_73_code 15 = .ok (.invokevirtual 399, 3) := by decide +kernel
theorem b_ps_d18 : decode jdk_68_method_73_code 18 = .ok (.return_, 1) := by decide +kernel
theorem b_ps_p397 : parseMethodDescriptor "(Ljava/lang/String;)V" = some ⟨[(.object "java/lang/String")], none⟩ := by decide +kernel
theorem b_ps_p399 : parseMethodDescriptor "([BIB)V" = some ⟨[(.array .byte), .int, .byte], none⟩ := by decide +kernel
theorem b_ps_ef (m : MethodId) (b x : Addr) (ds : List Int32) : entryFrame m #[(.ref b), (.int (Int32.ofNat ds.length)), (.ref x)] 3 = mkF m 0 #[.val (.ref b), .val (.int (Int32.ofNat ds.length)), .val (.ref x)] [] := by first | (simp [entryFrame, mkF, argsToLocals, Value.category]; done) | rfl
theorem b_ps_pn : plainFor (⟨"java/lang/AbstractStringBuilder", "putStringAt", "(ILjava/lang/String;)V"⟩ : MethodName) = true := by first | exact plainFor_of_name (by first | (simp [plainName, overriddenIn]; done) | decide +kernel) | decide +kernel
set_option maxRecDepth 65536 in
set_option maxHeartbeats 40000000 in
theorem b_ps (l : Launch) (Z : State) (a0 : Array Value) (EL : List (String × Nat)) (hw : ∀ d ∈ tables_1, d.before a0 Z = true) (hEW : EW Z a0 EL) (h : Heap) (zc : Int32) (CS : Sta Z Z.heap "java/lang/String" "COMPACT_STRINGS" "Z" (.int zc)) (hzc : ¬ zc = 0) (b t : Addr) (hbt : b ≠ t) (ds : List Int32) (G : own_SB Z a0 h b t ds) (x tx : Addr) (htx : t ≠ tx) (cs : List Int32) (hn : cs.length ≤ 8) (hdn : ds.length + cs.length ≤ 8) (Gx : own_L Z h x tx cs) :
    Con l Z EL (⟨"java/lang/AbstractStringBuilder", "putStringAt", "(ILjava/lang/String;)V"⟩ : MethodName) jdk_68_method_73_code 3 none ({ frames := 2, cells := 0, slots := 0, locals := 33 } : Room) #[(.ref b), (.int (Int32.ofNat ds.length)), (.ref x)] h [b, t] (fun v h' nw => v = none ∧ nw = [] ∧ Keep h h' [t] ∧ ∃ kt, Arv Z h' t kt .byte 16 ((ds.map fun q => Value.int (StrChars.lo8 q)) ++ (cs.map fun q => Value.int (StrChars.lo8 q))) (.int 0)) := by
  refine Con.of b_ps_pn hEW ?_
  intro p e s m below meth c T F B hF hby hml hr hlk hnm S
  rw [b_ps_ef]
  show F T (mkF m 0 #[.val (.ref b), .val (.int (Int32.ofNat ds.length)), .val (.ref x)] [])
  refine B (fun tgt kt => XS.aloadN S.here S.hx rfl (hb hby b_ps_d0) rfl rfl kt) ?_
  show F T (mkF m 1 #[.val (.ref b), .val (.int (Int32.ofNat ds.length)), .val (.ref x)] [(.ref b)])
  refine B (fun tgt kt => XS.aloadN S.here S.hx rfl (hb hby b_ps_d1) rfl rfl kt) ?_
  show F T (mkF m 2 #[.val (.ref b), .val (.int (Int32.ofNat ds.length)), .val (.ref x)] [(.ref x), (.ref b)])
  refine Sp.priv B S (y := (⟨"java/lang/AbstractStringBuilder", "inflateIfNeededFor", "(Ljava/lang/String;)V"⟩ : MethodName)) (C := "java/lang/StringBuilder") (argsL := [(.ref x)]) (rest := []) (hw _ (List.mem_of_getElem? (i := 98) rfl)) (hw _ (List.mem_of_getElem? (i := 99) rfl)) (hw _ (List.mem_of_getElem? (i := 101) rfl)) (hw _ (List.mem_of_getElem? (i := 100) rfl)) (hw _ (List.mem_of_getElem? (i := 102) rfl)) (by decide) (Call.con (W := 0) (b_in l Z a0 EL hw hEW _ zc CS hzc b t hbt ds G x Gx.1 Gx.2.2.1) (hw _ (List.mem_of_getElem? (i := 102) rfl)) (hw _ (List.mem_of_getElem? (i := 57) rfl)) (by decide) (by decide)) G.1.1 (by simp) (by decide) (by decide) (by rw [hml]; rfl) (lenOf b_ps_p397 rfl) rfl (Nat.le_of_eq rfl) (hb hby b_ps_d2) fun v T h1 nw S hQ => ?_
  obtain ⟨rfl, rfl, rfl⟩ := hQ
  show F T (mkF m 5 #[.val (.ref b), .val (.int (Int32.ofNat ds.length)), .val (.ref x)] [])
  refine B (fun tgt kt => XS.aloadN S.here S.hx rfl (hb hby b_ps_d5) rfl rfl kt) ?_
  show F T (mkF m 6 #[.val (.ref b), .val (.int (Int32.ofNat ds.length)), .val (.ref x)] [(.ref x)])
  refine B (fun tgt kt => XS.aloadN S.here S.hx rfl (hb hby b_ps_d6) rfl rfl kt) ?_
  show F T (mkF m 7 #[.val (.ref b), .val (.int (Int32.ofNat ds.length)), .val (.ref x)] [(.ref b), (.ref x)])
  refine Sp.getO B S (hw _ (List.mem_of_getElem? (i := 61) rfl)) G.1 (i := 0) rfl (hb hby b_ps_d7) fun T S => ?_
  show F T (mkF m 10 #[.val (.ref b), .val (.int (Int32.ofNat ds.length)), .val (.ref x)] [(.ref t), (.ref x)])
  refine B (fun tgt kt => XS.iloadN S.here S.hx rfl (hb hby b_ps_d10) rfl kt) ?_
  show F T (mkF m 11 #[.val (.ref b), .val (.int (Int32.ofNat ds.length)), .val (.ref x)] [(.int (Int32.ofNat ds.length)), (.ref t), (.ref x)])
  refine B (fun tgt kt => XS.aloadN S.here S.hx rfl (hb hby b_ps_d11) rfl rfl kt) ?_
  show F T (mkF m 12 #[.val (.ref b), .val (.int (Int32.ofNat ds.length)), .val (.ref x)] [(.ref b), (.int (Int32.ofNat ds.length)), (.ref t), (.ref x)])
  refine Sp.getO B S (hw _ (List.mem_of_getElem? (i := 63) rfl)) G.1 (i := 1) rfl (hb hby b_ps_d12) fun T S => ?_
  show F T (mkF m 15 #[.val (.ref b), .val (.int (Int32.ofNat ds.length)), .val (.ref x)] [(.int 0), (.int (Int32.ofNat ds.length)), (.ref t), (.ref x)])
  refine Sp.virt B S (y := (⟨"java/lang/String", "getBytes", "([BIB)V"⟩ : MethodName)) (C := "java/lang/String") (argsL := [(.ref t), (.int (Int32.ofNat ds.length)), (.int 0)]) (rest := []) (hw _ (List.mem_of_getElem? (i := 104) rfl)) (hw _ (List.mem_of_getElem? (i := 105) rfl)) (hw _ (List.mem_of_getElem? (i := 107) rfl)) (hw _ (List.mem_of_getElem? (i := 107) rfl)) (hw _ (List.mem_of_getElem? (i := 106) rfl)) (by decide) (Call.con (W := 0) (b_gb l Z a0 EL hw hEW _ zc CS hzc b t hbt ds G x tx cs hn (by omega) Gx) (hw _ (List.mem_of_getElem? (i := 108) rfl)) (hw _ (List.mem_of_getElem? (i := 6) rfl)) (by decide) (by decide)) Gx.1 (by simp) (by decide) (by decide) (by rw [hml]; rfl) (lenOf b_ps_p399 rfl) rfl (Nat.le_of_eq rfl) (hb hby b_ps_d15) fun v T h2 nw S hQ => ?_
  obtain ⟨rfl, rfl, K, V⟩ := hQ
  show F T (mkF m 18 #[.val (.ref b), .val (.int (Int32.ofNat ds.length)), .val (.ref x)] [])
  exact hF (S.ret hr hlk (hb hby b_ps_d18) (nw := []) ⟨rfl, rfl, K, V⟩ (by simp))
theorem b_aa_d0 : decode jdk_68_method_22_code 0 = .ok (.aload_n 1, 1) := by decide +kernel
theorem b_aa_d1 : decode jdk_68_method_22_code 1 = .ok (.ifnonnull 8, 3) := by decide +kernel
theorem b_aa_d9 : decode jdk_68_method_22_code 9 = .ok (.aload_n 1, 1) := by decide +kernel
theorem b_aa_d10 : decode jdk_68_method_22_code 10 = .ok (.invokevirtual 32, 3) := by decide +kernel
theorem b_aa_d13 : decode jdk_68_method_22_code 13 = .ok (.istore_n 2, 1) := by decide +kernel
theorem b_aa_d14 : decode jdk_68_method_22_code 14 = .ok (.aload_n 0, 1) := by decide +kernel
theorem b_aa_d15 : decode jdk_68_method_22_code 15 = .ok (.aload_n 0, 1) := by decide +kernel
theorem b_aa_d16 : decode jdk_68_method_22_code 16 = .ok (.getfield 79, 3) := by decide +kernel
theorem b_aa_d19 : decode jdk_68_method_22_code 19 = .ok (.iload_n 2, 1) := by decide +kernel
theorem b_aa_d20 : decode jdk_68_method_22_code 20 = .ok (.iadd, 1) := by decide +kernel
theorem b_aa_d21 : decode jdk_68_method_22_code 21 = .ok (.invokevirtual 100, 3) := by decide +kernel
theorem b_aa_d24 : decode jdk_68_method_22_code 24 = .ok (.aload_n 0, 1) := by decide +kernel
theorem b_aa_d25 : decode jdk_68_method_22_code 25 = .ok (.aload_n 0, 1) := by decide +kernel
theorem b_aa_d26 : decode jdk_68_method_22_code 26 = .ok (.getfield 79, 3) := by decide +kernel
theorem b_aa_d29 : decode jdk_68_method_22_code 29 = .ok (.aload_n 1, 1) := by decide +kernel
theorem b_aa_d30 : decode jdk_68_method_22_code 30 = .ok (.invokevirtual 208, 3) := by decide +kernel
theorem b_aa_d33 : decode jdk_68_method_22_code 33 = .ok (.aload_n 0, 1) := by decide +kernel
theorem b_aa_d34 : decode jdk_68_method_22_code 34 = .ok (.dup, 1) := by decide +kernel
theorem b_aa_d35 : decode jdk_68_method_22_code 35 = .ok (.getfield 79, 3) := by decide +kernel
theorem b_aa_d38 : decode jdk_68_method_22_code 38 = .ok (.iload_n 2, 1) := by decide +kernel
theorem b_aa_d39 : decode jdk_68_method_22_code 39 = .ok (.iadd, 1) := by decide +kernel
theorem b_aa_d40 : decode jdk_68_method_22_code 40 = .ok (.putfield 79, 3) := by decide +kernel
theorem b_aa_d43 : decode jdk_68_method_22_code 43 = .ok (.aload_n 0, 1) := by decide +kernel
theorem b_aa_d44 : decode jdk_68_method_22_code 44 = .ok (.areturn, 1) := by decide +kernel
theorem b_aa_p32 : parseMethodDescriptor "()I" = some ⟨[], (some .int)⟩ := by decide +kernel
theorem b_aa_p100 : parseMethodDescriptor "(I)V" = some ⟨[.int], none⟩ := by decide +kernel
theorem b_aa_p208 : parseMethodDescriptor "(ILjava/lang/String;)V" = some ⟨[.int, (.object "java/lang/String")], none⟩ := by decide +kernel
theorem b_aa_ef (m : MethodId) (b x : Addr) : entryFrame m #[(.ref b), (.ref x)] 3 = mkF m 0 #[.val (.ref b), .val (.ref x), .unset] [] := by first | (simp [entryFrame, mkF, argsToLocals, Value.category]; done) | rfl
theorem b_aa_pn : plainFor (⟨"java/lang/AbstractStringBuilder", "append", "(Ljava/lang/String;)Ljava/lang/AbstractStringBuilder;"⟩ : MethodName) = true := by first | exact plainFor_of_name (by first | (simp [plainName, overriddenIn]; done) | decide +kernel) | decide +kernel
set_option maxRecDepth 65536 in
set_option maxHeartbeats 40000000 in
theorem b_aa (l : Launch) (Z : State) (a0 : Array Value) (EL : List (String × Nat)) (hw : ∀ d ∈ tables_1, d.before a0 Z = true) (hEW : EW Z a0 EL) (h : Heap) (zc : Int32) (CS : Sta Z Z.heap "java/lang/String" "COMPACT_STRINGS" "Z" (.int zc)) (hzc : ¬ zc = 0) (b t : Addr) (hbt : b ≠ t) (ds : List Int32) (G : own_SB Z a0 h b t ds) (x tx : Addr) (htx : t ≠ tx) (cs : List Int32) (hn : cs.length ≤ 8) (hdn : ds.length + cs.length ≤ 8) (Gx : own_L Z h x tx cs) :
    Con l Z EL (⟨"java/lang/AbstractStringBuilder", "append", "(Ljava/lang/String;)Ljava/lang/AbstractStringBuilder;"⟩ : MethodName) jdk_68_method_22_code 3 (some (.object "java/lang/AbstractStringBuilder")) ({ frames := 3, cells := 0, slots := 0, locals := 47 } : Room) #[(.ref b), (.ref x)] h [b, t] (fun v h' nw => v = some (.ref b) ∧ nw = [] ∧ Keep h h' [b, t] ∧ own_SB Z a0 h' b t (ds ++ cs)) := by
  refine Con.of b_aa_pn hEW ?_
  intro p e s m below meth c T F B hF hby hml hr hlk hnm S
  rw [b_aa_ef]
  show F T (mkF m 0 #[.val (.ref b), .val (.ref x), .unset] [])
  have KK := Keep.refl h [b, t]
  have ea : Int32.ofNat ds.length + Int32.ofNat cs.length = Int32.ofNat (ds.length + cs.length) := (Int32.ofNat_add _ _).symm
  refine B (fun tgt kt => XS.aloadN S.here S.hx rfl (hb hby b_aa_d0) rfl rfl kt) ?_
  show F T (mkF m 1 #[.val (.ref b), .val (.ref x), .unset] [(.ref x)])
  refine B (fun tgt kt => XT.ifnonnullYes S.here S.hx rfl (pc0 := 1) (pc' := 9) rfl (hb hby b_aa_d1) rfl (by decide) (by decide) kt) ?_
  show F T (mkF m 9 #[.val (.ref b), .val (.ref x), .unset] [])
  refine B (fun tgt kt => XS.aloadN S.here S.hx rfl (hb hby b_aa_d9) rfl rfl kt) ?_
  show F T (mkF m 10 #[.val (.ref b), .val (.ref x), .unset] [(.ref x)])
  refine Sp.virt B S (y := (⟨"java/lang/String", "length", "()I"⟩ : MethodName)) (C := "java/lang/String") (argsL := []) (rest := []) (hw _ (List.mem_of_getElem? (i := 75) rfl)) (hw _ (List.mem_of_getElem? (i := 76) rfl)) (hw _ (List.mem_of_getElem? (i := 78) rfl)) (hw _ (List.mem_of_getElem? (i := 78) rfl)) (hw _ (List.mem_of_getElem? (i := 77) rfl)) (by decide) (Call.con (W := 0) (b_len l Z a0 EL hw hEW _ zc CS hzc x tx cs hn Gx) (hw _ (List.mem_of_getElem? (i := 79) rfl)) (hw _ (List.mem_of_getElem? (i := 6) rfl)) (by decide) (by decide)) Gx.1 (by simp) (by decide) (by decide) (by rw [hml]; rfl) (lenOf b_aa_p32 rfl) rfl (Nat.le_of_eq rfl) (hb hby b_aa_d10) fun v T h1 nw S hQ => ?_
  obtain ⟨rfl, rfl, rfl⟩ := hQ
  show F T (mkF m 13 #[.val (.ref b), .val (.ref x), .unset] [(.int (Int32.ofNat cs.length))])
  refine B (fun tgt kt => XS.istoreN S.here S.hx rfl (hb hby b_aa_d13) rfl (l' := #[.val (.ref b), .val (.ref x), .val (.int (Int32.ofNat cs.length))]) rfl kt) ?_
  show F T (mkF m 14 #[.val (.ref b), .val (.ref x), .val (.int (Int32.ofNat cs.length))] [])
  refine B (fun tgt kt => XS.aloadN S.here S.hx rfl (hb hby b_aa_d14) rfl rfl kt) ?_
  show F T (mkF m 15 #[.val (.ref b), .val (.ref x), .val (.int (Int32.ofNat cs.length))] [(.ref b)])
  refine B (fun tgt kt => XS.aloadN S.here S.hx rfl (hb hby b_aa_d15) rfl rfl kt) ?_
  show F T (mkF m 16 #[.val (.ref b), .val (.ref x), .val (.int (Int32.ofNat cs.length))] [(.ref b), (.ref b)])
  refine Sp.getO B S (hw _ (List.mem_of_getElem? (i := 86) rfl)) G.1 (i := 2) rfl (hb hby b_aa_d16) fun T S => ?_
  show F T (mkF m 19 #[.val (.ref b), .val (.ref x), .val (.int (Int32.ofNat cs.length))] [(.int (Int32.ofNat ds.length)), (.ref b)])
  refine B (fun tgt kt => XS.iloadN S.here S.hx rfl (hb hby b_aa_d19) rfl kt) ?_
  show F T (mkF m 20 #[.val (.ref b), .val (.ref x), .val (.int (Int32.ofNat cs.length))] [(.int (Int32.ofNat cs.length)), (.int (Int32.ofNat ds.length)), (.ref b)])
  refine B (fun tgt kt => XS.iadd S.here S.hx rfl (hb hby b_aa_d20) rfl kt) ?_
  show F T (mkF m 21 #[.val (.ref b), .val (.ref x), .val (.int (Int32.ofNat cs.length))] [(.int ((Int32.ofNat ds.length) + (Int32.ofNat cs.length))), (.ref b)])
  rw [ea]
  show F T (mkF m 21 #[.val (.ref b), .val (.ref x), .val (.int (Int32.ofNat cs.length))] [(.int (Int32.ofNat (ds.length + cs.length))), (.ref b)])
  refine Sp.priv B S (y := (⟨"java/lang/AbstractStringBuilder", "ensureCapacityInternal", "(I)V"⟩ : MethodName)) (C := "java/lang/StringBuilder") (argsL := [(.int (Int32.ofNat (ds.length + cs.length)))]) (rest := []) (hw _ (List.mem_of_getElem? (i := 88) rfl)) (hw _ (List.mem_of_getElem? (i := 89) rfl)) (hw _ (List.mem_of_getElem? (i := 91) rfl)) (hw _ (List.mem_of_getElem? (i := 90) rfl)) (hw _ (List.mem_of_getElem? (i := 92) rfl)) (by decide) (Call.con (W := 0) (b_ec l Z a0 EL hw hEW _ b t hbt ds G _ hdn) (hw _ (List.mem_of_getElem? (i := 92) rfl)) (hw _ (List.mem_of_getElem? (i := 57) rfl)) (by decide) (by decide)) G.1.1 (by simp) (by decide) (by decide) (by rw [hml]; rfl) (lenOf b_aa_p100 rfl) rfl (Nat.le_of_eq rfl) (hb hby b_aa_d21) fun v T h2 nw S hQ => ?_
  obtain ⟨rfl, rfl, rfl⟩ := hQ
  show F T (mkF m 24 #[.val (.ref b), .val (.ref x), .val (.int (Int32.ofNat cs.length))] [])
  refine B (fun tgt kt => XS.aloadN S.here S.hx rfl (hb hby b_aa_d24) rfl rfl kt) ?_
  show F T (mkF m 25 #[.val (.ref b), .val (.ref x), .val (.int (Int32.ofNat cs.length))] [(.ref b)])
  refine B (fun tgt kt => XS.aloadN S.here S.hx rfl (hb hby b_aa_d25) rfl rfl kt) ?_
  show F T (mkF m 26 #[.val (.ref b), .val (.ref x), .val (.int (Int32.ofNat cs.length))] [(.ref b), (.ref b)])
  refine Sp.getO B S (hw _ (List.mem_of_getElem? (i := 86) rfl)) G.1 (i := 2) rfl (hb hby b_aa_d26) fun T S => ?_
  show F T (mkF m 29 #[.val (.ref b), .val (.ref x), .val (.int (Int32.ofNat cs.length))] [(.int (Int32.ofNat ds.length)), (.ref b)])
  refine B (fun tgt kt => XS.aloadN S.here S.hx rfl (hb hby b_aa_d29) rfl rfl kt) ?_
  show F T (mkF m 30 #[.val (.ref b), .val (.ref x), .val (.int (Int32.ofNat cs.length))] [(.ref x), (.int (Int32.ofNat ds.length)), (.ref b)])
  refine Sp.priv B S (y := (⟨"java/lang/AbstractStringBuilder", "putStringAt", "(ILjava/lang/String;)V"⟩ : MethodName)) (C := "java/lang/StringBuilder") (argsL := [(.int (Int32.ofNat ds.length)), (.ref x)]) (rest := []) (hw _ (List.mem_of_getElem? (i := 93) rfl)) (hw _ (List.mem_of_getElem? (i := 94) rfl)) (hw _ (List.mem_of_getElem? (i := 96) rfl)) (hw _ (List.mem_of_getElem? (i := 95) rfl)) (hw _ (List.mem_of_getElem? (i := 97) rfl)) (by decide) (Call.con (W := 0) (b_ps l Z a0 EL hw hEW _ zc CS hzc b t hbt ds G x tx htx cs hn hdn Gx) (hw _ (List.mem_of_getElem? (i := 97) rfl)) (hw _ (List.mem_of_getElem? (i := 57) rfl)) (by decide) (by decide)) G.1.1 (by simp) (by decide) (by decide) (by rw [hml]; rfl) (lenOf b_aa_p208 rfl) rfl (Nat.le_of_eq rfl) (hb hby b_aa_d30) fun v T h3 nw S hQ => ?_
  obtain ⟨rfl, rfl, K, kt, V⟩ := hQ
  obtain ⟨O, -⟩ := G
  replace O := O.keep K (nin1 hbt)
  replace KK := KK.trans K (qk1 (Or.inl (by simp)))
  show F T (mkF m 33 #[.val (.ref b), .val (.ref x), .val (.int (Int32.ofNat cs.length))] [])
  refine B (fun tgt kt => XS.aloadN S.here S.hx rfl (hb hby b_aa_d33) rfl rfl kt) ?_
  show F T (mkF m 34 #[.val (.ref b), .val (.ref x), .val (.int (Int32.ofNat cs.length))] [(.ref b)])
  refine B (fun tgt kt => XS.dup S.here S.hx rfl (hb hby b_aa_d34) rfl rfl kt) ?_
  show F T (mkF m 35 #[.val (.ref b), .val (.ref x), .val (.int (Int32.ofNat cs.length))] [(.ref b), (.ref b)])
  refine Sp.getO B S (hw _ (List.mem_of_getElem? (i := 86) rfl)) O (i := 2) rfl (hb hby b_aa_d35) fun T S => ?_
  show F T (mkF m 38 #[.val (.ref b), .val (.ref x), .val (.int (Int32.ofNat cs.length))] [(.int (Int32.ofNat ds.length)), (.ref b)])
  refine B (fun tgt kt => XS.iloadN S.here S.hx rfl (hb hby b_aa_d38) rfl kt) ?_
  show F T (mkF m 39 #[.val (.ref b), .val (.ref x), .val (.int (Int32.ofNat cs.length))] [(.int (Int32.ofNat cs.length)), (.int (Int32.ofNat ds.length)), (.ref b)])
  refine B (fun tgt kt => XS.iadd S.here S.hx rfl (hb hby b_aa_d39) rfl kt) ?_
  show F T (mkF m 40 #[.val (.ref b), .val (.ref x), .val (.int (Int32.ofNat cs.length))] [(.int ((Int32.ofNat ds.length) + (Int32.ofNat cs.length))), (.ref b)])
  rw [ea]
  show F T (mkF m 40 #[.val (.ref b), .val (.ref x), .val (.int (Int32.ofNat cs.length))] [(.int (Int32.ofNat (ds.length + cs.length))), (.ref b)])
  refine Sp.putO B S (hw _ (List.mem_of_getElem? (i := 86) rfl)) O (i := 2) rfl (ns := ["value", "coder", "count"]) rfl (by decide) (Or.inl (hw _ (List.mem_of_getElem? (i := 87) rfl))) (hw _ (List.mem_of_getElem? (i := 48) rfl)) (ty := .int) (by decide) (v' := .int (Int32.ofNat (ds.length + cs.length))) rfl rfl (by simp) (hb hby b_aa_d40) fun T h4 S K O => ?_
  replace O : Ob Z a0 h4 b "java/lang/StringBuilder" [("java/lang/AbstractStringBuilder", "value", "[B", (.ref t)), ("java/lang/AbstractStringBuilder", "coder", "B", (.int 0)), ("java/lang/AbstractStringBuilder", "count", "I", (.int (Int32.ofNat (ds.length + cs.length))))] := O
  show F T (mkF m 43 #[.val (.ref b), .val (.ref x), .val (.int (Int32.ofNat cs.length))] [])
  replace KK := KK.trans K (qk1 (Or.inl (by simp)))
  replace V := V.keep K (nin1 (fun q => hbt q.symm))
  refine B (fun tgt kt => XS.aloadN S.here S.hx rfl (hb hby b_aa_d43) rfl rfl kt) ?_
  show F T (mkF m 44 #[.val (.ref b), .val (.ref x), .val (.int (Int32.ofNat cs.length))] [(.ref b)])
  rw [← List.map_append] at V
  rw [← List.length_append] at O
  exact hF (S.retA hr hlk rfl rfl (hb hby b_aa_d44) (nw := []) ⟨rfl, rfl, KK, O, kt, V⟩ (by simp))
theorem b_sa_d0 : decode jdk_67_method_7_code 0 = .ok (.aload_n 0, 1) := by decide +kernel
theorem b_sa_d1 : decode jdk_67_method_7_code 1 = .ok (.aload_n 1, 1) := by decide +kernel
theorem b_sa_d2 : decode jdk_67_method_7_code 2 = .ok (.invokespecial 29, 3) := by decide +kernel
theorem b_sa_d5 : decode jdk_67_method_7_code 5 = .ok (.pop, 1) := by decide +kernel
theorem b_sa_d6 : decode jdk_67_method_7_code 6 = .ok (.aload_n 0, 1) := by decide +kernel
theorem b_sa_d7 : decode jdk_67_method_7_code 7 = .ok (.areturn, 1) := by decide +kernel
theorem b_sa_p29 : parseMethodDescriptor "(Ljava/lang/String;)Ljava/lang/AbstractStringBuilder;" = some ⟨[(.object "java/lang/String")], (some (.object "java/lang/AbstractStringBuilder"))⟩ := by decide +kernel
theorem b_sa_ef (m : MethodId) (b x : Addr) : entryFrame m #[(.ref b), (.ref x)] 2 = mkF m 0 #[.val (.ref b), .val (.ref x)] [] := by first | (simp [entryFrame, mkF, argsToLocals, Value.category]; done) | rfl
theorem b_sa_pn : plainFor (⟨"java/lang/StringBuilder", "append", "(Ljava/lang/String;)Ljava/lang/StringBuilder;"⟩ : MethodName) = true := by first | exact plainFor_of_name (by first | (simp [plainName, overriddenIn]; done) | decide +kernel) | decide +kernel
set_option maxRecDepth 65536 in
set_option maxHeartbeats 40000000 in
theorem b_sa (l : Launch) (Z : State) (a0 : Array Value) (EL : List (String × Nat)) (hw : ∀ d ∈ tables_1, d.before a0 Z = true) (hEW : EW Z a0 EL) (h : Heap) (zc : Int32) (CS : Sta Z Z.heap "java/lang/String" "COMPACT_STRINGS" "Z" (.int zc)) (hzc : ¬ zc = 0) (b t : Addr) (hbt : b ≠ t) (ds : List Int32) (G : own_SB Z a0 h b t ds) (x tx : Addr) (htx : t ≠ tx) (cs : List Int32) (hn : cs.length ≤ 8) (hdn : ds.length + cs.length ≤ 8) (Gx : own_L Z h x tx cs) :
    Con l Z EL (⟨"java/lang/StringBuilder", "append", "(Ljava/lang/String;)Ljava/lang/StringBuilder;"⟩ : MethodName) jdk_67_method_7_code 2 (some (.object "java/lang/StringBuilder")) ({ frames := 4, cells := 0, slots := 0, locals := 61 } : Room) #[(.ref b), (.ref x)] h [b, t] (fun v h' nw => v = some (.ref b) ∧ nw = [] ∧ Keep h h' [b, t] ∧ own_SB Z a0 h' b t (ds ++ cs)) := by
  refine Con.of b_sa_pn hEW ?_
  intro p e s m below meth c T F B hF hby hml hr hlk hnm S
  rw [b_sa_ef]
  show F T (mkF m 0 #[.val (.ref b), .val (.ref x)] [])
  refine B (fun tgt kt => XS.aloadN S.here S.hx rfl (hb hby b_sa_d0) rfl rfl kt) ?_
  show F T (mkF m 1 #[.val (.ref b), .val (.ref x)] [(.ref b)])
  refine B (fun tgt kt => XS.aloadN S.here S.hx rfl (hb hby b_sa_d1) rfl rfl kt) ?_
  show F T (mkF m 2 #[.val (.ref b), .val (.ref x)] [(.ref x), (.ref b)])
  refine Sp.super B S (y := (⟨"java/lang/AbstractStringBuilder", "append", "(Ljava/lang/String;)Ljava/lang/AbstractStringBuilder;"⟩ : MethodName)) (argsL := [(.ref x)]) (rest := []) (by decide) (hw _ (List.mem_of_getElem? (i := 70) rfl)) (hw _ (List.mem_of_getElem? (i := 71) rfl)) (hw _ (List.mem_of_getElem? (i := 72) rfl)) (hw _ (List.mem_of_getElem? (i := 74) rfl)) (by decide) (Call.con (W := 0) (b_aa l Z a0 EL hw hEW _ zc CS hzc b t hbt ds G x tx htx cs hn hdn Gx) (hw _ (List.mem_of_getElem? (i := 74) rfl)) (hw _ (List.mem_of_getElem? (i := 57) rfl)) (by decide) (by decide)) G.1.1 (by simp) (by decide) (by decide) (by rw [hml]; rfl) (lenOf b_sa_p29 rfl) rfl (Nat.le_of_eq rfl) (hb hby b_sa_d2) fun v T h1 nw S hQ => ?_
  obtain ⟨rfl, rfl, K, G⟩ := hQ
  show F T (mkF m 5 #[.val (.ref b), .val (.ref x)] [(.ref b)])
  refine B (fun tgt kt => XT.pop S.here S.hx rfl (hb hby b_sa_d5) rfl rfl kt) ?_
  show F T (mkF m 6 #[.val (.ref b), .val (.ref x)] [])
  refine B (fun tgt kt => XS.aloadN S.here S.hx rfl (hb hby b_sa_d6) rfl rfl kt) ?_
  show F T (mkF m 7 #[.val (.ref b), .val (.ref x)] [(.ref b)])
  exact hF (S.retA hr hlk rfl rfl (hb hby b_sa_d7) (nw := []) ⟨rfl, rfl, K, G⟩ (by simp))
theorem b_cl_d0 : decode jdk_65_method_131_code 0 = .ok (.iload_n 1, 1) := by decide +kernel
theorem b_cl_d1 : decode jdk_65_method_131_code 1 = .ok (.iload_n 0, 1) := by decide +kernel
theorem b_cl_d2 : decode jdk_65_method_131_code 2 = .ok (.if_icmp .ge 35, 3) := by decide +kernel
theorem b_cl_d37 : decode jdk_65_method_131_code 37 = .ok (.return_, 1) := by decide +kernel
theorem b_cl_ef (m : MethodId) (n : Nat) : entryFrame m #[(.int 0), (.int (Int32.ofNat n))] 2 = mkF m 0 #[.val (.int 0), .val (.int (Int32.ofNat n))] [] := by first | (simp [entryFrame, mkF, argsToLocals, Value.category]; done) | rfl
theorem b_cl_pn : plainFor (⟨"java/util/Arrays", "checkLength", "(II)V"⟩ : MethodName) = true := by first | exact plainFor_of_name (by first | (simp [plainName, overriddenIn]; done) | decide +kernel) | decide +kernel
set_option maxRecDepth 65536 in
set_option maxHeartbeats 40000000 in
theorem b_cl (l : Launch) (Z : State) (a0 : Array Value) (EL : List (String × Nat)) (hw : ∀ d ∈ tables_1, d.before a0 Z = true) (hEW : EW Z a0 EL) (h : Heap) (n : Nat) (hn : n ≤ 8) :
    Con l Z EL (⟨"java/util/Arrays", "checkLength", "(II)V"⟩ : MethodName) jdk_65_method_131_code 2 none ({ frames := 0, cells := 0, slots := 0, locals := 0 } : Room) #[(.int 0), (.int (Int32.ofNat n))] h [] (fun v h' nw => v = none ∧ nw = [] ∧ h = h') := by
  refine Con.of b_cl_pn hEW ?_
  intro p e s m below meth c T F B hF hby hml hr hlk hnm S
  rw [b_cl_ef]
  show F T (mkF m 0 #[.val (.int 0), .val (.int (Int32.ofNat n))] [])
  refine B (fun tgt kt => XS.iloadN S.here S.hx rfl (hb hby b_cl_d0) rfl kt) ?_
  show F T (mkF m 1 #[.val (.int 0), .val (.int (Int32.ofNat n))] [(.int (Int32.ofNat n))])
  refine B (fun tgt kt => XS.iloadN S.here S.hx rfl (hb hby b_cl_d1) rfl kt) ?_
  show F T (mkF m 2 #[.val (.int 0), .val (.int (Int32.ofNat n))] [(.int 0), (.int (Int32.ofNat n))])
  refine B (fun tgt kt => XS.icmpYes S.here S.hx rfl (pc0 := 2) (pc' := 37) rfl (hb hby b_cl_d2) rfl (ii_ge_t (own_nn n (by omega))) (by decide) (by decide) kt) ?_
  show F T (mkF m 37 #[.val (.int 0), .val (.int (Int32.ofNat n))] [])
  exact hF (S.ret hr hlk (hb hby b_cl_d37) (nw := []) ⟨rfl, rfl, rfl⟩ (by simp))
theorem b_min_d0 : decode jdk_29_method_69_code 0 = .ok (.iload_n 0, 1) := by decide +kernel
theorem b_min_d1 : decode jdk_29_method_69_code 1 = .ok (.iload_n 1, 1) := by decide +kernel
theorem b_min_d2 : decode jdk_29_method_69_code 2 = .ok (.if_icmp .gt 7, 3) := by decide +kernel
theorem b_min_d9 : decode jdk_29_method_69_code 9 = .ok (.iload_n 1, 1) := by decide +kernel
theorem b_min_d10 : decode jdk_29_method_69_code 10 = .ok (.ireturn, 1) := by decide +kernel
theorem b_min_ef (m : MethodId) (a b : Int32) : entryFrame m #[(.int a), (.int b)] 2 = mkF m 0 #[.val (.int a), .val (.int b)] [] := by first | (simp [entryFrame, mkF, argsToLocals, Value.category]; done) | rfl
theorem b_min_pn : plainFor (⟨"java/lang/Math", "min", "(II)I"⟩ : MethodName) = true := by first | exact plainFor_of_name (by first | (simp [plainName, overriddenIn]; done) | decide +kernel) | decide +kernel
set_option maxRecDepth 65536 in
set_option maxHeartbeats 40000000 in
theorem b_min (l : Launch) (Z : State) (a0 : Array Value) (EL : List (String × Nat)) (hw : ∀ d ∈ tables_1, d.before a0 Z = true) (hEW : EW Z a0 EL) (h : Heap) (a b : Int32) (hab : b < a) :
    Con l Z EL (⟨"java/lang/Math", "min", "(II)I"⟩ : MethodName) jdk_29_method_69_code 2 (some .int) ({ frames := 0, cells := 0, slots := 0, locals := 0 } : Room) #[(.int a), (.int b)] h [] (fun v h' nw => v = some (.int b) ∧ nw = [] ∧ h = h') := by
  refine Con.of b_min_pn hEW ?_
  intro p e s m below meth c T F B hF hby hml hr hlk hnm S
  rw [b_min_ef]
  show F T (mkF m 0 #[.val (.int a), .val (.int b)] [])
  refine B (fun tgt kt => XS.iloadN S.here S.hx rfl (hb hby b_min_d0) rfl kt) ?_
  show F T (mkF m 1 #[.val (.int a), .val (.int b)] [(.int a)])
  refine B (fun tgt kt => XS.iloadN S.here S.hx rfl (hb hby b_min_d1) rfl kt) ?_
  show F T (mkF m 2 #[.val (.int a), .val (.int b)] [(.int b), (.int a)])
  refine B (fun tgt kt => XS.icmpYes S.here S.hx rfl (pc0 := 2) (pc' := 9) rfl (hb hby b_min_d2) rfl (ii_gt_t hab) (by decide) (by decide) kt) ?_
  show F T (mkF m 9 #[.val (.int a), .val (.int b)] [])
  refine B (fun tgt kt => XS.iloadN S.here S.hx rfl (hb hby b_min_d9) rfl kt) ?_
  show F T (mkF m 10 #[.val (.int a), .val (.int b)] [(.int b)])
  exact hF (S.retI hr hlk (by simp) rfl (hb hby b_min_d10) (nw := []) ⟨rfl, rfl, rfl⟩ (by simp))
theorem b_cb_d0 : decode jdk_65_method_133_code 0 = .ok (.iload_n 1, 1) := by decide +kernel
theorem b_cb_d1 : decode jdk_65_method_133_code 1 = .ok (.iload_n 2, 1) := by decide +kernel
theorem b_cb_d2 : decode jdk_65_method_133_code 2 = .ok (.invokestatic 343, 3) := by decide +kernel
theorem b_cb_d5 : decode jdk_65_method_133_code 5 = .ok (.iload_n 2, 1) := by decide +kernel
theorem b_cb_d6 : decode jdk_65_method_133_code 6 = .ok (.iload_n 1, 1) := by decide +kernel
theorem b_cb_d7 : decode jdk_65_method_133_code 7 = .ok (.isub, 1) := by decide +kernel
theorem b_cb_d8 : decode jdk_65_method_133_code 8 = .ok (.istore_n 3, 1) := by decide +kernel
theorem b_cb_d9 : decode jdk_65_method_133_code 9 = .ok (.iload_n 3, 1) := by decide +kernel
theorem b_cb_d10 : decode jdk_65_method_133_code 10 = .ok (.newarray .byte, 2) := by decide +kernel
theorem b_cb_d12 : decode jdk_65_method_133_code 12 = .ok (.astore 4, 2) := by decide +kernel
theorem b_cb_d14 : decode jdk_65_method_133_code 14 = .ok (.aload_n 0, 1) := by decide +kernel
theorem b_cb_d15 : decode jdk_65_method_133_code 15 = .ok (.iload_n 1, 1) := by decide +kernel
theorem b_cb_d16 : decode jdk_65_method_133_code 16 = .ok (.aload 4, 2) := by decide +kernel
theorem b_cb_d18 : decode jdk_65_method_133_code 18 = .ok (.iconst 0, 1) := by decide +kernel
theorem b_cb_d19 : decode jdk_65_method_133_code 19 = .ok (.aload_n 0, 1) := by decide +kernel
theorem b_cb_d20 : decode jdk_65_method_133_code 20 = .ok (.arraylength, 1) := by decide +kernel
theorem b_cb_d21 : decode jdk_65_method_133_code 21 = .ok (.iload_n 1, 1) := by decide +kernel
theorem b_cb_d22 : decode jdk_65_method_133_code 22 = .ok (.isub, 1) := by decide +kernel
theorem b_cb_d23 : decode jdk_65_method_133_code 23 = .ok (.iload_n 3, 1) := by decide +kernel
theorem b_cb_d24 : decode jdk_65_method_133_code 24 = .ok (.invokestatic 304, 3) := by decide +kernel
theorem b_cb_d27 : decode jdk_65_method_133_code 27 = .ok (.invokestatic 150, 3) := by decide +kernel
theorem b_cb_d30 : decode jdk_65_method_133_code 30 = .ok (.aload 4, 2) := by decide +kernel
theorem b_cb_d32 : decode jdk_65_method_133_code 32 = .ok (.areturn, 1) := by decide +kernel
theorem b_cb_p304 : parseMethodDescriptor "(II)I" = some ⟨[.int, .int], (some .int)⟩ := by decide +kernel
theorem b_cb_p343 : parseMethodDescriptor "(II)V" = some ⟨[.int, .int], none⟩ := by decide +kernel
theorem b_cb_ef (m : MethodId) (t : Addr) (ds : List Int32) : entryFrame m #[(.ref t), (.int 0), (.int (Int32.ofNat ds.length))] 5 = mkF m 0 #[.val (.ref t), .val (.int 0), .val (.int (Int32.ofNat ds.length)), .unset, .unset] [] := by first | (simp [entryFrame, mkF, argsToLocals, Value.category]; done) | rfl
theorem b_cb_pn : plainFor (⟨"java/util/Arrays", "copyOfRangeByte", "([BII)[B"⟩ : MethodName) = true := by first | exact plainFor_of_name (by first | (simp [plainName, overriddenIn]; done) | decide +kernel) | decide +kernel
set_option maxRecDepth 65536 in
set_option maxHeartbeats 40000000 in
theorem b_cb (l : Launch) (Z : State) (a0 : Array Value) (EL : List (String × Nat)) (hw : ∀ d ∈ tables_1, d.before a0 Z = true) (hEW : EW Z a0 EL) (h : Heap) (t : Addr) (kt : ClassId) (ds : List Int32) (hn : ds.length ≤ 8) (V : Arv Z h t kt .byte 16 (ds.map fun q => Value.int (StrChars.lo8 q)) (.int 0)) :
    Con l Z EL (⟨"java/util/Arrays", "copyOfRangeByte", "([BII)[B"⟩ : MethodName) jdk_65_method_133_code 5 (some (.array .byte)) ({ frames := 1, cells := 1, slots := 8, locals := 18 } : Room) #[(.ref t), (.int 0), (.int (Int32.ofNat ds.length))] h [] (fun v h' nw => ∃ d kd, v = some (.ref d) ∧ nw = [d] ∧ h.size ≤ d ∧ Keep h h' [] ∧ Arv Z h' d kd .byte (Int32.ofNat ds.length) (ds.map fun q => Value.int (StrChars.lo8 q)) (.int 0)) := by
  refine Con.of b_cb_pn hEW ?_
  intro p e s m below meth c T F B hF hby hml hr hlk hnm S
  rw [b_cb_ef]
  show F T (mkF m 0 #[.val (.ref t), .val (.int 0), .val (.int (Int32.ofNat ds.length)), .unset, .unset] [])
  have KK := Keep.refl h []
  have lt1 := natlt V.lt
  refine B (fun tgt kt => XS.iloadN S.here S.hx rfl (hb hby b_cb_d0) rfl kt) ?_
  show F T (mkF m 1 #[.val (.ref t), .val (.int 0), .val (.int (Int32.ofNat ds.length)), .unset, .unset] [(.int 0)])
  refine B (fun tgt kt => XS.iloadN S.here S.hx rfl (hb hby b_cb_d1) rfl kt) ?_
  show F T (mkF m 2 #[.val (.ref t), .val (.int 0), .val (.int (Int32.ofNat ds.length)), .unset, .unset] [(.int (Int32.ofNat ds.length)), (.int 0)])
  refine Sp.static B S (y := (⟨"java/util/Arrays", "checkLength", "(II)V"⟩ : MethodName)) (argsL := [(.int 0), (.int (Int32.ofNat ds.length))]) (rest := []) (hw _ (List.mem_of_getElem? (i := 151) rfl)) (hw _ (List.mem_of_getElem? (i := 152) rfl)) (hw _ (List.mem_of_getElem? (i := 146) rfl)) (hw _ (List.mem_of_getElem? (i := 153) rfl)) (by decide) (Call.con (W := 0) (b_cl l Z a0 EL hw hEW _ ds.length hn) (hw _ (List.mem_of_getElem? (i := 153) rfl)) (hw _ (List.mem_of_getElem? (i := 146) rfl)) (by decide) (by decide)) (by simp) (by decide) (by decide) (by rw [hml]; rfl) (lenOf b_cb_p343 rfl) rfl (Nat.le_of_eq rfl) (hb hby b_cb_d2) fun v T h1 nw S hQ => ?_
  obtain ⟨rfl, rfl, rfl⟩ := hQ
  show F T (mkF m 5 #[.val (.ref t), .val (.int 0), .val (.int (Int32.ofNat ds.length)), .unset, .unset] [])
  refine B (fun tgt kt => XS.iloadN S.here S.hx rfl (hb hby b_cb_d5) rfl kt) ?_
  show F T (mkF m 6 #[.val (.ref t), .val (.int 0), .val (.int (Int32.ofNat ds.length)), .unset, .unset] [(.int (Int32.ofNat ds.length))])
  refine B (fun tgt kt => XS.iloadN S.here S.hx rfl (hb hby b_cb_d6) rfl kt) ?_
  show F T (mkF m 7 #[.val (.ref t), .val (.int 0), .val (.int (Int32.ofNat ds.length)), .unset, .unset] [(.int 0), (.int (Int32.ofNat ds.length))])
  refine B (fun tgt kt => XS.isub S.here S.hx rfl (hb hby b_cb_d7) rfl kt) ?_
  show F T (mkF m 8 #[.val (.ref t), .val (.int 0), .val (.int (Int32.ofNat ds.length)), .unset, .unset] [(.int ((Int32.ofNat ds.length) - (0 : Int32)))])
  rw [own_sub0]
  show F T (mkF m 8 #[.val (.ref t), .val (.int 0), .val (.int (Int32.ofNat ds.length)), .unset, .unset] [(.int (Int32.ofNat ds.length))])
  refine B (fun tgt kt => XS.istoreN S.here S.hx rfl (hb hby b_cb_d8) rfl (l' := #[.val (.ref t), .val (.int 0), .val (.int (Int32.ofNat ds.length)), .val (.int (Int32.ofNat ds.length)), .unset]) rfl kt) ?_
  show F T (mkF m 9 #[.val (.ref t), .val (.int 0), .val (.int (Int32.ofNat ds.length)), .val (.int (Int32.ofNat ds.length)), .unset] [])
  refine B (fun tgt kt => XS.iloadN S.here S.hx rfl (hb hby b_cb_d9) rfl kt) ?_
  show F T (mkF m 10 #[.val (.ref t), .val (.int 0), .val (.int (Int32.ofNat ds.length)), .val (.int (Int32.ofNat ds.length)), .unset] [(.int (Int32.ofNat ds.length))])
  refine Sp.newP B S (cap := 8) (hw _ (List.mem_of_getElem? (i := 19) rfl)) (hb hby b_cb_d10) (own_nn _ (by omega)) (by rw [own_cl _ (by omega)]; omega) (by decide) (by decide) (by decide) (ad := "[B") (by decide) fun T h2 d kd S E gd Xd Vd => ?_
  show F T (mkF m 12 #[.val (.ref t), .val (.int 0), .val (.int (Int32.ofNat ds.length)), .val (.int (Int32.ofNat ds.length)), .unset] [(.ref d)])
  replace V := V.ext E
  replace KK := KK.ext E
  have ld := natlt Vd.lt
  refine B (fun tgt kt => XS.astore S.here S.hx rfl (hb hby b_cb_d12) rfl rfl (l' := #[.val (.ref t), .val (.int 0), .val (.int (Int32.ofNat ds.length)), .val (.int (Int32.ofNat ds.length)), .val (.ref d)]) rfl kt) ?_
  show F T (mkF m 14 #[.val (.ref t), .val (.int 0), .val (.int (Int32.ofNat ds.length)), .val (.int (Int32.ofNat ds.length)), .val (.ref d)] [])
  refine B (fun tgt kt => XS.aloadN S.here S.hx rfl (hb hby b_cb_d14) rfl rfl kt) ?_
  show F T (mkF m 15 #[.val (.ref t), .val (.int 0), .val (.int (Int32.ofNat ds.length)), .val (.int (Int32.ofNat ds.length)), .val (.ref d)] [(.ref t)])
  refine B (fun tgt kt => XS.iloadN S.here S.hx rfl (hb hby b_cb_d15) rfl kt) ?_
  show F T (mkF m 16 #[.val (.ref t), .val (.int 0), .val (.int (Int32.ofNat ds.length)), .val (.int (Int32.ofNat ds.length)), .val (.ref d)] [(.int 0), (.ref t)])
  refine B (fun tgt kt => XS.aload S.here S.hx rfl (hb hby b_cb_d16) rfl rfl kt) ?_
  show F T (mkF m 18 #[.val (.ref t), .val (.int 0), .val (.int (Int32.ofNat ds.length)), .val (.int (Int32.ofNat ds.length)), .val (.ref d)] [(.ref d), (.int 0), (.ref t)])
  refine B (fun tgt kt => XS.iconst S.here S.hx rfl (hb hby b_cb_d18) kt) ?_
  show F T (mkF m 19 #[.val (.ref t), .val (.int 0), .val (.int (Int32.ofNat ds.length)), .val (.int (Int32.ofNat ds.length)), .val (.ref d)] [(.int (0 : Int32)), (.ref d), (.int 0), (.ref t)])
  refine B (fun tgt kt => XS.aloadN S.here S.hx rfl (hb hby b_cb_d19) rfl rfl kt) ?_
  show F T (mkF m 20 #[.val (.ref t), .val (.int 0), .val (.int (Int32.ofNat ds.length)), .val (.int (Int32.ofNat ds.length)), .val (.ref d)] [(.ref t), (.int (0 : Int32)), (.ref d), (.int 0), (.ref t)])
  refine Sp.alen B S V (hb hby b_cb_d20) ?_
  show F T (mkF m 21 #[.val (.ref t), .val (.int 0), .val (.int (Int32.ofNat ds.length)), .val (.int (Int32.ofNat ds.length)), .val (.ref d)] [(.int (16 : Int32)), (.int (0 : Int32)), (.ref d), (.int 0), (.ref t)])
  refine B (fun tgt kt => XS.iloadN S.here S.hx rfl (hb hby b_cb_d21) rfl kt) ?_
  show F T (mkF m 22 #[.val (.ref t), .val (.int 0), .val (.int (Int32.ofNat ds.length)), .val (.int (Int32.ofNat ds.length)), .val (.ref d)] [(.int 0), (.int (16 : Int32)), (.int (0 : Int32)), (.ref d), (.int 0), (.ref t)])
  refine B (fun tgt kt => XS.isub S.here S.hx rfl (hb hby b_cb_d22) rfl kt) ?_
  show F T (mkF m 23 #[.val (.ref t), .val (.int 0), .val (.int (Int32.ofNat ds.length)), .val (.int (Int32.ofNat ds.length)), .val (.ref d)] [(.int ((16 : Int32) - (0 : Int32))), (.int (0 : Int32)), (.ref d), (.int 0), (.ref t)])
  rw [own_sub0]
  show F T (mkF m 23 #[.val (.ref t), .val (.int 0), .val (.int (Int32.ofNat ds.length)), .val (.int (Int32.ofNat ds.length)), .val (.ref d)] [(.int (16 : Int32)), (.int (0 : Int32)), (.ref d), (.int 0), (.ref t)])
  refine B (fun tgt kt => XS.iloadN S.here S.hx rfl (hb hby b_cb_d23) rfl kt) ?_
  show F T (mkF m 24 #[.val (.ref t), .val (.int 0), .val (.int (Int32.ofNat ds.length)), .val (.int (Int32.ofNat ds.length)), .val (.ref d)] [(.int (Int32.ofNat ds.length)), (.int (16 : Int32)), (.int (0 : Int32)), (.ref d), (.int 0), (.ref t)])
  refine Sp.static B S (y := (⟨"java/lang/Math", "min", "(II)I"⟩ : MethodName)) (argsL := [(.int (16 : Int32)), (.int (Int32.ofNat ds.length))]) (rest := [(.int (0 : Int32)), (.ref d), (.int 0), (.ref t)]) (hw _ (List.mem_of_getElem? (i := 154) rfl)) (hw _ (List.mem_of_getElem? (i := 155) rfl)) (hw _ (List.mem_of_getElem? (i := 156) rfl)) (hw _ (List.mem_of_getElem? (i := 157) rfl)) (by decide) (Call.con (W := 4) (b_min l Z a0 EL hw hEW _ 16 (Int32.ofNat ds.length) (own_sm (i := ds.length) (n := 16) (by omega) (by decide))) (hw _ (List.mem_of_getElem? (i := 157) rfl)) (hw _ (List.mem_of_getElem? (i := 156) rfl)) (by decide) (by decide)) (by simp) (by decide) (by decide) (by rw [hml]; rfl) (lenOf b_cb_p304 rfl) rfl (Nat.le_of_eq rfl) (hb hby b_cb_d24) fun v T h3 nw S hQ => ?_
  obtain ⟨rfl, rfl, rfl⟩ := hQ
  show F T (mkF m 27 #[.val (.ref t), .val (.int 0), .val (.int (Int32.ofNat ds.length)), .val (.int (Int32.ofNat ds.length)), .val (.ref d)] [(.int (Int32.ofNat ds.length)), (.int (0 : Int32)), (.ref d), (.int 0), (.ref t)])
  replace Vd := Vd.pad (pad_rep [] (.int 0) ds.length)
  refine Sp.acopy B S (hw _ (List.mem_of_getElem? (i := 158) rfl)) (hw _ (List.mem_of_getElem? (i := 112) rfl)) (hw _ (List.mem_of_getElem? (i := 110) rfl)) (hw _ (List.mem_of_getElem? (i := 111) rfl)) V Vd rfl (by decide) (by decide) (own_nn _ (by omega)) (by rw [own_cl _ (by omega)]; show 0 + _ ≤ _; first | omega | (rw [own_cl _ (by omega)]; omega) | (show _ ≤ 16; omega)) (by rw [own_cl ds.length (by omega)]; show 0 + _ ≤ _; omega) (own_us ds (by omega)) (by rw [own_cl ds.length (by omega)]; show 0 + _ ≤ _; simp) (by simp) (by rw [hml]; rfl) (by decide) (W := 0) (by decide) (by decide) (hb hby b_cb_d27) fun T h4 S K Vd => ?_
  show F T (mkF m 30 #[.val (.ref t), .val (.int 0), .val (.int (Int32.ofNat ds.length)), .val (.int (Int32.ofNat ds.length)), .val (.ref d)] [])
  have e2 : ∀ us : List Value, (([] : List Value) ++ List.replicate ds.length (Value.int 0)).take (0 : Int32).toNatClampNeg ++ us ++ (([] : List Value) ++ List.replicate ds.length (Value.int 0)).drop ((0 : Int32).toNatClampNeg + (Int32.ofNat ds.length).toNatClampNeg) = us := fun us => by rw [own_cl ds.length (by omega)]; exact own_cp [] us (.int 0) ds.length
  rw [e2] at Vd
  replace KK := KK.trans K (qk1 (by first | (refine Or.inl ?_; simp; done) | (refine Or.inr ?_; omega)))
  refine B (fun tgt kt => XS.aload S.here S.hx rfl (hb hby b_cb_d30) rfl rfl kt) ?_
  show F T (mkF m 32 #[.val (.ref t), .val (.int 0), .val (.int (Int32.ofNat ds.length)), .val (.int (Int32.ofNat ds.length)), .val (.ref d)] [(.ref d)])
  exact hF (S.retA hr hlk rfl rfl (hb hby b_cb_d32) (nw := [d]) ⟨d, kd, rfl, rfl, gd, KK, Vd⟩ (by simp))
theorem b_cr_d0 : decode jdk_65_method_132_code 0 = .ok (.iload_n 1, 1) := by decide +kernel
theorem b_cr_d1 : decode jdk_65_method_132_code 1 = .ok (.ifCond .ne 9, 3) := by decide +kernel
theorem b_cr_d4 : decode jdk_65_method_132_code 4 = .ok (.iload_n 2, 1) := by decide +kernel
theorem b_cr_d5 : decode jdk_65_method_132_code 5 = .ok (.aload_n 0, 1) := by decide +kernel
theorem b_cr_d6 : decode jdk_65_method_132_code 6 = .ok (.arraylength, 1) := by decide +kernel
theorem b_cr_d7 : decode jdk_65_method_132_code 7 = .ok (.if_icmp .eq 10, 3) := by decide +kernel
theorem b_cr_d10 : decode jdk_65_method_132_code 10 = .ok (.aload_n 0, 1) := by decide +kernel
theorem b_cr_d11 : decode jdk_65_method_132_code 11 = .ok (.iload_n 1, 1) := by decide +kernel
theorem b_cr_d12 : decode jdk_65_method_132_code 12 = .ok (.iload_n 2, 1) := by decide +kernel
theorem b_cr_d13 : decode jdk_65_method_132_code 13 = .ok (.invokestatic 339, 3) := by decide +kernel
theorem b_cr_d16 : decode jdk_65_method_132_code 16 = .ok (.areturn, 1) := by decide +kernel
theorem b_cr_p339 : parseMethodDescriptor "([BII)[B" = some ⟨[(.array .byte), .int, .int], (some (.array .byte))⟩ := by decide +kernel
theorem b_cr_ef (m : MethodId) (t : Addr) (ds : List Int32) : entryFrame m #[(.ref t), (.int 0), (.int (Int32.ofNat ds.length))] 3 = mkF m 0 #[.val (.ref t), .val (.int 0), .val (.int (Int32.ofNat ds.length))] [] := by first | (simp [entryFrame, mkF, argsToLocals, Value.category]; done) | rfl
theorem b_cr_pn : plainFor (⟨"java/util/Arrays", "copyOfRange", "([BII)[B"⟩ : MethodName) = true := by first | exact plainFor_of_name (by first | (simp [plainName, overriddenIn]; done) | decide +kernel) | decide +kernel
set_option maxRecDepth 65536 in
set_option maxHeartbeats 40000000 in
theorem b_cr (l : Launch) (Z : State) (a0 : Array Value) (EL : List (String × Nat)) (hw : ∀ d ∈ tables_1, d.before a0 Z = true) (hEW : EW Z a0 EL) (h : Heap) (t : Addr) (kt : ClassId) (ds : List Int32) (hn : ds.length ≤ 8) (V : Arv Z h t kt .byte 16 (ds.map fun q => Value.int (StrChars.lo8 q)) (.int 0)) :
    Con l Z EL (⟨"java/util/Arrays", "copyOfRange", "([BII)[B"⟩ : MethodName) jdk_65_method_132_code 3 (some (.array .byte)) ({ frames := 2, cells := 1, slots := 8, locals := 34 } : Room) #[(.ref t), (.int 0), (.int (Int32.ofNat ds.length))] h [] (fun v h' nw => ∃ d kd, v = some (.ref d) ∧ nw = [d] ∧ h.size ≤ d ∧ Keep h h' [] ∧ Arv Z h' d kd .byte (Int32.ofNat ds.length) (ds.map fun q => Value.int (StrChars.lo8 q)) (.int 0)) := by
  refine Con.of b_cr_pn hEW ?_
  intro p e s m below meth c T F B hF hby hml hr hlk hnm S
  rw [b_cr_ef]
  show F T (mkF m 0 #[.val (.ref t), .val (.int 0), .val (.int (Int32.ofNat ds.length))] [])
  refine B (fun tgt kt => XS.iloadN S.here S.hx rfl (hb hby b_cr_d0) rfl kt) ?_
  show F T (mkF m 1 #[.val (.ref t), .val (.int 0), .val (.int (Int32.ofNat ds.length))] [(.int 0)])
  refine B (fun tgt kt => XS.ifNo S.here S.hx rfl (hb hby b_cr_d1) rfl (i0_ne_f rfl) kt) ?_
  show F T (mkF m 4 #[.val (.ref t), .val (.int 0), .val (.int (Int32.ofNat ds.length))] [])
  refine B (fun tgt kt => XS.iloadN S.here S.hx rfl (hb hby b_cr_d4) rfl kt) ?_
  show F T (mkF m 5 #[.val (.ref t), .val (.int 0), .val (.int (Int32.ofNat ds.length))] [(.int (Int32.ofNat ds.length))])
  refine B (fun tgt kt => XS.aloadN S.here S.hx rfl (hb hby b_cr_d5) rfl rfl kt) ?_
  show F T (mkF m 6 #[.val (.ref t), .val (.int 0), .val (.int (Int32.ofNat ds.length))] [(.ref t), (.int (Int32.ofNat ds.length))])
  refine Sp.alen B S V (hb hby b_cr_d6) ?_
  show F T (mkF m 7 #[.val (.ref t), .val (.int 0), .val (.int (Int32.ofNat ds.length))] [(.int (16 : Int32)), (.int (Int32.ofNat ds.length))])
  refine B (fun tgt kt => XS.icmpNo S.here S.hx rfl (hb hby b_cr_d7) rfl (ii_eq_f (own_inj (i := ds.length) (n := 16) (by omega) (by decide))) kt) ?_
  show F T (mkF m 10 #[.val (.ref t), .val (.int 0), .val (.int (Int32.ofNat ds.length))] [])
  refine B (fun tgt kt => XS.aloadN S.here S.hx rfl (hb hby b_cr_d10) rfl rfl kt) ?_
  show F T (mkF m 11 #[.val (.ref t), .val (.int 0), .val (.int (Int32.ofNat ds.length))] [(.ref t)])
  refine B (fun tgt kt => XS.iloadN S.here S.hx rfl (hb hby b_cr_d11) rfl kt) ?_
  show F T (mkF m 12 #[.val (.ref t), .val (.int 0), .val (.int (Int32.ofNat ds.length))] [(.int 0), (.ref t)])
  refine B (fun tgt kt => XS.iloadN S.here S.hx rfl (hb hby b_cr_d12) rfl kt) ?_
  show F T (mkF m 13 #[.val (.ref t), .val (.int 0), .val (.int (Int32.ofNat ds.length))] [(.int (Int32.ofNat ds.length)), (.int 0), (.ref t)])
  refine Sp.static B S (y := (⟨"java/util/Arrays", "copyOfRangeByte", "([BII)[B"⟩ : MethodName)) (argsL := [(.ref t), (.int 0), (.int (Int32.ofNat ds.length))]) (rest := []) (hw _ (List.mem_of_getElem? (i := 148) rfl)) (hw _ (List.mem_of_getElem? (i := 149) rfl)) (hw _ (List.mem_of_getElem? (i := 146) rfl)) (hw _ (List.mem_of_getElem? (i := 150) rfl)) (by decide) (Call.con (W := 0) (b_cb l Z a0 EL hw hEW _ t kt ds hn V) (hw _ (List.mem_of_getElem? (i := 150) rfl)) (hw _ (List.mem_of_getElem? (i := 146) rfl)) (by decide) (by decide)) (by simp) (by decide) (by decide) (by rw [hml]; rfl) (lenOf b_cr_p339 rfl) rfl (Nat.le_of_eq rfl) (hb hby b_cr_d13) fun v T h1 nw S hQ => ?_
  obtain ⟨d, kd, rfl, rfl, gd, K, Vd⟩ := hQ
  show F T (mkF m 16 #[.val (.ref t), .val (.int 0), .val (.int (Int32.ofNat ds.length))] [(.ref d)])
  exact hF (S.retA hr hlk rfl rfl (hb hby b_cr_d16) (nw := [d]) ⟨d, kd, rfl, rfl, gd, K, Vd⟩ (by simp))
theorem b_n2_d0 : decode jdk_42_method_150_code 0 = .ok (.aload_n 0, 1) := by decide +kernel
theorem b_n2_d1 : decode jdk_42_method_150_code 1 = .ok (.invokespecial 1, 3) := by decide +kernel
theorem b_n2_d4 : decode jdk_42_method_150_code 4 = .ok (.aload_n 1, 1) := by decide +kernel
theorem b_n2_d5 : decode jdk_42_method_150_code 5 = .ok (.invokevirtual 552, 3) := by decide +kernel
theorem b_n2_d8 : decode jdk_42_method_150_code 8 = .ok (.astore_n 3, 1) := by decide +kernel
theorem b_n2_d9 : decode jdk_42_method_150_code 9 = .ok (.aload_n 1, 1) := by decide +kernel
theorem b_n2_d10 : decode jdk_42_method_150_code 10 = .ok (.invokevirtual 549, 3) := by decide +kernel
theorem b_n2_d13 : decode jdk_42_method_150_code 13 = .ok (.istore 4, 2) := by decide +kernel
theorem b_n2_d15 : decode jdk_42_method_150_code 15 = .ok (.aload_n 1, 1) := by decide +kernel
theorem b_n2_d16 : decode jdk_42_method_150_code 16 = .ok (.invokevirtual 1047, 3) := by decide +kernel
theorem b_n2_d19 : decode jdk_42_method_150_code 19 = .ok (.ifCond .eq 22, 3) := by decide +kernel
theorem b_n2_d22 : decode jdk_42_method_150_code 22 = .ok (.aload_n 0, 1) := by decide +kernel
theorem b_n2_d23 : decode jdk_42_method_150_code 23 = .ok (.iconst 0, 1) := by decide +kernel
theorem b_n2_d24 : decode jdk_42_method_150_code 24 = .ok (.putfield 15, 3) := by decide +kernel
theorem b_n2_d27 : decode jdk_42_method_150_code 27 = .ok (.aload_n 0, 1) := by decide +kernel
theorem b_n2_d28 : decode jdk_42_method_150_code 28 = .ok (.aload_n 3, 1) := by decide +kernel
theorem b_n2_d29 : decode jdk_42_method_150_code 29 = .ok (.iconst 0, 1) := by decide +kernel
theorem b_n2_d30 : decode jdk_42_method_150_code 30 = .ok (.iload 4, 2) := by decide +kernel
theorem b_n2_d32 : decode jdk_42_method_150_code 32 = .ok (.invokestatic 54, 3) := by decide +kernel
theorem b_n2_d35 : decode jdk_42_method_150_code 35 = .ok (.putfield 9, 3) := by decide +kernel
theorem b_n2_d38 : decode jdk_42_method_150_code 38 = .ok (.goto 59, 3) := by decide +kernel
theorem b_n2_d97 : decode jdk_42_method_150_code 97 = .ok (.return_, 1) := by decide +kernel
theorem b_n2_p54 : parseMethodDescriptor "([BII)[B" = some ⟨[(.array .byte), .int, .int], (some (.array .byte))⟩ := by decide +kernel
theorem b_n2_p549 : parseMethodDescriptor "()I" = some ⟨[], (some .int)⟩ := by decide +kernel
theorem b_n2_p552 : parseMethodDescriptor "()[B" = some ⟨[], (some (.array .byte))⟩ := by decide +kernel
theorem b_n2_p1047 : parseMethodDescriptor "()Z" = some ⟨[], (some .boolean)⟩ := by decide +kernel
theorem b_n2_ef (m : MethodId) (y b : Addr) : entryFrame m #[(.ref y), (.ref b), (.null)] 5 = mkF m 0 #[.val (.ref y), .val (.ref b), .val (.null), .unset, .unset] [] := by first | (simp [entryFrame, mkF, argsToLocals, Value.category]; done) | rfl
theorem b_n2_pn : plainFor (⟨"java/lang/String", "<init>", "(Ljava/lang/AbstractStringBuilder;Ljava/lang/Void;)V"⟩ : MethodName) = true := by first | exact plainFor_of_name (by first | (simp [plainName, overriddenIn]; done) | decide +kernel) | decide +kernel
set_option maxRecDepth 65536 in
set_option maxHeartbeats 40000000 in
theorem b_n2 (l : Launch) (Z : State) (a0 : Array Value) (EL : List (String × Nat)) (hw : ∀ d ∈ tables_1, d.before a0 Z = true) (hEW : EW Z a0 EL) (h : Heap) (zc : Int32) (CS : Sta Z Z.heap "java/lang/String" "COMPACT_STRINGS" "Z" (.int zc)) (hzc : ¬ zc = 0) (b t : Addr) (hbt : b ≠ t) (ds : List Int32) (G : own_SB Z a0 h b t ds) (hdn : ds.length ≤ 8) (y : Addr) (hyb : y ≠ b) (hyt : y ≠ t) (v0 c0 : Value) (O : Ob Z a0 h y "java/lang/String" [("java/lang/String", "value", "[B", v0), ("java/lang/String", "coder", "B", c0)]) :
    Con l Z EL (⟨"java/lang/String", "<init>", "(Ljava/lang/AbstractStringBuilder;Ljava/lang/Void;)V"⟩ : MethodName) jdk_42_method_150_code 5 none ({ frames := 3, cells := 1, slots := 8, locals := 49 } : Room) #[(.ref y), (.ref b), (.null)] h [y] (fun v h' nw => v = none ∧ nw = [] ∧ Keep h h' [y] ∧ ∃ t2, own_L Z h' y t2 ds) := by
  refine Con.of b_n2_pn hEW ?_
  intro p e s m below meth c T F B hF hby hml hr hlk hnm S
  rw [b_n2_ef]
  show F T (mkF m 0 #[.val (.ref y), .val (.ref b), .val (.null), .unset, .unset] [])
  have KK := Keep.refl h [y]
  have ly := natlt O.lt
  refine B (fun tgt kt => XS.aloadN S.here S.hx rfl (hb hby b_n2_d0) rfl rfl kt) ?_
  show F T (mkF m 1 #[.val (.ref y), .val (.ref b), .val (.null), .unset, .unset] [(.ref y)])
  refine Sp.initO B S (hw _ (List.mem_of_getElem? (i := 15) rfl)) (hw _ (List.mem_of_getElem? (i := 16) rfl)) (hw _ (List.mem_of_getElem? (i := 17) rfl)) (by rw [hml]; rfl) (hb hby b_n2_d1) (by decide) (W := 0) (by decide) (by decide) fun T S => ?_
  show F T (mkF m 4 #[.val (.ref y), .val (.ref b), .val (.null), .unset, .unset] [])
  refine B (fun tgt kt => XS.aloadN S.here S.hx rfl (hb hby b_n2_d4) rfl rfl kt) ?_
  show F T (mkF m 5 #[.val (.ref y), .val (.ref b), .val (.null), .unset, .unset] [(.ref b)])
  refine Sp.virtN B S (y := (⟨"java/lang/AbstractStringBuilder", "getValue", "()[B"⟩ : MethodName)) (C := "java/lang/StringBuilder") (argsL := []) (rest := []) (hw _ (List.mem_of_getElem? (i := 126) rfl)) (hw _ (List.mem_of_getElem? (i := 127) rfl)) (hw _ (List.mem_of_getElem? (i := 129) rfl)) rfl (hw _ (List.mem_of_getElem? (i := 129) rfl)) (hw _ (List.mem_of_getElem? (i := 128) rfl)) (by decide) (Call.con (W := 0) (b_gv l Z a0 EL hw hEW _ b t hbt ds G) (hw _ (List.mem_of_getElem? (i := 130) rfl)) (hw _ (List.mem_of_getElem? (i := 57) rfl)) (by decide) (by decide)) G.1.1 (by simp) (by decide) (by decide) (by rw [hml]; rfl) (lenOf b_n2_p552 rfl) rfl (Nat.le_of_eq rfl) (hb hby b_n2_d5) fun v T h1 nw S hQ => ?_
  obtain ⟨rfl, rfl, rfl⟩ := hQ
  show F T (mkF m 8 #[.val (.ref y), .val (.ref b), .val (.null), .unset, .unset] [(.ref t)])
  refine B (fun tgt kt => XS.astoreN S.here S.hx rfl (hb hby b_n2_d8) rfl rfl (l' := #[.val (.ref y), .val (.ref b), .val (.null), .val (.ref t), .unset]) rfl kt) ?_
  show F T (mkF m 9 #[.val (.ref y), .val (.ref b), .val (.null), .val (.ref t), .unset] [])
  refine B (fun tgt kt => XS.aloadN S.here S.hx rfl (hb hby b_n2_d9) rfl rfl kt) ?_
  show F T (mkF m 10 #[.val (.ref y), .val (.ref b), .val (.null), .val (.ref t), .unset] [(.ref b)])
  refine Sp.virtN B S (y := (⟨"java/lang/AbstractStringBuilder", "length", "()I"⟩ : MethodName)) (C := "java/lang/StringBuilder") (argsL := []) (rest := []) (hw _ (List.mem_of_getElem? (i := 131) rfl)) (hw _ (List.mem_of_getElem? (i := 132) rfl)) (hw _ (List.mem_of_getElem? (i := 129) rfl)) rfl (hw _ (List.mem_of_getElem? (i := 134) rfl)) (hw _ (List.mem_of_getElem? (i := 135) rfl)) (by decide) (Call.con (W := 0) (b_sl l Z a0 EL hw hEW _ b t hbt ds G) (hw _ (List.mem_of_getElem? (i := 136) rfl)) (hw _ (List.mem_of_getElem? (i := 49) rfl)) (by decide) (by decide)) G.1.1 (by simp) (by decide) (by decide) (by rw [hml]; rfl) (lenOf b_n2_p549 rfl) rfl (Nat.le_of_eq rfl) (hb hby b_n2_d10) fun v T h2 nw S hQ => ?_
  obtain ⟨rfl, rfl, rfl⟩ := hQ
  show F T (mkF m 13 #[.val (.ref y), .val (.ref b), .val (.null), .val (.ref t), .unset] [(.int (Int32.ofNat ds.length))])
  refine B (fun tgt kt => XS.istore S.here S.hx rfl (hb hby b_n2_d13) rfl (l' := #[.val (.ref y), .val (.ref b), .val (.null), .val (.ref t), .val (.int (Int32.ofNat ds.length))]) rfl kt) ?_
  show F T (mkF m 15 #[.val (.ref y), .val (.ref b), .val (.null), .val (.ref t), .val (.int (Int32.ofNat ds.length))] [])
  refine B (fun tgt kt => XS.aloadN S.here S.hx rfl (hb hby b_n2_d15) rfl rfl kt) ?_
  show F T (mkF m 16 #[.val (.ref y), .val (.ref b), .val (.null), .val (.ref t), .val (.int (Int32.ofNat ds.length))] [(.ref b)])
  refine Sp.virtN B S (y := (⟨"java/lang/AbstractStringBuilder", "isLatin1", "()Z"⟩ : MethodName)) (C := "java/lang/StringBuilder") (argsL := []) (rest := []) (hw _ (List.mem_of_getElem? (i := 139) rfl)) (hw _ (List.mem_of_getElem? (i := 140) rfl)) (hw _ (List.mem_of_getElem? (i := 129) rfl)) rfl (hw _ (List.mem_of_getElem? (i := 142) rfl)) (hw _ (List.mem_of_getElem? (i := 141) rfl)) (by decide) (Call.con (W := 0) (b_ail l Z a0 EL hw hEW _ zc CS hzc b t hbt ds G) (hw _ (List.mem_of_getElem? (i := 143) rfl)) (hw _ (List.mem_of_getElem? (i := 57) rfl)) (by decide) (by decide)) G.1.1 (by simp) (by decide) (by decide) (by rw [hml]; rfl) (lenOf b_n2_p1047 rfl) rfl (Nat.le_of_eq rfl) (hb hby b_n2_d16) fun v T h3 nw S hQ => ?_
  obtain ⟨rfl, rfl, rfl⟩ := hQ
  show F T (mkF m 19 #[.val (.ref y), .val (.ref b), .val (.null), .val (.ref t), .val (.int (Int32.ofNat ds.length))] [(.int 1)])
  refine B (fun tgt kt => XS.ifNo S.here S.hx rfl (hb hby b_n2_d19) rfl (i0_eq_f (by decide)) kt) ?_
  show F T (mkF m 22 #[.val (.ref y), .val (.ref b), .val (.null), .val (.ref t), .val (.int (Int32.ofNat ds.length))] [])
  refine B (fun tgt kt => XS.aloadN S.here S.hx rfl (hb hby b_n2_d22) rfl rfl kt) ?_
  show F T (mkF m 23 #[.val (.ref y), .val (.ref b), .val (.null), .val (.ref t), .val (.int (Int32.ofNat ds.length))] [(.ref y)])
  refine B (fun tgt kt => XS.iconst S.here S.hx rfl (hb hby b_n2_d23) kt) ?_
  show F T (mkF m 24 #[.val (.ref y), .val (.ref b), .val (.null), .val (.ref t), .val (.int (Int32.ofNat ds.length))] [(.int (0 : Int32)), (.ref y)])
  refine Sp.putO B S (hw _ (List.mem_of_getElem? (i := 25) rfl)) O (i := 1) rfl (ns := ["value", "coder"]) rfl (by decide) (Or.inr ⟨(hw _ (List.mem_of_getElem? (i := 21) rfl)), rfl, hnm⟩) (hw _ (List.mem_of_getElem? (i := 5) rfl)) (ty := .byte) (by decide) (v' := .int (0 : Int32)) rfl rfl (by simp) (hb hby b_n2_d24) fun T h4 S K O => ?_
  replace O : Ob Z a0 h4 y "java/lang/String" [("java/lang/String", "value", "[B", v0), ("java/lang/String", "coder", "B", (.int (0 : Int32)))] := O
  show F T (mkF m 27 #[.val (.ref y), .val (.ref b), .val (.null), .val (.ref t), .val (.int (Int32.ofNat ds.length))] [])
  replace KK := KK.trans K (qk1 (by first | (refine Or.inl ?_; simp; done) | (refine Or.inr ?_; omega)))
  obtain ⟨OB, kt, V⟩ := G
  replace V := V.keep K (nin1 (fun q => hyt q.symm))
  refine B (fun tgt kt => XS.aloadN S.here S.hx rfl (hb hby b_n2_d27) rfl rfl kt) ?_
  show F T (mkF m 28 #[.val (.ref y), .val (.ref b), .val (.null), .val (.ref t), .val (.int (Int32.ofNat ds.length))] [(.ref y)])
  refine B (fun tgt kt => XS.aloadN S.here S.hx rfl (hb hby b_n2_d28) rfl rfl kt) ?_
  show F T (mkF m 29 #[.val (.ref y), .val (.ref b), .val (.null), .val (.ref t), .val (.int (Int32.ofNat ds.length))] [(.ref t), (.ref y)])
  refine B (fun tgt kt => XS.iconst S.here S.hx rfl (hb hby b_n2_d29) kt) ?_
  show F T (mkF m 30 #[.val (.ref y), .val (.ref b), .val (.null), .val (.ref t), .val (.int (Int32.ofNat ds.length))] [(.int (0 : Int32)), (.ref t), (.ref y)])
  refine B (fun tgt kt => XS.iload S.here S.hx rfl (hb hby b_n2_d30) rfl kt) ?_
  show F T (mkF m 32 #[.val (.ref y), .val (.ref b), .val (.null), .val (.ref t), .val (.int (Int32.ofNat ds.length))] [(.int (Int32.ofNat ds.length)), (.int (0 : Int32)), (.ref t), (.ref y)])
  refine Sp.static B S (y := (⟨"java/util/Arrays", "copyOfRange", "([BII)[B"⟩ : MethodName)) (argsL := [(.ref t), (.int (0 : Int32)), (.int (Int32.ofNat ds.length))]) (rest := [(.ref y)]) (hw _ (List.mem_of_getElem? (i := 144) rfl)) (hw _ (List.mem_of_getElem? (i := 145) rfl)) (hw _ (List.mem_of_getElem? (i := 146) rfl)) (hw _ (List.mem_of_getElem? (i := 147) rfl)) (by decide) (Call.con (W := 1) (b_cr l Z a0 EL hw hEW _ t kt ds hdn V) (hw _ (List.mem_of_getElem? (i := 147) rfl)) (hw _ (List.mem_of_getElem? (i := 146) rfl)) (by decide) (by decide)) (by simp) (by decide) (by decide) (by rw [hml]; rfl) (lenOf b_n2_p54 rfl) rfl (Nat.le_of_eq rfl) (hb hby b_n2_d32) fun v T h5 nw S hQ => ?_
  obtain ⟨d, kd, rfl, rfl, gd, K, Vd⟩ := hQ
  have gk := KK.1
  have ly2 := natlt O.lt
  replace O := O.keep K (by simp)
  replace KK := KK.trans K (fun x hx => nomatch hx)
  show F T (mkF m 35 #[.val (.ref y), .val (.ref b), .val (.null), .val (.ref t), .val (.int (Int32.ofNat ds.length))] [(.ref d), (.ref y)])
  refine Sp.putO B S (hw _ (List.mem_of_getElem? (i := 24) rfl)) O (i := 0) rfl (ns := ["value", "coder"]) rfl (by decide) (Or.inr ⟨(hw _ (List.mem_of_getElem? (i := 20) rfl)), rfl, hnm⟩) (hw _ (List.mem_of_getElem? (i := 5) rfl)) (ty := (.array .byte)) (by decide) (v' := .ref d) rfl rfl (by simp) (hb hby b_n2_d35) fun T h6 S K O => ?_
  replace O : Ob Z a0 h6 y "java/lang/String" [("java/lang/String", "value", "[B", (.ref d)), ("java/lang/String", "coder", "B", (.int (0 : Int32)))] := O
  show F T (mkF m 38 #[.val (.ref y), .val (.ref b), .val (.null), .val (.ref t), .val (.int (Int32.ofNat ds.length))] [])
  replace KK := KK.trans K (qk1 (by first | (refine Or.inl ?_; simp; done) | (refine Or.inr ?_; omega)))
  replace Vd := Vd.keep K (nin1 (by omega))
  refine B (fun tgt kt => XS.goto S.here S.hx rfl (pc0 := 38) (pc' := 97) rfl (hb hby b_n2_d38) (by decide) (by decide) kt) ?_
  show F T (mkF m 97 #[.val (.ref y), .val (.ref b), .val (.null), .val (.ref t), .val (.int (Int32.ofNat ds.length))] [])
  exact hF (S.ret hr hlk (hb hby b_n2_d97) (nw := []) ⟨rfl, rfl, KK, d, O.1, O.f (i := 0) rfl, O.f (i := 1) rfl, kd, Vd⟩ (by simp))
theorem b_n3_d0 : decode jdk_42_method_53_code 0 = .ok (.aload_n 0, 1) := by decide +kernel
theorem b_n3_d1 : decode jdk_42_method_53_code 1 = .ok (.aload_n 1, 1) := by decide +kernel
theorem b_n3_d2 : decode jdk_42_method_53_code 2 = .ok (.aconst_null, 1) := by decide +kernel
theorem b_n3_d3 : decode jdk_42_method_53_code 3 = .ok (.invokespecial 489, 3) := by decide +kernel
theorem b_n3_d6 : decode jdk_42_method_53_code 6 = .ok (.return_, 1) := by decide +kernel
theorem b_n3_p489 : parseMethodDescriptor "(Ljava/lang/AbstractStringBuilder;Ljava/lang/Void;)V" = some ⟨[(.object "java/lang/AbstractStringBuilder"), (.object "java/lang/Void")], none⟩ := by decide +kernel
theorem b_n3_ef (m : MethodId) (y b : Addr) : entryFrame m #[(.ref y), (.ref b)] 2 = mkF m 0 #[.val (.ref y), .val (.ref b)] [] := by first | (simp [entryFrame, mkF, argsToLocals, Value.category]; done) | rfl
theorem b_n3_pn : plainFor (⟨"java/lang/String", "<init>", "(Ljava/lang/StringBuilder;)V"⟩ : MethodName) = true := by first | exact plainFor_of_name (by first | (simp [plainName, overriddenIn]; done) | decide +kernel) | decide +kernel
set_option maxRecDepth 65536 in
set_option maxHeartbeats 40000000 in
theorem b_n3 (l : Launch) (Z : State) (a0 : Array Value) (EL : List (String × Nat)) (hw : ∀ d ∈ tables_1, d.before a0 Z = true) (hEW : EW Z a0 EL) (h : Heap) (zc : Int32) (CS : Sta Z Z.heap "java/lang/String" "COMPACT_STRINGS" "Z" (.int zc)) (hzc : ¬ zc = 0) (b t : Addr) (hbt : b ≠ t) (ds : List Int32) (G : own_SB Z a0 h b t ds) (hdn : ds.length ≤ 8) (y : Addr) (hyb : y ≠ b) (hyt : y ≠ t) (v0 c0 : Value) (O : Ob Z a0 h y "java/lang/String" [("java/lang/String", "value", "[B", v0), ("java/lang/String", "coder", "B", c0)]) :
    Con l Z EL (⟨"java/lang/String", "<init>", "(Ljava/lang/StringBuilder;)V"⟩ : MethodName) jdk_42_method_53_code 2 none ({ frames := 4, cells := 1, slots := 8, locals := 65 } : Room) #[(.ref y), (.ref b)] h [y] (fun v h' nw => v = none ∧ nw = [] ∧ Keep h h' [y] ∧ ∃ t2, own_L Z h' y t2 ds) := by
  refine Con.of b_n3_pn hEW ?_
  intro p e s m below meth c T F B hF hby hml hr hlk hnm S
  rw [b_n3_ef]
  show F T (mkF m 0 #[.val (.ref y), .val (.ref b)] [])
  refine B (fun tgt kt => XS.aloadN S.here S.hx rfl (hb hby b_n3_d0) rfl rfl kt) ?_
  show F T (mkF m 1 #[.val (.ref y), .val (.ref b)] [(.ref y)])
  refine B (fun tgt kt => XS.aloadN S.here S.hx rfl (hb hby b_n3_d1) rfl rfl kt) ?_
  show F T (mkF m 2 #[.val (.ref y), .val (.ref b)] [(.ref b), (.ref y)])
  refine B (fun tgt kt => XS.aconstNull S.here S.hx rfl (hb hby b_n3_d2) kt) ?_
  show F T (mkF m 3 #[.val (.ref y), .val (.ref b)] [(.null), (.ref b), (.ref y)])
  refine Sp.special B S (y := (⟨"java/lang/String", "<init>", "(Ljava/lang/AbstractStringBuilder;Ljava/lang/Void;)V"⟩ : MethodName)) (argsL := [(.ref b), (.null)]) (rest := []) rfl (hw _ (List.mem_of_getElem? (i := 123) rfl)) (hw _ (List.mem_of_getElem? (i := 124) rfl)) (hw _ (List.mem_of_getElem? (i := 125) rfl)) (by decide) (Call.con (W := 0) (b_n2 l Z a0 EL hw hEW _ zc CS hzc b t hbt ds G hdn y hyb hyt v0 c0 O) (hw _ (List.mem_of_getElem? (i := 125) rfl)) (hw _ (List.mem_of_getElem? (i := 6) rfl)) (by decide) (by decide)) (by simp) (by decide) (by decide) (by rw [hml]; rfl) (lenOf b_n3_p489 rfl) rfl (Nat.le_of_eq rfl) (hb hby b_n3_d3) fun v T h1 nw S hQ => ?_
  obtain ⟨rfl, rfl, K, t2, Gy⟩ := hQ
  show F T (mkF m 6 #[.val (.ref y), .val (.ref b)] [])
  exact hF (S.ret hr hlk (hb hby b_n3_d6) (nw := []) ⟨rfl, rfl, K, t2, Gy⟩ (by simp))
theorem b_ts_d0 : decode jdk_67_method_42_code 0 = .ok (.new 18, 3) := by decide +kernel
theorem b_ts_d3 : decode jdk_67_method_42_code 3 = .ok (.dup, 1) := by decide +kernel
theorem b_ts_d4 : decode jdk_67_method_42_code 4 = .ok (.aload_n 0, 1) := by decide +kernel
theorem b_ts_d5 : decode jdk_67_method_42_code 5 = .ok (.invokespecial 137, 3) := by decide +kernel
theorem b_ts_d8 : decode jdk_67_method_42_code 8 = .ok (.areturn, 1) := by decide +kernel
theorem b_ts_p137 : parseMethodDescriptor "(Ljava/lang/StringBuilder;)V" = some ⟨[(.object "java/lang/StringBuilder")], none⟩ := by decide +kernel
theorem b_ts_ef (m : MethodId) (b : Addr) : entryFrame m #[(.ref b)] 1 = mkF m 0 #[.val (.ref b)] [] := by first | (simp [entryFrame, mkF, argsToLocals, Value.category]; done) | rfl
theorem b_ts_pn : plainFor (⟨"java/lang/StringBuilder", "toString", "()Ljava/lang/String;"⟩ : MethodName) = true := by first | exact plainFor_of_name (by first | (simp [plainName, overriddenIn]; done) | decide +kernel) | decide +kernel
set_option maxRecDepth 65536 in
set_option maxHeartbeats 40000000 in
theorem b_ts (l : Launch) (Z : State) (a0 : Array Value) (EL : List (String × Nat)) (hw : ∀ d ∈ tables_1, d.before a0 Z = true) (hEW : EW Z a0 EL) (h : Heap) (zc : Int32) (CS : Sta Z Z.heap "java/lang/String" "COMPACT_STRINGS" "Z" (.int zc)) (hzc : ¬ zc = 0) (b t : Addr) (hbt : b ≠ t) (ds : List Int32) (G : own_SB Z a0 h b t ds) (hdn : ds.length ≤ 8) :
    Con l Z EL (⟨"java/lang/StringBuilder", "toString", "()Ljava/lang/String;"⟩ : MethodName) jdk_67_method_42_code 1 (some (.object "java/lang/String")) ({ frames := 5, cells := 2, slots := 12, locals := 79 } : Room) #[(.ref b)] h [] (fun v h' nw => ∃ y t2, v = some (.ref y) ∧ nw = [] ∧ Keep h h' [] ∧ own_L Z h' y t2 ds) := by
  refine Con.of b_ts_pn hEW ?_
  intro p e s m below meth c T F B hF hby hml hr hlk hnm S
  rw [b_ts_ef]
  show F T (mkF m 0 #[.val (.ref b)] [])
  have KK := Keep.refl h []
  have lbt := G.lt
  refine Sp.newO B S (hw _ (List.mem_of_getElem? (i := 119) rfl)) (hw _ (List.mem_of_getElem? (i := 5) rfl)) (hw _ (List.mem_of_getElem? (i := 6) rfl)) (hb hby b_ts_d0) (by decide) (by decide) fun T h1 y S E gy Ay D => ?_
  have O : Ob Z a0 h1 y "java/lang/String" [("java/lang/String", "value", "[B", .null), ("java/lang/String", "coder", "B", (.int 0))] := Ob.new Ay D [("java/lang/String", "value", "[B", (.array .byte)), ("java/lang/String", "coder", "B", .byte)] (all_cons ⟨(Or.inr (hw _ (List.mem_of_getElem? (i := 20) rfl))), by decide⟩ (all_cons ⟨(Or.inr (hw _ (List.mem_of_getElem? (i := 21) rfl))), by decide⟩ all_nil))
  show F T (mkF m 3 #[.val (.ref b)] [(.ref y)])
  replace G := G.ext E
  replace KK := KK.ext E
  refine B (fun tgt kt => XS.dup S.here S.hx rfl (hb hby b_ts_d3) rfl rfl kt) ?_
  show F T (mkF m 4 #[.val (.ref b)] [(.ref y), (.ref y)])
  refine B (fun tgt kt => XS.aloadN S.here S.hx rfl (hb hby b_ts_d4) rfl rfl kt) ?_
  show F T (mkF m 5 #[.val (.ref b)] [(.ref b), (.ref y), (.ref y)])
  refine Sp.special B S (y := (⟨"java/lang/String", "<init>", "(Ljava/lang/StringBuilder;)V"⟩ : MethodName)) (argsL := [(.ref b)]) (rest := [(.ref y)]) rfl (hw _ (List.mem_of_getElem? (i := 120) rfl)) (hw _ (List.mem_of_getElem? (i := 121) rfl)) (hw _ (List.mem_of_getElem? (i := 122) rfl)) (by decide) (Call.con (W := 1) (b_n3 l Z a0 EL hw hEW _ zc CS hzc b t hbt ds G hdn y (natne (by omega)) (natne (by omega)) _ _ O) (hw _ (List.mem_of_getElem? (i := 122) rfl)) (hw _ (List.mem_of_getElem? (i := 6) rfl)) (by decide) (by decide)) (by simp) (by decide) (by decide) (by rw [hml]; rfl) (lenOf b_ts_p137 rfl) rfl (Nat.le_of_eq rfl) (hb hby b_ts_d5) fun v T h2 nw S hQ => ?_
  obtain ⟨rfl, rfl, K, t2, Gy⟩ := hQ
  replace KK := KK.trans K (qk1 (by first | (refine Or.inl ?_; simp; done) | (refine Or.inr ?_; omega)))
  show F T (mkF m 8 #[.val (.ref b)] [(.ref y)])
  exact hF (S.retA hr hlk rfl rfl (hb hby b_ts_d8) (nw := []) ⟨y, t2, rfl, rfl, KK, Gy⟩ (by simp))
theorem b_rc_d0 : decode jdk_30_method_1_code 0 = .ok (.aload_n 0, 1) := by decide +kernel
theorem b_rc_d1 : decode jdk_30_method_1_code 1 = .ok (.invokespecial 1, 3) := by decide +kernel
theorem b_rc_d4 : decode jdk_30_method_1_code 4 = .ok (.return_, 1) := by decide +kernel
theorem b_rc_ef (m : MethodId) (x : Addr) : entryFrame m #[(.ref x)] 1 = mkF m 0 #[.val (.ref x)] [] := by first | (simp [entryFrame, mkF, argsToLocals, Value.category]; done) | rfl
theorem b_rc_pn : plainFor (⟨"java/lang/Record", "<init>", "()V"⟩ : MethodName) = true := by first | exact plainFor_of_name (by first | (simp [plainName, overriddenIn]; done) | decide +kernel) | decide +kernel
set_option maxRecDepth 65536 in
set_option maxHeartbeats 40000000 in
theorem b_rc (l : Launch) (Z : State) (a0 : Array Value) (EL : List (String × Nat)) (hw : ∀ d ∈ tables_1, d.before a0 Z = true) (hEW : EW Z a0 EL) (h : Heap) (x : Addr) :
    Con l Z EL (⟨"java/lang/Record", "<init>", "()V"⟩ : MethodName) jdk_30_method_1_code 1 none ({ frames := 1, cells := 0, slots := 0, locals := 12 } : Room) #[(.ref x)] h [] (fun v h' nw => v = none ∧ nw = [] ∧ h = h') := by
  refine Con.of b_rc_pn hEW ?_
  intro p e s m below meth c T F B hF hby hml hr hlk hnm S
  rw [b_rc_ef]
  show F T (mkF m 0 #[.val (.ref x)] [])
  refine B (fun tgt kt => XS.aloadN S.here S.hx rfl (hb hby b_rc_d0) rfl rfl kt) ?_
  show F T (mkF m 1 #[.val (.ref x)] [(.ref x)])
  refine Sp.initO B S (hw _ (List.mem_of_getElem? (i := 37) rfl)) (hw _ (List.mem_of_getElem? (i := 16) rfl)) (hw _ (List.mem_of_getElem? (i := 17) rfl)) (by rw [hml]; rfl) (hb hby b_rc_d1) (by decide) (W := 0) (by decide) (by decide) fun T S => ?_
  show F T (mkF m 4 #[.val (.ref x)] [])
  exact hF (S.ret hr hlk (hb hby b_rc_d4) (nw := []) ⟨rfl, rfl, rfl⟩ (by simp))
theorem b_ci_d0 : decode prog_19_method_1_code 0 = .ok (.aload_n 0, 1) := by decide +kernel
theorem b_ci_d1 : decode prog_19_method_1_code 1 = .ok (.invokespecial 3, 3) := by decide +kernel
theorem b_ci_d4 : decode prog_19_method_1_code 4 = .ok (.aload_n 0, 1) := by decide +kernel
theorem b_ci_d5 : decode prog_19_method_1_code 5 = .ok (.aload_n 1, 1) := by decide +kernel
theorem b_ci_d6 : decode prog_19_method_1_code 6 = .ok (.putfield 9, 3) := by decide +kernel
theorem b_ci_d9 : decode prog_19_method_1_code 9 = .ok (.aload_n 0, 1) := by decide +kernel
theorem b_ci_d10 : decode prog_19_method_1_code 10 = .ok (.aload_n 2, 1) := by decide +kernel
theorem b_ci_d11 : decode prog_19_method_1_code 11 = .ok (.putfield 13, 3) := by decide +kernel
theorem b_ci_d14 : decode prog_19_method_1_code 14 = .ok (.return_, 1) := by decide +kernel
theorem b_ci_p3 : parseMethodDescriptor "()V" = some ⟨[], none⟩ := by decide +kernel
theorem b_ci_ef (m : MethodId) (x x1 x2 : Addr) : entryFrame m #[(.ref x), (.ref x1), (.ref x2)] 3 = mkF m 0 #[.val (.ref x), .val (.ref x1), .val (.ref x2)] [] := by first | (simp [entryFrame, mkF, argsToLocals, Value.category]; done) | rfl
theorem b_ci_pn : plainFor (⟨"org/triplebridge/mapping/Column", "<init>", "(Ljava/lang/String;Ljava/lang/String;)V"⟩ : MethodName) = true := by first | exact plainFor_of_name (by first | (simp [plainName, overriddenIn]; done) | decide +kernel) | decide +kernel
set_option maxRecDepth 65536 in
set_option maxHeartbeats 40000000 in
theorem b_ci (l : Launch) (Z : State) (a0 : Array Value) (EL : List (String × Nat)) (hw : ∀ d ∈ tables_1, d.before a0 Z = true) (hEW : EW Z a0 EL) (h : Heap) (x x1 x2 : Addr) (v0 v1 : Value) (O : Ob Z a0 h x "org/triplebridge/mapping/Column" [("org/triplebridge/mapping/Column", "table", "Ljava/lang/String;", v0), ("org/triplebridge/mapping/Column", "name", "Ljava/lang/String;", v1)]) :
    Con l Z EL (⟨"org/triplebridge/mapping/Column", "<init>", "(Ljava/lang/String;Ljava/lang/String;)V"⟩ : MethodName) prog_19_method_1_code 3 none ({ frames := 2, cells := 0, slots := 0, locals := 24 } : Room) #[(.ref x), (.ref x1), (.ref x2)] h [x] (fun v h' nw => v = none ∧ nw = [] ∧ Keep h h' [x] ∧ Ob Z a0 h' x "org/triplebridge/mapping/Column" [("org/triplebridge/mapping/Column", "table", "Ljava/lang/String;", (.ref x1)), ("org/triplebridge/mapping/Column", "name", "Ljava/lang/String;", (.ref x2))]) := by
  refine Con.of b_ci_pn hEW ?_
  intro p e s m below meth c T F B hF hby hml hr hlk hnm S
  rw [b_ci_ef]
  show F T (mkF m 0 #[.val (.ref x), .val (.ref x1), .val (.ref x2)] [])
  have KK := Keep.refl h [x]
  refine B (fun tgt kt => XS.aloadN S.here S.hx rfl (hb hby b_ci_d0) rfl rfl kt) ?_
  show F T (mkF m 1 #[.val (.ref x), .val (.ref x1), .val (.ref x2)] [(.ref x)])
  refine Sp.special B S (y := (⟨"java/lang/Record", "<init>", "()V"⟩ : MethodName)) (argsL := []) (rest := []) rfl (hw _ (List.mem_of_getElem? (i := 32) rfl)) (hw _ (List.mem_of_getElem? (i := 33) rfl)) (hw _ (List.mem_of_getElem? (i := 36) rfl)) (by decide) (Call.con (W := 0) (b_rc l Z a0 EL hw hEW _ x) (hw _ (List.mem_of_getElem? (i := 36) rfl)) (hw _ (List.mem_of_getElem? (i := 35) rfl)) (by decide) (by decide)) (by simp) (by decide) (by decide) (by rw [hml]; rfl) (lenOf b_ci_p3 rfl) rfl (Nat.le_of_eq rfl) (hb hby b_ci_d1) fun v T h1 nw S hQ => ?_
  obtain ⟨rfl, rfl, rfl⟩ := hQ
  show F T (mkF m 4 #[.val (.ref x), .val (.ref x1), .val (.ref x2)] [])
  refine B (fun tgt kt => XS.aloadN S.here S.hx rfl (hb hby b_ci_d4) rfl rfl kt) ?_
  show F T (mkF m 5 #[.val (.ref x), .val (.ref x1), .val (.ref x2)] [(.ref x)])
  refine B (fun tgt kt => XS.aloadN S.here S.hx rfl (hb hby b_ci_d5) rfl rfl kt) ?_
  show F T (mkF m 6 #[.val (.ref x), .val (.ref x1), .val (.ref x2)] [(.ref x1), (.ref x)])
  refine Sp.putO B S (hw _ (List.mem_of_getElem? (i := 38) rfl)) O (i := 0) rfl (ns := ["table", "name"]) rfl (by decide) (Or.inr ⟨(hw _ (List.mem_of_getElem? (i := 39) rfl)), rfl, hnm⟩) (hw _ (List.mem_of_getElem? (i := 27) rfl)) (ty := (.object "java/lang/String")) (by decide) (v' := .ref x1) rfl rfl (by simp) (hb hby b_ci_d6) fun T h2 S K O => ?_
  replace O : Ob Z a0 h2 x "org/triplebridge/mapping/Column" [("org/triplebridge/mapping/Column", "table", "Ljava/lang/String;", (.ref x1)), ("org/triplebridge/mapping/Column", "name", "Ljava/lang/String;", v1)] := O
  show F T (mkF m 9 #[.val (.ref x), .val (.ref x1), .val (.ref x2)] [])
  replace KK := KK.trans K (qk1 (by first | (refine Or.inl ?_; simp; done) | (refine Or.inr ?_; omega)))
  refine B (fun tgt kt => XS.aloadN S.here S.hx rfl (hb hby b_ci_d9) rfl rfl kt) ?_
  show F T (mkF m 10 #[.val (.ref x), .val (.ref x1), .val (.ref x2)] [(.ref x)])
  refine B (fun tgt kt => XS.aloadN S.here S.hx rfl (hb hby b_ci_d10) rfl rfl kt) ?_
  show F T (mkF m 11 #[.val (.ref x), .val (.ref x1), .val (.ref x2)] [(.ref x2), (.ref x)])
  refine Sp.putO B S (hw _ (List.mem_of_getElem? (i := 40) rfl)) O (i := 1) rfl (ns := ["table", "name"]) rfl (by decide) (Or.inr ⟨(hw _ (List.mem_of_getElem? (i := 41) rfl)), rfl, hnm⟩) (hw _ (List.mem_of_getElem? (i := 27) rfl)) (ty := (.object "java/lang/String")) (by decide) (v' := .ref x2) rfl rfl (by simp) (hb hby b_ci_d11) fun T h3 S K O => ?_
  replace O : Ob Z a0 h3 x "org/triplebridge/mapping/Column" [("org/triplebridge/mapping/Column", "table", "Ljava/lang/String;", (.ref x1)), ("org/triplebridge/mapping/Column", "name", "Ljava/lang/String;", (.ref x2))] := O
  show F T (mkF m 14 #[.val (.ref x), .val (.ref x1), .val (.ref x2)] [])
  replace KK := KK.trans K (qk1 (by first | (refine Or.inl ?_; simp; done) | (refine Or.inr ?_; omega)))
  exact hF (S.ret hr hlk (hb hby b_ci_d14) (nw := []) ⟨rfl, rfl, KK, O⟩ (by simp))
theorem b_sql_d0 : decode prog_19_method_6_code 0 = .ok (.new 34, 3) := by decide +kernel
theorem b_sql_d3 : decode prog_19_method_6_code 3 = .ok (.dup, 1) := by decide +kernel
theorem b_sql_d4 : decode prog_19_method_6_code 4 = .ok (.invokespecial 36, 3) := by decide +kernel
theorem b_sql_d7 : decode prog_19_method_6_code 7 = .ok (.aload_n 0, 1) := by decide +kernel
theorem b_sql_d8 : decode prog_19_method_6_code 8 = .ok (.getfield 9, 3) := by decide +kernel
theorem b_sql_d11 : decode prog_19_method_6_code 11 = .ok (.invokevirtual 39, 3) := by decide +kernel
theorem b_sql_d14 : decode prog_19_method_6_code 14 = .ok (.ldc 125, 2) := by decide +kernel
theorem b_sql_d16 : decode prog_19_method_6_code 16 = .ok (.invokevirtual 39, 3) := by decide +kernel
theorem b_sql_d19 : decode prog_19_method_6_code 19 = .ok (.aload_n 0, 1) := by decide +kernel
theorem b_sql_d20 : decode prog_19_method_6_code 20 = .ok (.getfield 13, 3) := by decide +kernel
theorem b_sql_d23 : decode prog_19_method_6_code 23 = .ok (.invokevirtual 39, 3) := by decide +kernel
theorem b_sql_d26 : decode prog_19_method_6_code 26 = .ok (.invokevirtual 45, 3) := by decide +kernel
theorem b_sql_d29 : decode prog_19_method_6_code 29 = .ok (.areturn, 1) := by decide +kernel
theorem b_sql_p36 : parseMethodDescriptor "()V" = some ⟨[], none⟩ := by decide +kernel
theorem b_sql_p39 : parseMethodDescriptor "(Ljava/lang/String;)Ljava/lang/StringBuilder;" = some ⟨[(.object "java/lang/String")], (some (.object "java/lang/StringBuilder"))⟩ := by decide +kernel
theorem b_sql_p45 : parseMethodDescriptor "()Ljava/lang/String;" = some ⟨[], (some (.object "java/lang/String"))⟩ := by decide +kernel
theorem b_sql_ef (m : MethodId) (x : Addr) : entryFrame m #[(.ref x)] 1 = mkF m 0 #[.val (.ref x)] [] := by first | (simp [entryFrame, mkF, argsToLocals, Value.category]; done) | rfl
theorem b_sql_pn : plainFor (⟨"org/triplebridge/mapping/Column", "sql", "()Ljava/lang/String;"⟩ : MethodName) = true := by first | exact plainFor_of_name (by first | (simp [plainName, overriddenIn]; done) | decide +kernel) | decide +kernel
set_option maxRecDepth 65536 in
set_option maxHeartbeats 40000000 in
theorem b_sql (l : Launch) (Z : State) (a0 : Array Value) (EL : List (String × Nat)) (hw : ∀ d ∈ tables_1, d.before a0 Z = true) (hEW : EW Z a0 EL) (h : Heap) (hS : ∀ d ∈ Bundle.stringAtoms, d.before a0 Z = true) (hmc : ("org/triplebridge/mapping/Column", 125) ∈ EL) (zc : Int32) (CS : Sta Z Z.heap "java/lang/String" "COMPACT_STRINGS" "Z" (.int zc)) (hzc : ¬ zc = 0) (x x1 t1 x2 t2 : Addr) (cs1 cs2 : List Int32) (hn1 : cs1.length ≤ 2) (hn2 : cs2.length ≤ 2) (Oc : Ob Z a0 h x "org/triplebridge/mapping/Column" [("org/triplebridge/mapping/Column", "table", "Ljava/lang/String;", (.ref x1)), ("org/triplebridge/mapping/Column", "name", "Ljava/lang/String;", (.ref x2))]) (G1 : own_L Z h x1 t1 cs1) (G2 : own_L Z h x2 t2 cs2) :
    Con l Z EL (⟨"org/triplebridge/mapping/Column", "sql", "()Ljava/lang/String;"⟩ : MethodName) prog_19_method_6_code 1 (some (.object "java/lang/String")) ({ frames := 6, cells := 6, slots := 40, locals := 91 } : Room) #[(.ref x)] h [] (fun v h' nw => ∃ y ty, v = some (.ref y) ∧ nw = [] ∧ Keep h h' [] ∧ own_L Z h' y ty ((cs1 ++ [46]) ++ cs2)) := by
  refine Con.of b_sql_pn hEW ?_
  intro p e s m below meth c T F B hF hby hml hr hlk hnm S
  rw [b_sql_ef]
  show F T (mkF m 0 #[.val (.ref x)] [])
  have KK := Keep.refl h []
  have lx := natlt Oc.lt
  have l1 := G1.lt
  have l2 := G2.lt
  refine Sp.newO B S (hw _ (List.mem_of_getElem? (i := 47) rfl)) (hw _ (List.mem_of_getElem? (i := 48) rfl)) (hw _ (List.mem_of_getElem? (i := 49) rfl)) (hb hby b_sql_d0) (by decide) (by decide) fun T h1 b S E gb Ab D => ?_
  have O : Ob Z a0 h1 b "java/lang/StringBuilder" [("java/lang/AbstractStringBuilder", "value", "[B", .null), ("java/lang/AbstractStringBuilder", "coder", "B", (.int 0)), ("java/lang/AbstractStringBuilder", "count", "I", (.int 0))] := Ob.new Ab D [("java/lang/AbstractStringBuilder", "value", "[B", (.array .byte)), ("java/lang/AbstractStringBuilder", "coder", "B", .byte), ("java/lang/AbstractStringBuilder", "count", "I", .int)] (all_cons ⟨(Or.inl (hw _ (List.mem_of_getElem? (i := 62) rfl))), by decide⟩ (all_cons ⟨(Or.inl (hw _ (List.mem_of_getElem? (i := 64) rfl))), by decide⟩ (all_cons ⟨(Or.inl (hw _ (List.mem_of_getElem? (i := 87) rfl))), by decide⟩ all_nil)))
  show F T (mkF m 3 #[.val (.ref x)] [(.ref b)])
  replace G1 := G1.ext E
  replace G2 := G2.ext E
  replace Oc := Oc.ext E
  replace KK := KK.ext E
  have lb := natlt O.lt
  refine B (fun tgt kt => XS.dup S.here S.hx rfl (hb hby b_sql_d3) rfl rfl kt) ?_
  show F T (mkF m 4 #[.val (.ref x)] [(.ref b), (.ref b)])
  refine Sp.special B S (y := (⟨"java/lang/StringBuilder", "<init>", "()V"⟩ : MethodName)) (argsL := []) (rest := [(.ref b)]) rfl (hw _ (List.mem_of_getElem? (i := 50) rfl)) (hw _ (List.mem_of_getElem? (i := 51) rfl)) (hw _ (List.mem_of_getElem? (i := 52) rfl)) (by decide) (Call.con (W := 1) (b_si l Z a0 EL hw hEW _ zc CS hzc b O) (hw _ (List.mem_of_getElem? (i := 52) rfl)) (hw _ (List.mem_of_getElem? (i := 49) rfl)) (by decide) (by decide)) (by simp) (by decide) (by decide) (by rw [hml]; rfl) (lenOf b_sql_p36 rfl) rfl (Nat.le_of_eq rfl) (hb hby b_sql_d4) fun v T h2 nw S hQ => ?_
  obtain ⟨t, rfl, rfl, gt, K, G⟩ := hQ
  replace KK := KK.trans K (qk1 (by first | (refine Or.inl ?_; simp; done) | (refine Or.inr ?_; omega)))
  replace G1 := G1.keep K (nin1 (by omega)) (nin1 (by omega))
  replace G2 := G2.keep K (nin1 (by omega)) (nin1 (by omega))
  replace Oc := Oc.keep K (nin1 (by omega))
  have hbt : b ≠ t := natne (by omega)
  show F T (mkF m 7 #[.val (.ref x)] [(.ref b)])
  refine B (fun tgt kt => XS.aloadN S.here S.hx rfl (hb hby b_sql_d7) rfl rfl kt) ?_
  show F T (mkF m 8 #[.val (.ref x)] [(.ref x), (.ref b)])
  refine Sp.getO B S (hw _ (List.mem_of_getElem? (i := 38) rfl)) Oc (i := 0) rfl (hb hby b_sql_d8) fun T S => ?_
  show F T (mkF m 11 #[.val (.ref x)] [(.ref x1), (.ref b)])
  refine Sp.virt B S (y := (⟨"java/lang/StringBuilder", "append", "(Ljava/lang/String;)Ljava/lang/StringBuilder;"⟩ : MethodName)) (C := "java/lang/StringBuilder") (argsL := [(.ref x1)]) (rest := []) (hw _ (List.mem_of_getElem? (i := 65) rfl)) (hw _ (List.mem_of_getElem? (i := 66) rfl)) (hw _ (List.mem_of_getElem? (i := 68) rfl)) (hw _ (List.mem_of_getElem? (i := 68) rfl)) (hw _ (List.mem_of_getElem? (i := 67) rfl)) (by decide) (Call.con (W := 0) (b_sa l Z a0 EL hw hEW _ zc CS hzc b t hbt [] G x1 t1 (natne (by omega)) cs1 (by omega) (by show 0 + _ ≤ 8; omega) G1) (hw _ (List.mem_of_getElem? (i := 69) rfl)) (hw _ (List.mem_of_getElem? (i := 49) rfl)) (by decide) (by decide)) G.1.1 (by simp) (by decide) (by decide) (by rw [hml]; rfl) (lenOf b_sql_p39 rfl) rfl (Nat.le_of_eq rfl) (hb hby b_sql_d11) fun v T h3 nw S hQ => ?_
  obtain ⟨rfl, rfl, K, G⟩ := hQ
  replace KK := KK.trans K (own_qk2 (Or.inr (by omega)) (Or.inr (by omega)))
  replace G2 := G2.keep K (nin2 (by omega) (by omega)) (nin2 (by omega) (by omega))
  replace Oc := Oc.keep K (nin2 (by omega) (by omega))
  show F T (mkF m 14 #[.val (.ref x)] [(.ref b)])
  refine Sp.ldc B S (hw _ (List.mem_of_getElem? (i := 113) rfl)) hS hmc (vs := [.int 46]) (z := 1) (by decide) (by decide) (by decide) (hb hby b_sql_d14) (nn := 4) (by decide) (by decide) (by decide) (by decide) fun T h4 q qt kqt S E Xq Cq Wq Vqt Nq => ?_
  show F T (mkF m 16 #[.val (.ref x)] [(.ref q), (.ref b)])
  replace G := G.ext E
  replace G2 := G2.ext E
  replace Oc := Oc.ext E
  replace KK := KK.ext E
  have hq : @Ne Nat t q ∧ @Ne Nat t qt := Nq t (by simp)
  have Gq : own_L Z h4 q qt [46] := ⟨Xq, Wq, Cq, kqt, by have e : StrChars.lo8 46 = 46 := (by decide); show Arv _ _ _ _ _ _ [.int (StrChars.lo8 46)] _; rw [e]; exact Vqt⟩
  refine Sp.virt B S (y := (⟨"java/lang/StringBuilder", "append", "(Ljava/lang/String;)Ljava/lang/StringBuilder;"⟩ : MethodName)) (C := "java/lang/StringBuilder") (argsL := [(.ref q)]) (rest := []) (hw _ (List.mem_of_getElem? (i := 65) rfl)) (hw _ (List.mem_of_getElem? (i := 66) rfl)) (hw _ (List.mem_of_getElem? (i := 68) rfl)) (hw _ (List.mem_of_getElem? (i := 68) rfl)) (hw _ (List.mem_of_getElem? (i := 67) rfl)) (by decide) (Call.con (W := 0) (b_sa l Z a0 EL hw hEW _ zc CS hzc b t hbt cs1 G q qt hq.2 [46] (by show 1 ≤ 8; decide) (by show cs1.length + 1 ≤ 8; omega) Gq) (hw _ (List.mem_of_getElem? (i := 69) rfl)) (hw _ (List.mem_of_getElem? (i := 49) rfl)) (by decide) (by decide)) G.1.1 (by simp) (by decide) (by decide) (by rw [hml]; rfl) (lenOf b_sql_p39 rfl) rfl (Nat.le_of_eq rfl) (hb hby b_sql_d16) fun v T h5 nw S hQ => ?_
  obtain ⟨rfl, rfl, K, G⟩ := hQ
  replace KK := KK.trans K (own_qk2 (Or.inr (by omega)) (Or.inr (by omega)))
  replace G2 := G2.keep K (nin2 (by omega) (by omega)) (nin2 (by omega) (by omega))
  replace Oc := Oc.keep K (nin2 (by omega) (by omega))
  show F T (mkF m 19 #[.val (.ref x)] [(.ref b)])
  refine B (fun tgt kt => XS.aloadN S.here S.hx rfl (hb hby b_sql_d19) rfl rfl kt) ?_
  show F T (mkF m 20 #[.val (.ref x)] [(.ref x), (.ref b)])
  refine Sp.getO B S (hw _ (List.mem_of_getElem? (i := 40) rfl)) Oc (i := 1) rfl (hb hby b_sql_d20) fun T S => ?_
  show F T (mkF m 23 #[.val (.ref x)] [(.ref x2), (.ref b)])
  refine Sp.virt B S (y := (⟨"java/lang/StringBuilder", "append", "(Ljava/lang/String;)Ljava/lang/StringBuilder;"⟩ : MethodName)) (C := "java/lang/StringBuilder") (argsL := [(.ref x2)]) (rest := []) (hw _ (List.mem_of_getElem? (i := 65) rfl)) (hw _ (List.mem_of_getElem? (i := 66) rfl)) (hw _ (List.mem_of_getElem? (i := 68) rfl)) (hw _ (List.mem_of_getElem? (i := 68) rfl)) (hw _ (List.mem_of_getElem? (i := 67) rfl)) (by decide) (Call.con (W := 0) (b_sa l Z a0 EL hw hEW _ zc CS hzc b t hbt (cs1 ++ [46]) G x2 t2 (natne (by omega)) cs2 (by omega) (by rw [List.length_append]; show cs1.length + 1 + _ ≤ 8; omega) G2) (hw _ (List.mem_of_getElem? (i := 69) rfl)) (hw _ (List.mem_of_getElem? (i := 49) rfl)) (by decide) (by decide)) G.1.1 (by simp) (by decide) (by decide) (by rw [hml]; rfl) (lenOf b_sql_p39 rfl) rfl (Nat.le_of_eq rfl) (hb hby b_sql_d23) fun v T h6 nw S hQ => ?_
  obtain ⟨rfl, rfl, K, G⟩ := hQ
  replace KK := KK.trans K (own_qk2 (Or.inr (by omega)) (Or.inr (by omega)))
  replace G2 := G2.keep K (nin2 (by omega) (by omega)) (nin2 (by omega) (by omega))
  replace Oc := Oc.keep K (nin2 (by omega) (by omega))
  show F T (mkF m 26 #[.val (.ref x)] [(.ref b)])
  refine Sp.virt B S (y := (⟨"java/lang/StringBuilder", "toString", "()Ljava/lang/String;"⟩ : MethodName)) (C := "java/lang/StringBuilder") (argsL := []) (rest := []) (hw _ (List.mem_of_getElem? (i := 114) rfl)) (hw _ (List.mem_of_getElem? (i := 115) rfl)) (hw _ (List.mem_of_getElem? (i := 117) rfl)) (hw _ (List.mem_of_getElem? (i := 117) rfl)) (hw _ (List.mem_of_getElem? (i := 116) rfl)) (by decide) (Call.con (W := 0) (b_ts l Z a0 EL hw hEW _ zc CS hzc b t hbt _ G (by rw [List.length_append, List.length_append]; show cs1.length + 1 + _ ≤ 8; omega)) (hw _ (List.mem_of_getElem? (i := 118) rfl)) (hw _ (List.mem_of_getElem? (i := 49) rfl)) (by decide) (by decide)) G.1.1 (by simp) (by decide) (by decide) (by rw [hml]; rfl) (lenOf b_sql_p45 rfl) rfl (Nat.le_of_eq rfl) (hb hby b_sql_d26) fun v T h7 nw S hQ => ?_
  obtain ⟨y, ty, rfl, rfl, K, Gy⟩ := hQ
  replace KK := KK.trans K (fun x hx => nomatch hx)
  show F T (mkF m 29 #[.val (.ref x)] [(.ref y)])
  exact hF (S.retA hr hlk rfl rfl (hb hby b_sql_d29) (nw := []) ⟨y, ty, rfl, rfl, KK, Gy⟩ (by simp))
theorem b_ce_d0 : decode jdk_43_method_3_code 0 = .ok (.iload_n 0, 1) := by decide +kernel
theorem b_ce_d1 : decode jdk_43_method_3_code 1 = .ok (.sipush 255, 3) := by decide +kernel
theorem b_ce_d4 : decode jdk_43_method_3_code 4 = .ok (.if_icmp .gt 7, 3) := by decide +kernel
theorem b_ce_d7 : decode jdk_43_method_3_code 7 = .ok (.iconst 1, 1) := by decide +kernel
theorem b_ce_d8 : decode jdk_43_method_3_code 8 = .ok (.goto 4, 3) := by decide +kernel
theorem b_ce_d12 : decode jdk_43_method_3_code 12 = .ok (.ireturn, 1) := by decide +kernel
theorem b_ce_ef (m : MethodId) (q : Int32) : entryFrame m #[(.int q)] 1 = mkF m 0 #[.val (.int q)] [] := by first | (simp [entryFrame, mkF, argsToLocals, Value.category]; done) | rfl
theorem b_ce_pn : plainFor (⟨"java/lang/StringLatin1", "canEncode", "(C)Z"⟩ : MethodName) = true := by first | exact plainFor_of_name (by first | (simp [plainName, overriddenIn]; done) | decide +kernel) | decide +kernel
set_option maxRecDepth 65536 in
set_option maxHeartbeats 40000000 in
theorem b_ce (l : Launch) (Z : State) (a0 : Array Value) (EL : List (String × Nat)) (hw : ∀ d ∈ tables_1, d.before a0 Z = true) (hEW : EW Z a0 EL) (h : Heap) (q : Int32) (hq : ¬ (255 : Int32) < q) :
    Con l Z EL (⟨"java/lang/StringLatin1", "canEncode", "(C)Z"⟩ : MethodName) jdk_43_method_3_code 1 (some .boolean) ({ frames := 0, cells := 0, slots := 0, locals := 0 } : Room) #[(.int q)] h [] (fun v h' nw => v = some (.int 1) ∧ nw = [] ∧ h = h') := by
  refine Con.of b_ce_pn hEW ?_
  intro p e s m below meth c T F B hF hby hml hr hlk hnm S
  rw [b_ce_ef]
  show F T (mkF m 0 #[.val (.int q)] [])
  refine B (fun tgt kt => XS.iloadN S.here S.hx rfl (hb hby b_ce_d0) rfl kt) ?_
  show F T (mkF m 1 #[.val (.int q)] [(.int q)])
  refine B (fun tgt kt => XS.sipush S.here S.hx rfl (hb hby b_ce_d1) kt) ?_
  show F T (mkF m 4 #[.val (.int q)] [(.int (255 : Int32)), (.int q)])
  refine B (fun tgt kt => XS.icmpNo S.here S.hx rfl (hb hby b_ce_d4) rfl (ii_gt_f hq) kt) ?_
  show F T (mkF m 7 #[.val (.int q)] [])
  refine B (fun tgt kt => XS.iconst S.here S.hx rfl (hb hby b_ce_d7) kt) ?_
  show F T (mkF m 8 #[.val (.int q)] [(.int (1 : Int32))])
  refine B (fun tgt kt => XS.goto S.here S.hx rfl (pc0 := 8) (pc' := 12) rfl (hb hby b_ce_d8) (by decide) (by decide) kt) ?_
  show F T (mkF m 12 #[.val (.int q)] [(.int (1 : Int32))])
  exact hF (S.retI hr hlk (by simp) (by decide) (hb hby b_ce_d12) (nw := []) ⟨rfl, rfl, rfl⟩ (by simp))
theorem b_tb_d0 : decode jdk_43_method_46_code 0 = .ok (.iconst 1, 1) := by decide +kernel
theorem b_tb_d1 : decode jdk_43_method_46_code 1 = .ok (.newarray .byte, 2) := by decide +kernel
theorem b_tb_d3 : decode jdk_43_method_46_code 3 = .ok (.dup, 1) := by decide +kernel
theorem b_tb_d4 : decode jdk_43_method_46_code 4 = .ok (.iconst 0, 1) := by decide +kernel
theorem b_tb_d5 : decode jdk_43_method_46_code 5 = .ok (.iload_n 0, 1) := by decide +kernel
theorem b_tb_d6 : decode jdk_43_method_46_code 6 = .ok (.i2b, 1) := by decide +kernel
theorem b_tb_d7 : decode jdk_43_method_46_code 7 = .ok (.bastore, 1) := by decide +kernel
theorem b_tb_d8 : decode jdk_43_method_46_code 8 = .ok (.areturn, 1) := by decide +kernel
theorem b_tb_ef (m : MethodId) (q : Int32) : entryFrame m #[(.int q)] 1 = mkF m 0 #[.val (.int q)] [] := by first | (simp [entryFrame, mkF, argsToLocals, Value.category]; done) | rfl
theorem b_tb_pn : plainFor (⟨"java/lang/StringLatin1", "toBytes", "(C)[B"⟩ : MethodName) = true := by first | exact plainFor_of_name (by first | (simp [plainName, overriddenIn]; done) | decide +kernel) | decide +kernel
set_option maxRecDepth 65536 in
set_option maxHeartbeats 40000000 in
theorem b_tb (l : Launch) (Z : State) (a0 : Array Value) (EL : List (String × Nat)) (hw : ∀ d ∈ tables_1, d.before a0 Z = true) (hEW : EW Z a0 EL) (h : Heap) (q : Int32) :
    Con l Z EL (⟨"java/lang/StringLatin1", "toBytes", "(C)[B"⟩ : MethodName) jdk_43_method_46_code 1 (some (.array .byte)) ({ frames := 0, cells := 1, slots := 1, locals := 0 } : Room) #[(.int q)] h [] (fun v h' nw => ∃ d kd, v = some (.ref d) ∧ nw = [d] ∧ h.size ≤ d ∧ Keep h h' [] ∧ Arv Z h' d kd .byte 1 [.int (StrChars.lo8 q)] (.int 0)) := by
  refine Con.of b_tb_pn hEW ?_
  intro p e s m below meth c T F B hF hby hml hr hlk hnm S
  rw [b_tb_ef]
  show F T (mkF m 0 #[.val (.int q)] [])
  have KK := Keep.refl h []
  refine B (fun tgt kt => XS.iconst S.here S.hx rfl (hb hby b_tb_d0) kt) ?_
  show F T (mkF m 1 #[.val (.int q)] [(.int (1 : Int32))])
  refine Sp.newP B S (cap := 1) (hw _ (List.mem_of_getElem? (i := 19) rfl)) (hb hby b_tb_d1) (by decide) (by decide) (by decide) (by decide) (by decide) (ad := "[B") (by decide) fun T h1 d kd S E gd Xd Vd => ?_
  show F T (mkF m 3 #[.val (.int q)] [(.ref d)])
  replace KK := KK.ext E
  replace Vd : Arv Z h1 d kd .byte 1 [.int 0] (.int 0) := Vd.pad (pad_rep [] (.int 0) 1)
  refine B (fun tgt kt => XS.dup S.here S.hx rfl (hb hby b_tb_d3) rfl rfl kt) ?_
  show F T (mkF m 4 #[.val (.int q)] [(.ref d), (.ref d)])
  refine B (fun tgt kt => XS.iconst S.here S.hx rfl (hb hby b_tb_d4) kt) ?_
  show F T (mkF m 5 #[.val (.int q)] [(.int (0 : Int32)), (.ref d), (.ref d)])
  refine B (fun tgt kt => XS.iloadN S.here S.hx rfl (hb hby b_tb_d5) rfl kt) ?_
  show F T (mkF m 6 #[.val (.int q)] [(.int q), (.int (0 : Int32)), (.ref d), (.ref d)])
  refine B (fun tgt kt => XT.i2b S.here S.hx rfl (hb hby b_tb_d6) rfl kt) ?_
  show F T (mkF m 7 #[.val (.int q)] [(.int q.toInt8.toInt32), (.int (0 : Int32)), (.ref d), (.ref d)])
  refine Sp.stB B S Vd (i := 0) (by decide) (by decide) (by simp) (own_nb q) (by simp) (hb hby b_tb_d7) fun T h2 S W Vd => ?_
  replace KK := KK.wr W (Or.inr (by omega))
  show F T (mkF m 8 #[.val (.int q)] [(.ref d)])
  exact hF (S.retA hr hlk rfl rfl (hb hby b_tb_d8) (nw := [d]) ⟨d, kd, rfl, rfl, gd, KK, Vd⟩ (by simp))
theorem b_nb_d0 : decode jdk_42_method_151_code 0 = .ok (.aload_n 0, 1) := by decide +kernel
theorem b_nb_d1 : decode jdk_42_method_151_code 1 = .ok (.invokespecial 1, 3) := by decide +kernel
theorem b_nb_d4 : decode jdk_42_method_151_code 4 = .ok (.aload_n 0, 1) := by decide +kernel
theorem b_nb_d5 : decode jdk_42_method_151_code 5 = .ok (.aload_n 1, 1) := by decide +kernel
theorem b_nb_d6 : decode jdk_42_method_151_code 6 = .ok (.putfield 9, 3) := by decide +kernel
theorem b_nb_d9 : decode jdk_42_method_151_code 9 = .ok (.aload_n 0, 1) := by decide +kernel
theorem b_nb_d10 : decode jdk_42_method_151_code 10 = .ok (.iload_n 2, 1) := by decide +kernel
theorem b_nb_d11 : decode jdk_42_method_151_code 11 = .ok (.putfield 15, 3) := by decide +kernel
theorem b_nb_d14 : decode jdk_42_method_151_code 14 = .ok (.return_, 1) := by decide +kernel
theorem b_nb_ef (m : MethodId) (y d : Addr) : entryFrame m #[(.ref y), (.ref d), (.int 0)] 3 = mkF m 0 #[.val (.ref y), .val (.ref d), .val (.int 0)] [] := by first | (simp [entryFrame, mkF, argsToLocals, Value.category]; done) | rfl
theorem b_nb_pn : plainFor (⟨"java/lang/String", "<init>", "([BB)V"⟩ : MethodName) = true := by first | exact plainFor_of_name (by first | (simp [plainName, overriddenIn]; done) | decide +kernel) | decide +kernel
set_option maxRecDepth 65536 in
set_option maxHeartbeats 40000000 in
theorem b_nb (l : Launch) (Z : State) (a0 : Array Value) (EL : List (String × Nat)) (hw : ∀ d ∈ tables_1, d.before a0 Z = true) (hEW : EW Z a0 EL) (h : Heap) (y d : Addr) (v0 c0 : Value) (O : Ob Z a0 h y "java/lang/String" [("java/lang/String", "value", "[B", v0), ("java/lang/String", "coder", "B", c0)]) :
    Con l Z EL (⟨"java/lang/String", "<init>", "([BB)V"⟩ : MethodName) jdk_42_method_151_code 3 none ({ frames := 1, cells := 0, slots := 0, locals := 12 } : Room) #[(.ref y), (.ref d), (.int 0)] h [y] (fun v h' nw => v = none ∧ nw = [] ∧ Keep h h' [y] ∧ Ob Z a0 h' y "java/lang/String" [("java/lang/String", "value", "[B", (.ref d)), ("java/lang/String", "coder", "B", (.int 0))]) := by
  refine Con.of b_nb_pn hEW ?_
  intro p e s m below meth c T F B hF hby hml hr hlk hnm S
  rw [b_nb_ef]
  show F T (mkF m 0 #[.val (.ref y), .val (.ref d), .val (.int 0)] [])
  have KK := Keep.refl h [y]
  refine B (fun tgt kt => XS.aloadN S.here S.hx rfl (hb hby b_nb_d0) rfl rfl kt) ?_
  show F T (mkF m 1 #[.val (.ref y), .val (.ref d), .val (.int 0)] [(.ref y)])
  refine Sp.initO B S (hw _ (List.mem_of_getElem? (i := 15) rfl)) (hw _ (List.mem_of_getElem? (i := 16) rfl)) (hw _ (List.mem_of_getElem? (i := 17) rfl)) (by rw [hml]; rfl) (hb hby b_nb_d1) (by decide) (W := 0) (by decide) (by decide) fun T S => ?_
  show F T (mkF m 4 #[.val (.ref y), .val (.ref d), .val (.int 0)] [])
  refine B (fun tgt kt => XS.aloadN S.here S.hx rfl (hb hby b_nb_d4) rfl rfl kt) ?_
  show F T (mkF m 5 #[.val (.ref y), .val (.ref d), .val (.int 0)] [(.ref y)])
  refine B (fun tgt kt => XS.aloadN S.here S.hx rfl (hb hby b_nb_d5) rfl rfl kt) ?_
  show F T (mkF m 6 #[.val (.ref y), .val (.ref d), .val (.int 0)] [(.ref d), (.ref y)])
  refine Sp.putO B S (hw _ (List.mem_of_getElem? (i := 24) rfl)) O (i := 0) rfl (ns := ["value", "coder"]) rfl (by decide) (Or.inr ⟨(hw _ (List.mem_of_getElem? (i := 20) rfl)), rfl, hnm⟩) (hw _ (List.mem_of_getElem? (i := 5) rfl)) (ty := (.array .byte)) (by decide) (v' := .ref d) rfl rfl (by simp) (hb hby b_nb_d6) fun T h1 S K O => ?_
  replace O : Ob Z a0 h1 y "java/lang/String" [("java/lang/String", "value", "[B", (.ref d)), ("java/lang/String", "coder", "B", c0)] := O
  show F T (mkF m 9 #[.val (.ref y), .val (.ref d), .val (.int 0)] [])
  replace KK := KK.trans K (qk1 (by first | (refine Or.inl ?_; simp; done) | (refine Or.inr ?_; omega)))
  refine B (fun tgt kt => XS.aloadN S.here S.hx rfl (hb hby b_nb_d9) rfl rfl kt) ?_
  show F T (mkF m 10 #[.val (.ref y), .val (.ref d), .val (.int 0)] [(.ref y)])
  refine B (fun tgt kt => XS.iloadN S.here S.hx rfl (hb hby b_nb_d10) rfl kt) ?_
  show F T (mkF m 11 #[.val (.ref y), .val (.ref d), .val (.int 0)] [(.int 0), (.ref y)])
  refine Sp.putO B S (hw _ (List.mem_of_getElem? (i := 25) rfl)) O (i := 1) rfl (ns := ["value", "coder"]) rfl (by decide) (Or.inr ⟨(hw _ (List.mem_of_getElem? (i := 21) rfl)), rfl, hnm⟩) (hw _ (List.mem_of_getElem? (i := 5) rfl)) (ty := .byte) (by decide) (v' := .int 0) rfl rfl (by simp) (hb hby b_nb_d11) fun T h2 S K O => ?_
  replace O : Ob Z a0 h2 y "java/lang/String" [("java/lang/String", "value", "[B", (.ref d)), ("java/lang/String", "coder", "B", (.int 0))] := O
  show F T (mkF m 14 #[.val (.ref y), .val (.ref d), .val (.int 0)] [])
  replace KK := KK.trans K (qk1 (by first | (refine Or.inl ?_; simp; done) | (refine Or.inr ?_; omega)))
  exact hF (S.ret hr hlk (hb hby b_nb_d14) (nw := []) ⟨rfl, rfl, KK, O⟩ (by simp))
theorem b_vo_d0 : decode jdk_42_method_139_code 0 = .ok (.getstatic 38, 3) := by decide +kernel
theorem b_vo_d3 : decode jdk_42_method_139_code 3 = .ok (.ifCond .eq 23, 3) := by decide +kernel
theorem b_vo_d6 : decode jdk_42_method_139_code 6 = .ok (.iload_n 0, 1) := by decide +kernel
theorem b_vo_d7 : decode jdk_42_method_139_code 7 = .ok (.invokestatic 1015, 3) := by decide +kernel
theorem b_vo_d10 : decode jdk_42_method_139_code 10 = .ok (.ifCond .eq 16, 3) := by decide +kernel
theorem b_vo_d13 : decode jdk_42_method_139_code 13 = .ok (.new 10, 3) := by decide +kernel
theorem b_vo_d16 : decode jdk_42_method_139_code 16 = .ok (.dup, 1) := by decide +kernel
theorem b_vo_d17 : decode jdk_42_method_139_code 17 = .ok (.iload_n 0, 1) := by decide +kernel
theorem b_vo_d18 : decode jdk_42_method_139_code 18 = .ok (.invokestatic 1018, 3) := by decide +kernel
theorem b_vo_d21 : decode jdk_42_method_139_code 21 = .ok (.iconst 0, 1) := by decide +kernel
theorem b_vo_d22 : decode jdk_42_method_139_code 22 = .ok (.invokespecial 209, 3) := by decide +kernel
theorem b_vo_d25 : decode jdk_42_method_139_code 25 = .ok (.areturn, 1) := by decide +kernel
theorem b_vo_p209 : parseMethodDescriptor "([BB)V" = some ⟨[(.array .byte), .byte], none⟩ := by decide +kernel
theorem b_vo_p1015 : parseMethodDescriptor "(C)Z" = some ⟨[.char], (some .boolean)⟩ := by decide +kernel
theorem b_vo_p1018 : parseMethodDescriptor "(C)[B" = some ⟨[.char], (some (.array .byte))⟩ := by decide +kernel
theorem b_vo_ef (m : MethodId) (q : Int32) : entryFrame m #[(.int q)] 1 = mkF m 0 #[.val (.int q)] [] := by first | (simp [entryFrame, mkF, argsToLocals, Value.category]; done) | rfl
theorem b_vo_pn : plainFor (⟨"java/lang/String", "valueOf", "(C)Ljava/lang/String;"⟩ : MethodName) = true := by first | exact plainFor_of_name (by first | (simp [plainName, overriddenIn]; done) | decide +kernel) | decide +kernel
set_option maxRecDepth 65536 in
set_option maxHeartbeats 40000000 in
theorem b_vo (l : Launch) (Z : State) (a0 : Array Value) (EL : List (String × Nat)) (hw : ∀ d ∈ tables_1, d.before a0 Z = true) (hEW : EW Z a0 EL) (h : Heap) (zc : Int32) (CS : Sta Z Z.heap "java/lang/String" "COMPACT_STRINGS" "Z" (.int zc)) (hzc : ¬ zc = 0) (q : Int32) (hq : ¬ q < 0 ∧ ¬ (255 : Int32) < q) :
    Con l Z EL (⟨"java/lang/String", "valueOf", "(C)Ljava/lang/String;"⟩ : MethodName) jdk_42_method_139_code 1 (some (.object "java/lang/String")) ({ frames := 2, cells := 2, slots := 5, locals := 27 } : Room) #[(.int q)] h [] (fun v h' nw => ∃ y ty, v = some (.ref y) ∧ nw = [] ∧ Keep h h' [] ∧ own_L Z h' y ty [q]) := by
  refine Con.of b_vo_pn hEW ?_
  intro p e s m below meth c T F B hF hby hml hr hlk hnm S
  rw [b_vo_ef]
  show F T (mkF m 0 #[.val (.int q)] [])
  have KK := Keep.refl h []
  refine Sp.getS B S (hw _ (List.mem_of_getElem? (i := 85) rfl)) Via.refl CS (hb hby b_vo_d0) fun T S => ?_
  show F T (mkF m 3 #[.val (.int q)] [(.int zc)])
  refine B (fun tgt kt => XS.ifNo S.here S.hx rfl (hb hby b_vo_d3) rfl (i0_eq_f hzc) kt) ?_
  show F T (mkF m 6 #[.val (.int q)] [])
  refine B (fun tgt kt => XS.iloadN S.here S.hx rfl (hb hby b_vo_d6) rfl kt) ?_
  show F T (mkF m 7 #[.val (.int q)] [(.int q)])
  refine Sp.static B S (y := (⟨"java/lang/StringLatin1", "canEncode", "(C)Z"⟩ : MethodName)) (argsL := [(.int q)]) (rest := []) (hw _ (List.mem_of_getElem? (i := 195) rfl)) (hw _ (List.mem_of_getElem? (i := 196) rfl)) (hw _ (List.mem_of_getElem? (i := 172) rfl)) (hw _ (List.mem_of_getElem? (i := 197) rfl)) (by decide) (Call.con (W := 0) (b_ce l Z a0 EL hw hEW _ q hq.2) (hw _ (List.mem_of_getElem? (i := 197) rfl)) (hw _ (List.mem_of_getElem? (i := 172) rfl)) (by decide) (by decide)) (by simp) (by decide) (by decide) (by rw [hml]; rfl) (lenOf b_vo_p1015 rfl) rfl (Nat.le_of_eq rfl) (hb hby b_vo_d7) fun v T h1 nw S hQ => ?_
  obtain ⟨rfl, rfl, rfl⟩ := hQ
  show F T (mkF m 10 #[.val (.int q)] [(.int 1)])
  refine B (fun tgt kt => XS.ifNo S.here S.hx rfl (hb hby b_vo_d10) rfl (i0_eq_f (by decide)) kt) ?_
  show F T (mkF m 13 #[.val (.int q)] [])
  refine Sp.newO B S (hw _ (List.mem_of_getElem? (i := 198) rfl)) (hw _ (List.mem_of_getElem? (i := 5) rfl)) (hw _ (List.mem_of_getElem? (i := 6) rfl)) (hb hby b_vo_d13) (by decide) (by decide) fun T h2 y S E gy Ay D => ?_
  have O : Ob Z a0 h2 y "java/lang/String" [("java/lang/String", "value", "[B", .null), ("java/lang/String", "coder", "B", (.int 0))] := Ob.new Ay D [("java/lang/String", "value", "[B", (.array .byte)), ("java/lang/String", "coder", "B", .byte)] (all_cons ⟨(Or.inr (hw _ (List.mem_of_getElem? (i := 20) rfl))), by decide⟩ (all_cons ⟨(Or.inr (hw _ (List.mem_of_getElem? (i := 21) rfl))), by decide⟩ all_nil))
  show F T (mkF m 16 #[.val (.int q)] [(.ref y)])
  replace KK := KK.ext E
  have ly := natlt O.lt
  refine B (fun tgt kt => XS.dup S.here S.hx rfl (hb hby b_vo_d16) rfl rfl kt) ?_
  show F T (mkF m 17 #[.val (.int q)] [(.ref y), (.ref y)])
  refine B (fun tgt kt => XS.iloadN S.here S.hx rfl (hb hby b_vo_d17) rfl kt) ?_
  show F T (mkF m 18 #[.val (.int q)] [(.int q), (.ref y), (.ref y)])
  refine Sp.static B S (y := (⟨"java/lang/StringLatin1", "toBytes", "(C)[B"⟩ : MethodName)) (argsL := [(.int q)]) (rest := [(.ref y), (.ref y)]) (hw _ (List.mem_of_getElem? (i := 199) rfl)) (hw _ (List.mem_of_getElem? (i := 200) rfl)) (hw _ (List.mem_of_getElem? (i := 172) rfl)) (hw _ (List.mem_of_getElem? (i := 201) rfl)) (by decide) (Call.con (W := 2) (b_tb l Z a0 EL hw hEW _ q) (hw _ (List.mem_of_getElem? (i := 201) rfl)) (hw _ (List.mem_of_getElem? (i := 172) rfl)) (by decide) (by decide)) (by simp) (by decide) (by decide) (by rw [hml]; rfl) (lenOf b_vo_p1018 rfl) rfl (Nat.le_of_eq rfl) (hb hby b_vo_d18) fun v T h3 nw S hQ => ?_
  obtain ⟨d, kd, rfl, rfl, gd, K, Vd⟩ := hQ
  replace KK := KK.trans K (fun x hx => nomatch hx)
  replace O := O.keep K (by simp)
  show F T (mkF m 21 #[.val (.int q)] [(.ref d), (.ref y), (.ref y)])
  refine B (fun tgt kt => XS.iconst S.here S.hx rfl (hb hby b_vo_d21) kt) ?_
  show F T (mkF m 22 #[.val (.int q)] [(.int (0 : Int32)), (.ref d), (.ref y), (.ref y)])
  refine Sp.special B S (y := (⟨"java/lang/String", "<init>", "([BB)V"⟩ : MethodName)) (argsL := [(.ref d), (.int (0 : Int32))]) (rest := [(.ref y)]) rfl (hw _ (List.mem_of_getElem? (i := 202) rfl)) (hw _ (List.mem_of_getElem? (i := 203) rfl)) (hw _ (List.mem_of_getElem? (i := 204) rfl)) (by decide) (Call.con (W := 1) (b_nb l Z a0 EL hw hEW _ y d _ _ O) (hw _ (List.mem_of_getElem? (i := 204) rfl)) (hw _ (List.mem_of_getElem? (i := 6) rfl)) (by decide) (by decide)) (by simp) (by decide) (by decide) (by rw [hml]; rfl) (lenOf b_vo_p209 rfl) rfl (Nat.le_of_eq rfl) (hb hby b_vo_d22) fun v T h4 nw S hQ => ?_
  obtain ⟨rfl, rfl, K, O⟩ := hQ
  replace KK := KK.trans K (qk1 (by first | (refine Or.inl ?_; simp; done) | (refine Or.inr ?_; omega)))
  replace Vd := Vd.keep K (nin1 (by omega))
  show F T (mkF m 25 #[.val (.int q)] [(.ref y)])
  exact hF (S.retA hr hlk rfl rfl (hb hby b_vo_d25) (nw := []) ⟨y, d, rfl, rfl, KK, O.1, O.f (i := 0) rfl, O.f (i := 1) rfl, kd, Vd⟩ (by simp))
theorem b_mk_d0 : decode method_3_code 0 = .ok (.iload_n 0, 1) := by decide +kernel
theorem b_mk_d1 : decode method_3_code 1 = .ok (.ifCond .ne 14, 3) := by decide +kernel
theorem b_mk_d4 : decode method_3_code 4 = .ok (.new 23, 3) := by decide +kernel
theorem b_mk_d7 : decode method_3_code 7 = .ok (.dup, 1) := by decide +kernel
theorem b_mk_d8 : decode method_3_code 8 = .ok (.iconst 0, 1) := by decide +kernel
theorem b_mk_d9 : decode method_3_code 9 = .ok (.newarray .char, 2) := by decide +kernel
theorem b_mk_d11 : decode method_3_code 11 = .ok (.invokespecial 32, 3) := by decide +kernel
theorem b_mk_d14 : decode method_3_code 14 = .ok (.areturn, 1) := by decide +kernel
theorem b_mk_d15 : decode method_3_code 15 = .ok (.iload_n 0, 1) := by decide +kernel
theorem b_mk_d16 : decode method_3_code 16 = .ok (.iconst 1, 1) := by decide +kernel
theorem b_mk_d17 : decode method_3_code 17 = .ok (.if_icmp .ne 8, 3) := by decide +kernel
theorem b_mk_d20 : decode method_3_code 20 = .ok (.iload_n 1, 1) := by decide +kernel
theorem b_mk_d21 : decode method_3_code 21 = .ok (.invokestatic 35, 3) := by decide +kernel
theorem b_mk_d24 : decode method_3_code 24 = .ok (.areturn, 1) := by decide +kernel
theorem b_mk_d25 : decode method_3_code 25 = .ok (.new 23, 3) := by decide +kernel
theorem b_mk_d28 : decode method_3_code 28 = .ok (.dup, 1) := by decide +kernel
theorem b_mk_d29 : decode method_3_code 29 = .ok (.iconst 2, 1) := by decide +kernel
theorem b_mk_d30 : decode method_3_code 30 = .ok (.newarray .char, 2) := by decide +kernel
theorem b_mk_d32 : decode method_3_code 32 = .ok (.dup, 1) := by decide +kernel
theorem b_mk_d33 : decode method_3_code 33 = .ok (.iconst 0, 1) := by decide +kernel
theorem b_mk_d34 : decode method_3_code 34 = .ok (.iload_n 1, 1) := by decide +kernel
theorem b_mk_d35 : decode method_3_code 35 = .ok (.castore, 1) := by decide +kernel
theorem b_mk_d36 : decode method_3_code 36 = .ok (.dup, 1) := by decide +kernel
theorem b_mk_d37 : decode method_3_code 37 = .ok (.iconst 1, 1) := by decide +kernel
theorem b_mk_d38 : decode method_3_code 38 = .ok (.iload_n 2, 1) := by decide +kernel
theorem b_mk_d39 : decode method_3_code 39 = .ok (.castore, 1) := by decide +kernel
theorem b_mk_d40 : decode method_3_code 40 = .ok (.invokespecial 32, 3) := by decide +kernel
theorem b_mk_d43 : decode method_3_code 43 = .ok (.areturn, 1) := by decide +kernel
theorem b_mk_p32 : parseMethodDescriptor "([C)V" = some ⟨[(.array .char)], none⟩ := by decide +kernel
theorem b_mk_p35 : parseMethodDescriptor "(C)Ljava/lang/String;" = some ⟨[.char], (some (.object "java/lang/String"))⟩ := by decide +kernel
theorem b_mk_ef (m : MethodId) (n u z2 : Int32) : entryFrame m #[(.int n), (.int u), (.int z2)] 3 = mkF m 0 #[.val (.int n), .val (.int u), .val (.int z2)] [] := by first | (simp [entryFrame, mkF, argsToLocals, Value.category]; done) | rfl
theorem b_mk_pn : plainFor (⟨"org/triplebridge/mapping/ColumnSqlPinLaw", "make", "(ICC)Ljava/lang/String;"⟩ : MethodName) = true := by first | exact plainFor_of_name (by first | (simp [plainName, overriddenIn]; done) | decide +kernel) | decide +kernel
set_option maxRecDepth 65536 in
set_option maxHeartbeats 40000000 in
theorem b_mk (l : Launch) (Z : State) (a0 : Array Value) (EL : List (String × Nat)) (hw : ∀ d ∈ tables_1, d.before a0 Z = true) (hEW : EW Z a0 EL) (h : Heap) (hS : ∀ d ∈ Bundle.stringAtoms, d.before a0 Z = true) (hmem : ("java/lang/String", 7) ∈ EL) (zc : Int32) (CS : Sta Z Z.heap "java/lang/String" "COMPACT_STRINGS" "Z" (.int zc)) (hzc : ¬ zc = 0) (n u z2 : Int32) (hn : n = 0 ∨ n = 1 ∨ n = 2) (hu : ¬ u < 0 ∧ ¬ (255 : Int32) < u) (hz2 : ¬ z2 < 0 ∧ ¬ (255 : Int32) < z2) :
    Con l Z EL (⟨"org/triplebridge/mapping/ColumnSqlPinLaw", "make", "(ICC)Ljava/lang/String;"⟩ : MethodName) method_3_code 3 (some (.object "java/lang/String")) ({ frames := 4, cells := 6, slots := 30, locals := 66 } : Room) #[(.int n), (.int u), (.int z2)] h [] (fun v h' nw => ∃ y ty, v = some (.ref y) ∧ nw = [] ∧ Keep h h' [] ∧ own_L Z h' y ty (own_mk n u z2)) := by
  refine Con.of b_mk_pn hEW ?_
  intro p e s m below meth c T F B hF hby hml hr hlk hnm S
  rw [b_mk_ef]
  show F T (mkF m 0 #[.val (.int n), .val (.int u), .val (.int z2)] [])
  have KK := Keep.refl h []
  rcases hn with rfl | rfl | rfl
  ·
    show F T (mkF m 0 #[.val (.int 0), .val (.int u), .val (.int z2)] [])
    refine B (fun tgt kt => XS.iloadN S.here S.hx rfl (hb hby b_mk_d0) rfl kt) ?_
    show F T (mkF m 1 #[.val (.int 0), .val (.int u), .val (.int z2)] [(.int 0)])
    refine B (fun tgt kt => XS.ifNo S.here S.hx rfl (hb hby b_mk_d1) rfl (i0_ne_f rfl) kt) ?_
    show F T (mkF m 4 #[.val (.int 0), .val (.int u), .val (.int z2)] [])
    refine Sp.newO B S (hw _ (List.mem_of_getElem? (i := 4) rfl)) (hw _ (List.mem_of_getElem? (i := 5) rfl)) (hw _ (List.mem_of_getElem? (i := 6) rfl)) (hb hby b_mk_d4) (by decide) (by decide) fun T h1 y S E gy Ay D => ?_
    have O : Ob Z a0 h1 y "java/lang/String" [("java/lang/String", "value", "[B", .null), ("java/lang/String", "coder", "B", (.int 0))] := Ob.new Ay D [("java/lang/String", "value", "[B", (.array .byte)), ("java/lang/String", "coder", "B", .byte)] (all_cons ⟨(Or.inr (hw _ (List.mem_of_getElem? (i := 20) rfl))), by decide⟩ (all_cons ⟨(Or.inr (hw _ (List.mem_of_getElem? (i := 21) rfl))), by decide⟩ all_nil))
    show F T (mkF m 7 #[.val (.int 0), .val (.int u), .val (.int z2)] [(.ref y)])
    replace KK := KK.ext E
    have ly := natlt O.lt
    refine B (fun tgt kt => XS.dup S.here S.hx rfl (hb hby b_mk_d7) rfl rfl kt) ?_
    show F T (mkF m 8 #[.val (.int 0), .val (.int u), .val (.int z2)] [(.ref y), (.ref y)])
    refine B (fun tgt kt => XS.iconst S.here S.hx rfl (hb hby b_mk_d8) kt) ?_
    show F T (mkF m 9 #[.val (.int 0), .val (.int u), .val (.int z2)] [(.int (0 : Int32)), (.ref y), (.ref y)])
    refine Sp.newP B S (cap := 0) (hw _ (List.mem_of_getElem? (i := 7) rfl)) (hb hby b_mk_d9) (by decide) (by decide) (by decide) (by decide) (by decide) (ad := "[C") (by decide) fun T h2 b kb S E gb Xb V => ?_
    show F T (mkF m 11 #[.val (.int 0), .val (.int u), .val (.int z2)] [(.ref b), (.ref y), (.ref y)])
    replace O := O.ext E
    replace KK := KK.ext E
    have hcs : ∀ q ∈ ([] : List Int32), ¬ q < 0 ∧ ¬ (255 : Int32) < q := all_nil
    refine Sp.special B S (y := (⟨"java/lang/String", "<init>", "([C)V"⟩ : MethodName)) (argsL := [(.ref b)]) (rest := [(.ref y)]) rfl (hw _ (List.mem_of_getElem? (i := 8) rfl)) (hw _ (List.mem_of_getElem? (i := 9) rfl)) (hw _ (List.mem_of_getElem? (i := 10) rfl)) (by decide) (own_new (W := 1) Z a0 EL hw hEW _ hS hmem zc CS hzc [] (by show 0 ≤ 8; decide) hcs y b (natne (by omega)) (S.isnew (by simp)) S.old _ _ O kb _ V (by decide) (by decide)) (by simp) (by decide) (by decide) (by rw [hml]; rfl) (lenOf b_mk_p32 rfl) rfl (Nat.le_of_eq rfl) (hb hby b_mk_d11) fun v T h3 nw S hQ => ?_
    obtain ⟨rfl, rfl, K, ty, ne, G⟩ := hQ
    replace KK := KK.trans K (qk1 (by first | (refine Or.inl ?_; simp; done) | (refine Or.inr ?_; omega)))
    show F T (mkF m 14 #[.val (.int 0), .val (.int u), .val (.int z2)] [(.ref y)])
    exact hF ((S.mono (by decide) (by decide)).retA hr hlk rfl rfl (hb hby b_mk_d14) (nw := []) ⟨y, ty, rfl, rfl, KK, own_toL G hcs⟩ (by simp))
  ·
    show F T (mkF m 0 #[.val (.int 1), .val (.int u), .val (.int z2)] [])
    refine B (fun tgt kt => XS.iloadN S.here S.hx rfl (hb hby b_mk_d0) rfl kt) ?_
    show F T (mkF m 1 #[.val (.int 1), .val (.int u), .val (.int z2)] [(.int 1)])
    refine B (fun tgt kt => XS.ifYes S.here S.hx rfl (pc0 := 1) (pc' := 15) rfl (hb hby b_mk_d1) rfl (i0_ne_t (by decide)) (by decide) (by decide) kt) ?_
    show F T (mkF m 15 #[.val (.int 1), .val (.int u), .val (.int z2)] [])
    refine B (fun tgt kt => XS.iloadN S.here S.hx rfl (hb hby b_mk_d15) rfl kt) ?_
    show F T (mkF m 16 #[.val (.int 1), .val (.int u), .val (.int z2)] [(.int 1)])
    refine B (fun tgt kt => XS.iconst S.here S.hx rfl (hb hby b_mk_d16) kt) ?_
    show F T (mkF m 17 #[.val (.int 1), .val (.int u), .val (.int z2)] [(.int (1 : Int32)), (.int 1)])
    refine B (fun tgt kt => XS.icmpNo S.here S.hx rfl (hb hby b_mk_d17) rfl (ii_ne_f rfl) kt) ?_
    show F T (mkF m 20 #[.val (.int 1), .val (.int u), .val (.int z2)] [])
    refine B (fun tgt kt => XS.iloadN S.here S.hx rfl (hb hby b_mk_d20) rfl kt) ?_
    show F T (mkF m 21 #[.val (.int 1), .val (.int u), .val (.int z2)] [(.int u)])
    refine Sp.static B S (y := (⟨"java/lang/String", "valueOf", "(C)Ljava/lang/String;"⟩ : MethodName)) (argsL := [(.int u)]) (rest := []) (hw _ (List.mem_of_getElem? (i := 192) rfl)) (hw _ (List.mem_of_getElem? (i := 193) rfl)) (hw _ (List.mem_of_getElem? (i := 6) rfl)) (hw _ (List.mem_of_getElem? (i := 194) rfl)) (by decide) (Call.con (W := 0) (b_vo l Z a0 EL hw hEW _ zc CS hzc u hu) (hw _ (List.mem_of_getElem? (i := 194) rfl)) (hw _ (List.mem_of_getElem? (i := 6) rfl)) (by decide) (by decide)) (by simp) (by decide) (by decide) (by rw [hml]; rfl) (lenOf b_mk_p35 rfl) rfl (Nat.le_of_eq rfl) (hb hby b_mk_d21) fun v T h1 nw S hQ => ?_
    obtain ⟨y, ty, rfl, rfl, K, G⟩ := hQ
    show F T (mkF m 24 #[.val (.int 1), .val (.int u), .val (.int z2)] [(.ref y)])
    exact hF ((S.mono (by decide) (by decide)).retA hr hlk rfl rfl (hb hby b_mk_d24) (nw := []) ⟨y, ty, rfl, rfl, K, G⟩ (by simp))
  ·
    show F T (mkF m 0 #[.val (.int 2), .val (.int u), .val (.int z2)] [])
    refine B (fun tgt kt => XS.iloadN S.here S.hx rfl (hb hby b_mk_d0) rfl kt) ?_
    show F T (mkF m 1 #[.val (.int 2), .val (.int u), .val (.int z2)] [(.int 2)])
    refine B (fun tgt kt => XS.ifYes S.here S.hx rfl (pc0 := 1) (pc' := 15) rfl (hb hby b_mk_d1) rfl (i0_ne_t (by decide)) (by decide) (by decide) kt) ?_
    show F T (mkF m 15 #[.val (.int 2), .val (.int u), .val (.int z2)] [])
    refine B (fun tgt kt => XS.iloadN S.here S.hx rfl (hb hby b_mk_d15) rfl kt) ?_
    show F T (mkF m 16 #[.val (.int 2), .val (.int u), .val (.int z2)] [(.int 2)])
    refine B (fun tgt kt => XS.iconst S.here S.hx rfl (hb hby b_mk_d16) kt) ?_
    show F T (mkF m 17 #[.val (.int 2), .val (.int u), .val (.int z2)] [(.int (1 : Int32)), (.int 2)])
    refine B (fun tgt kt => XS.icmpYes S.here S.hx rfl (pc0 := 17) (pc' := 25) rfl (hb hby b_mk_d17) rfl (ii_ne_t (by decide)) (by decide) (by decide) kt) ?_
    show F T (mkF m 25 #[.val (.int 2), .val (.int u), .val (.int z2)] [])
    refine Sp.newO B S (hw _ (List.mem_of_getElem? (i := 4) rfl)) (hw _ (List.mem_of_getElem? (i := 5) rfl)) (hw _ (List.mem_of_getElem? (i := 6) rfl)) (hb hby b_mk_d25) (by decide) (by decide) fun T h1 y S E gy Ay D => ?_
    have O : Ob Z a0 h1 y "java/lang/String" [("java/lang/String", "value", "[B", .null), ("java/lang/String", "coder", "B", (.int 0))] := Ob.new Ay D [("java/lang/String", "value", "[B", (.array .byte)), ("java/lang/String", "coder", "B", .byte)] (all_cons ⟨(Or.inr (hw _ (List.mem_of_getElem? (i := 20) rfl))), by decide⟩ (all_cons ⟨(Or.inr (hw _ (List.mem_of_getElem? (i := 21) rfl))), by decide⟩ all_nil))
    show F T (mkF m 28 #[.val (.int 2), .val (.int u), .val (.int z2)] [(.ref y)])
    replace KK := KK.ext E
    have ly := natlt O.lt
    refine B (fun tgt kt => XS.dup S.here S.hx rfl (hb hby b_mk_d28) rfl rfl kt) ?_
    show F T (mkF m 29 #[.val (.int 2), .val (.int u), .val (.int z2)] [(.ref y), (.ref y)])
    refine B (fun tgt kt => XS.iconst S.here S.hx rfl (hb hby b_mk_d29) kt) ?_
    show F T (mkF m 30 #[.val (.int 2), .val (.int u), .val (.int z2)] [(.int (2 : Int32)), (.ref y), (.ref y)])
    refine Sp.newP B S (cap := 2) (hw _ (List.mem_of_getElem? (i := 7) rfl)) (hb hby b_mk_d30) (by decide) (by decide) (by decide) (by decide) (by decide) (ad := "[C") (by decide) fun T h2 b kb S E gb Xb V => ?_
    show F T (mkF m 32 #[.val (.int 2), .val (.int u), .val (.int z2)] [(.ref b), (.ref y), (.ref y)])
    replace O := O.ext E
    replace KK := KK.ext E
    replace V : Arv Z h2 b kb .char 2 [.int 0, .int 0] (.int 0) := V.pad (pad_rep [] (.int 0) 2)
    refine B (fun tgt kt => XS.dup S.here S.hx rfl (hb hby b_mk_d32) rfl rfl kt) ?_
    show F T (mkF m 33 #[.val (.int 2), .val (.int u), .val (.int z2)] [(.ref b), (.ref b), (.ref y), (.ref y)])
    refine B (fun tgt kt => XS.iconst S.here S.hx rfl (hb hby b_mk_d33) kt) ?_
    show F T (mkF m 34 #[.val (.int 2), .val (.int u), .val (.int z2)] [(.int (0 : Int32)), (.ref b), (.ref b), (.ref y), (.ref y)])
    refine B (fun tgt kt => XS.iloadN S.here S.hx rfl (hb hby b_mk_d34) rfl kt) ?_
    show F T (mkF m 35 #[.val (.int 2), .val (.int u), .val (.int z2)] [(.int u), (.int (0 : Int32)), (.ref b), (.ref b), (.ref y), (.ref y)])
    refine Sp.stC B S V (i := 0) (by decide) (by decide) (by simp) (own_narc hu) (by simp) (hb hby b_mk_d35) fun T h3 S W V => ?_
    replace V : Arv Z h3 b kb .char 2 [.int u, .int 0] (.int 0) := V
    replace O := O.other W (natne (by omega))
    replace KK := KK.wr W (Or.inr (by omega))
    show F T (mkF m 36 #[.val (.int 2), .val (.int u), .val (.int z2)] [(.ref b), (.ref y), (.ref y)])
    refine B (fun tgt kt => XS.dup S.here S.hx rfl (hb hby b_mk_d36) rfl rfl kt) ?_
    show F T (mkF m 37 #[.val (.int 2), .val (.int u), .val (.int z2)] [(.ref b), (.ref b), (.ref y), (.ref y)])
    refine B (fun tgt kt => XS.iconst S.here S.hx rfl (hb hby b_mk_d37) kt) ?_
    show F T (mkF m 38 #[.val (.int 2), .val (.int u), .val (.int z2)] [(.int (1 : Int32)), (.ref b), (.ref b), (.ref y), (.ref y)])
    refine B (fun tgt kt => XS.iloadN S.here S.hx rfl (hb hby b_mk_d38) rfl kt) ?_
    show F T (mkF m 39 #[.val (.int 2), .val (.int u), .val (.int z2)] [(.int z2), (.int (1 : Int32)), (.ref b), (.ref b), (.ref y), (.ref y)])
    refine Sp.stC B S V (i := 1) (by decide) (by decide) (by simp) (own_narc hz2) (by simp) (hb hby b_mk_d39) fun T h4 S W V => ?_
    replace V : Arv Z h4 b kb .char 2 [.int u, .int z2] (.int 0) := V
    replace O := O.other W (natne (by omega))
    replace KK := KK.wr W (Or.inr (by omega))
    show F T (mkF m 40 #[.val (.int 2), .val (.int u), .val (.int z2)] [(.ref b), (.ref y), (.ref y)])
    have hcs : ∀ q ∈ ([u, z2] : List Int32), ¬ q < 0 ∧ ¬ (255 : Int32) < q := all_cons hu (all_cons hz2 all_nil)
    refine Sp.special B S (y := (⟨"java/lang/String", "<init>", "([C)V"⟩ : MethodName)) (argsL := [(.ref b)]) (rest := [(.ref y)]) rfl (hw _ (List.mem_of_getElem? (i := 8) rfl)) (hw _ (List.mem_of_getElem? (i := 9) rfl)) (hw _ (List.mem_of_getElem? (i := 10) rfl)) (by decide) (own_new (W := 1) Z a0 EL hw hEW _ hS hmem zc CS hzc [u, z2] (by show 2 ≤ 8; decide) hcs y b (natne (by omega)) (S.isnew (by simp)) S.old _ _ O kb _ V (by decide) (by decide)) (by simp) (by decide) (by decide) (by rw [hml]; rfl) (lenOf b_mk_p32 rfl) rfl (Nat.le_of_eq rfl) (hb hby b_mk_d40) fun v T h5 nw S hQ => ?_
    obtain ⟨rfl, rfl, K, ty, ne, G⟩ := hQ
    replace KK := KK.trans K (qk1 (by first | (refine Or.inl ?_; simp; done) | (refine Or.inr ?_; omega)))
    show F T (mkF m 43 #[.val (.int 2), .val (.int u), .val (.int z2)] [(.ref y)])
    exact hF ((S.mono (by decide) (by decide)).retA hr hlk rfl rfl (hb hby b_mk_d43) (nw := []) ⟨y, ty, rfl, rfl, KK, own_toL G hcs⟩ (by simp))
theorem y_pi0_d0 : decode jdk_41_method_11_code 0 = .ok (.iload_n 0, 1) := by decide +kernel
theorem y_pi0_d1 : decode jdk_41_method_11_code 1 = .ok (.ifCond .lt 8, 3) := by decide +kernel
theorem y_pi0_d4 : decode jdk_41_method_11_code 4 = .ok (.iload_n 0, 1) := by decide +kernel
theorem y_pi0_d5 : decode jdk_41_method_11_code 5 = .ok (.iload_n 1, 1) := by decide +kernel
theorem y_pi0_d6 : decode jdk_41_method_11_code 6 = .ok (.if_icmp .lt 10, 3) := by decide +kernel
theorem y_pi0_d16 : decode jdk_41_method_11_code 16 = .ok (.iload_n 0, 1) := by decide +kernel
theorem y_pi0_d17 : decode jdk_41_method_11_code 17 = .ok (.ireturn, 1) := by decide +kernel
theorem y_pi0_ef (m : MethodId) (i n : Nat) : entryFrame m #[(.int (Int32.ofNat i)), (.int (Int32.ofNat n)), (.null)] 3 = mkF m 0 #[.val (.int (Int32.ofNat i)), .val (.int (Int32.ofNat n)), .val (.null)] [] := by first | (simp [entryFrame, mkF, argsToLocals, Value.category]; done) | rfl
theorem y_pi0_pn : plainFor (⟨"jdk/internal/util/Preconditions", "checkIndex", "(IILjava/util/function/BiFunction;)I"⟩ : MethodName) = true := by first | exact plainFor_of_name (by first | (simp [plainName, overriddenIn]; done) | decide +kernel) | decide +kernel
set_option maxRecDepth 65536 in
set_option maxHeartbeats 40000000 in
theorem y_pi0 (l : Launch) (Z : State) (a0 : Array Value) (EL : List (String × Nat)) (hw : ∀ d ∈ tables_1, d.before a0 Z = true) (hEW : EW Z a0 EL) (h : Heap) (i n : Nat) (hi : i < n) (hn : n ≤ 8) :
    Con l Z EL (⟨"jdk/internal/util/Preconditions", "checkIndex", "(IILjava/util/function/BiFunction;)I"⟩ : MethodName) jdk_41_method_11_code 3 (some .int) ({ frames := 0, cells := 0, slots := 0, locals := 0 } : Room) #[(.int (Int32.ofNat i)), (.int (Int32.ofNat n)), (.null)] h [] (fun v h' nw => v = some (.int (Int32.ofNat i)) ∧ nw = [] ∧ h = h') := by
  refine Con.of y_pi0_pn hEW ?_
  intro p e s m below meth c T F B hF hby hml hr hlk hnm S
  rw [y_pi0_ef]
  show F T (mkF m 0 #[.val (.int (Int32.ofNat i)), .val (.int (Int32.ofNat n)), .val (.null)] [])
  refine B (fun tgt kt => XS.iloadN S.here S.hx rfl (hb hby y_pi0_d0) rfl kt) ?_
  show F T (mkF m 1 #[.val (.int (Int32.ofNat i)), .val (.int (Int32.ofNat n)), .val (.null)] [(.int (Int32.ofNat i))])
  refine B (fun tgt kt => XS.ifNo S.here S.hx rfl (hb hby y_pi0_d1) rfl (i0_lt_f (own_nn i (by omega))) kt) ?_
  show F T (mkF m 4 #[.val (.int (Int32.ofNat i)), .val (.int (Int32.ofNat n)), .val (.null)] [])
  refine B (fun tgt kt => XS.iloadN S.here S.hx rfl (hb hby y_pi0_d4) rfl kt) ?_
  show F T (mkF m 5 #[.val (.int (Int32.ofNat i)), .val (.int (Int32.ofNat n)), .val (.null)] [(.int (Int32.ofNat i))])
  refine B (fun tgt kt => XS.iloadN S.here S.hx rfl (hb hby y_pi0_d5) rfl kt) ?_
  show F T (mkF m 6 #[.val (.int (Int32.ofNat i)), .val (.int (Int32.ofNat n)), .val (.null)] [(.int (Int32.ofNat n)), (.int (Int32.ofNat i))])
  refine B (fun tgt kt => XS.icmpYes S.here S.hx rfl (pc0 := 6) (pc' := 16) rfl (hb hby y_pi0_d6) rfl (ii_lt_t (own_sm hi (by omega))) (by decide) (by decide) kt) ?_
  show F T (mkF m 16 #[.val (.int (Int32.ofNat i)), .val (.int (Int32.ofNat n)), .val (.null)] [])
  refine B (fun tgt kt => XS.iloadN S.here S.hx rfl (hb hby y_pi0_d16) rfl kt) ?_
  show F T (mkF m 17 #[.val (.int (Int32.ofNat i)), .val (.int (Int32.ofNat n)), .val (.null)] [(.int (Int32.ofNat i))])
  exact hF (S.retI hr hlk (by simp) rfl (hb hby y_pi0_d17) (nw := []) ⟨rfl, rfl, rfl⟩ (by simp))
theorem y_pi1_d0 : decode jdk_41_method_11_code 0 = .ok (.iload_n 0, 1) := by decide +kernel
theorem y_pi1_d1 : decode jdk_41_method_11_code 1 = .ok (.ifCond .lt 8, 3) := by decide +kernel
theorem y_pi1_d4 : decode jdk_41_method_11_code 4 = .ok (.iload_n 0, 1) := by decide +kernel
theorem y_pi1_d5 : decode jdk_41_method_11_code 5 = .ok (.iload_n 1, 1) := by decide +kernel
theorem y_pi1_d6 : decode jdk_41_method_11_code 6 = .ok (.if_icmp .lt 10, 3) := by decide +kernel
theorem y_pi1_d16 : decode jdk_41_method_11_code 16 = .ok (.iload_n 0, 1) := by decide +kernel
theorem y_pi1_d17 : decode jdk_41_method_11_code 17 = .ok (.ireturn, 1) := by decide +kernel
theorem y_pi1_ef (m : MethodId) (i n : Nat) (fa : Addr) : entryFrame m #[(.int (Int32.ofNat i)), (.int (Int32.ofNat n)), (.ref fa)] 3 = mkF m 0 #[.val (.int (Int32.ofNat i)), .val (.int (Int32.ofNat n)), .val (.ref fa)] [] := by first | (simp [entryFrame, mkF, argsToLocals, Value.category]; done) | rfl
theorem y_pi1_pn : plainFor (⟨"jdk/internal/util/Preconditions", "checkIndex", "(IILjava/util/function/BiFunction;)I"⟩ : MethodName) = true := by first | exact plainFor_of_name (by first | (simp [plainName, overriddenIn]; done) | decide +kernel) | decide +kernel
set_option maxRecDepth 65536 in
set_option maxHeartbeats 40000000 in
theorem y_pi1 (l : Launch) (Z : State) (a0 : Array Value) (EL : List (String × Nat)) (hw : ∀ d ∈ tables_1, d.before a0 Z = true) (hEW : EW Z a0 EL) (h : Heap) (i n : Nat) (hi : i < n) (hn : n ≤ 8) (fa : Addr) :
    Con l Z EL (⟨"jdk/internal/util/Preconditions", "checkIndex", "(IILjava/util/function/BiFunction;)I"⟩ : MethodName) jdk_41_method_11_code 3 (some .int) ({ frames := 0, cells := 0, slots := 0, locals := 0 } : Room) #[(.int (Int32.ofNat i)), (.int (Int32.ofNat n)), (.ref fa)] h [] (fun v h' nw => v = some (.int (Int32.ofNat i)) ∧ nw = [] ∧ h = h') := by
  refine Con.of y_pi1_pn hEW ?_
  intro p e s m below meth c T F B hF hby hml hr hlk hnm S
  rw [y_pi1_ef]
  show F T (mkF m 0 #[.val (.int (Int32.ofNat i)), .val (.int (Int32.ofNat n)), .val (.ref fa)] [])
  refine B (fun tgt kt => XS.iloadN S.here S.hx rfl (hb hby y_pi1_d0) rfl kt) ?_
  show F T (mkF m 1 #[.val (.int (Int32.ofNat i)), .val (.int (Int32.ofNat n)), .val (.ref fa)] [(.int (Int32.ofNat i))])
  refine B (fun tgt kt => XS.ifNo S.here S.hx rfl (hb hby y_pi1_d1) rfl (i0_lt_f (own_nn i (by omega))) kt) ?_
  show F T (mkF m 4 #[.val (.int (Int32.ofNat i)), .val (.int (Int32.ofNat n)), .val (.ref fa)] [])
  refine B (fun tgt kt => XS.iloadN S.here S.hx rfl (hb hby y_pi1_d4) rfl kt) ?_
  show F T (mkF m 5 #[.val (.int (Int32.ofNat i)), .val (.int (Int32.ofNat n)), .val (.ref fa)] [(.int (Int32.ofNat i))])
  refine B (fun tgt kt => XS.iloadN S.here S.hx rfl (hb hby y_pi1_d5) rfl kt) ?_
  show F T (mkF m 6 #[.val (.int (Int32.ofNat i)), .val (.int (Int32.ofNat n)), .val (.ref fa)] [(.int (Int32.ofNat n)), (.int (Int32.ofNat i))])
  refine B (fun tgt kt => XS.icmpYes S.here S.hx rfl (pc0 := 6) (pc' := 16) rfl (hb hby y_pi1_d6) rfl (ii_lt_t (own_sm hi (by omega))) (by decide) (by decide) kt) ?_
  show F T (mkF m 16 #[.val (.int (Int32.ofNat i)), .val (.int (Int32.ofNat n)), .val (.ref fa)] [])
  refine B (fun tgt kt => XS.iloadN S.here S.hx rfl (hb hby y_pi1_d16) rfl kt) ?_
  show F T (mkF m 17 #[.val (.int (Int32.ofNat i)), .val (.int (Int32.ofNat n)), .val (.ref fa)] [(.int (Int32.ofNat i))])
  exact hF (S.retI hr hlk (by simp) rfl (hb hby y_pi1_d17) (nw := []) ⟨rfl, rfl, rfl⟩ (by simp))
theorem y_si_d0 : decode jdk_42_method_155_code 0 = .ok (.iload_n 0, 1) := by decide +kernel
theorem y_si_d1 : decode jdk_42_method_155_code 1 = .ok (.iload_n 1, 1) := by decide +kernel
theorem y_si_d2 : decode jdk_42_method_155_code 2 = .ok (.getstatic 1053, 3) := by decide +kernel
theorem y_si_d5 : decode jdk_42_method_155_code 5 = .ok (.invokestatic 1059, 3) := by decide +kernel
theorem y_si_d8 : decode jdk_42_method_155_code 8 = .ok (.pop, 1) := by decide +kernel
theorem y_si_d9 : decode jdk_42_method_155_code 9 = .ok (.return_, 1) := by decide +kernel
theorem y_si_p1059 : parseMethodDescriptor "(IILjava/util/function/BiFunction;)I" = some ⟨[.int, .int, (.object "java/util/function/BiFunction")], (some .int)⟩ := by decide +kernel
theorem y_si_ef (m : MethodId) (i n : Nat) : entryFrame m #[(.int (Int32.ofNat i)), (.int (Int32.ofNat n))] 2 = mkF m 0 #[.val (.int (Int32.ofNat i)), .val (.int (Int32.ofNat n))] [] := by first | (simp [entryFrame, mkF, argsToLocals, Value.category]; done) | rfl
theorem y_si_pn : plainFor (⟨"java/lang/String", "checkIndex", "(II)V"⟩ : MethodName) = true := by first | exact plainFor_of_name (by first | (simp [plainName, overriddenIn]; done) | decide +kernel) | decide +kernel
set_option maxRecDepth 65536 in
set_option maxHeartbeats 40000000 in
theorem y_si (l : Launch) (Z : State) (a0 : Array Value) (EL : List (String × Nat)) (hw : ∀ d ∈ tables_1, d.before a0 Z = true) (hEW : EW Z a0 EL) (h : Heap) (fm : Value) (SF : Sta Z Z.heap "jdk/internal/util/Preconditions" "SIOOBE_FORMATTER" "Ljava/util/function/BiFunction;" fm) (hfm : fm.isRef = true) (i n : Nat) (hi : i < n) (hn : n ≤ 8) :
    Con l Z EL (⟨"java/lang/String", "checkIndex", "(II)V"⟩ : MethodName) jdk_42_method_155_code 2 none ({ frames := 1, cells := 0, slots := 0, locals := 14 } : Room) #[(.int (Int32.ofNat i)), (.int (Int32.ofNat n))] h [] (fun v h' nw => v = none ∧ nw = [] ∧ h = h') := by
  refine Con.of y_si_pn hEW ?_
  intro p e s m below meth c T F B hF hby hml hr hlk hnm S
  rw [y_si_ef]
  show F T (mkF m 0 #[.val (.int (Int32.ofNat i)), .val (.int (Int32.ofNat n))] [])
  rcases ref_cases hfm with rfl | ⟨fa, rfl⟩
  ·
    show F T (mkF m 0 #[.val (.int (Int32.ofNat i)), .val (.int (Int32.ofNat n))] [])
    refine B (fun tgt kt => XS.iloadN S.here S.hx rfl (hb hby y_si_d0) rfl kt) ?_
    show F T (mkF m 1 #[.val (.int (Int32.ofNat i)), .val (.int (Int32.ofNat n))] [(.int (Int32.ofNat i))])
    refine B (fun tgt kt => XS.iloadN S.here S.hx rfl (hb hby y_si_d1) rfl kt) ?_
    show F T (mkF m 2 #[.val (.int (Int32.ofNat i)), .val (.int (Int32.ofNat n))] [(.int (Int32.ofNat n)), (.int (Int32.ofNat i))])
    refine Sp.getS B S (hw _ (List.mem_of_getElem? (i := 177) rfl)) Via.refl SF (hb hby y_si_d2) fun T S => ?_
    show F T (mkF m 5 #[.val (.int (Int32.ofNat i)), .val (.int (Int32.ofNat n))] [(.null), (.int (Int32.ofNat n)), (.int (Int32.ofNat i))])
    refine Sp.static B S (y := (⟨"jdk/internal/util/Preconditions", "checkIndex", "(IILjava/util/function/BiFunction;)I"⟩ : MethodName)) (argsL := [(.int (Int32.ofNat i)), (.int (Int32.ofNat n)), (.null)]) (rest := []) (hw _ (List.mem_of_getElem? (i := 179) rfl)) (hw _ (List.mem_of_getElem? (i := 180) rfl)) (hw _ (List.mem_of_getElem? (i := 178) rfl)) (hw _ (List.mem_of_getElem? (i := 181) rfl)) (by decide) (Call.con (W := 0) (y_pi0 l Z a0 EL hw hEW _ i n hi hn) (hw _ (List.mem_of_getElem? (i := 181) rfl)) (hw _ (List.mem_of_getElem? (i := 178) rfl)) (by decide) (by decide)) (by simp) (by decide) (by decide) (by rw [hml]; rfl) (lenOf y_si_p1059 rfl) rfl (Nat.le_of_eq rfl) (hb hby y_si_d5) fun v T h1 nw S hQ => ?_
    obtain ⟨rfl, rfl, rfl⟩ := hQ
    show F T (mkF m 8 #[.val (.int (Int32.ofNat i)), .val (.int (Int32.ofNat n))] [(.int (Int32.ofNat i))])
    refine B (fun tgt kt => XT.pop S.here S.hx rfl (hb hby y_si_d8) rfl rfl kt) ?_
    show F T (mkF m 9 #[.val (.int (Int32.ofNat i)), .val (.int (Int32.ofNat n))] [])
    exact hF (S.ret hr hlk (hb hby y_si_d9) (nw := []) ⟨rfl, rfl, rfl⟩ (by simp))
  ·
    show F T (mkF m 0 #[.val (.int (Int32.ofNat i)), .val (.int (Int32.ofNat n))] [])
    refine B (fun tgt kt => XS.iloadN S.here S.hx rfl (hb hby y_si_d0) rfl kt) ?_
    show F T (mkF m 1 #[.val (.int (Int32.ofNat i)), .val (.int (Int32.ofNat n))] [(.int (Int32.ofNat i))])
    refine B (fun tgt kt => XS.iloadN S.here S.hx rfl (hb hby y_si_d1) rfl kt) ?_
    show F T (mkF m 2 #[.val (.int (Int32.ofNat i)), .val (.int (Int32.ofNat n))] [(.int (Int32.ofNat n)), (.int (Int32.ofNat i))])
    refine Sp.getS B S (hw _ (List.mem_of_getElem? (i := 177) rfl)) Via.refl SF (hb hby y_si_d2) fun T S => ?_
    show F T (mkF m 5 #[.val (.int (Int32.ofNat i)), .val (.int (Int32.ofNat n))] [(.ref fa), (.int (Int32.ofNat n)), (.int (Int32.ofNat i))])
    refine Sp.static B S (y := (⟨"jdk/internal/util/Preconditions", "checkIndex", "(IILjava/util/function/BiFunction;)I"⟩ : MethodName)) (argsL := [(.int (Int32.ofNat i)), (.int (Int32.ofNat n)), (.ref fa)]) (rest := []) (hw _ (List.mem_of_getElem? (i := 179) rfl)) (hw _ (List.mem_of_getElem? (i := 180) rfl)) (hw _ (List.mem_of_getElem? (i := 178) rfl)) (hw _ (List.mem_of_getElem? (i := 181) rfl)) (by decide) (Call.con (W := 0) (y_pi1 l Z a0 EL hw hEW _ i n hi hn fa) (hw _ (List.mem_of_getElem? (i := 181) rfl)) (hw _ (List.mem_of_getElem? (i := 178) rfl)) (by decide) (by decide)) (by simp) (by decide) (by decide) (by rw [hml]; rfl) (lenOf y_si_p1059 rfl) rfl (Nat.le_of_eq rfl) (hb hby y_si_d5) fun v T h2 nw S hQ => ?_
    obtain ⟨rfl, rfl, rfl⟩ := hQ
    show F T (mkF m 8 #[.val (.int (Int32.ofNat i)), .val (.int (Int32.ofNat n))] [(.int (Int32.ofNat i))])
    refine B (fun tgt kt => XT.pop S.here S.hx rfl (hb hby y_si_d8) rfl rfl kt) ?_
    show F T (mkF m 9 #[.val (.int (Int32.ofNat i)), .val (.int (Int32.ofNat n))] [])
    exact hF (S.ret hr hlk (hb hby y_si_d9) (nw := []) ⟨rfl, rfl, rfl⟩ (by simp))
theorem y_lc_d0 : decode jdk_43_method_2_code 0 = .ok (.iload_n 1, 1) := by decide +kernel
theorem y_lc_d1 : decode jdk_43_method_2_code 1 = .ok (.aload_n 0, 1) := by decide +kernel
theorem y_lc_d2 : decode jdk_43_method_2_code 2 = .ok (.arraylength, 1) := by decide +kernel
theorem y_lc_d3 : decode jdk_43_method_2_code 3 = .ok (.invokestatic 9, 3) := by decide +kernel
theorem y_lc_d6 : decode jdk_43_method_2_code 6 = .ok (.aload_n 0, 1) := by decide +kernel
theorem y_lc_d7 : decode jdk_43_method_2_code 7 = .ok (.iload_n 1, 1) := by decide +kernel
theorem y_lc_d8 : decode jdk_43_method_2_code 8 = .ok (.baload, 1) := by decide +kernel
theorem y_lc_d9 : decode jdk_43_method_2_code 9 = .ok (.sipush 255, 3) := by decide +kernel
theorem y_lc_d12 : decode jdk_43_method_2_code 12 = .ok (.iand, 1) := by decide +kernel
theorem y_lc_d13 : decode jdk_43_method_2_code 13 = .ok (.i2c, 1) := by decide +kernel
theorem y_lc_d14 : decode jdk_43_method_2_code 14 = .ok (.ireturn, 1) := by decide +kernel
theorem y_lc_p9 : parseMethodDescriptor "(II)V" = some ⟨[.int, .int], none⟩ := by decide +kernel
theorem y_lc_ef (m : MethodId) (t : Addr) (i : Nat) : entryFrame m #[(.ref t), (.int (Int32.ofNat i))] 2 = mkF m 0 #[.val (.ref t), .val (.int (Int32.ofNat i))] [] := by first | (simp [entryFrame, mkF, argsToLocals, Value.category]; done) | rfl
theorem y_lc_pn : plainFor (⟨"java/lang/StringLatin1", "charAt", "([BI)C"⟩ : MethodName) = true := by first | exact plainFor_of_name (by first | (simp [plainName, overriddenIn]; done) | decide +kernel) | decide +kernel
set_option maxRecDepth 65536 in
set_option maxHeartbeats 40000000 in
theorem y_lc (l : Launch) (Z : State) (a0 : Array Value) (EL : List (String × Nat)) (hw : ∀ d ∈ tables_1, d.before a0 Z = true) (hEW : EW Z a0 EL) (h : Heap) (fm : Value) (SF : Sta Z Z.heap "jdk/internal/util/Preconditions" "SIOOBE_FORMATTER" "Ljava/util/function/BiFunction;" fm) (hfm : fm.isRef = true) (cs : List Int32) (hn : cs.length ≤ 8) (hl : ∀ q ∈ cs, ¬ q < 0 ∧ ¬ (255 : Int32) < q) (i : Nat) (hi : i < cs.length) (t : Addr) (kb : ClassId) (V : Arv Z h t kb .byte (Int32.ofNat cs.length) (cs.map fun q => Value.int (StrChars.lo8 q)) (.int 0)) :
    Con l Z EL (⟨"java/lang/StringLatin1", "charAt", "([BI)C"⟩ : MethodName) jdk_43_method_2_code 2 (some .char) ({ frames := 2, cells := 0, slots := 0, locals := 27 } : Room) #[(.ref t), (.int (Int32.ofNat i))] h [] (fun v h' nw => v = some (.int (cs.getD i 0)) ∧ nw = [] ∧ h = h') := by
  refine Con.of y_lc_pn hEW ?_
  intro p e s m below meth c T F B hF hby hml hr hlk hnm S
  rw [y_lc_ef]
  show F T (mkF m 0 #[.val (.ref t), .val (.int (Int32.ofNat i))] [])
  refine B (fun tgt kt => XS.iloadN S.here S.hx rfl (hb hby y_lc_d0) rfl kt) ?_
  show F T (mkF m 1 #[.val (.ref t), .val (.int (Int32.ofNat i))] [(.int (Int32.ofNat i))])
  refine B (fun tgt kt => XS.aloadN S.here S.hx rfl (hb hby y_lc_d1) rfl rfl kt) ?_
  show F T (mkF m 2 #[.val (.ref t), .val (.int (Int32.ofNat i))] [(.ref t), (.int (Int32.ofNat i))])
  refine Sp.alen B S V (hb hby y_lc_d2) ?_
  show F T (mkF m 3 #[.val (.ref t), .val (.int (Int32.ofNat i))] [(.int (Int32.ofNat cs.length)), (.int (Int32.ofNat i))])
  refine Sp.static B S (y := (⟨"java/lang/String", "checkIndex", "(II)V"⟩ : MethodName)) (argsL := [(.int (Int32.ofNat i)), (.int (Int32.ofNat cs.length))]) (rest := []) (hw _ (List.mem_of_getElem? (i := 174) rfl)) (hw _ (List.mem_of_getElem? (i := 175) rfl)) (hw _ (List.mem_of_getElem? (i := 6) rfl)) (hw _ (List.mem_of_getElem? (i := 176) rfl)) (by decide) (Call.con (W := 0) (y_si l Z a0 EL hw hEW _ fm SF hfm i cs.length hi hn) (hw _ (List.mem_of_getElem? (i := 176) rfl)) (hw _ (List.mem_of_getElem? (i := 6) rfl)) (by decide) (by decide)) (by simp) (by decide) (by decide) (by rw [hml]; rfl) (lenOf y_lc_p9 rfl) rfl (Nat.le_of_eq rfl) (hb hby y_lc_d3) fun v T h1 nw S hQ => ?_
  obtain ⟨rfl, rfl, rfl⟩ := hQ
  show F T (mkF m 6 #[.val (.ref t), .val (.int (Int32.ofNat i))] [])
  refine B (fun tgt kt => XS.aloadN S.here S.hx rfl (hb hby y_lc_d6) rfl rfl kt) ?_
  show F T (mkF m 7 #[.val (.ref t), .val (.int (Int32.ofNat i))] [(.ref t)])
  refine B (fun tgt kt => XS.iloadN S.here S.hx rfl (hb hby y_lc_d7) rfl kt) ?_
  show F T (mkF m 8 #[.val (.ref t), .val (.int (Int32.ofNat i))] [(.int (Int32.ofNat i)), (.ref t)])
  refine Sp.bald B S V (own_in hi (by omega)) (by rw [own_cl _ (by omega)]; exact StrChars.Road.low_at _ _ _ hi) (hb hby y_lc_d8) ?_
  show F T (mkF m 9 #[.val (.ref t), .val (.int (Int32.ofNat i))] [(.int (StrChars.lo8 (cs.getD i 0)))])
  refine B (fun tgt kt => XS.sipush S.here S.hx rfl (hb hby y_lc_d9) kt) ?_
  show F T (mkF m 12 #[.val (.ref t), .val (.int (Int32.ofNat i))] [(.int (255 : Int32)), (.int (StrChars.lo8 (cs.getD i 0)))])
  refine B (fun tgt kt => XS.iand S.here S.hx rfl (hb hby y_lc_d12) rfl kt) ?_
  show F T (mkF m 13 #[.val (.ref t), .val (.int (Int32.ofNat i))] [(.int ((StrChars.lo8 (cs.getD i 0)) &&& (255 : Int32)))])
  refine B (fun tgt kt => XT.i2c S.here S.hx rfl (hb hby y_lc_d13) rfl kt) ?_
  show F T (mkF m 14 #[.val (.ref t), .val (.int (Int32.ofNat i))] [(.int ((StrChars.lo8 (cs.getD i 0)) &&& (255 : Int32)).toUInt32.toUInt16.toUInt32.toInt32)])
  have hbq := hl _ (own_mem hi)
  have e8 : ((StrChars.lo8 (cs.getD i 0)) &&& (255 : Int32)).toUInt32.toUInt16.toUInt32.toInt32 = cs.getD i 0 := StrChars.chr8_lo8 hbq.1 hbq.2
  rw [e8]
  exact hF (S.retI hr hlk (by simp) (own_nch hbq) (hb hby y_lc_d14) (nw := []) ⟨rfl, rfl, rfl⟩ (by simp))
theorem y_ca_d0 : decode jdk_42_method_56_code 0 = .ok (.aload_n 0, 1) := by decide +kernel
theorem y_ca_d1 : decode jdk_42_method_56_code 1 = .ok (.invokevirtual 492, 3) := by decide +kernel
theorem y_ca_d4 : decode jdk_42_method_56_code 4 = .ok (.ifCond .eq 12, 3) := by decide +kernel
theorem y_ca_d7 : decode jdk_42_method_56_code 7 = .ok (.aload_n 0, 1) := by decide +kernel
theorem y_ca_d8 : decode jdk_42_method_56_code 8 = .ok (.getfield 9, 3) := by decide +kernel
theorem y_ca_d11 : decode jdk_42_method_56_code 11 = .ok (.iload_n 1, 1) := by decide +kernel
theorem y_ca_d12 : decode jdk_42_method_56_code 12 = .ok (.invokestatic 495, 3) := by decide +kernel
theorem y_ca_d15 : decode jdk_42_method_56_code 15 = .ok (.ireturn, 1) := by decide +kernel
theorem y_ca_p492 : parseMethodDescriptor "()Z" = some ⟨[], (some .boolean)⟩ := by decide +kernel
theorem y_ca_p495 : parseMethodDescriptor "([BI)C" = some ⟨[(.array .byte), .int], (some .char)⟩ := by decide +kernel
theorem y_ca_ef (m : MethodId) (x : Addr) (i : Nat) : entryFrame m #[(.ref x), (.int (Int32.ofNat i))] 2 = mkF m 0 #[.val (.ref x), .val (.int (Int32.ofNat i))] [] := by first | (simp [entryFrame, mkF, argsToLocals, Value.category]; done) | rfl
theorem y_ca_pn : plainFor (⟨"java/lang/String", "charAt", "(I)C"⟩ : MethodName) = true := by first | exact plainFor_of_name (by first | (simp [plainName, overriddenIn]; done) | decide +kernel) | decide +kernel
set_option maxRecDepth 65536 in
set_option maxHeartbeats 40000000 in
theorem y_ca (l : Launch) (Z : State) (a0 : Array Value) (EL : List (String × Nat)) (hw : ∀ d ∈ tables_1, d.before a0 Z = true) (hEW : EW Z a0 EL) (h : Heap) (zc : Int32) (CS : Sta Z Z.heap "java/lang/String" "COMPACT_STRINGS" "Z" (.int zc)) (hzc : ¬ zc = 0) (fm : Value) (SF : Sta Z Z.heap "jdk/internal/util/Preconditions" "SIOOBE_FORMATTER" "Ljava/util/function/BiFunction;" fm) (hfm : fm.isRef = true) (x t : Addr) (cs : List Int32) (hn : cs.length ≤ 8) (hl : ∀ q ∈ cs, ¬ q < 0 ∧ ¬ (255 : Int32) < q) (G : own_L Z h x t cs) (i : Nat) (hi : i < cs.length) :
    Con l Z EL (⟨"java/lang/String", "charAt", "(I)C"⟩ : MethodName) jdk_42_method_56_code 2 (some .char) ({ frames := 3, cells := 0, slots := 0, locals := 40 } : Room) #[(.ref x), (.int (Int32.ofNat i))] h [] (fun v h' nw => v = some (.int (cs.getD i 0)) ∧ nw = [] ∧ h = h') := by
  refine Con.of y_ca_pn hEW ?_
  intro p e s m below meth c T F B hF hby hml hr hlk hnm S
  rw [y_ca_ef]
  show F T (mkF m 0 #[.val (.ref x), .val (.int (Int32.ofNat i))] [])
  obtain ⟨Ex, Vx, C, kb, V⟩ := G
  have hbq := hl _ (own_mem hi)
  refine B (fun tgt kt => XS.aloadN S.here S.hx rfl (hb hby y_ca_d0) rfl rfl kt) ?_
  show F T (mkF m 1 #[.val (.ref x), .val (.int (Int32.ofNat i))] [(.ref x)])
  refine Sp.virt B S (y := (⟨"java/lang/String", "isLatin1", "()Z"⟩ : MethodName)) (C := "java/lang/String") (argsL := []) (rest := []) (hw _ (List.mem_of_getElem? (i := 165) rfl)) (hw _ (List.mem_of_getElem? (i := 166) rfl)) (hw _ (List.mem_of_getElem? (i := 168) rfl)) (hw _ (List.mem_of_getElem? (i := 168) rfl)) (hw _ (List.mem_of_getElem? (i := 167) rfl)) (by decide) (Call.con (W := 0) (b_isl l Z a0 EL hw hEW _ zc CS hzc x C) (hw _ (List.mem_of_getElem? (i := 169) rfl)) (hw _ (List.mem_of_getElem? (i := 6) rfl)) (by decide) (by decide)) Ex (by simp) (by decide) (by decide) (by rw [hml]; rfl) (lenOf y_ca_p492 rfl) rfl (Nat.le_of_eq rfl) (hb hby y_ca_d1) fun v T h1 nw S hQ => ?_
  obtain ⟨rfl, rfl, rfl⟩ := hQ
  show F T (mkF m 4 #[.val (.ref x), .val (.int (Int32.ofNat i))] [(.int 1)])
  refine B (fun tgt kt => XS.ifNo S.here S.hx rfl (hb hby y_ca_d4) rfl (i0_eq_f (by decide)) kt) ?_
  show F T (mkF m 7 #[.val (.ref x), .val (.int (Int32.ofNat i))] [])
  refine B (fun tgt kt => XS.aloadN S.here S.hx rfl (hb hby y_ca_d7) rfl rfl kt) ?_
  show F T (mkF m 8 #[.val (.ref x), .val (.int (Int32.ofNat i))] [(.ref x)])
  refine Sp.get B S (hw _ (List.mem_of_getElem? (i := 24) rfl)) Via.refl Vx (hb hby y_ca_d8) fun T S => ?_
  show F T (mkF m 11 #[.val (.ref x), .val (.int (Int32.ofNat i))] [(.ref t)])
  refine B (fun tgt kt => XS.iloadN S.here S.hx rfl (hb hby y_ca_d11) rfl kt) ?_
  show F T (mkF m 12 #[.val (.ref x), .val (.int (Int32.ofNat i))] [(.int (Int32.ofNat i)), (.ref t)])
  refine Sp.static B S (y := (⟨"java/lang/StringLatin1", "charAt", "([BI)C"⟩ : MethodName)) (argsL := [(.ref t), (.int (Int32.ofNat i))]) (rest := []) (hw _ (List.mem_of_getElem? (i := 170) rfl)) (hw _ (List.mem_of_getElem? (i := 171) rfl)) (hw _ (List.mem_of_getElem? (i := 172) rfl)) (hw _ (List.mem_of_getElem? (i := 173) rfl)) (by decide) (Call.con (W := 0) (y_lc l Z a0 EL hw hEW _ fm SF hfm cs hn hl i hi t kb V) (hw _ (List.mem_of_getElem? (i := 173) rfl)) (hw _ (List.mem_of_getElem? (i := 172) rfl)) (by decide) (by decide)) (by simp) (by decide) (by decide) (by rw [hml]; rfl) (lenOf y_ca_p495 rfl) rfl (Nat.le_of_eq rfl) (hb hby y_ca_d12) fun v T h2 nw S hQ => ?_
  obtain ⟨rfl, rfl, rfl⟩ := hQ
  show F T (mkF m 15 #[.val (.ref x), .val (.int (Int32.ofNat i))] [(.int (cs.getD i 0))])
  exact hF (S.retI hr hlk (by simp) (own_nch hbq) (hb hby y_ca_d15) (nw := []) ⟨rfl, rfl, rfl⟩ (by simp))
theorem lw_p7 : parseMethodDescriptor "(ICC)Ljava/lang/String;" = some ⟨[.int, .char, .char], (some (.object "java/lang/String"))⟩ := by decide +kernel
theorem lw_p15 : parseMethodDescriptor "(Ljava/lang/String;Ljava/lang/String;)V" = some ⟨[(.object "java/lang/String"), (.object "java/lang/String")], none⟩ := by decide +kernel
theorem lw_p18 : parseMethodDescriptor "()Ljava/lang/String;" = some ⟨[], (some (.object "java/lang/String"))⟩ := by decide +kernel
theorem lw_p22 : parseMethodDescriptor "()I" = some ⟨[], (some .int)⟩ := by decide +kernel
theorem lw_p28 : parseMethodDescriptor "(I)C" = some ⟨[.int], (some .char)⟩ := by decide +kernel
set_option maxRecDepth 65536 in
set_option maxHeartbeats 40000000 in
theorem lw_t00 {p : Program} {l : Launch} {e : Env} {s : State} {m : MethodId} {args : Array Value} {below : List Frame} {meth : Method} {c : Code} {Z : State} {a0 : Array Value} {EL : List (String × Nat)} {F : State → JFrame → Prop} {sf : List Addr} {lt : List (String × Nat × Addr)} {kq nq : Nat} {h : Heap} {T : State} (hw : ∀ q ∈ tables_1, q.before a0 Z = true) (hEW : EW Z a0 EL) (B : Bw p e below F) (hby : c.code = code) (hml : c.maxLocals = 15) (zc : Int32) (CS : Sta Z Z.heap "java/lang/String" "COMPACT_STRINGS" "Z" (.int zc)) (hzc : ¬ zc = 0) (fm : Value) (SF : Sta Z Z.heap "jdk/internal/util/Preconditions" "SIOOBE_FORMATTER" "Ljava/util/function/BiFunction;" fm) (hfm : fm.isRef = true) (i0 i1 i2 i3 i4 : Int32) (c0 : Int32) (b0 : ¬ c0 < 0 ∧ ¬ (255 : Int32) < c0) (c1 : Int32) (b1 : ¬ c1 < 0 ∧ ¬ (255 : Int32) < c1) (c2 : Int32) (b2 : ¬ c2 < 0 ∧ ¬ (255 : Int32) < c2) (c3 : Int32) (b3 : ¬ c3 < 0 ∧ ¬ (255 : Int32) < c3) (x1 x2 y ty : Addr) (S : Sp p l e room_1 s m args below meth c Z a0 EL "org/triplebridge/mapping/ColumnSqlPinLaw" T h sf lt kq nq) (hkq : kq + 0 ≤ room_1.cells) (hnq : nq + 0 ≤ room_1.slots) (G : own_L Z h y ty [46]) (K : ∀ (T : State) (L : Array Slot), Sp p l e room_1 s m args below meth c Z a0 EL "org/triplebridge/mapping/ColumnSqlPinLaw" T h sf lt kq nq → F T (mkF m 252 L [(.int (1 : Int32))])) : F T (mkF m 92 #[.val (.int i0), .val (.int i1), .val (.int i2), .val (.int i3), .val (.int i4), .val (.int 0), .val (.int 0), .val (.int c0), .val (.int c1), .val (.int c2), .val (.int c3), .val (.ref x1), .val (.ref x2), .val (.ref y), .unset] []) := by
  have hbs : ∀ q ∈ ([46] : List Int32), ¬ q < 0 ∧ ¬ (255 : Int32) < q := (all_cons (by decide) all_nil)
  show F T (mkF m 92 #[.val (.int i0), .val (.int i1), .val (.int i2), .val (.int i3), .val (.int i4), .val (.int 0), .val (.int 0), .val (.int c0), .val (.int c1), .val (.int c2), .val (.int c3), .val (.ref x1), .val (.ref x2), .val (.ref y), .unset] [])
  refine B (fun tgt kt => XS.aload S.here S.hx rfl (hb hby at_92) rfl rfl kt) ?_
  show F T (mkF m 94 #[.val (.int i0), .val (.int i1), .val (.int i2), .val (.int i3), .val (.int i4), .val (.int 0), .val (.int 0), .val (.int c0), .val (.int c1), .val (.int c2), .val (.int c3), .val (.ref x1), .val (.ref x2), .val (.ref y), .unset] [(.ref y)])
  refine Sp.virt B S (y := (⟨"java/lang/String", "length", "()I"⟩ : MethodName)) (C := "java/lang/String") (argsL := []) (rest := []) (hw _ (List.mem_of_getElem? (i := 159) rfl)) (hw _ (List.mem_of_getElem? (i := 76) rfl)) (hw _ (List.mem_of_getElem? (i := 78) rfl)) (hw _ (List.mem_of_getElem? (i := 78) rfl)) (hw _ (List.mem_of_getElem? (i := 77) rfl)) (by decide) (Call.con (W := 0) (b_len l Z a0 EL hw hEW _ zc CS hzc y ty [46] (by show 1 ≤ 8; decide) G) (hw _ (List.mem_of_getElem? (i := 79) rfl)) (hw _ (List.mem_of_getElem? (i := 6) rfl)) (by decide) (by decide)) G.1 (by simp) hkq hnq (by rw [hml]; rfl) (lenOf lw_p22 rfl) rfl (Nat.le_of_eq rfl) (hb hby at_94) fun v T h1 nw S hQ => ?_
  obtain ⟨rfl, rfl, rfl⟩ := hQ
  show F T (mkF m 97 #[.val (.int i0), .val (.int i1), .val (.int i2), .val (.int i3), .val (.int i4), .val (.int 0), .val (.int 0), .val (.int c0), .val (.int c1), .val (.int c2), .val (.int c3), .val (.ref x1), .val (.ref x2), .val (.ref y), .unset] [(.int (1 : Int32))])
  refine B (fun tgt kt => XS.iload S.here S.hx rfl (hb hby at_97) rfl kt) ?_
  show F T (mkF m 99 #[.val (.int i0), .val (.int i1), .val (.int i2), .val (.int i3), .val (.int i4), .val (.int 0), .val (.int 0), .val (.int c0), .val (.int c1), .val (.int c2), .val (.int c3), .val (.ref x1), .val (.ref x2), .val (.ref y), .unset] [(.int 0), (.int (1 : Int32))])
  refine B (fun tgt kt => XS.iconst S.here S.hx rfl (hb hby at_99) kt) ?_
  show F T (mkF m 100 #[.val (.int i0), .val (.int i1), .val (.int i2), .val (.int i3), .val (.int i4), .val (.int 0), .val (.int 0), .val (.int c0), .val (.int c1), .val (.int c2), .val (.int c3), .val (.ref x1), .val (.ref x2), .val (.ref y), .unset] [(.int (1 : Int32)), (.int 0), (.int (1 : Int32))])
  refine B (fun tgt kt => XS.iadd S.here S.hx rfl (hb hby at_100) rfl kt) ?_
  show F T (mkF m 101 #[.val (.int i0), .val (.int i1), .val (.int i2), .val (.int i3), .val (.int i4), .val (.int 0), .val (.int 0), .val (.int c0), .val (.int c1), .val (.int c2), .val (.int c3), .val (.ref x1), .val (.ref x2), .val (.ref y), .unset] [(.int ((0 : Int32) + (1 : Int32))), (.int (1 : Int32))])
  refine B (fun tgt kt => XS.iload S.here S.hx rfl (hb hby at_101) rfl kt) ?_
  show F T (mkF m 103 #[.val (.int i0), .val (.int i1), .val (.int i2), .val (.int i3), .val (.int i4), .val (.int 0), .val (.int 0), .val (.int c0), .val (.int c1), .val (.int c2), .val (.int c3), .val (.ref x1), .val (.ref x2), .val (.ref y), .unset] [(.int 0), (.int ((0 : Int32) + (1 : Int32))), (.int (1 : Int32))])
  refine B (fun tgt kt => XS.iadd S.here S.hx rfl (hb hby at_103) rfl kt) ?_
  show F T (mkF m 104 #[.val (.int i0), .val (.int i1), .val (.int i2), .val (.int i3), .val (.int i4), .val (.int 0), .val (.int 0), .val (.int c0), .val (.int c1), .val (.int c2), .val (.int c3), .val (.ref x1), .val (.ref x2), .val (.ref y), .unset] [(.int (((0 : Int32) + (1 : Int32)) + (0 : Int32))), (.int (1 : Int32))])
  refine B (fun tgt kt => XS.icmpYes S.here S.hx rfl (pc0 := 104) (pc' := 109) rfl (hb hby at_104) rfl (ii_eq_t (by decide)) (by decide) (by decide) kt) ?_
  show F T (mkF m 109 #[.val (.int i0), .val (.int i1), .val (.int i2), .val (.int i3), .val (.int i4), .val (.int 0), .val (.int 0), .val (.int c0), .val (.int c1), .val (.int c2), .val (.int c3), .val (.ref x1), .val (.ref x2), .val (.ref y), .unset] [])
  refine B (fun tgt kt => XS.aload S.here S.hx rfl (hb hby at_109) rfl rfl kt) ?_
  show F T (mkF m 111 #[.val (.int i0), .val (.int i1), .val (.int i2), .val (.int i3), .val (.int i4), .val (.int 0), .val (.int 0), .val (.int c0), .val (.int c1), .val (.int c2), .val (.int c3), .val (.ref x1), .val (.ref x2), .val (.ref y), .unset] [(.ref y)])
  refine B (fun tgt kt => XS.iload S.here S.hx rfl (hb hby at_111) rfl kt) ?_
  show F T (mkF m 113 #[.val (.int i0), .val (.int i1), .val (.int i2), .val (.int i3), .val (.int i4), .val (.int 0), .val (.int 0), .val (.int c0), .val (.int c1), .val (.int c2), .val (.int c3), .val (.ref x1), .val (.ref x2), .val (.ref y), .unset] [(.int 0), (.ref y)])
  refine Sp.virt B S (y := (⟨"java/lang/String", "charAt", "(I)C"⟩ : MethodName)) (C := "java/lang/String") (argsL := [(.int 0)]) (rest := []) (hw _ (List.mem_of_getElem? (i := 160) rfl)) (hw _ (List.mem_of_getElem? (i := 161) rfl)) (hw _ (List.mem_of_getElem? (i := 163) rfl)) (hw _ (List.mem_of_getElem? (i := 163) rfl)) (hw _ (List.mem_of_getElem? (i := 162) rfl)) (by decide) (Call.con (W := 0) (y_ca l Z a0 EL hw hEW _ zc CS hzc fm SF hfm y ty [46] (by show 1 ≤ 8; decide) hbs G 0 (by show 0 < 1; decide)) (hw _ (List.mem_of_getElem? (i := 164) rfl)) (hw _ (List.mem_of_getElem? (i := 6) rfl)) (by decide) (by decide)) G.1 (by simp) hkq hnq (by rw [hml]; rfl) (lenOf lw_p28 rfl) rfl (Nat.le_of_eq rfl) (hb hby at_113) fun v T h2 nw S hQ => ?_
  obtain ⟨rfl, rfl, rfl⟩ := hQ
  show F T (mkF m 116 #[.val (.int i0), .val (.int i1), .val (.int i2), .val (.int i3), .val (.int i4), .val (.int 0), .val (.int 0), .val (.int c0), .val (.int c1), .val (.int c2), .val (.int c3), .val (.ref x1), .val (.ref x2), .val (.ref y), .unset] [(.int (46 : Int32))])
  refine B (fun tgt kt => XS.bipush S.here S.hx rfl (hb hby at_116) kt) ?_
  show F T (mkF m 118 #[.val (.int i0), .val (.int i1), .val (.int i2), .val (.int i3), .val (.int i4), .val (.int 0), .val (.int 0), .val (.int c0), .val (.int c1), .val (.int c2), .val (.int c3), .val (.ref x1), .val (.ref x2), .val (.ref y), .unset] [(.int (46 : Int32)), (.int (46 : Int32))])
  refine B (fun tgt kt => XS.icmpNo S.here S.hx rfl (hb hby at_118) rfl (ii_ne_f rfl) kt) ?_
  show F T (mkF m 121 #[.val (.int i0), .val (.int i1), .val (.int i2), .val (.int i3), .val (.int i4), .val (.int 0), .val (.int 0), .val (.int c0), .val (.int c1), .val (.int c2), .val (.int c3), .val (.ref x1), .val (.ref x2), .val (.ref y), .unset] [])
  refine B (fun tgt kt => XS.iconst S.here S.hx rfl (hb hby at_121) kt) ?_
  show F T (mkF m 122 #[.val (.int i0), .val (.int i1), .val (.int i2), .val (.int i3), .val (.int i4), .val (.int 0), .val (.int 0), .val (.int c0), .val (.int c1), .val (.int c2), .val (.int c3), .val (.ref x1), .val (.ref x2), .val (.ref y), .unset] [(.int (1 : Int32))])
  refine B (fun tgt kt => XS.goto S.here S.hx rfl (pc0 := 122) (pc' := 126) rfl (hb hby at_122) (by decide) (by decide) kt) ?_
  show F T (mkF m 126 #[.val (.int i0), .val (.int i1), .val (.int i2), .val (.int i3), .val (.int i4), .val (.int 0), .val (.int 0), .val (.int c0), .val (.int c1), .val (.int c2), .val (.int c3), .val (.ref x1), .val (.ref x2), .val (.ref y), .unset] [(.int (1 : Int32))])
  refine B (fun tgt kt => XS.istore S.here S.hx rfl (hb hby at_126) rfl (l' := #[.val (.int i0), .val (.int i1), .val (.int i2), .val (.int i3), .val (.int i4), .val (.int 0), .val (.int 0), .val (.int c0), .val (.int c1), .val (.int c2), .val (.int c3), .val (.ref x1), .val (.ref x2), .val (.ref y), .val (.int (1 : Int32))]) rfl kt) ?_
  show F T (mkF m 128 #[.val (.int i0), .val (.int i1), .val (.int i2), .val (.int i3), .val (.int i4), .val (.int 0), .val (.int 0), .val (.int c0), .val (.int c1), .val (.int c2), .val (.int c3), .val (.ref x1), .val (.ref x2), .val (.ref y), .val (.int (1 : Int32))] [])
  refine B (fun tgt kt => XS.iload S.here S.hx rfl (hb hby at_128) rfl kt) ?_
  show F T (mkF m 130 #[.val (.int i0), .val (.int i1), .val (.int i2), .val (.int i3), .val (.int i4), .val (.int 0), .val (.int 0), .val (.int c0), .val (.int c1), .val (.int c2), .val (.int c3), .val (.ref x1), .val (.ref x2), .val (.ref y), .val (.int (1 : Int32))] [(.int 0)])
  refine B (fun tgt kt => XS.iconst S.here S.hx rfl (hb hby at_130) kt) ?_
  show F T (mkF m 131 #[.val (.int i0), .val (.int i1), .val (.int i2), .val (.int i3), .val (.int i4), .val (.int 0), .val (.int 0), .val (.int c0), .val (.int c1), .val (.int c2), .val (.int c3), .val (.ref x1), .val (.ref x2), .val (.ref y), .val (.int (1 : Int32))] [(.int (1 : Int32)), (.int 0)])
  refine B (fun tgt kt => XS.icmpYes S.here S.hx rfl (pc0 := 131) (pc' := 157) rfl (hb hby at_131) rfl (ii_lt_t (by decide)) (by decide) (by decide) kt) ?_
  show F T (mkF m 157 #[.val (.int i0), .val (.int i1), .val (.int i2), .val (.int i3), .val (.int i4), .val (.int 0), .val (.int 0), .val (.int c0), .val (.int c1), .val (.int c2), .val (.int c3), .val (.ref x1), .val (.ref x2), .val (.ref y), .val (.int (1 : Int32))] [])
  refine B (fun tgt kt => XS.iload S.here S.hx rfl (hb hby at_157) rfl kt) ?_
  show F T (mkF m 159 #[.val (.int i0), .val (.int i1), .val (.int i2), .val (.int i3), .val (.int i4), .val (.int 0), .val (.int 0), .val (.int c0), .val (.int c1), .val (.int c2), .val (.int c3), .val (.ref x1), .val (.ref x2), .val (.ref y), .val (.int (1 : Int32))] [(.int 0)])
  refine B (fun tgt kt => XS.iconst S.here S.hx rfl (hb hby at_159) kt) ?_
  show F T (mkF m 160 #[.val (.int i0), .val (.int i1), .val (.int i2), .val (.int i3), .val (.int i4), .val (.int 0), .val (.int 0), .val (.int c0), .val (.int c1), .val (.int c2), .val (.int c3), .val (.ref x1), .val (.ref x2), .val (.ref y), .val (.int (1 : Int32))] [(.int (2 : Int32)), (.int 0)])
  refine B (fun tgt kt => XS.icmpYes S.here S.hx rfl (pc0 := 160) (pc' := 186) rfl (hb hby at_160) rfl (ii_lt_t (by decide)) (by decide) (by decide) kt) ?_
  show F T (mkF m 186 #[.val (.int i0), .val (.int i1), .val (.int i2), .val (.int i3), .val (.int i4), .val (.int 0), .val (.int 0), .val (.int c0), .val (.int c1), .val (.int c2), .val (.int c3), .val (.ref x1), .val (.ref x2), .val (.ref y), .val (.int (1 : Int32))] [])
  refine B (fun tgt kt => XS.iload S.here S.hx rfl (hb hby at_186) rfl kt) ?_
  show F T (mkF m 188 #[.val (.int i0), .val (.int i1), .val (.int i2), .val (.int i3), .val (.int i4), .val (.int 0), .val (.int 0), .val (.int c0), .val (.int c1), .val (.int c2), .val (.int c3), .val (.ref x1), .val (.ref x2), .val (.ref y), .val (.int (1 : Int32))] [(.int 0)])
  refine B (fun tgt kt => XS.iconst S.here S.hx rfl (hb hby at_188) kt) ?_
  show F T (mkF m 189 #[.val (.int i0), .val (.int i1), .val (.int i2), .val (.int i3), .val (.int i4), .val (.int 0), .val (.int 0), .val (.int c0), .val (.int c1), .val (.int c2), .val (.int c3), .val (.ref x1), .val (.ref x2), .val (.ref y), .val (.int (1 : Int32))] [(.int (1 : Int32)), (.int 0)])
  refine B (fun tgt kt => XS.icmpYes S.here S.hx rfl (pc0 := 189) (pc' := 218) rfl (hb hby at_189) rfl (ii_lt_t (by decide)) (by decide) (by decide) kt) ?_
  show F T (mkF m 218 #[.val (.int i0), .val (.int i1), .val (.int i2), .val (.int i3), .val (.int i4), .val (.int 0), .val (.int 0), .val (.int c0), .val (.int c1), .val (.int c2), .val (.int c3), .val (.ref x1), .val (.ref x2), .val (.ref y), .val (.int (1 : Int32))] [])
  refine B (fun tgt kt => XS.iload S.here S.hx rfl (hb hby at_218) rfl kt) ?_
  show F T (mkF m 220 #[.val (.int i0), .val (.int i1), .val (.int i2), .val (.int i3), .val (.int i4), .val (.int 0), .val (.int 0), .val (.int c0), .val (.int c1), .val (.int c2), .val (.int c3), .val (.ref x1), .val (.ref x2), .val (.ref y), .val (.int (1 : Int32))] [(.int 0)])
  refine B (fun tgt kt => XS.iconst S.here S.hx rfl (hb hby at_220) kt) ?_
  show F T (mkF m 221 #[.val (.int i0), .val (.int i1), .val (.int i2), .val (.int i3), .val (.int i4), .val (.int 0), .val (.int 0), .val (.int c0), .val (.int c1), .val (.int c2), .val (.int c3), .val (.ref x1), .val (.ref x2), .val (.ref y), .val (.int (1 : Int32))] [(.int (2 : Int32)), (.int 0)])
  refine B (fun tgt kt => XS.icmpYes S.here S.hx rfl (pc0 := 221) (pc' := 250) rfl (hb hby at_221) rfl (ii_lt_t (by decide)) (by decide) (by decide) kt) ?_
  show F T (mkF m 250 #[.val (.int i0), .val (.int i1), .val (.int i2), .val (.int i3), .val (.int i4), .val (.int 0), .val (.int 0), .val (.int c0), .val (.int c1), .val (.int c2), .val (.int c3), .val (.ref x1), .val (.ref x2), .val (.ref y), .val (.int (1 : Int32))] [])
  refine B (fun tgt kt => XS.iload S.here S.hx rfl (hb hby at_250) rfl kt) ?_
  show F T (mkF m 252 #[.val (.int i0), .val (.int i1), .val (.int i2), .val (.int i3), .val (.int i4), .val (.int 0), .val (.int 0), .val (.int c0), .val (.int c1), .val (.int c2), .val (.int c3), .val (.ref x1), .val (.ref x2), .val (.ref y), .val (.int (1 : Int32))] [(.int (1 : Int32))])
  exact K _ _ S
set_option maxRecDepth 65536 in
set_option maxHeartbeats 40000000 in
theorem lw_t01 {p : Program} {l : Launch} {e : Env} {s : State} {m : MethodId} {args : Array Value} {below : List Frame} {meth : Method} {c : Code} {Z : State} {a0 : Array Value} {EL : List (String × Nat)} {F : State → JFrame → Prop} {sf : List Addr} {lt : List (String × Nat × Addr)} {kq nq : Nat} {h : Heap} {T : State} (hw : ∀ q ∈ tables_1, q.before a0 Z = true) (hEW : EW Z a0 EL) (B : Bw p e below F) (hby : c.code = code) (hml : c.maxLocals = 15) (zc : Int32) (CS : Sta Z Z.heap "java/lang/String" "COMPACT_STRINGS" "Z" (.int zc)) (hzc : ¬ zc = 0) (fm : Value) (SF : Sta Z Z.heap "jdk/internal/util/Preconditions" "SIOOBE_FORMATTER" "Ljava/util/function/BiFunction;" fm) (hfm : fm.isRef = true) (i0 i1 i2 i3 i4 : Int32) (c0 : Int32) (b0 : ¬ c0 < 0 ∧ ¬ (255 : Int32) < c0) (c1 : Int32) (b1 : ¬ c1 < 0 ∧ ¬ (255 : Int32) < c1) (c2 : Int32) (b2 : ¬ c2 < 0 ∧ ¬ (255 : Int32) < c2) (c3 : Int32) (b3 : ¬ c3 < 0 ∧ ¬ (255 : Int32) < c3) (x1 x2 y ty : Addr) (S : Sp p l e room_1 s m args below meth c Z a0 EL "org/triplebridge/mapping/ColumnSqlPinLaw" T h sf lt kq nq) (hkq : kq + 0 ≤ room_1.cells) (hnq : nq + 0 ≤ room_1.slots) (G : own_L Z h y ty [46, c2]) (K : ∀ (T : State) (L : Array Slot), Sp p l e room_1 s m args below meth c Z a0 EL "org/triplebridge/mapping/ColumnSqlPinLaw" T h sf lt kq nq → F T (mkF m 252 L [(.int (1 : Int32))])) : F T (mkF m 92 #[.val (.int i0), .val (.int i1), .val (.int i2), .val (.int i3), .val (.int i4), .val (.int 0), .val (.int 1), .val (.int c0), .val (.int c1), .val (.int c2), .val (.int c3), .val (.ref x1), .val (.ref x2), .val (.ref y), .unset] []) := by
  have hbs : ∀ q ∈ ([46, c2] : List Int32), ¬ q < 0 ∧ ¬ (255 : Int32) < q := (all_cons (by decide) (all_cons b2 all_nil))
  show F T (mkF m 92 #[.val (.int i0), .val (.int i1), .val (.int i2), .val (.int i3), .val (.int i4), .val (.int 0), .val (.int 1), .val (.int c0), .val (.int c1), .val (.int c2), .val (.int c3), .val (.ref x1), .val (.ref x2), .val (.ref y), .unset] [])
  refine B (fun tgt kt => XS.aload S.here S.hx rfl (hb hby at_92) rfl rfl kt) ?_
  show F T (mkF m 94 #[.val (.int i0), .val (.int i1), .val (.int i2), .val (.int i3), .val (.int i4), .val (.int 0), .val (.int 1), .val (.int c0), .val (.int c1), .val (.int c2), .val (.int c3), .val (.ref x1), .val (.ref x2), .val (.ref y), .unset] [(.ref y)])
  refine Sp.virt B S (y := (⟨"java/lang/String", "length", "()I"⟩ : MethodName)) (C := "java/lang/String") (argsL := []) (rest := []) (hw _ (List.mem_of_getElem? (i := 159) rfl)) (hw _ (List.mem_of_getElem? (i := 76) rfl)) (hw _ (List.mem_of_getElem? (i := 78) rfl)) (hw _ (List.mem_of_getElem? (i := 78) rfl)) (hw _ (List.mem_of_getElem? (i := 77) rfl)) (by decide) (Call.con (W := 0) (b_len l Z a0 EL hw hEW _ zc CS hzc y ty [46, c2] (by show 2 ≤ 8; decide) G) (hw _ (List.mem_of_getElem? (i := 79) rfl)) (hw _ (List.mem_of_getElem? (i := 6) rfl)) (by decide) (by decide)) G.1 (by simp) hkq hnq (by rw [hml]; rfl) (lenOf lw_p22 rfl) rfl (Nat.le_of_eq rfl) (hb hby at_94) fun v T h1 nw S hQ => ?_
  obtain ⟨rfl, rfl, rfl⟩ := hQ
  show F T (mkF m 97 #[.val (.int i0), .val (.int i1), .val (.int i2), .val (.int i3), .val (.int i4), .val (.int 0), .val (.int 1), .val (.int c0), .val (.int c1), .val (.int c2), .val (.int c3), .val (.ref x1), .val (.ref x2), .val (.ref y), .unset] [(.int (2 : Int32))])
  refine B (fun tgt kt => XS.iload S.here S.hx rfl (hb hby at_97) rfl kt) ?_
  show F T (mkF m 99 #[.val (.int i0), .val (.int i1), .val (.int i2), .val (.int i3), .val (.int i4), .val (.int 0), .val (.int 1), .val (.int c0), .val (.int c1), .val (.int c2), .val (.int c3), .val (.ref x1), .val (.ref x2), .val (.ref y), .unset] [(.int 0), (.int (2 : Int32))])
  refine B (fun tgt kt => XS.iconst S.here S.hx rfl (hb hby at_99) kt) ?_
  show F T (mkF m 100 #[.val (.int i0), .val (.int i1), .val (.int i2), .val (.int i3), .val (.int i4), .val (.int 0), .val (.int 1), .val (.int c0), .val (.int c1), .val (.int c2), .val (.int c3), .val (.ref x1), .val (.ref x2), .val (.ref y), .unset] [(.int (1 : Int32)), (.int 0), (.int (2 : Int32))])
  refine B (fun tgt kt => XS.iadd S.here S.hx rfl (hb hby at_100) rfl kt) ?_
  show F T (mkF m 101 #[.val (.int i0), .val (.int i1), .val (.int i2), .val (.int i3), .val (.int i4), .val (.int 0), .val (.int 1), .val (.int c0), .val (.int c1), .val (.int c2), .val (.int c3), .val (.ref x1), .val (.ref x2), .val (.ref y), .unset] [(.int ((0 : Int32) + (1 : Int32))), (.int (2 : Int32))])
  refine B (fun tgt kt => XS.iload S.here S.hx rfl (hb hby at_101) rfl kt) ?_
  show F T (mkF m 103 #[.val (.int i0), .val (.int i1), .val (.int i2), .val (.int i3), .val (.int i4), .val (.int 0), .val (.int 1), .val (.int c0), .val (.int c1), .val (.int c2), .val (.int c3), .val (.ref x1), .val (.ref x2), .val (.ref y), .unset] [(.int 1), (.int ((0 : Int32) + (1 : Int32))), (.int (2 : Int32))])
  refine B (fun tgt kt => XS.iadd S.here S.hx rfl (hb hby at_103) rfl kt) ?_
  show F T (mkF m 104 #[.val (.int i0), .val (.int i1), .val (.int i2), .val (.int i3), .val (.int i4), .val (.int 0), .val (.int 1), .val (.int c0), .val (.int c1), .val (.int c2), .val (.int c3), .val (.ref x1), .val (.ref x2), .val (.ref y), .unset] [(.int (((0 : Int32) + (1 : Int32)) + (1 : Int32))), (.int (2 : Int32))])
  refine B (fun tgt kt => XS.icmpYes S.here S.hx rfl (pc0 := 104) (pc' := 109) rfl (hb hby at_104) rfl (ii_eq_t (by decide)) (by decide) (by decide) kt) ?_
  show F T (mkF m 109 #[.val (.int i0), .val (.int i1), .val (.int i2), .val (.int i3), .val (.int i4), .val (.int 0), .val (.int 1), .val (.int c0), .val (.int c1), .val (.int c2), .val (.int c3), .val (.ref x1), .val (.ref x2), .val (.ref y), .unset] [])
  refine B (fun tgt kt => XS.aload S.here S.hx rfl (hb hby at_109) rfl rfl kt) ?_
  show F T (mkF m 111 #[.val (.int i0), .val (.int i1), .val (.int i2), .val (.int i3), .val (.int i4), .val (.int 0), .val (.int 1), .val (.int c0), .val (.int c1), .val (.int c2), .val (.int c3), .val (.ref x1), .val (.ref x2), .val (.ref y), .unset] [(.ref y)])
  refine B (fun tgt kt => XS.iload S.here S.hx rfl (hb hby at_111) rfl kt) ?_
  show F T (mkF m 113 #[.val (.int i0), .val (.int i1), .val (.int i2), .val (.int i3), .val (.int i4), .val (.int 0), .val (.int 1), .val (.int c0), .val (.int c1), .val (.int c2), .val (.int c3), .val (.ref x1), .val (.ref x2), .val (.ref y), .unset] [(.int 0), (.ref y)])
  refine Sp.virt B S (y := (⟨"java/lang/String", "charAt", "(I)C"⟩ : MethodName)) (C := "java/lang/String") (argsL := [(.int 0)]) (rest := []) (hw _ (List.mem_of_getElem? (i := 160) rfl)) (hw _ (List.mem_of_getElem? (i := 161) rfl)) (hw _ (List.mem_of_getElem? (i := 163) rfl)) (hw _ (List.mem_of_getElem? (i := 163) rfl)) (hw _ (List.mem_of_getElem? (i := 162) rfl)) (by decide) (Call.con (W := 0) (y_ca l Z a0 EL hw hEW _ zc CS hzc fm SF hfm y ty [46, c2] (by show 2 ≤ 8; decide) hbs G 0 (by show 0 < 2; decide)) (hw _ (List.mem_of_getElem? (i := 164) rfl)) (hw _ (List.mem_of_getElem? (i := 6) rfl)) (by decide) (by decide)) G.1 (by simp) hkq hnq (by rw [hml]; rfl) (lenOf lw_p28 rfl) rfl (Nat.le_of_eq rfl) (hb hby at_113) fun v T h2 nw S hQ => ?_
  obtain ⟨rfl, rfl, rfl⟩ := hQ
  show F T (mkF m 116 #[.val (.int i0), .val (.int i1), .val (.int i2), .val (.int i3), .val (.int i4), .val (.int 0), .val (.int 1), .val (.int c0), .val (.int c1), .val (.int c2), .val (.int c3), .val (.ref x1), .val (.ref x2), .val (.ref y), .unset] [(.int (46 : Int32))])
  refine B (fun tgt kt => XS.bipush S.here S.hx rfl (hb hby at_116) kt) ?_
  show F T (mkF m 118 #[.val (.int i0), .val (.int i1), .val (.int i2), .val (.int i3), .val (.int i4), .val (.int 0), .val (.int 1), .val (.int c0), .val (.int c1), .val (.int c2), .val (.int c3), .val (.ref x1), .val (.ref x2), .val (.ref y), .unset] [(.int (46 : Int32)), (.int (46 : Int32))])
  refine B (fun tgt kt => XS.icmpNo S.here S.hx rfl (hb hby at_118) rfl (ii_ne_f rfl) kt) ?_
  show F T (mkF m 121 #[.val (.int i0), .val (.int i1), .val (.int i2), .val (.int i3), .val (.int i4), .val (.int 0), .val (.int 1), .val (.int c0), .val (.int c1), .val (.int c2), .val (.int c3), .val (.ref x1), .val (.ref x2), .val (.ref y), .unset] [])
  refine B (fun tgt kt => XS.iconst S.here S.hx rfl (hb hby at_121) kt) ?_
  show F T (mkF m 122 #[.val (.int i0), .val (.int i1), .val (.int i2), .val (.int i3), .val (.int i4), .val (.int 0), .val (.int 1), .val (.int c0), .val (.int c1), .val (.int c2), .val (.int c3), .val (.ref x1), .val (.ref x2), .val (.ref y), .unset] [(.int (1 : Int32))])
  refine B (fun tgt kt => XS.goto S.here S.hx rfl (pc0 := 122) (pc' := 126) rfl (hb hby at_122) (by decide) (by decide) kt) ?_
  show F T (mkF m 126 #[.val (.int i0), .val (.int i1), .val (.int i2), .val (.int i3), .val (.int i4), .val (.int 0), .val (.int 1), .val (.int c0), .val (.int c1), .val (.int c2), .val (.int c3), .val (.ref x1), .val (.ref x2), .val (.ref y), .unset] [(.int (1 : Int32))])
  refine B (fun tgt kt => XS.istore S.here S.hx rfl (hb hby at_126) rfl (l' := #[.val (.int i0), .val (.int i1), .val (.int i2), .val (.int i3), .val (.int i4), .val (.int 0), .val (.int 1), .val (.int c0), .val (.int c1), .val (.int c2), .val (.int c3), .val (.ref x1), .val (.ref x2), .val (.ref y), .val (.int (1 : Int32))]) rfl kt) ?_
  show F T (mkF m 128 #[.val (.int i0), .val (.int i1), .val (.int i2), .val (.int i3), .val (.int i4), .val (.int 0), .val (.int 1), .val (.int c0), .val (.int c1), .val (.int c2), .val (.int c3), .val (.ref x1), .val (.ref x2), .val (.ref y), .val (.int (1 : Int32))] [])
  refine B (fun tgt kt => XS.iload S.here S.hx rfl (hb hby at_128) rfl kt) ?_
  show F T (mkF m 130 #[.val (.int i0), .val (.int i1), .val (.int i2), .val (.int i3), .val (.int i4), .val (.int 0), .val (.int 1), .val (.int c0), .val (.int c1), .val (.int c2), .val (.int c3), .val (.ref x1), .val (.ref x2), .val (.ref y), .val (.int (1 : Int32))] [(.int 0)])
  refine B (fun tgt kt => XS.iconst S.here S.hx rfl (hb hby at_130) kt) ?_
  show F T (mkF m 131 #[.val (.int i0), .val (.int i1), .val (.int i2), .val (.int i3), .val (.int i4), .val (.int 0), .val (.int 1), .val (.int c0), .val (.int c1), .val (.int c2), .val (.int c3), .val (.ref x1), .val (.ref x2), .val (.ref y), .val (.int (1 : Int32))] [(.int (1 : Int32)), (.int 0)])
  refine B (fun tgt kt => XS.icmpYes S.here S.hx rfl (pc0 := 131) (pc' := 157) rfl (hb hby at_131) rfl (ii_lt_t (by decide)) (by decide) (by decide) kt) ?_
  show F T (mkF m 157 #[.val (.int i0), .val (.int i1), .val (.int i2), .val (.int i3), .val (.int i4), .val (.int 0), .val (.int 1), .val (.int c0), .val (.int c1), .val (.int c2), .val (.int c3), .val (.ref x1), .val (.ref x2), .val (.ref y), .val (.int (1 : Int32))] [])
  refine B (fun tgt kt => XS.iload S.here S.hx rfl (hb hby at_157) rfl kt) ?_
  show F T (mkF m 159 #[.val (.int i0), .val (.int i1), .val (.int i2), .val (.int i3), .val (.int i4), .val (.int 0), .val (.int 1), .val (.int c0), .val (.int c1), .val (.int c2), .val (.int c3), .val (.ref x1), .val (.ref x2), .val (.ref y), .val (.int (1 : Int32))] [(.int 0)])
  refine B (fun tgt kt => XS.iconst S.here S.hx rfl (hb hby at_159) kt) ?_
  show F T (mkF m 160 #[.val (.int i0), .val (.int i1), .val (.int i2), .val (.int i3), .val (.int i4), .val (.int 0), .val (.int 1), .val (.int c0), .val (.int c1), .val (.int c2), .val (.int c3), .val (.ref x1), .val (.ref x2), .val (.ref y), .val (.int (1 : Int32))] [(.int (2 : Int32)), (.int 0)])
  refine B (fun tgt kt => XS.icmpYes S.here S.hx rfl (pc0 := 160) (pc' := 186) rfl (hb hby at_160) rfl (ii_lt_t (by decide)) (by decide) (by decide) kt) ?_
  show F T (mkF m 186 #[.val (.int i0), .val (.int i1), .val (.int i2), .val (.int i3), .val (.int i4), .val (.int 0), .val (.int 1), .val (.int c0), .val (.int c1), .val (.int c2), .val (.int c3), .val (.ref x1), .val (.ref x2), .val (.ref y), .val (.int (1 : Int32))] [])
  refine B (fun tgt kt => XS.iload S.here S.hx rfl (hb hby at_186) rfl kt) ?_
  show F T (mkF m 188 #[.val (.int i0), .val (.int i1), .val (.int i2), .val (.int i3), .val (.int i4), .val (.int 0), .val (.int 1), .val (.int c0), .val (.int c1), .val (.int c2), .val (.int c3), .val (.ref x1), .val (.ref x2), .val (.ref y), .val (.int (1 : Int32))] [(.int 1)])
  refine B (fun tgt kt => XS.iconst S.here S.hx rfl (hb hby at_188) kt) ?_
  show F T (mkF m 189 #[.val (.int i0), .val (.int i1), .val (.int i2), .val (.int i3), .val (.int i4), .val (.int 0), .val (.int 1), .val (.int c0), .val (.int c1), .val (.int c2), .val (.int c3), .val (.ref x1), .val (.ref x2), .val (.ref y), .val (.int (1 : Int32))] [(.int (1 : Int32)), (.int 1)])
  refine B (fun tgt kt => XS.icmpNo S.here S.hx rfl (hb hby at_189) rfl (ii_lt_f (by decide)) kt) ?_
  show F T (mkF m 192 #[.val (.int i0), .val (.int i1), .val (.int i2), .val (.int i3), .val (.int i4), .val (.int 0), .val (.int 1), .val (.int c0), .val (.int c1), .val (.int c2), .val (.int c3), .val (.ref x1), .val (.ref x2), .val (.ref y), .val (.int (1 : Int32))] [])
  refine B (fun tgt kt => XS.iload S.here S.hx rfl (hb hby at_192) rfl kt) ?_
  show F T (mkF m 194 #[.val (.int i0), .val (.int i1), .val (.int i2), .val (.int i3), .val (.int i4), .val (.int 0), .val (.int 1), .val (.int c0), .val (.int c1), .val (.int c2), .val (.int c3), .val (.ref x1), .val (.ref x2), .val (.ref y), .val (.int (1 : Int32))] [(.int (1 : Int32))])
  refine B (fun tgt kt => XS.ifNo S.here S.hx rfl (hb hby at_194) rfl (i0_eq_f (by decide)) kt) ?_
  show F T (mkF m 197 #[.val (.int i0), .val (.int i1), .val (.int i2), .val (.int i3), .val (.int i4), .val (.int 0), .val (.int 1), .val (.int c0), .val (.int c1), .val (.int c2), .val (.int c3), .val (.ref x1), .val (.ref x2), .val (.ref y), .val (.int (1 : Int32))] [])
  refine B (fun tgt kt => XS.aload S.here S.hx rfl (hb hby at_197) rfl rfl kt) ?_
  show F T (mkF m 199 #[.val (.int i0), .val (.int i1), .val (.int i2), .val (.int i3), .val (.int i4), .val (.int 0), .val (.int 1), .val (.int c0), .val (.int c1), .val (.int c2), .val (.int c3), .val (.ref x1), .val (.ref x2), .val (.ref y), .val (.int (1 : Int32))] [(.ref y)])
  refine B (fun tgt kt => XS.iload S.here S.hx rfl (hb hby at_199) rfl kt) ?_
  show F T (mkF m 201 #[.val (.int i0), .val (.int i1), .val (.int i2), .val (.int i3), .val (.int i4), .val (.int 0), .val (.int 1), .val (.int c0), .val (.int c1), .val (.int c2), .val (.int c3), .val (.ref x1), .val (.ref x2), .val (.ref y), .val (.int (1 : Int32))] [(.int 0), (.ref y)])
  refine B (fun tgt kt => XS.iconst S.here S.hx rfl (hb hby at_201) kt) ?_
  show F T (mkF m 202 #[.val (.int i0), .val (.int i1), .val (.int i2), .val (.int i3), .val (.int i4), .val (.int 0), .val (.int 1), .val (.int c0), .val (.int c1), .val (.int c2), .val (.int c3), .val (.ref x1), .val (.ref x2), .val (.ref y), .val (.int (1 : Int32))] [(.int (1 : Int32)), (.int 0), (.ref y)])
  refine B (fun tgt kt => XS.iadd S.here S.hx rfl (hb hby at_202) rfl kt) ?_
  show F T (mkF m 203 #[.val (.int i0), .val (.int i1), .val (.int i2), .val (.int i3), .val (.int i4), .val (.int 0), .val (.int 1), .val (.int c0), .val (.int c1), .val (.int c2), .val (.int c3), .val (.ref x1), .val (.ref x2), .val (.ref y), .val (.int (1 : Int32))] [(.int ((0 : Int32) + (1 : Int32))), (.ref y)])
  rw [show ((0 : Int32) + (1 : Int32)) = (1 : Int32) from by decide]
  show F T (mkF m 203 #[.val (.int i0), .val (.int i1), .val (.int i2), .val (.int i3), .val (.int i4), .val (.int 0), .val (.int 1), .val (.int c0), .val (.int c1), .val (.int c2), .val (.int c3), .val (.ref x1), .val (.ref x2), .val (.ref y), .val (.int (1 : Int32))] [(.int (1 : Int32)), (.ref y)])
  refine Sp.virt B S (y := (⟨"java/lang/String", "charAt", "(I)C"⟩ : MethodName)) (C := "java/lang/String") (argsL := [(.int (1 : Int32))]) (rest := []) (hw _ (List.mem_of_getElem? (i := 160) rfl)) (hw _ (List.mem_of_getElem? (i := 161) rfl)) (hw _ (List.mem_of_getElem? (i := 163) rfl)) (hw _ (List.mem_of_getElem? (i := 163) rfl)) (hw _ (List.mem_of_getElem? (i := 162) rfl)) (by decide) (Call.con (W := 0) (y_ca l Z a0 EL hw hEW _ zc CS hzc fm SF hfm y ty [46, c2] (by show 2 ≤ 8; decide) hbs G 1 (by show 1 < 2; decide)) (hw _ (List.mem_of_getElem? (i := 164) rfl)) (hw _ (List.mem_of_getElem? (i := 6) rfl)) (by decide) (by decide)) G.1 (by simp) hkq hnq (by rw [hml]; rfl) (lenOf lw_p28 rfl) rfl (Nat.le_of_eq rfl) (hb hby at_203) fun v T h3 nw S hQ => ?_
  obtain ⟨rfl, rfl, rfl⟩ := hQ
  show F T (mkF m 206 #[.val (.int i0), .val (.int i1), .val (.int i2), .val (.int i3), .val (.int i4), .val (.int 0), .val (.int 1), .val (.int c0), .val (.int c1), .val (.int c2), .val (.int c3), .val (.ref x1), .val (.ref x2), .val (.ref y), .val (.int (1 : Int32))] [(.int c2)])
  refine B (fun tgt kt => XS.iload S.here S.hx rfl (hb hby at_206) rfl kt) ?_
  show F T (mkF m 208 #[.val (.int i0), .val (.int i1), .val (.int i2), .val (.int i3), .val (.int i4), .val (.int 0), .val (.int 1), .val (.int c0), .val (.int c1), .val (.int c2), .val (.int c3), .val (.ref x1), .val (.ref x2), .val (.ref y), .val (.int (1 : Int32))] [(.int c2), (.int c2)])
  refine B (fun tgt kt => XS.icmpNo S.here S.hx rfl (hb hby at_208) rfl (ii_ne_f rfl) kt) ?_
  show F T (mkF m 211 #[.val (.int i0), .val (.int i1), .val (.int i2), .val (.int i3), .val (.int i4), .val (.int 0), .val (.int 1), .val (.int c0), .val (.int c1), .val (.int c2), .val (.int c3), .val (.ref x1), .val (.ref x2), .val (.ref y), .val (.int (1 : Int32))] [])
  refine B (fun tgt kt => XS.iconst S.here S.hx rfl (hb hby at_211) kt) ?_
  show F T (mkF m 212 #[.val (.int i0), .val (.int i1), .val (.int i2), .val (.int i3), .val (.int i4), .val (.int 0), .val (.int 1), .val (.int c0), .val (.int c1), .val (.int c2), .val (.int c3), .val (.ref x1), .val (.ref x2), .val (.ref y), .val (.int (1 : Int32))] [(.int (1 : Int32))])
  refine B (fun tgt kt => XS.goto S.here S.hx rfl (pc0 := 212) (pc' := 216) rfl (hb hby at_212) (by decide) (by decide) kt) ?_
  show F T (mkF m 216 #[.val (.int i0), .val (.int i1), .val (.int i2), .val (.int i3), .val (.int i4), .val (.int 0), .val (.int 1), .val (.int c0), .val (.int c1), .val (.int c2), .val (.int c3), .val (.ref x1), .val (.ref x2), .val (.ref y), .val (.int (1 : Int32))] [(.int (1 : Int32))])
  refine B (fun tgt kt => XS.istore S.here S.hx rfl (hb hby at_216) rfl (l' := #[.val (.int i0), .val (.int i1), .val (.int i2), .val (.int i3), .val (.int i4), .val (.int 0), .val (.int 1), .val (.int c0), .val (.int c1), .val (.int c2), .val (.int c3), .val (.ref x1), .val (.ref x2), .val (.ref y), .val (.int (1 : Int32))]) rfl kt) ?_
  show F T (mkF m 218 #[.val (.int i0), .val (.int i1), .val (.int i2), .val (.int i3), .val (.int i4), .val (.int 0), .val (.int 1), .val (.int c0), .val (.int c1), .val (.int c2), .val (.int c3), .val (.ref x1), .val (.ref x2), .val (.ref y), .val (.int (1 : Int32))] [])
  refine B (fun tgt kt => XS.iload S.here S.hx rfl (hb hby at_218) rfl kt) ?_
  show F T (mkF m 220 #[.val (.int i0), .val (.int i1), .val (.int i2), .val (.int i3), .val (.int i4), .val (.int 0), .val (.int 1), .val (.int c0), .val (.int c1), .val (.int c2), .val (.int c3), .val (.ref x1), .val (.ref x2), .val (.ref y), .val (.int (1 : Int32))] [(.int 1)])
  refine B (fun tgt kt => XS.iconst S.here S.hx rfl (hb hby at_220) kt) ?_
  show F T (mkF m 221 #[.val (.int i0), .val (.int i1), .val (.int i2), .val (.int i3), .val (.int i4), .val (.int 0), .val (.int 1), .val (.int c0), .val (.int c1), .val (.int c2), .val (.int c3), .val (.ref x1), .val (.ref x2), .val (.ref y), .val (.int (1 : Int32))] [(.int (2 : Int32)), (.int 1)])
  refine B (fun tgt kt => XS.icmpYes S.here S.hx rfl (pc0 := 221) (pc' := 250) rfl (hb hby at_221) rfl (ii_lt_t (by decide)) (by decide) (by decide) kt) ?_
  show F T (mkF m 250 #[.val (.int i0), .val (.int i1), .val (.int i2), .val (.int i3), .val (.int i4), .val (.int 0), .val (.int 1), .val (.int c0), .val (.int c1), .val (.int c2), .val (.int c3), .val (.ref x1), .val (.ref x2), .val (.ref y), .val (.int (1 : Int32))] [])
  refine B (fun tgt kt => XS.iload S.here S.hx rfl (hb hby at_250) rfl kt) ?_
  show F T (mkF m 252 #[.val (.int i0), .val (.int i1), .val (.int i2), .val (.int i3), .val (.int i4), .val (.int 0), .val (.int 1), .val (.int c0), .val (.int c1), .val (.int c2), .val (.int c3), .val (.ref x1), .val (.ref x2), .val (.ref y), .val (.int (1 : Int32))] [(.int (1 : Int32))])
  exact K _ _ S
set_option maxRecDepth 65536 in
set_option maxHeartbeats 40000000 in
theorem lw_t02 {p : Program} {l : Launch} {e : Env} {s : State} {m : MethodId} {args : Array Value} {below : List Frame} {meth : Method} {c : Code} {Z : State} {a0 : Array Value} {EL : List (String × Nat)} {F : State → JFrame → Prop} {sf : List Addr} {lt : List (String × Nat × Addr)} {kq nq : Nat} {h : Heap} {T : State} (hw : ∀ q ∈ tables_1, q.before a0 Z = true) (hEW : EW Z a0 EL) (B : Bw p e below F) (hby : c.code = code) (hml : c.maxLocals = 15) (zc : Int32) (CS : Sta Z Z.heap "java/lang/String" "COMPACT_STRINGS" "Z" (.int zc)) (hzc : ¬ zc = 0) (fm : Value) (SF : Sta Z Z.heap "jdk/internal/util/Preconditions" "SIOOBE_FORMATTER" "Ljava/util/function/BiFunction;" fm) (hfm : fm.isRef = true) (i0 i1 i2 i3 i4 : Int32) (c0 : Int32) (b0 : ¬ c0 < 0 ∧ ¬ (255 : Int32) < c0) (c1 : Int32) (b1 : ¬ c1 < 0 ∧ ¬ (255 : Int32) < c1) (c2 : Int32) (b2 : ¬ c2 < 0 ∧ ¬ (255 : Int32) < c2) (c3 : Int32) (b3 : ¬ c3 < 0 ∧ ¬ (255 : Int32) < c3) (x1 x2 y ty : Addr) (S : Sp p l e room_1 s m args below meth c Z a0 EL "org/triplebridge/mapping/ColumnSqlPinLaw" T h sf lt kq nq) (hkq : kq + 0 ≤ room_1.cells) (hnq : nq + 0 ≤ room_1.slots) (G : own_L Z h y ty [46, c2, c3]) (K : ∀ (T : State) (L : Array Slot), Sp p l e room_1 s m args below meth c Z a0 EL "org/triplebridge/mapping/ColumnSqlPinLaw" T h sf lt kq nq → F T (mkF m 252 L [(.int (1 : Int32))])) : F T (mkF m 92 #[.val (.int i0), .val (.int i1), .val (.int i2), .val (.int i3), .val (.int i4), .val (.int 0), .val (.int 2), .val (.int c0), .val (.int c1), .val (.int c2), .val (.int c3), .val (.ref x1), .val (.ref x2), .val (.ref y), .unset] []) := by
  have hbs : ∀ q ∈ ([46, c2, c3] : List Int32), ¬ q < 0 ∧ ¬ (255 : Int32) < q := (all_cons (by decide) (all_cons b2 (all_cons b3 all_nil)))
  show F T (mkF m 92 #[.val (.int i0), .val (.int i1), .val (.int i2), .val (.int i3), .val (.int i4), .val (.int 0), .val (.int 2), .val (.int c0), .val (.int c1), .val (.int c2), .val (.int c3), .val (.ref x1), .val (.ref x2), .val (.ref y), .unset] [])
  refine B (fun tgt kt => XS.aload S.here S.hx rfl (hb hby at_92) rfl rfl kt) ?_
  show F T (mkF m 94 #[.val (.int i0), .val (.int i1), .val (.int i2), .val (.int i3), .val (.int i4), .val (.int 0), .val (.int 2), .val (.int c0), .val (.int c1), .val (.int c2), .val (.int c3), .val (.ref x1), .val (.ref x2), .val (.ref y), .unset] [(.ref y)])
  refine Sp.virt B S (y := (⟨"java/lang/String", "length", "()I"⟩ : MethodName)) (C := "java/lang/String") (argsL := []) (rest := []) (hw _ (List.mem_of_getElem? (i := 159) rfl)) (hw _ (List.mem_of_getElem? (i := 76) rfl)) (hw _ (List.mem_of_getElem? (i := 78) rfl)) (hw _ (List.mem_of_getElem? (i := 78) rfl)) (hw _ (List.mem_of_getElem? (i := 77) rfl)) (by decide) (Call.con (W := 0) (b_len l Z a0 EL hw hEW _ zc CS hzc y ty [46, c2, c3] (by show 3 ≤ 8; decide) G) (hw _ (List.mem_of_getElem? (i := 79) rfl)) (hw _ (List.mem_of_getElem? (i := 6) rfl)) (by decide) (by decide)) G.1 (by simp) hkq hnq (by rw [hml]; rfl) (lenOf lw_p22 rfl) rfl (Nat.le_of_eq rfl) (hb hby at_94) fun v T h1 nw S hQ => ?_
  obtain ⟨rfl, rfl, rfl⟩ := hQ
  show F T (mkF m 97 #[.val (.int i0), .val (.int i1), .val (.int i2), .val (.int i3), .val (.int i4), .val (.int 0), .val (.int 2), .val (.int c0), .val (.int c1), .val (.int c2), .val (.int c3), .val (.ref x1), .val (.ref x2), .val (.ref y), .unset] [(.int (3 : Int32))])
  refine B (fun tgt kt => XS.iload S.here S.hx rfl (hb hby at_97) rfl kt) ?_
  show F T (mkF m 99 #[.val (.int i0), .val (.int i1), .val (.int i2), .val (.int i3), .val (.int i4), .val (.int 0), .val (.int 2), .val (.int c0), .val (.int c1), .val (.int c2), .val (.int c3), .val (.ref x1), .val (.ref x2), .val (.ref y), .unset] [(.int 0), (.int (3 : Int32))])
  refine B (fun tgt kt => XS.iconst S.here S.hx rfl (hb hby at_99) kt) ?_
  show F T (mkF m 100 #[.val (.int i0), .val (.int i1), .val (.int i2), .val (.int i3), .val (.int i4), .val (.int 0), .val (.int 2), .val (.int c0), .val (.int c1), .val (.int c2), .val (.int c3), .val (.ref x1), .val (.ref x2), .val (.ref y), .unset] [(.int (1 : Int32)), (.int 0), (.int (3 : Int32))])
  refine B (fun tgt kt => XS.iadd S.here S.hx rfl (hb hby at_100) rfl kt) ?_
  show F T (mkF m 101 #[.val (.int i0), .val (.int i1), .val (.int i2), .val (.int i3), .val (.int i4), .val (.int 0), .val (.int 2), .val (.int c0), .val (.int c1), .val (.int c2), .val (.int c3), .val (.ref x1), .val (.ref x2), .val (.ref y), .unset] [(.int ((0 : Int32) + (1 : Int32))), (.int (3 : Int32))])
  refine B (fun tgt kt => XS.iload S.here S.hx rfl (hb hby at_101) rfl kt) ?_
  show F T (mkF m 103 #[.val (.int i0), .val (.int i1), .val (.int i2), .val (.int i3), .val (.int i4), .val (.int 0), .val (.int 2), .val (.int c0), .val (.int c1), .val (.int c2), .val (.int c3), .val (.ref x1), .val (.ref x2), .val (.ref y), .unset] [(.int 2), (.int ((0 : Int32) + (1 : Int32))), (.int (3 : Int32))])
  refine B (fun tgt kt => XS.iadd S.here S.hx rfl (hb hby at_103) rfl kt) ?_
  show F T (mkF m 104 #[.val (.int i0), .val (.int i1), .val (.int i2), .val (.int i3), .val (.int i4), .val (.int 0), .val (.int 2), .val (.int c0), .val (.int c1), .val (.int c2), .val (.int c3), .val (.ref x1), .val (.ref x2), .val (.ref y), .unset] [(.int (((0 : Int32) + (1 : Int32)) + (2 : Int32))), (.int (3 : Int32))])
  refine B (fun tgt kt => XS.icmpYes S.here S.hx rfl (pc0 := 104) (pc' := 109) rfl (hb hby at_104) rfl (ii_eq_t (by decide)) (by decide) (by decide) kt) ?_
  show F T (mkF m 109 #[.val (.int i0), .val (.int i1), .val (.int i2), .val (.int i3), .val (.int i4), .val (.int 0), .val (.int 2), .val (.int c0), .val (.int c1), .val (.int c2), .val (.int c3), .val (.ref x1), .val (.ref x2), .val (.ref y), .unset] [])
  refine B (fun tgt kt => XS.aload S.here S.hx rfl (hb hby at_109) rfl rfl kt) ?_
  show F T (mkF m 111 #[.val (.int i0), .val (.int i1), .val (.int i2), .val (.int i3), .val (.int i4), .val (.int 0), .val (.int 2), .val (.int c0), .val (.int c1), .val (.int c2), .val (.int c3), .val (.ref x1), .val (.ref x2), .val (.ref y), .unset] [(.ref y)])
  refine B (fun tgt kt => XS.iload S.here S.hx rfl (hb hby at_111) rfl kt) ?_
  show F T (mkF m 113 #[.val (.int i0), .val (.int i1), .val (.int i2), .val (.int i3), .val (.int i4), .val (.int 0), .val (.int 2), .val (.int c0), .val (.int c1), .val (.int c2), .val (.int c3), .val (.ref x1), .val (.ref x2), .val (.ref y), .unset] [(.int 0), (.ref y)])
  refine Sp.virt B S (y := (⟨"java/lang/String", "charAt", "(I)C"⟩ : MethodName)) (C := "java/lang/String") (argsL := [(.int 0)]) (rest := []) (hw _ (List.mem_of_getElem? (i := 160) rfl)) (hw _ (List.mem_of_getElem? (i := 161) rfl)) (hw _ (List.mem_of_getElem? (i := 163) rfl)) (hw _ (List.mem_of_getElem? (i := 163) rfl)) (hw _ (List.mem_of_getElem? (i := 162) rfl)) (by decide) (Call.con (W := 0) (y_ca l Z a0 EL hw hEW _ zc CS hzc fm SF hfm y ty [46, c2, c3] (by show 3 ≤ 8; decide) hbs G 0 (by show 0 < 3; decide)) (hw _ (List.mem_of_getElem? (i := 164) rfl)) (hw _ (List.mem_of_getElem? (i := 6) rfl)) (by decide) (by decide)) G.1 (by simp) hkq hnq (by rw [hml]; rfl) (lenOf lw_p28 rfl) rfl (Nat.le_of_eq rfl) (hb hby at_113) fun v T h2 nw S hQ => ?_
  obtain ⟨rfl, rfl, rfl⟩ := hQ
  show F T (mkF m 116 #[.val (.int i0), .val (.int i1), .val (.int i2), .val (.int i3), .val (.int i4), .val (.int 0), .val (.int 2), .val (.int c0), .val (.int c1), .val (.int c2), .val (.int c3), .val (.ref x1), .val (.ref x2), .val (.ref y), .unset] [(.int (46 : Int32))])
  refine B (fun tgt kt => XS.bipush S.here S.hx rfl (hb hby at_116) kt) ?_
  show F T (mkF m 118 #[.val (.int i0), .val (.int i1), .val (.int i2), .val (.int i3), .val (.int i4), .val (.int 0), .val (.int 2), .val (.int c0), .val (.int c1), .val (.int c2), .val (.int c3), .val (.ref x1), .val (.ref x2), .val (.ref y), .unset] [(.int (46 : Int32)), (.int (46 : Int32))])
  refine B (fun tgt kt => XS.icmpNo S.here S.hx rfl (hb hby at_118) rfl (ii_ne_f rfl) kt) ?_
  show F T (mkF m 121 #[.val (.int i0), .val (.int i1), .val (.int i2), .val (.int i3), .val (.int i4), .val (.int 0), .val (.int 2), .val (.int c0), .val (.int c1), .val (.int c2), .val (.int c3), .val (.ref x1), .val (.ref x2), .val (.ref y), .unset] [])
  refine B (fun tgt kt => XS.iconst S.here S.hx rfl (hb hby at_121) kt) ?_
  show F T (mkF m 122 #[.val (.int i0), .val (.int i1), .val (.int i2), .val (.int i3), .val (.int i4), .val (.int 0), .val (.int 2), .val (.int c0), .val (.int c1), .val (.int c2), .val (.int c3), .val (.ref x1), .val (.ref x2), .val (.ref y), .unset] [(.int (1 : Int32))])
  refine B (fun tgt kt => XS.goto S.here S.hx rfl (pc0 := 122) (pc' := 126) rfl (hb hby at_122) (by decide) (by decide) kt) ?_
  show F T (mkF m 126 #[.val (.int i0), .val (.int i1), .val (.int i2), .val (.int i3), .val (.int i4), .val (.int 0), .val (.int 2), .val (.int c0), .val (.int c1), .val (.int c2), .val (.int c3), .val (.ref x1), .val (.ref x2), .val (.ref y), .unset] [(.int (1 : Int32))])
  refine B (fun tgt kt => XS.istore S.here S.hx rfl (hb hby at_126) rfl (l' := #[.val (.int i0), .val (.int i1), .val (.int i2), .val (.int i3), .val (.int i4), .val (.int 0), .val (.int 2), .val (.int c0), .val (.int c1), .val (.int c2), .val (.int c3), .val (.ref x1), .val (.ref x2), .val (.ref y), .val (.int (1 : Int32))]) rfl kt) ?_
  show F T (mkF m 128 #[.val (.int i0), .val (.int i1), .val (.int i2), .val (.int i3), .val (.int i4), .val (.int 0), .val (.int 2), .val (.int c0), .val (.int c1), .val (.int c2), .val (.int c3), .val (.ref x1), .val (.ref x2), .val (.ref y), .val (.int (1 : Int32))] [])
  refine B (fun tgt kt => XS.iload S.here S.hx rfl (hb hby at_128) rfl kt) ?_
  show F T (mkF m 130 #[.val (.int i0), .val (.int i1), .val (.int i2), .val (.int i3), .val (.int i4), .val (.int 0), .val (.int 2), .val (.int c0), .val (.int c1), .val (.int c2), .val (.int c3), .val (.ref x1), .val (.ref x2), .val (.ref y), .val (.int (1 : Int32))] [(.int 0)])
  refine B (fun tgt kt => XS.iconst S.here S.hx rfl (hb hby at_130) kt) ?_
  show F T (mkF m 131 #[.val (.int i0), .val (.int i1), .val (.int i2), .val (.int i3), .val (.int i4), .val (.int 0), .val (.int 2), .val (.int c0), .val (.int c1), .val (.int c2), .val (.int c3), .val (.ref x1), .val (.ref x2), .val (.ref y), .val (.int (1 : Int32))] [(.int (1 : Int32)), (.int 0)])
  refine B (fun tgt kt => XS.icmpYes S.here S.hx rfl (pc0 := 131) (pc' := 157) rfl (hb hby at_131) rfl (ii_lt_t (by decide)) (by decide) (by decide) kt) ?_
  show F T (mkF m 157 #[.val (.int i0), .val (.int i1), .val (.int i2), .val (.int i3), .val (.int i4), .val (.int 0), .val (.int 2), .val (.int c0), .val (.int c1), .val (.int c2), .val (.int c3), .val (.ref x1), .val (.ref x2), .val (.ref y), .val (.int (1 : Int32))] [])
  refine B (fun tgt kt => XS.iload S.here S.hx rfl (hb hby at_157) rfl kt) ?_
  show F T (mkF m 159 #[.val (.int i0), .val (.int i1), .val (.int i2), .val (.int i3), .val (.int i4), .val (.int 0), .val (.int 2), .val (.int c0), .val (.int c1), .val (.int c2), .val (.int c3), .val (.ref x1), .val (.ref x2), .val (.ref y), .val (.int (1 : Int32))] [(.int 0)])
  refine B (fun tgt kt => XS.iconst S.here S.hx rfl (hb hby at_159) kt) ?_
  show F T (mkF m 160 #[.val (.int i0), .val (.int i1), .val (.int i2), .val (.int i3), .val (.int i4), .val (.int 0), .val (.int 2), .val (.int c0), .val (.int c1), .val (.int c2), .val (.int c3), .val (.ref x1), .val (.ref x2), .val (.ref y), .val (.int (1 : Int32))] [(.int (2 : Int32)), (.int 0)])
  refine B (fun tgt kt => XS.icmpYes S.here S.hx rfl (pc0 := 160) (pc' := 186) rfl (hb hby at_160) rfl (ii_lt_t (by decide)) (by decide) (by decide) kt) ?_
  show F T (mkF m 186 #[.val (.int i0), .val (.int i1), .val (.int i2), .val (.int i3), .val (.int i4), .val (.int 0), .val (.int 2), .val (.int c0), .val (.int c1), .val (.int c2), .val (.int c3), .val (.ref x1), .val (.ref x2), .val (.ref y), .val (.int (1 : Int32))] [])
  refine B (fun tgt kt => XS.iload S.here S.hx rfl (hb hby at_186) rfl kt) ?_
  show F T (mkF m 188 #[.val (.int i0), .val (.int i1), .val (.int i2), .val (.int i3), .val (.int i4), .val (.int 0), .val (.int 2), .val (.int c0), .val (.int c1), .val (.int c2), .val (.int c3), .val (.ref x1), .val (.ref x2), .val (.ref y), .val (.int (1 : Int32))] [(.int 2)])
  refine B (fun tgt kt => XS.iconst S.here S.hx rfl (hb hby at_188) kt) ?_
  show F T (mkF m 189 #[.val (.int i0), .val (.int i1), .val (.int i2), .val (.int i3), .val (.int i4), .val (.int 0), .val (.int 2), .val (.int c0), .val (.int c1), .val (.int c2), .val (.int c3), .val (.ref x1), .val (.ref x2), .val (.ref y), .val (.int (1 : Int32))] [(.int (1 : Int32)), (.int 2)])
  refine B (fun tgt kt => XS.icmpNo S.here S.hx rfl (hb hby at_189) rfl (ii_lt_f (by decide)) kt) ?_
  show F T (mkF m 192 #[.val (.int i0), .val (.int i1), .val (.int i2), .val (.int i3), .val (.int i4), .val (.int 0), .val (.int 2), .val (.int c0), .val (.int c1), .val (.int c2), .val (.int c3), .val (.ref x1), .val (.ref x2), .val (.ref y), .val (.int (1 : Int32))] [])
  refine B (fun tgt kt => XS.iload S.here S.hx rfl (hb hby at_192) rfl kt) ?_
  show F T (mkF m 194 #[.val (.int i0), .val (.int i1), .val (.int i2), .val (.int i3), .val (.int i4), .val (.int 0), .val (.int 2), .val (.int c0), .val (.int c1), .val (.int c2), .val (.int c3), .val (.ref x1), .val (.ref x2), .val (.ref y), .val (.int (1 : Int32))] [(.int (1 : Int32))])
  refine B (fun tgt kt => XS.ifNo S.here S.hx rfl (hb hby at_194) rfl (i0_eq_f (by decide)) kt) ?_
  show F T (mkF m 197 #[.val (.int i0), .val (.int i1), .val (.int i2), .val (.int i3), .val (.int i4), .val (.int 0), .val (.int 2), .val (.int c0), .val (.int c1), .val (.int c2), .val (.int c3), .val (.ref x1), .val (.ref x2), .val (.ref y), .val (.int (1 : Int32))] [])
  refine B (fun tgt kt => XS.aload S.here S.hx rfl (hb hby at_197) rfl rfl kt) ?_
  show F T (mkF m 199 #[.val (.int i0), .val (.int i1), .val (.int i2), .val (.int i3), .val (.int i4), .val (.int 0), .val (.int 2), .val (.int c0), .val (.int c1), .val (.int c2), .val (.int c3), .val (.ref x1), .val (.ref x2), .val (.ref y), .val (.int (1 : Int32))] [(.ref y)])
  refine B (fun tgt kt => XS.iload S.here S.hx rfl (hb hby at_199) rfl kt) ?_
  show F T (mkF m 201 #[.val (.int i0), .val (.int i1), .val (.int i2), .val (.int i3), .val (.int i4), .val (.int 0), .val (.int 2), .val (.int c0), .val (.int c1), .val (.int c2), .val (.int c3), .val (.ref x1), .val (.ref x2), .val (.ref y), .val (.int (1 : Int32))] [(.int 0), (.ref y)])
  refine B (fun tgt kt => XS.iconst S.here S.hx rfl (hb hby at_201) kt) ?_
  show F T (mkF m 202 #[.val (.int i0), .val (.int i1), .val (.int i2), .val (.int i3), .val (.int i4), .val (.int 0), .val (.int 2), .val (.int c0), .val (.int c1), .val (.int c2), .val (.int c3), .val (.ref x1), .val (.ref x2), .val (.ref y), .val (.int (1 : Int32))] [(.int (1 : Int32)), (.int 0), (.ref y)])
  refine B (fun tgt kt => XS.iadd S.here S.hx rfl (hb hby at_202) rfl kt) ?_
  show F T (mkF m 203 #[.val (.int i0), .val (.int i1), .val (.int i2), .val (.int i3), .val (.int i4), .val (.int 0), .val (.int 2), .val (.int c0), .val (.int c1), .val (.int c2), .val (.int c3), .val (.ref x1), .val (.ref x2), .val (.ref y), .val (.int (1 : Int32))] [(.int ((0 : Int32) + (1 : Int32))), (.ref y)])
  rw [show ((0 : Int32) + (1 : Int32)) = (1 : Int32) from by decide]
  show F T (mkF m 203 #[.val (.int i0), .val (.int i1), .val (.int i2), .val (.int i3), .val (.int i4), .val (.int 0), .val (.int 2), .val (.int c0), .val (.int c1), .val (.int c2), .val (.int c3), .val (.ref x1), .val (.ref x2), .val (.ref y), .val (.int (1 : Int32))] [(.int (1 : Int32)), (.ref y)])
  refine Sp.virt B S (y := (⟨"java/lang/String", "charAt", "(I)C"⟩ : MethodName)) (C := "java/lang/String") (argsL := [(.int (1 : Int32))]) (rest := []) (hw _ (List.mem_of_getElem? (i := 160) rfl)) (hw _ (List.mem_of_getElem? (i := 161) rfl)) (hw _ (List.mem_of_getElem? (i := 163) rfl)) (hw _ (List.mem_of_getElem? (i := 163) rfl)) (hw _ (List.mem_of_getElem? (i := 162) rfl)) (by decide) (Call.con (W := 0) (y_ca l Z a0 EL hw hEW _ zc CS hzc fm SF hfm y ty [46, c2, c3] (by show 3 ≤ 8; decide) hbs G 1 (by show 1 < 3; decide)) (hw _ (List.mem_of_getElem? (i := 164) rfl)) (hw _ (List.mem_of_getElem? (i := 6) rfl)) (by decide) (by decide)) G.1 (by simp) hkq hnq (by rw [hml]; rfl) (lenOf lw_p28 rfl) rfl (Nat.le_of_eq rfl) (hb hby at_203) fun v T h3 nw S hQ => ?_
  obtain ⟨rfl, rfl, rfl⟩ := hQ
  show F T (mkF m 206 #[.val (.int i0), .val (.int i1), .val (.int i2), .val (.int i3), .val (.int i4), .val (.int 0), .val (.int 2), .val (.int c0), .val (.int c1), .val (.int c2), .val (.int c3), .val (.ref x1), .val (.ref x2), .val (.ref y), .val (.int (1 : Int32))] [(.int c2)])
  refine B (fun tgt kt => XS.iload S.here S.hx rfl (hb hby at_206) rfl kt) ?_
  show F T (mkF m 208 #[.val (.int i0), .val (.int i1), .val (.int i2), .val (.int i3), .val (.int i4), .val (.int 0), .val (.int 2), .val (.int c0), .val (.int c1), .val (.int c2), .val (.int c3), .val (.ref x1), .val (.ref x2), .val (.ref y), .val (.int (1 : Int32))] [(.int c2), (.int c2)])
  refine B (fun tgt kt => XS.icmpNo S.here S.hx rfl (hb hby at_208) rfl (ii_ne_f rfl) kt) ?_
  show F T (mkF m 211 #[.val (.int i0), .val (.int i1), .val (.int i2), .val (.int i3), .val (.int i4), .val (.int 0), .val (.int 2), .val (.int c0), .val (.int c1), .val (.int c2), .val (.int c3), .val (.ref x1), .val (.ref x2), .val (.ref y), .val (.int (1 : Int32))] [])
  refine B (fun tgt kt => XS.iconst S.here S.hx rfl (hb hby at_211) kt) ?_
  show F T (mkF m 212 #[.val (.int i0), .val (.int i1), .val (.int i2), .val (.int i3), .val (.int i4), .val (.int 0), .val (.int 2), .val (.int c0), .val (.int c1), .val (.int c2), .val (.int c3), .val (.ref x1), .val (.ref x2), .val (.ref y), .val (.int (1 : Int32))] [(.int (1 : Int32))])
  refine B (fun tgt kt => XS.goto S.here S.hx rfl (pc0 := 212) (pc' := 216) rfl (hb hby at_212) (by decide) (by decide) kt) ?_
  show F T (mkF m 216 #[.val (.int i0), .val (.int i1), .val (.int i2), .val (.int i3), .val (.int i4), .val (.int 0), .val (.int 2), .val (.int c0), .val (.int c1), .val (.int c2), .val (.int c3), .val (.ref x1), .val (.ref x2), .val (.ref y), .val (.int (1 : Int32))] [(.int (1 : Int32))])
  refine B (fun tgt kt => XS.istore S.here S.hx rfl (hb hby at_216) rfl (l' := #[.val (.int i0), .val (.int i1), .val (.int i2), .val (.int i3), .val (.int i4), .val (.int 0), .val (.int 2), .val (.int c0), .val (.int c1), .val (.int c2), .val (.int c3), .val (.ref x1), .val (.ref x2), .val (.ref y), .val (.int (1 : Int32))]) rfl kt) ?_
  show F T (mkF m 218 #[.val (.int i0), .val (.int i1), .val (.int i2), .val (.int i3), .val (.int i4), .val (.int 0), .val (.int 2), .val (.int c0), .val (.int c1), .val (.int c2), .val (.int c3), .val (.ref x1), .val (.ref x2), .val (.ref y), .val (.int (1 : Int32))] [])
  refine B (fun tgt kt => XS.iload S.here S.hx rfl (hb hby at_218) rfl kt) ?_
  show F T (mkF m 220 #[.val (.int i0), .val (.int i1), .val (.int i2), .val (.int i3), .val (.int i4), .val (.int 0), .val (.int 2), .val (.int c0), .val (.int c1), .val (.int c2), .val (.int c3), .val (.ref x1), .val (.ref x2), .val (.ref y), .val (.int (1 : Int32))] [(.int 2)])
  refine B (fun tgt kt => XS.iconst S.here S.hx rfl (hb hby at_220) kt) ?_
  show F T (mkF m 221 #[.val (.int i0), .val (.int i1), .val (.int i2), .val (.int i3), .val (.int i4), .val (.int 0), .val (.int 2), .val (.int c0), .val (.int c1), .val (.int c2), .val (.int c3), .val (.ref x1), .val (.ref x2), .val (.ref y), .val (.int (1 : Int32))] [(.int (2 : Int32)), (.int 2)])
  refine B (fun tgt kt => XS.icmpNo S.here S.hx rfl (hb hby at_221) rfl (ii_lt_f (by decide)) kt) ?_
  show F T (mkF m 224 #[.val (.int i0), .val (.int i1), .val (.int i2), .val (.int i3), .val (.int i4), .val (.int 0), .val (.int 2), .val (.int c0), .val (.int c1), .val (.int c2), .val (.int c3), .val (.ref x1), .val (.ref x2), .val (.ref y), .val (.int (1 : Int32))] [])
  refine B (fun tgt kt => XS.iload S.here S.hx rfl (hb hby at_224) rfl kt) ?_
  show F T (mkF m 226 #[.val (.int i0), .val (.int i1), .val (.int i2), .val (.int i3), .val (.int i4), .val (.int 0), .val (.int 2), .val (.int c0), .val (.int c1), .val (.int c2), .val (.int c3), .val (.ref x1), .val (.ref x2), .val (.ref y), .val (.int (1 : Int32))] [(.int (1 : Int32))])
  refine B (fun tgt kt => XS.ifNo S.here S.hx rfl (hb hby at_226) rfl (i0_eq_f (by decide)) kt) ?_
  show F T (mkF m 229 #[.val (.int i0), .val (.int i1), .val (.int i2), .val (.int i3), .val (.int i4), .val (.int 0), .val (.int 2), .val (.int c0), .val (.int c1), .val (.int c2), .val (.int c3), .val (.ref x1), .val (.ref x2), .val (.ref y), .val (.int (1 : Int32))] [])
  refine B (fun tgt kt => XS.aload S.here S.hx rfl (hb hby at_229) rfl rfl kt) ?_
  show F T (mkF m 231 #[.val (.int i0), .val (.int i1), .val (.int i2), .val (.int i3), .val (.int i4), .val (.int 0), .val (.int 2), .val (.int c0), .val (.int c1), .val (.int c2), .val (.int c3), .val (.ref x1), .val (.ref x2), .val (.ref y), .val (.int (1 : Int32))] [(.ref y)])
  refine B (fun tgt kt => XS.iload S.here S.hx rfl (hb hby at_231) rfl kt) ?_
  show F T (mkF m 233 #[.val (.int i0), .val (.int i1), .val (.int i2), .val (.int i3), .val (.int i4), .val (.int 0), .val (.int 2), .val (.int c0), .val (.int c1), .val (.int c2), .val (.int c3), .val (.ref x1), .val (.ref x2), .val (.ref y), .val (.int (1 : Int32))] [(.int 0), (.ref y)])
  refine B (fun tgt kt => XS.iconst S.here S.hx rfl (hb hby at_233) kt) ?_
  show F T (mkF m 234 #[.val (.int i0), .val (.int i1), .val (.int i2), .val (.int i3), .val (.int i4), .val (.int 0), .val (.int 2), .val (.int c0), .val (.int c1), .val (.int c2), .val (.int c3), .val (.ref x1), .val (.ref x2), .val (.ref y), .val (.int (1 : Int32))] [(.int (2 : Int32)), (.int 0), (.ref y)])
  refine B (fun tgt kt => XS.iadd S.here S.hx rfl (hb hby at_234) rfl kt) ?_
  show F T (mkF m 235 #[.val (.int i0), .val (.int i1), .val (.int i2), .val (.int i3), .val (.int i4), .val (.int 0), .val (.int 2), .val (.int c0), .val (.int c1), .val (.int c2), .val (.int c3), .val (.ref x1), .val (.ref x2), .val (.ref y), .val (.int (1 : Int32))] [(.int ((0 : Int32) + (2 : Int32))), (.ref y)])
  rw [show ((0 : Int32) + (2 : Int32)) = (2 : Int32) from by decide]
  show F T (mkF m 235 #[.val (.int i0), .val (.int i1), .val (.int i2), .val (.int i3), .val (.int i4), .val (.int 0), .val (.int 2), .val (.int c0), .val (.int c1), .val (.int c2), .val (.int c3), .val (.ref x1), .val (.ref x2), .val (.ref y), .val (.int (1 : Int32))] [(.int (2 : Int32)), (.ref y)])
  refine Sp.virt B S (y := (⟨"java/lang/String", "charAt", "(I)C"⟩ : MethodName)) (C := "java/lang/String") (argsL := [(.int (2 : Int32))]) (rest := []) (hw _ (List.mem_of_getElem? (i := 160) rfl)) (hw _ (List.mem_of_getElem? (i := 161) rfl)) (hw _ (List.mem_of_getElem? (i := 163) rfl)) (hw _ (List.mem_of_getElem? (i := 163) rfl)) (hw _ (List.mem_of_getElem? (i := 162) rfl)) (by decide) (Call.con (W := 0) (y_ca l Z a0 EL hw hEW _ zc CS hzc fm SF hfm y ty [46, c2, c3] (by show 3 ≤ 8; decide) hbs G 2 (by show 2 < 3; decide)) (hw _ (List.mem_of_getElem? (i := 164) rfl)) (hw _ (List.mem_of_getElem? (i := 6) rfl)) (by decide) (by decide)) G.1 (by simp) hkq hnq (by rw [hml]; rfl) (lenOf lw_p28 rfl) rfl (Nat.le_of_eq rfl) (hb hby at_235) fun v T h4 nw S hQ => ?_
  obtain ⟨rfl, rfl, rfl⟩ := hQ
  show F T (mkF m 238 #[.val (.int i0), .val (.int i1), .val (.int i2), .val (.int i3), .val (.int i4), .val (.int 0), .val (.int 2), .val (.int c0), .val (.int c1), .val (.int c2), .val (.int c3), .val (.ref x1), .val (.ref x2), .val (.ref y), .val (.int (1 : Int32))] [(.int c3)])
  refine B (fun tgt kt => XS.iload S.here S.hx rfl (hb hby at_238) rfl kt) ?_
  show F T (mkF m 240 #[.val (.int i0), .val (.int i1), .val (.int i2), .val (.int i3), .val (.int i4), .val (.int 0), .val (.int 2), .val (.int c0), .val (.int c1), .val (.int c2), .val (.int c3), .val (.ref x1), .val (.ref x2), .val (.ref y), .val (.int (1 : Int32))] [(.int c3), (.int c3)])
  refine B (fun tgt kt => XS.icmpNo S.here S.hx rfl (hb hby at_240) rfl (ii_ne_f rfl) kt) ?_
  show F T (mkF m 243 #[.val (.int i0), .val (.int i1), .val (.int i2), .val (.int i3), .val (.int i4), .val (.int 0), .val (.int 2), .val (.int c0), .val (.int c1), .val (.int c2), .val (.int c3), .val (.ref x1), .val (.ref x2), .val (.ref y), .val (.int (1 : Int32))] [])
  refine B (fun tgt kt => XS.iconst S.here S.hx rfl (hb hby at_243) kt) ?_
  show F T (mkF m 244 #[.val (.int i0), .val (.int i1), .val (.int i2), .val (.int i3), .val (.int i4), .val (.int 0), .val (.int 2), .val (.int c0), .val (.int c1), .val (.int c2), .val (.int c3), .val (.ref x1), .val (.ref x2), .val (.ref y), .val (.int (1 : Int32))] [(.int (1 : Int32))])
  refine B (fun tgt kt => XS.goto S.here S.hx rfl (pc0 := 244) (pc' := 248) rfl (hb hby at_244) (by decide) (by decide) kt) ?_
  show F T (mkF m 248 #[.val (.int i0), .val (.int i1), .val (.int i2), .val (.int i3), .val (.int i4), .val (.int 0), .val (.int 2), .val (.int c0), .val (.int c1), .val (.int c2), .val (.int c3), .val (.ref x1), .val (.ref x2), .val (.ref y), .val (.int (1 : Int32))] [(.int (1 : Int32))])
  refine B (fun tgt kt => XS.istore S.here S.hx rfl (hb hby at_248) rfl (l' := #[.val (.int i0), .val (.int i1), .val (.int i2), .val (.int i3), .val (.int i4), .val (.int 0), .val (.int 2), .val (.int c0), .val (.int c1), .val (.int c2), .val (.int c3), .val (.ref x1), .val (.ref x2), .val (.ref y), .val (.int (1 : Int32))]) rfl kt) ?_
  show F T (mkF m 250 #[.val (.int i0), .val (.int i1), .val (.int i2), .val (.int i3), .val (.int i4), .val (.int 0), .val (.int 2), .val (.int c0), .val (.int c1), .val (.int c2), .val (.int c3), .val (.ref x1), .val (.ref x2), .val (.ref y), .val (.int (1 : Int32))] [])
  refine B (fun tgt kt => XS.iload S.here S.hx rfl (hb hby at_250) rfl kt) ?_
  show F T (mkF m 252 #[.val (.int i0), .val (.int i1), .val (.int i2), .val (.int i3), .val (.int i4), .val (.int 0), .val (.int 2), .val (.int c0), .val (.int c1), .val (.int c2), .val (.int c3), .val (.ref x1), .val (.ref x2), .val (.ref y), .val (.int (1 : Int32))] [(.int (1 : Int32))])
  exact K _ _ S
set_option maxRecDepth 65536 in
set_option maxHeartbeats 40000000 in
theorem lw_t10 {p : Program} {l : Launch} {e : Env} {s : State} {m : MethodId} {args : Array Value} {below : List Frame} {meth : Method} {c : Code} {Z : State} {a0 : Array Value} {EL : List (String × Nat)} {F : State → JFrame → Prop} {sf : List Addr} {lt : List (String × Nat × Addr)} {kq nq : Nat} {h : Heap} {T : State} (hw : ∀ q ∈ tables_1, q.before a0 Z = true) (hEW : EW Z a0 EL) (B : Bw p e below F) (hby : c.code = code) (hml : c.maxLocals = 15) (zc : Int32) (CS : Sta Z Z.heap "java/lang/String" "COMPACT_STRINGS" "Z" (.int zc)) (hzc : ¬ zc = 0) (fm : Value) (SF : Sta Z Z.heap "jdk/internal/util/Preconditions" "SIOOBE_FORMATTER" "Ljava/util/function/BiFunction;" fm) (hfm : fm.isRef = true) (i0 i1 i2 i3 i4 : Int32) (c0 : Int32) (b0 : ¬ c0 < 0 ∧ ¬ (255 : Int32) < c0) (c1 : Int32) (b1 : ¬ c1 < 0 ∧ ¬ (255 : Int32) < c1) (c2 : Int32) (b2 : ¬ c2 < 0 ∧ ¬ (255 : Int32) < c2) (c3 : Int32) (b3 : ¬ c3 < 0 ∧ ¬ (255 : Int32) < c3) (x1 x2 y ty : Addr) (S : Sp p l e room_1 s m args below meth c Z a0 EL "org/triplebridge/mapping/ColumnSqlPinLaw" T h sf lt kq nq) (hkq : kq + 0 ≤ room_1.cells) (hnq : nq + 0 ≤ room_1.slots) (G : own_L Z h y ty [c0, 46]) (K : ∀ (T : State) (L : Array Slot), Sp p l e room_1 s m args below meth c Z a0 EL "org/triplebridge/mapping/ColumnSqlPinLaw" T h sf lt kq nq → F T (mkF m 252 L [(.int (1 : Int32))])) : F T (mkF m 92 #[.val (.int i0), .val (.int i1), .val (.int i2), .val (.int i3), .val (.int i4), .val (.int 1), .val (.int 0), .val (.int c0), .val (.int c1), .val (.int c2), .val (.int c3), .val (.ref x1), .val (.ref x2), .val (.ref y), .unset] []) := by
  have hbs : ∀ q ∈ ([c0, 46] : List Int32), ¬ q < 0 ∧ ¬ (255 : Int32) < q := (all_cons b0 (all_cons (by decide) all_nil))
  show F T (mkF m 92 #[.val (.int i0), .val (.int i1), .val (.int i2), .val (.int i3), .val (.int i4), .val (.int 1), .val (.int 0), .val (.int c0), .val (.int c1), .val (.int c2), .val (.int c3), .val (.ref x1), .val (.ref x2), .val (.ref y), .unset] [])
  refine B (fun tgt kt => XS.aload S.here S.hx rfl (hb hby at_92) rfl rfl kt) ?_
  show F T (mkF m 94 #[.val (.int i0), .val (.int i1), .val (.int i2), .val (.int i3), .val (.int i4), .val (.int 1), .val (.int 0), .val (.int c0), .val (.int c1), .val (.int c2), .val (.int c3), .val (.ref x1), .val (.ref x2), .val (.ref y), .unset] [(.ref y)])
  refine Sp.virt B S (y := (⟨"java/lang/String", "length", "()I"⟩ : MethodName)) (C := "java/lang/String") (argsL := []) (rest := []) (hw _ (List.mem_of_getElem? (i := 159) rfl)) (hw _ (List.mem_of_getElem? (i := 76) rfl)) (hw _ (List.mem_of_getElem? (i := 78) rfl)) (hw _ (List.mem_of_getElem? (i := 78) rfl)) (hw _ (List.mem_of_getElem? (i := 77) rfl)) (by decide) (Call.con (W := 0) (b_len l Z a0 EL hw hEW _ zc CS hzc y ty [c0, 46] (by show 2 ≤ 8; decide) G) (hw _ (List.mem_of_getElem? (i := 79) rfl)) (hw _ (List.mem_of_getElem? (i := 6) rfl)) (by decide) (by decide)) G.1 (by simp) hkq hnq (by rw [hml]; rfl) (lenOf lw_p22 rfl) rfl (Nat.le_of_eq rfl) (hb hby at_94) fun v T h1 nw S hQ => ?_
  obtain ⟨rfl, rfl, rfl⟩ := hQ
  show F T (mkF m 97 #[.val (.int i0), .val (.int i1), .val (.int i2), .val (.int i3), .val (.int i4), .val (.int 1), .val (.int 0), .val (.int c0), .val (.int c1), .val (.int c2), .val (.int c3), .val (.ref x1), .val (.ref x2), .val (.ref y), .unset] [(.int (2 : Int32))])
  refine B (fun tgt kt => XS.iload S.here S.hx rfl (hb hby at_97) rfl kt) ?_
  show F T (mkF m 99 #[.val (.int i0), .val (.int i1), .val (.int i2), .val (.int i3), .val (.int i4), .val (.int 1), .val (.int 0), .val (.int c0), .val (.int c1), .val (.int c2), .val (.int c3), .val (.ref x1), .val (.ref x2), .val (.ref y), .unset] [(.int 1), (.int (2 : Int32))])
  refine B (fun tgt kt => XS.iconst S.here S.hx rfl (hb hby at_99) kt) ?_
  show F T (mkF m 100 #[.val (.int i0), .val (.int i1), .val (.int i2), .val (.int i3), .val (.int i4), .val (.int 1), .val (.int 0), .val (.int c0), .val (.int c1), .val (.int c2), .val (.int c3), .val (.ref x1), .val (.ref x2), .val (.ref y), .unset] [(.int (1 : Int32)), (.int 1), (.int (2 : Int32))])
  refine B (fun tgt kt => XS.iadd S.here S.hx rfl (hb hby at_100) rfl kt) ?_
  show F T (mkF m 101 #[.val (.int i0), .val (.int i1), .val (.int i2), .val (.int i3), .val (.int i4), .val (.int 1), .val (.int 0), .val (.int c0), .val (.int c1), .val (.int c2), .val (.int c3), .val (.ref x1), .val (.ref x2), .val (.ref y), .unset] [(.int ((1 : Int32) + (1 : Int32))), (.int (2 : Int32))])
  refine B (fun tgt kt => XS.iload S.here S.hx rfl (hb hby at_101) rfl kt) ?_
  show F T (mkF m 103 #[.val (.int i0), .val (.int i1), .val (.int i2), .val (.int i3), .val (.int i4), .val (.int 1), .val (.int 0), .val (.int c0), .val (.int c1), .val (.int c2), .val (.int c3), .val (.ref x1), .val (.ref x2), .val (.ref y), .unset] [(.int 0), (.int ((1 : Int32) + (1 : Int32))), (.int (2 : Int32))])
  refine B (fun tgt kt => XS.iadd S.here S.hx rfl (hb hby at_103) rfl kt) ?_
  show F T (mkF m 104 #[.val (.int i0), .val (.int i1), .val (.int i2), .val (.int i3), .val (.int i4), .val (.int 1), .val (.int 0), .val (.int c0), .val (.int c1), .val (.int c2), .val (.int c3), .val (.ref x1), .val (.ref x2), .val (.ref y), .unset] [(.int (((1 : Int32) + (1 : Int32)) + (0 : Int32))), (.int (2 : Int32))])
  refine B (fun tgt kt => XS.icmpYes S.here S.hx rfl (pc0 := 104) (pc' := 109) rfl (hb hby at_104) rfl (ii_eq_t (by decide)) (by decide) (by decide) kt) ?_
  show F T (mkF m 109 #[.val (.int i0), .val (.int i1), .val (.int i2), .val (.int i3), .val (.int i4), .val (.int 1), .val (.int 0), .val (.int c0), .val (.int c1), .val (.int c2), .val (.int c3), .val (.ref x1), .val (.ref x2), .val (.ref y), .unset] [])
  refine B (fun tgt kt => XS.aload S.here S.hx rfl (hb hby at_109) rfl rfl kt) ?_
  show F T (mkF m 111 #[.val (.int i0), .val (.int i1), .val (.int i2), .val (.int i3), .val (.int i4), .val (.int 1), .val (.int 0), .val (.int c0), .val (.int c1), .val (.int c2), .val (.int c3), .val (.ref x1), .val (.ref x2), .val (.ref y), .unset] [(.ref y)])
  refine B (fun tgt kt => XS.iload S.here S.hx rfl (hb hby at_111) rfl kt) ?_
  show F T (mkF m 113 #[.val (.int i0), .val (.int i1), .val (.int i2), .val (.int i3), .val (.int i4), .val (.int 1), .val (.int 0), .val (.int c0), .val (.int c1), .val (.int c2), .val (.int c3), .val (.ref x1), .val (.ref x2), .val (.ref y), .unset] [(.int 1), (.ref y)])
  refine Sp.virt B S (y := (⟨"java/lang/String", "charAt", "(I)C"⟩ : MethodName)) (C := "java/lang/String") (argsL := [(.int 1)]) (rest := []) (hw _ (List.mem_of_getElem? (i := 160) rfl)) (hw _ (List.mem_of_getElem? (i := 161) rfl)) (hw _ (List.mem_of_getElem? (i := 163) rfl)) (hw _ (List.mem_of_getElem? (i := 163) rfl)) (hw _ (List.mem_of_getElem? (i := 162) rfl)) (by decide) (Call.con (W := 0) (y_ca l Z a0 EL hw hEW _ zc CS hzc fm SF hfm y ty [c0, 46] (by show 2 ≤ 8; decide) hbs G 1 (by show 1 < 2; decide)) (hw _ (List.mem_of_getElem? (i := 164) rfl)) (hw _ (List.mem_of_getElem? (i := 6) rfl)) (by decide) (by decide)) G.1 (by simp) hkq hnq (by rw [hml]; rfl) (lenOf lw_p28 rfl) rfl (Nat.le_of_eq rfl) (hb hby at_113) fun v T h2 nw S hQ => ?_
  obtain ⟨rfl, rfl, rfl⟩ := hQ
  show F T (mkF m 116 #[.val (.int i0), .val (.int i1), .val (.int i2), .val (.int i3), .val (.int i4), .val (.int 1), .val (.int 0), .val (.int c0), .val (.int c1), .val (.int c2), .val (.int c3), .val (.ref x1), .val (.ref x2), .val (.ref y), .unset] [(.int (46 : Int32))])
  refine B (fun tgt kt => XS.bipush S.here S.hx rfl (hb hby at_116) kt) ?_
  show F T (mkF m 118 #[.val (.int i0), .val (.int i1), .val (.int i2), .val (.int i3), .val (.int i4), .val (.int 1), .val (.int 0), .val (.int c0), .val (.int c1), .val (.int c2), .val (.int c3), .val (.ref x1), .val (.ref x2), .val (.ref y), .unset] [(.int (46 : Int32)), (.int (46 : Int32))])
  refine B (fun tgt kt => XS.icmpNo S.here S.hx rfl (hb hby at_118) rfl (ii_ne_f rfl) kt) ?_
  show F T (mkF m 121 #[.val (.int i0), .val (.int i1), .val (.int i2), .val (.int i3), .val (.int i4), .val (.int 1), .val (.int 0), .val (.int c0), .val (.int c1), .val (.int c2), .val (.int c3), .val (.ref x1), .val (.ref x2), .val (.ref y), .unset] [])
  refine B (fun tgt kt => XS.iconst S.here S.hx rfl (hb hby at_121) kt) ?_
  show F T (mkF m 122 #[.val (.int i0), .val (.int i1), .val (.int i2), .val (.int i3), .val (.int i4), .val (.int 1), .val (.int 0), .val (.int c0), .val (.int c1), .val (.int c2), .val (.int c3), .val (.ref x1), .val (.ref x2), .val (.ref y), .unset] [(.int (1 : Int32))])
  refine B (fun tgt kt => XS.goto S.here S.hx rfl (pc0 := 122) (pc' := 126) rfl (hb hby at_122) (by decide) (by decide) kt) ?_
  show F T (mkF m 126 #[.val (.int i0), .val (.int i1), .val (.int i2), .val (.int i3), .val (.int i4), .val (.int 1), .val (.int 0), .val (.int c0), .val (.int c1), .val (.int c2), .val (.int c3), .val (.ref x1), .val (.ref x2), .val (.ref y), .unset] [(.int (1 : Int32))])
  refine B (fun tgt kt => XS.istore S.here S.hx rfl (hb hby at_126) rfl (l' := #[.val (.int i0), .val (.int i1), .val (.int i2), .val (.int i3), .val (.int i4), .val (.int 1), .val (.int 0), .val (.int c0), .val (.int c1), .val (.int c2), .val (.int c3), .val (.ref x1), .val (.ref x2), .val (.ref y), .val (.int (1 : Int32))]) rfl kt) ?_
  show F T (mkF m 128 #[.val (.int i0), .val (.int i1), .val (.int i2), .val (.int i3), .val (.int i4), .val (.int 1), .val (.int 0), .val (.int c0), .val (.int c1), .val (.int c2), .val (.int c3), .val (.ref x1), .val (.ref x2), .val (.ref y), .val (.int (1 : Int32))] [])
  refine B (fun tgt kt => XS.iload S.here S.hx rfl (hb hby at_128) rfl kt) ?_
  show F T (mkF m 130 #[.val (.int i0), .val (.int i1), .val (.int i2), .val (.int i3), .val (.int i4), .val (.int 1), .val (.int 0), .val (.int c0), .val (.int c1), .val (.int c2), .val (.int c3), .val (.ref x1), .val (.ref x2), .val (.ref y), .val (.int (1 : Int32))] [(.int 1)])
  refine B (fun tgt kt => XS.iconst S.here S.hx rfl (hb hby at_130) kt) ?_
  show F T (mkF m 131 #[.val (.int i0), .val (.int i1), .val (.int i2), .val (.int i3), .val (.int i4), .val (.int 1), .val (.int 0), .val (.int c0), .val (.int c1), .val (.int c2), .val (.int c3), .val (.ref x1), .val (.ref x2), .val (.ref y), .val (.int (1 : Int32))] [(.int (1 : Int32)), (.int 1)])
  refine B (fun tgt kt => XS.icmpNo S.here S.hx rfl (hb hby at_131) rfl (ii_lt_f (by decide)) kt) ?_
  show F T (mkF m 134 #[.val (.int i0), .val (.int i1), .val (.int i2), .val (.int i3), .val (.int i4), .val (.int 1), .val (.int 0), .val (.int c0), .val (.int c1), .val (.int c2), .val (.int c3), .val (.ref x1), .val (.ref x2), .val (.ref y), .val (.int (1 : Int32))] [])
  refine B (fun tgt kt => XS.iload S.here S.hx rfl (hb hby at_134) rfl kt) ?_
  show F T (mkF m 136 #[.val (.int i0), .val (.int i1), .val (.int i2), .val (.int i3), .val (.int i4), .val (.int 1), .val (.int 0), .val (.int c0), .val (.int c1), .val (.int c2), .val (.int c3), .val (.ref x1), .val (.ref x2), .val (.ref y), .val (.int (1 : Int32))] [(.int (1 : Int32))])
  refine B (fun tgt kt => XS.ifNo S.here S.hx rfl (hb hby at_136) rfl (i0_eq_f (by decide)) kt) ?_
  show F T (mkF m 139 #[.val (.int i0), .val (.int i1), .val (.int i2), .val (.int i3), .val (.int i4), .val (.int 1), .val (.int 0), .val (.int c0), .val (.int c1), .val (.int c2), .val (.int c3), .val (.ref x1), .val (.ref x2), .val (.ref y), .val (.int (1 : Int32))] [])
  refine B (fun tgt kt => XS.aload S.here S.hx rfl (hb hby at_139) rfl rfl kt) ?_
  show F T (mkF m 141 #[.val (.int i0), .val (.int i1), .val (.int i2), .val (.int i3), .val (.int i4), .val (.int 1), .val (.int 0), .val (.int c0), .val (.int c1), .val (.int c2), .val (.int c3), .val (.ref x1), .val (.ref x2), .val (.ref y), .val (.int (1 : Int32))] [(.ref y)])
  refine B (fun tgt kt => XS.iconst S.here S.hx rfl (hb hby at_141) kt) ?_
  show F T (mkF m 142 #[.val (.int i0), .val (.int i1), .val (.int i2), .val (.int i3), .val (.int i4), .val (.int 1), .val (.int 0), .val (.int c0), .val (.int c1), .val (.int c2), .val (.int c3), .val (.ref x1), .val (.ref x2), .val (.ref y), .val (.int (1 : Int32))] [(.int (0 : Int32)), (.ref y)])
  refine Sp.virt B S (y := (⟨"java/lang/String", "charAt", "(I)C"⟩ : MethodName)) (C := "java/lang/String") (argsL := [(.int (0 : Int32))]) (rest := []) (hw _ (List.mem_of_getElem? (i := 160) rfl)) (hw _ (List.mem_of_getElem? (i := 161) rfl)) (hw _ (List.mem_of_getElem? (i := 163) rfl)) (hw _ (List.mem_of_getElem? (i := 163) rfl)) (hw _ (List.mem_of_getElem? (i := 162) rfl)) (by decide) (Call.con (W := 0) (y_ca l Z a0 EL hw hEW _ zc CS hzc fm SF hfm y ty [c0, 46] (by show 2 ≤ 8; decide) hbs G 0 (by show 0 < 2; decide)) (hw _ (List.mem_of_getElem? (i := 164) rfl)) (hw _ (List.mem_of_getElem? (i := 6) rfl)) (by decide) (by decide)) G.1 (by simp) hkq hnq (by rw [hml]; rfl) (lenOf lw_p28 rfl) rfl (Nat.le_of_eq rfl) (hb hby at_142) fun v T h3 nw S hQ => ?_
  obtain ⟨rfl, rfl, rfl⟩ := hQ
  show F T (mkF m 145 #[.val (.int i0), .val (.int i1), .val (.int i2), .val (.int i3), .val (.int i4), .val (.int 1), .val (.int 0), .val (.int c0), .val (.int c1), .val (.int c2), .val (.int c3), .val (.ref x1), .val (.ref x2), .val (.ref y), .val (.int (1 : Int32))] [(.int c0)])
  refine B (fun tgt kt => XS.iload S.here S.hx rfl (hb hby at_145) rfl kt) ?_
  show F T (mkF m 147 #[.val (.int i0), .val (.int i1), .val (.int i2), .val (.int i3), .val (.int i4), .val (.int 1), .val (.int 0), .val (.int c0), .val (.int c1), .val (.int c2), .val (.int c3), .val (.ref x1), .val (.ref x2), .val (.ref y), .val (.int (1 : Int32))] [(.int c0), (.int c0)])
  refine B (fun tgt kt => XS.icmpNo S.here S.hx rfl (hb hby at_147) rfl (ii_ne_f rfl) kt) ?_
  show F T (mkF m 150 #[.val (.int i0), .val (.int i1), .val (.int i2), .val (.int i3), .val (.int i4), .val (.int 1), .val (.int 0), .val (.int c0), .val (.int c1), .val (.int c2), .val (.int c3), .val (.ref x1), .val (.ref x2), .val (.ref y), .val (.int (1 : Int32))] [])
  refine B (fun tgt kt => XS.iconst S.here S.hx rfl (hb hby at_150) kt) ?_
  show F T (mkF m 151 #[.val (.int i0), .val (.int i1), .val (.int i2), .val (.int i3), .val (.int i4), .val (.int 1), .val (.int 0), .val (.int c0), .val (.int c1), .val (.int c2), .val (.int c3), .val (.ref x1), .val (.ref x2), .val (.ref y), .val (.int (1 : Int32))] [(.int (1 : Int32))])
  refine B (fun tgt kt => XS.goto S.here S.hx rfl (pc0 := 151) (pc' := 155) rfl (hb hby at_151) (by decide) (by decide) kt) ?_
  show F T (mkF m 155 #[.val (.int i0), .val (.int i1), .val (.int i2), .val (.int i3), .val (.int i4), .val (.int 1), .val (.int 0), .val (.int c0), .val (.int c1), .val (.int c2), .val (.int c3), .val (.ref x1), .val (.ref x2), .val (.ref y), .val (.int (1 : Int32))] [(.int (1 : Int32))])
  refine B (fun tgt kt => XS.istore S.here S.hx rfl (hb hby at_155) rfl (l' := #[.val (.int i0), .val (.int i1), .val (.int i2), .val (.int i3), .val (.int i4), .val (.int 1), .val (.int 0), .val (.int c0), .val (.int c1), .val (.int c2), .val (.int c3), .val (.ref x1), .val (.ref x2), .val (.ref y), .val (.int (1 : Int32))]) rfl kt) ?_
  show F T (mkF m 157 #[.val (.int i0), .val (.int i1), .val (.int i2), .val (.int i3), .val (.int i4), .val (.int 1), .val (.int 0), .val (.int c0), .val (.int c1), .val (.int c2), .val (.int c3), .val (.ref x1), .val (.ref x2), .val (.ref y), .val (.int (1 : Int32))] [])
  refine B (fun tgt kt => XS.iload S.here S.hx rfl (hb hby at_157) rfl kt) ?_
  show F T (mkF m 159 #[.val (.int i0), .val (.int i1), .val (.int i2), .val (.int i3), .val (.int i4), .val (.int 1), .val (.int 0), .val (.int c0), .val (.int c1), .val (.int c2), .val (.int c3), .val (.ref x1), .val (.ref x2), .val (.ref y), .val (.int (1 : Int32))] [(.int 1)])
  refine B (fun tgt kt => XS.iconst S.here S.hx rfl (hb hby at_159) kt) ?_
  show F T (mkF m 160 #[.val (.int i0), .val (.int i1), .val (.int i2), .val (.int i3), .val (.int i4), .val (.int 1), .val (.int 0), .val (.int c0), .val (.int c1), .val (.int c2), .val (.int c3), .val (.ref x1), .val (.ref x2), .val (.ref y), .val (.int (1 : Int32))] [(.int (2 : Int32)), (.int 1)])
  refine B (fun tgt kt => XS.icmpYes S.here S.hx rfl (pc0 := 160) (pc' := 186) rfl (hb hby at_160) rfl (ii_lt_t (by decide)) (by decide) (by decide) kt) ?_
  show F T (mkF m 186 #[.val (.int i0), .val (.int i1), .val (.int i2), .val (.int i3), .val (.int i4), .val (.int 1), .val (.int 0), .val (.int c0), .val (.int c1), .val (.int c2), .val (.int c3), .val (.ref x1), .val (.ref x2), .val (.ref y), .val (.int (1 : Int32))] [])
  refine B (fun tgt kt => XS.iload S.here S.hx rfl (hb hby at_186) rfl kt) ?_
  show F T (mkF m 188 #[.val (.int i0), .val (.int i1), .val (.int i2), .val (.int i3), .val (.int i4), .val (.int 1), .val (.int 0), .val (.int c0), .val (.int c1), .val (.int c2), .val (.int c3), .val (.ref x1), .val (.ref x2), .val (.ref y), .val (.int (1 : Int32))] [(.int 0)])
  refine B (fun tgt kt => XS.iconst S.here S.hx rfl (hb hby at_188) kt) ?_
  show F T (mkF m 189 #[.val (.int i0), .val (.int i1), .val (.int i2), .val (.int i3), .val (.int i4), .val (.int 1), .val (.int 0), .val (.int c0), .val (.int c1), .val (.int c2), .val (.int c3), .val (.ref x1), .val (.ref x2), .val (.ref y), .val (.int (1 : Int32))] [(.int (1 : Int32)), (.int 0)])
  refine B (fun tgt kt => XS.icmpYes S.here S.hx rfl (pc0 := 189) (pc' := 218) rfl (hb hby at_189) rfl (ii_lt_t (by decide)) (by decide) (by decide) kt) ?_
  show F T (mkF m 218 #[.val (.int i0), .val (.int i1), .val (.int i2), .val (.int i3), .val (.int i4), .val (.int 1), .val (.int 0), .val (.int c0), .val (.int c1), .val (.int c2), .val (.int c3), .val (.ref x1), .val (.ref x2), .val (.ref y), .val (.int (1 : Int32))] [])
  refine B (fun tgt kt => XS.iload S.here S.hx rfl (hb hby at_218) rfl kt) ?_
  show F T (mkF m 220 #[.val (.int i0), .val (.int i1), .val (.int i2), .val (.int i3), .val (.int i4), .val (.int 1), .val (.int 0), .val (.int c0), .val (.int c1), .val (.int c2), .val (.int c3), .val (.ref x1), .val (.ref x2), .val (.ref y), .val (.int (1 : Int32))] [(.int 0)])
  refine B (fun tgt kt => XS.iconst S.here S.hx rfl (hb hby at_220) kt) ?_
  show F T (mkF m 221 #[.val (.int i0), .val (.int i1), .val (.int i2), .val (.int i3), .val (.int i4), .val (.int 1), .val (.int 0), .val (.int c0), .val (.int c1), .val (.int c2), .val (.int c3), .val (.ref x1), .val (.ref x2), .val (.ref y), .val (.int (1 : Int32))] [(.int (2 : Int32)), (.int 0)])
  refine B (fun tgt kt => XS.icmpYes S.here S.hx rfl (pc0 := 221) (pc' := 250) rfl (hb hby at_221) rfl (ii_lt_t (by decide)) (by decide) (by decide) kt) ?_
  show F T (mkF m 250 #[.val (.int i0), .val (.int i1), .val (.int i2), .val (.int i3), .val (.int i4), .val (.int 1), .val (.int 0), .val (.int c0), .val (.int c1), .val (.int c2), .val (.int c3), .val (.ref x1), .val (.ref x2), .val (.ref y), .val (.int (1 : Int32))] [])
  refine B (fun tgt kt => XS.iload S.here S.hx rfl (hb hby at_250) rfl kt) ?_
  show F T (mkF m 252 #[.val (.int i0), .val (.int i1), .val (.int i2), .val (.int i3), .val (.int i4), .val (.int 1), .val (.int 0), .val (.int c0), .val (.int c1), .val (.int c2), .val (.int c3), .val (.ref x1), .val (.ref x2), .val (.ref y), .val (.int (1 : Int32))] [(.int (1 : Int32))])
  exact K _ _ S
set_option maxRecDepth 65536 in
set_option maxHeartbeats 40000000 in
theorem lw_t11 {p : Program} {l : Launch} {e : Env} {s : State} {m : MethodId} {args : Array Value} {below : List Frame} {meth : Method} {c : Code} {Z : State} {a0 : Array Value} {EL : List (String × Nat)} {F : State → JFrame → Prop} {sf : List Addr} {lt : List (String × Nat × Addr)} {kq nq : Nat} {h : Heap} {T : State} (hw : ∀ q ∈ tables_1, q.before a0 Z = true) (hEW : EW Z a0 EL) (B : Bw p e below F) (hby : c.code = code) (hml : c.maxLocals = 15) (zc : Int32) (CS : Sta Z Z.heap "java/lang/String" "COMPACT_STRINGS" "Z" (.int zc)) (hzc : ¬ zc = 0) (fm : Value) (SF : Sta Z Z.heap "jdk/internal/util/Preconditions" "SIOOBE_FORMATTER" "Ljava/util/function/BiFunction;" fm) (hfm : fm.isRef = true) (i0 i1 i2 i3 i4 : Int32) (c0 : Int32) (b0 : ¬ c0 < 0 ∧ ¬ (255 : Int32) < c0) (c1 : Int32) (b1 : ¬ c1 < 0 ∧ ¬ (255 : Int32) < c1) (c2 : Int32) (b2 : ¬ c2 < 0 ∧ ¬ (255 : Int32) < c2) (c3 : Int32) (b3 : ¬ c3 < 0 ∧ ¬ (255 : Int32) < c3) (x1 x2 y ty : Addr) (S : Sp p l e room_1 s m args below meth c Z a0 EL "org/triplebridge/mapping/ColumnSqlPinLaw" T h sf lt kq nq) (hkq : kq + 0 ≤ room_1.cells) (hnq : nq + 0 ≤ room_1.slots) (G : own_L Z h y ty [c0, 46, c2]) (K : ∀ (T : State) (L : Array Slot), Sp p l e room_1 s m args below meth c Z a0 EL "org/triplebridge/mapping/ColumnSqlPinLaw" T h sf lt kq nq → F T (mkF m 252 L [(.int (1 : Int32))])) : F T (mkF m 92 #[.val (.int i0), .val (.int i1), .val (.int i2), .val (.int i3), .val (.int i4), .val (.int 1), .val (.int 1), .val (.int c0), .val (.int c1), .val (.int c2), .val (.int c3), .val (.ref x1), .val (.ref x2), .val (.ref y), .unset] []) := by
  have hbs : ∀ q ∈ ([c0, 46, c2] : List Int32), ¬ q < 0 ∧ ¬ (255 : Int32) < q := (all_cons b0 (all_cons (by decide) (all_cons b2 all_nil)))
  show F T (mkF m 92 #[.val (.int i0), .val (.int i1), .val (.int i2), .val (.int i3), .val (.int i4), .val (.int 1), .val (.int 1), .val (.int c0), .val (.int c1), .val (.int c2), .val (.int c3), .val (.ref x1), .val (.ref x2), .val (.ref y), .unset] [])
  refine B (fun tgt kt => XS.aload S.here S.hx rfl (hb hby at_92) rfl rfl kt) ?_
  show F T (mkF m 94 #[.val (.int i0), .val (.int i1), .val (.int i2), .val (.int i3), .val (.int i4), .val (.int 1), .val (.int 1), .val (.int c0), .val (.int c1), .val (.int c2), .val (.int c3), .val (.ref x1), .val (.ref x2), .val (.ref y), .unset] [(.ref y)])
  refine Sp.virt B S (y := (⟨"java/lang/String", "length", "()I"⟩ : MethodName)) (C := "java/lang/String") (argsL := []) (rest := []) (hw _ (List.mem_of_getElem? (i := 159) rfl)) (hw _ (List.mem_of_getElem? (i := 76) rfl)) (hw _ (List.mem_of_getElem? (i := 78) rfl)) (hw _ (List.mem_of_getElem? (i := 78) rfl)) (hw _ (List.mem_of_getElem? (i := 77) rfl)) (by decide) (Call.con (W := 0) (b_len l Z a0 EL hw hEW _ zc CS hzc y ty [c0, 46, c2] (by show 3 ≤ 8; decide) G) (hw _ (List.mem_of_getElem? (i := 79) rfl)) (hw _ (List.mem_of_getElem? (i := 6) rfl)) (by decide) (by decide)) G.1 (by simp) hkq hnq (by rw [hml]; rfl) (lenOf lw_p22 rfl) rfl (Nat.le_of_eq rfl) (hb hby at_94) fun v T h1 nw S hQ => ?_
  obtain ⟨rfl, rfl, rfl⟩ := hQ
  show F T (mkF m 97 #[.val (.int i0), .val (.int i1), .val (.int i2), .val (.int i3), .val (.int i4), .val (.int 1), .val (.int 1), .val (.int c0), .val (.int c1), .val (.int c2), .val (.int c3), .val (.ref x1), .val (.ref x2), .val (.ref y), .unset] [(.int (3 : Int32))])
  refine B (fun tgt kt => XS.iload S.here S.hx rfl (hb hby at_97) rfl kt) ?_
  show F T (mkF m 99 #[.val (.int i0), .val (.int i1), .val (.int i2), .val (.int i3), .val (.int i4), .val (.int 1), .val (.int 1), .val (.int c0), .val (.int c1), .val (.int c2), .val (.int c3), .val (.ref x1), .val (.ref x2), .val (.ref y), .unset] [(.int 1), (.int (3 : Int32))])
  refine B (fun tgt kt => XS.iconst S.here S.hx rfl (hb hby at_99) kt) ?_
  show F T (mkF m 100 #[.val (.int i0), .val (.int i1), .val (.int i2), .val (.int i3), .val (.int i4), .val (.int 1), .val (.int 1), .val (.int c0), .val (.int c1), .val (.int c2), .val (.int c3), .val (.ref x1), .val (.ref x2), .val (.ref y), .unset] [(.int (1 : Int32)), (.int 1), (.int (3 : Int32))])
  refine B (fun tgt kt => XS.iadd S.here S.hx rfl (hb hby at_100) rfl kt) ?_
  show F T (mkF m 101 #[.val (.int i0), .val (.int i1), .val (.int i2), .val (.int i3), .val (.int i4), .val (.int 1), .val (.int 1), .val (.int c0), .val (.int c1), .val (.int c2), .val (.int c3), .val (.ref x1), .val (.ref x2), .val (.ref y), .unset] [(.int ((1 : Int32) + (1 : Int32))), (.int (3 : Int32))])
  refine B (fun tgt kt => XS.iload S.here S.hx rfl (hb hby at_101) rfl kt) ?_
  show F T (mkF m 103 #[.val (.int i0), .val (.int i1), .val (.int i2), .val (.int i3), .val (.int i4), .val (.int 1), .val (.int 1), .val (.int c0), .val (.int c1), .val (.int c2), .val (.int c3), .val (.ref x1), .val (.ref x2), .val (.ref y), .unset] [(.int 1), (.int ((1 : Int32) + (1 : Int32))), (.int (3 : Int32))])
  refine B (fun tgt kt => XS.iadd S.here S.hx rfl (hb hby at_103) rfl kt) ?_
  show F T (mkF m 104 #[.val (.int i0), .val (.int i1), .val (.int i2), .val (.int i3), .val (.int i4), .val (.int 1), .val (.int 1), .val (.int c0), .val (.int c1), .val (.int c2), .val (.int c3), .val (.ref x1), .val (.ref x2), .val (.ref y), .unset] [(.int (((1 : Int32) + (1 : Int32)) + (1 : Int32))), (.int (3 : Int32))])
  refine B (fun tgt kt => XS.icmpYes S.here S.hx rfl (pc0 := 104) (pc' := 109) rfl (hb hby at_104) rfl (ii_eq_t (by decide)) (by decide) (by decide) kt) ?_
  show F T (mkF m 109 #[.val (.int i0), .val (.int i1), .val (.int i2), .val (.int i3), .val (.int i4), .val (.int 1), .val (.int 1), .val (.int c0), .val (.int c1), .val (.int c2), .val (.int c3), .val (.ref x1), .val (.ref x2), .val (.ref y), .unset] [])
  refine B (fun tgt kt => XS.aload S.here S.hx rfl (hb hby at_109) rfl rfl kt) ?_
  show F T (mkF m 111 #[.val (.int i0), .val (.int i1), .val (.int i2), .val (.int i3), .val (.int i4), .val (.int 1), .val (.int 1), .val (.int c0), .val (.int c1), .val (.int c2), .val (.int c3), .val (.ref x1), .val (.ref x2), .val (.ref y), .unset] [(.ref y)])
  refine B (fun tgt kt => XS.iload S.here S.hx rfl (hb hby at_111) rfl kt) ?_
  show F T (mkF m 113 #[.val (.int i0), .val (.int i1), .val (.int i2), .val (.int i3), .val (.int i4), .val (.int 1), .val (.int 1), .val (.int c0), .val (.int c1), .val (.int c2), .val (.int c3), .val (.ref x1), .val (.ref x2), .val (.ref y), .unset] [(.int 1), (.ref y)])
  refine Sp.virt B S (y := (⟨"java/lang/String", "charAt", "(I)C"⟩ : MethodName)) (C := "java/lang/String") (argsL := [(.int 1)]) (rest := []) (hw _ (List.mem_of_getElem? (i := 160) rfl)) (hw _ (List.mem_of_getElem? (i := 161) rfl)) (hw _ (List.mem_of_getElem? (i := 163) rfl)) (hw _ (List.mem_of_getElem? (i := 163) rfl)) (hw _ (List.mem_of_getElem? (i := 162) rfl)) (by decide) (Call.con (W := 0) (y_ca l Z a0 EL hw hEW _ zc CS hzc fm SF hfm y ty [c0, 46, c2] (by show 3 ≤ 8; decide) hbs G 1 (by show 1 < 3; decide)) (hw _ (List.mem_of_getElem? (i := 164) rfl)) (hw _ (List.mem_of_getElem? (i := 6) rfl)) (by decide) (by decide)) G.1 (by simp) hkq hnq (by rw [hml]; rfl) (lenOf lw_p28 rfl) rfl (Nat.le_of_eq rfl) (hb hby at_113) fun v T h2 nw S hQ => ?_
  obtain ⟨rfl, rfl, rfl⟩ := hQ
  show F T (mkF m 116 #[.val (.int i0), .val (.int i1), .val (.int i2), .val (.int i3), .val (.int i4), .val (.int 1), .val (.int 1), .val (.int c0), .val (.int c1), .val (.int c2), .val (.int c3), .val (.ref x1), .val (.ref x2), .val (.ref y), .unset] [(.int (46 : Int32))])
  refine B (fun tgt kt => XS.bipush S.here S.hx rfl (hb hby at_116) kt) ?_
  show F T (mkF m 118 #[.val (.int i0), .val (.int i1), .val (.int i2), .val (.int i3), .val (.int i4), .val (.int 1), .val (.int 1), .val (.int c0), .val (.int c1), .val (.int c2), .val (.int c3), .val (.ref x1), .val (.ref x2), .val (.ref y), .unset] [(.int (46 : Int32)), (.int (46 : Int32))])
  refine B (fun tgt kt => XS.icmpNo S.here S.hx rfl (hb hby at_118) rfl (ii_ne_f rfl) kt) ?_
  show F T (mkF m 121 #[.val (.int i0), .val (.int i1), .val (.int i2), .val (.int i3), .val (.int i4), .val (.int 1), .val (.int 1), .val (.int c0), .val (.int c1), .val (.int c2), .val (.int c3), .val (.ref x1), .val (.ref x2), .val (.ref y), .unset] [])
  refine B (fun tgt kt => XS.iconst S.here S.hx rfl (hb hby at_121) kt) ?_
  show F T (mkF m 122 #[.val (.int i0), .val (.int i1), .val (.int i2), .val (.int i3), .val (.int i4), .val (.int 1), .val (.int 1), .val (.int c0), .val (.int c1), .val (.int c2), .val (.int c3), .val (.ref x1), .val (.ref x2), .val (.ref y), .unset] [(.int (1 : Int32))])
  refine B (fun tgt kt => XS.goto S.here S.hx rfl (pc0 := 122) (pc' := 126) rfl (hb hby at_122) (by decide) (by decide) kt) ?_
  show F T (mkF m 126 #[.val (.int i0), .val (.int i1), .val (.int i2), .val (.int i3), .val (.int i4), .val (.int 1), .val (.int 1), .val (.int c0), .val (.int c1), .val (.int c2), .val (.int c3), .val (.ref x1), .val (.ref x2), .val (.ref y), .unset] [(.int (1 : Int32))])
  refine B (fun tgt kt => XS.istore S.here S.hx rfl (hb hby at_126) rfl (l' := #[.val (.int i0), .val (.int i1), .val (.int i2), .val (.int i3), .val (.int i4), .val (.int 1), .val (.int 1), .val (.int c0), .val (.int c1), .val (.int c2), .val (.int c3), .val (.ref x1), .val (.ref x2), .val (.ref y), .val (.int (1 : Int32))]) rfl kt) ?_
  show F T (mkF m 128 #[.val (.int i0), .val (.int i1), .val (.int i2), .val (.int i3), .val (.int i4), .val (.int 1), .val (.int 1), .val (.int c0), .val (.int c1), .val (.int c2), .val (.int c3), .val (.ref x1), .val (.ref x2), .val (.ref y), .val (.int (1 : Int32))] [])
  refine B (fun tgt kt => XS.iload S.here S.hx rfl (hb hby at_128) rfl kt) ?_
  show F T (mkF m 130 #[.val (.int i0), .val (.int i1), .val (.int i2), .val (.int i3), .val (.int i4), .val (.int 1), .val (.int 1), .val (.int c0), .val (.int c1), .val (.int c2), .val (.int c3), .val (.ref x1), .val (.ref x2), .val (.ref y), .val (.int (1 : Int32))] [(.int 1)])
  refine B (fun tgt kt => XS.iconst S.here S.hx rfl (hb hby at_130) kt) ?_
  show F T (mkF m 131 #[.val (.int i0), .val (.int i1), .val (.int i2), .val (.int i3), .val (.int i4), .val (.int 1), .val (.int 1), .val (.int c0), .val (.int c1), .val (.int c2), .val (.int c3), .val (.ref x1), .val (.ref x2), .val (.ref y), .val (.int (1 : Int32))] [(.int (1 : Int32)), (.int 1)])
  refine B (fun tgt kt => XS.icmpNo S.here S.hx rfl (hb hby at_131) rfl (ii_lt_f (by decide)) kt) ?_
  show F T (mkF m 134 #[.val (.int i0), .val (.int i1), .val (.int i2), .val (.int i3), .val (.int i4), .val (.int 1), .val (.int 1), .val (.int c0), .val (.int c1), .val (.int c2), .val (.int c3), .val (.ref x1), .val (.ref x2), .val (.ref y), .val (.int (1 : Int32))] [])
  refine B (fun tgt kt => XS.iload S.here S.hx rfl (hb hby at_134) rfl kt) ?_
  show F T (mkF m 136 #[.val (.int i0), .val (.int i1), .val (.int i2), .val (.int i3), .val (.int i4), .val (.int 1), .val (.int 1), .val (.int c0), .val (.int c1), .val (.int c2), .val (.int c3), .val (.ref x1), .val (.ref x2), .val (.ref y), .val (.int (1 : Int32))] [(.int (1 : Int32))])
  refine B (fun tgt kt => XS.ifNo S.here S.hx rfl (hb hby at_136) rfl (i0_eq_f (by decide)) kt) ?_
  show F T (mkF m 139 #[.val (.int i0), .val (.int i1), .val (.int i2), .val (.int i3), .val (.int i4), .val (.int 1), .val (.int 1), .val (.int c0), .val (.int c1), .val (.int c2), .val (.int c3), .val (.ref x1), .val (.ref x2), .val (.ref y), .val (.int (1 : Int32))] [])
  refine B (fun tgt kt => XS.aload S.here S.hx rfl (hb hby at_139) rfl rfl kt) ?_
  show F T (mkF m 141 #[.val (.int i0), .val (.int i1), .val (.int i2), .val (.int i3), .val (.int i4), .val (.int 1), .val (.int 1), .val (.int c0), .val (.int c1), .val (.int c2), .val (.int c3), .val (.ref x1), .val (.ref x2), .val (.ref y), .val (.int (1 : Int32))] [(.ref y)])
  refine B (fun tgt kt => XS.iconst S.here S.hx rfl (hb hby at_141) kt) ?_
  show F T (mkF m 142 #[.val (.int i0), .val (.int i1), .val (.int i2), .val (.int i3), .val (.int i4), .val (.int 1), .val (.int 1), .val (.int c0), .val (.int c1), .val (.int c2), .val (.int c3), .val (.ref x1), .val (.ref x2), .val (.ref y), .val (.int (1 : Int32))] [(.int (0 : Int32)), (.ref y)])
  refine Sp.virt B S (y := (⟨"java/lang/String", "charAt", "(I)C"⟩ : MethodName)) (C := "java/lang/String") (argsL := [(.int (0 : Int32))]) (rest := []) (hw _ (List.mem_of_getElem? (i := 160) rfl)) (hw _ (List.mem_of_getElem? (i := 161) rfl)) (hw _ (List.mem_of_getElem? (i := 163) rfl)) (hw _ (List.mem_of_getElem? (i := 163) rfl)) (hw _ (List.mem_of_getElem? (i := 162) rfl)) (by decide) (Call.con (W := 0) (y_ca l Z a0 EL hw hEW _ zc CS hzc fm SF hfm y ty [c0, 46, c2] (by show 3 ≤ 8; decide) hbs G 0 (by show 0 < 3; decide)) (hw _ (List.mem_of_getElem? (i := 164) rfl)) (hw _ (List.mem_of_getElem? (i := 6) rfl)) (by decide) (by decide)) G.1 (by simp) hkq hnq (by rw [hml]; rfl) (lenOf lw_p28 rfl) rfl (Nat.le_of_eq rfl) (hb hby at_142) fun v T h3 nw S hQ => ?_
  obtain ⟨rfl, rfl, rfl⟩ := hQ
  show F T (mkF m 145 #[.val (.int i0), .val (.int i1), .val (.int i2), .val (.int i3), .val (.int i4), .val (.int 1), .val (.int 1), .val (.int c0), .val (.int c1), .val (.int c2), .val (.int c3), .val (.ref x1), .val (.ref x2), .val (.ref y), .val (.int (1 : Int32))] [(.int c0)])
  refine B (fun tgt kt => XS.iload S.here S.hx rfl (hb hby at_145) rfl kt) ?_
  show F T (mkF m 147 #[.val (.int i0), .val (.int i1), .val (.int i2), .val (.int i3), .val (.int i4), .val (.int 1), .val (.int 1), .val (.int c0), .val (.int c1), .val (.int c2), .val (.int c3), .val (.ref x1), .val (.ref x2), .val (.ref y), .val (.int (1 : Int32))] [(.int c0), (.int c0)])
  refine B (fun tgt kt => XS.icmpNo S.here S.hx rfl (hb hby at_147) rfl (ii_ne_f rfl) kt) ?_
  show F T (mkF m 150 #[.val (.int i0), .val (.int i1), .val (.int i2), .val (.int i3), .val (.int i4), .val (.int 1), .val (.int 1), .val (.int c0), .val (.int c1), .val (.int c2), .val (.int c3), .val (.ref x1), .val (.ref x2), .val (.ref y), .val (.int (1 : Int32))] [])
  refine B (fun tgt kt => XS.iconst S.here S.hx rfl (hb hby at_150) kt) ?_
  show F T (mkF m 151 #[.val (.int i0), .val (.int i1), .val (.int i2), .val (.int i3), .val (.int i4), .val (.int 1), .val (.int 1), .val (.int c0), .val (.int c1), .val (.int c2), .val (.int c3), .val (.ref x1), .val (.ref x2), .val (.ref y), .val (.int (1 : Int32))] [(.int (1 : Int32))])
  refine B (fun tgt kt => XS.goto S.here S.hx rfl (pc0 := 151) (pc' := 155) rfl (hb hby at_151) (by decide) (by decide) kt) ?_
  show F T (mkF m 155 #[.val (.int i0), .val (.int i1), .val (.int i2), .val (.int i3), .val (.int i4), .val (.int 1), .val (.int 1), .val (.int c0), .val (.int c1), .val (.int c2), .val (.int c3), .val (.ref x1), .val (.ref x2), .val (.ref y), .val (.int (1 : Int32))] [(.int (1 : Int32))])
  refine B (fun tgt kt => XS.istore S.here S.hx rfl (hb hby at_155) rfl (l' := #[.val (.int i0), .val (.int i1), .val (.int i2), .val (.int i3), .val (.int i4), .val (.int 1), .val (.int 1), .val (.int c0), .val (.int c1), .val (.int c2), .val (.int c3), .val (.ref x1), .val (.ref x2), .val (.ref y), .val (.int (1 : Int32))]) rfl kt) ?_
  show F T (mkF m 157 #[.val (.int i0), .val (.int i1), .val (.int i2), .val (.int i3), .val (.int i4), .val (.int 1), .val (.int 1), .val (.int c0), .val (.int c1), .val (.int c2), .val (.int c3), .val (.ref x1), .val (.ref x2), .val (.ref y), .val (.int (1 : Int32))] [])
  refine B (fun tgt kt => XS.iload S.here S.hx rfl (hb hby at_157) rfl kt) ?_
  show F T (mkF m 159 #[.val (.int i0), .val (.int i1), .val (.int i2), .val (.int i3), .val (.int i4), .val (.int 1), .val (.int 1), .val (.int c0), .val (.int c1), .val (.int c2), .val (.int c3), .val (.ref x1), .val (.ref x2), .val (.ref y), .val (.int (1 : Int32))] [(.int 1)])
  refine B (fun tgt kt => XS.iconst S.here S.hx rfl (hb hby at_159) kt) ?_
  show F T (mkF m 160 #[.val (.int i0), .val (.int i1), .val (.int i2), .val (.int i3), .val (.int i4), .val (.int 1), .val (.int 1), .val (.int c0), .val (.int c1), .val (.int c2), .val (.int c3), .val (.ref x1), .val (.ref x2), .val (.ref y), .val (.int (1 : Int32))] [(.int (2 : Int32)), (.int 1)])
  refine B (fun tgt kt => XS.icmpYes S.here S.hx rfl (pc0 := 160) (pc' := 186) rfl (hb hby at_160) rfl (ii_lt_t (by decide)) (by decide) (by decide) kt) ?_
  show F T (mkF m 186 #[.val (.int i0), .val (.int i1), .val (.int i2), .val (.int i3), .val (.int i4), .val (.int 1), .val (.int 1), .val (.int c0), .val (.int c1), .val (.int c2), .val (.int c3), .val (.ref x1), .val (.ref x2), .val (.ref y), .val (.int (1 : Int32))] [])
  refine B (fun tgt kt => XS.iload S.here S.hx rfl (hb hby at_186) rfl kt) ?_
  show F T (mkF m 188 #[.val (.int i0), .val (.int i1), .val (.int i2), .val (.int i3), .val (.int i4), .val (.int 1), .val (.int 1), .val (.int c0), .val (.int c1), .val (.int c2), .val (.int c3), .val (.ref x1), .val (.ref x2), .val (.ref y), .val (.int (1 : Int32))] [(.int 1)])
  refine B (fun tgt kt => XS.iconst S.here S.hx rfl (hb hby at_188) kt) ?_
  show F T (mkF m 189 #[.val (.int i0), .val (.int i1), .val (.int i2), .val (.int i3), .val (.int i4), .val (.int 1), .val (.int 1), .val (.int c0), .val (.int c1), .val (.int c2), .val (.int c3), .val (.ref x1), .val (.ref x2), .val (.ref y), .val (.int (1 : Int32))] [(.int (1 : Int32)), (.int 1)])
  refine B (fun tgt kt => XS.icmpNo S.here S.hx rfl (hb hby at_189) rfl (ii_lt_f (by decide)) kt) ?_
  show F T (mkF m 192 #[.val (.int i0), .val (.int i1), .val (.int i2), .val (.int i3), .val (.int i4), .val (.int 1), .val (.int 1), .val (.int c0), .val (.int c1), .val (.int c2), .val (.int c3), .val (.ref x1), .val (.ref x2), .val (.ref y), .val (.int (1 : Int32))] [])
  refine B (fun tgt kt => XS.iload S.here S.hx rfl (hb hby at_192) rfl kt) ?_
  show F T (mkF m 194 #[.val (.int i0), .val (.int i1), .val (.int i2), .val (.int i3), .val (.int i4), .val (.int 1), .val (.int 1), .val (.int c0), .val (.int c1), .val (.int c2), .val (.int c3), .val (.ref x1), .val (.ref x2), .val (.ref y), .val (.int (1 : Int32))] [(.int (1 : Int32))])
  refine B (fun tgt kt => XS.ifNo S.here S.hx rfl (hb hby at_194) rfl (i0_eq_f (by decide)) kt) ?_
  show F T (mkF m 197 #[.val (.int i0), .val (.int i1), .val (.int i2), .val (.int i3), .val (.int i4), .val (.int 1), .val (.int 1), .val (.int c0), .val (.int c1), .val (.int c2), .val (.int c3), .val (.ref x1), .val (.ref x2), .val (.ref y), .val (.int (1 : Int32))] [])
  refine B (fun tgt kt => XS.aload S.here S.hx rfl (hb hby at_197) rfl rfl kt) ?_
  show F T (mkF m 199 #[.val (.int i0), .val (.int i1), .val (.int i2), .val (.int i3), .val (.int i4), .val (.int 1), .val (.int 1), .val (.int c0), .val (.int c1), .val (.int c2), .val (.int c3), .val (.ref x1), .val (.ref x2), .val (.ref y), .val (.int (1 : Int32))] [(.ref y)])
  refine B (fun tgt kt => XS.iload S.here S.hx rfl (hb hby at_199) rfl kt) ?_
  show F T (mkF m 201 #[.val (.int i0), .val (.int i1), .val (.int i2), .val (.int i3), .val (.int i4), .val (.int 1), .val (.int 1), .val (.int c0), .val (.int c1), .val (.int c2), .val (.int c3), .val (.ref x1), .val (.ref x2), .val (.ref y), .val (.int (1 : Int32))] [(.int 1), (.ref y)])
  refine B (fun tgt kt => XS.iconst S.here S.hx rfl (hb hby at_201) kt) ?_
  show F T (mkF m 202 #[.val (.int i0), .val (.int i1), .val (.int i2), .val (.int i3), .val (.int i4), .val (.int 1), .val (.int 1), .val (.int c0), .val (.int c1), .val (.int c2), .val (.int c3), .val (.ref x1), .val (.ref x2), .val (.ref y), .val (.int (1 : Int32))] [(.int (1 : Int32)), (.int 1), (.ref y)])
  refine B (fun tgt kt => XS.iadd S.here S.hx rfl (hb hby at_202) rfl kt) ?_
  show F T (mkF m 203 #[.val (.int i0), .val (.int i1), .val (.int i2), .val (.int i3), .val (.int i4), .val (.int 1), .val (.int 1), .val (.int c0), .val (.int c1), .val (.int c2), .val (.int c3), .val (.ref x1), .val (.ref x2), .val (.ref y), .val (.int (1 : Int32))] [(.int ((1 : Int32) + (1 : Int32))), (.ref y)])
  rw [show ((1 : Int32) + (1 : Int32)) = (2 : Int32) from by decide]
  show F T (mkF m 203 #[.val (.int i0), .val (.int i1), .val (.int i2), .val (.int i3), .val (.int i4), .val (.int 1), .val (.int 1), .val (.int c0), .val (.int c1), .val (.int c2), .val (.int c3), .val (.ref x1), .val (.ref x2), .val (.ref y), .val (.int (1 : Int32))] [(.int (2 : Int32)), (.ref y)])
  refine Sp.virt B S (y := (⟨"java/lang/String", "charAt", "(I)C"⟩ : MethodName)) (C := "java/lang/String") (argsL := [(.int (2 : Int32))]) (rest := []) (hw _ (List.mem_of_getElem? (i := 160) rfl)) (hw _ (List.mem_of_getElem? (i := 161) rfl)) (hw _ (List.mem_of_getElem? (i := 163) rfl)) (hw _ (List.mem_of_getElem? (i := 163) rfl)) (hw _ (List.mem_of_getElem? (i := 162) rfl)) (by decide) (Call.con (W := 0) (y_ca l Z a0 EL hw hEW _ zc CS hzc fm SF hfm y ty [c0, 46, c2] (by show 3 ≤ 8; decide) hbs G 2 (by show 2 < 3; decide)) (hw _ (List.mem_of_getElem? (i := 164) rfl)) (hw _ (List.mem_of_getElem? (i := 6) rfl)) (by decide) (by decide)) G.1 (by simp) hkq hnq (by rw [hml]; rfl) (lenOf lw_p28 rfl) rfl (Nat.le_of_eq rfl) (hb hby at_203) fun v T h4 nw S hQ => ?_
  obtain ⟨rfl, rfl, rfl⟩ := hQ
  show F T (mkF m 206 #[.val (.int i0), .val (.int i1), .val (.int i2), .val (.int i3), .val (.int i4), .val (.int 1), .val (.int 1), .val (.int c0), .val (.int c1), .val (.int c2), .val (.int c3), .val (.ref x1), .val (.ref x2), .val (.ref y), .val (.int (1 : Int32))] [(.int c2)])
  refine B (fun tgt kt => XS.iload S.here S.hx rfl (hb hby at_206) rfl kt) ?_
  show F T (mkF m 208 #[.val (.int i0), .val (.int i1), .val (.int i2), .val (.int i3), .val (.int i4), .val (.int 1), .val (.int 1), .val (.int c0), .val (.int c1), .val (.int c2), .val (.int c3), .val (.ref x1), .val (.ref x2), .val (.ref y), .val (.int (1 : Int32))] [(.int c2), (.int c2)])
  refine B (fun tgt kt => XS.icmpNo S.here S.hx rfl (hb hby at_208) rfl (ii_ne_f rfl) kt) ?_
  show F T (mkF m 211 #[.val (.int i0), .val (.int i1), .val (.int i2), .val (.int i3), .val (.int i4), .val (.int 1), .val (.int 1), .val (.int c0), .val (.int c1), .val (.int c2), .val (.int c3), .val (.ref x1), .val (.ref x2), .val (.ref y), .val (.int (1 : Int32))] [])
  refine B (fun tgt kt => XS.iconst S.here S.hx rfl (hb hby at_211) kt) ?_
  show F T (mkF m 212 #[.val (.int i0), .val (.int i1), .val (.int i2), .val (.int i3), .val (.int i4), .val (.int 1), .val (.int 1), .val (.int c0), .val (.int c1), .val (.int c2), .val (.int c3), .val (.ref x1), .val (.ref x2), .val (.ref y), .val (.int (1 : Int32))] [(.int (1 : Int32))])
  refine B (fun tgt kt => XS.goto S.here S.hx rfl (pc0 := 212) (pc' := 216) rfl (hb hby at_212) (by decide) (by decide) kt) ?_
  show F T (mkF m 216 #[.val (.int i0), .val (.int i1), .val (.int i2), .val (.int i3), .val (.int i4), .val (.int 1), .val (.int 1), .val (.int c0), .val (.int c1), .val (.int c2), .val (.int c3), .val (.ref x1), .val (.ref x2), .val (.ref y), .val (.int (1 : Int32))] [(.int (1 : Int32))])
  refine B (fun tgt kt => XS.istore S.here S.hx rfl (hb hby at_216) rfl (l' := #[.val (.int i0), .val (.int i1), .val (.int i2), .val (.int i3), .val (.int i4), .val (.int 1), .val (.int 1), .val (.int c0), .val (.int c1), .val (.int c2), .val (.int c3), .val (.ref x1), .val (.ref x2), .val (.ref y), .val (.int (1 : Int32))]) rfl kt) ?_
  show F T (mkF m 218 #[.val (.int i0), .val (.int i1), .val (.int i2), .val (.int i3), .val (.int i4), .val (.int 1), .val (.int 1), .val (.int c0), .val (.int c1), .val (.int c2), .val (.int c3), .val (.ref x1), .val (.ref x2), .val (.ref y), .val (.int (1 : Int32))] [])
  refine B (fun tgt kt => XS.iload S.here S.hx rfl (hb hby at_218) rfl kt) ?_
  show F T (mkF m 220 #[.val (.int i0), .val (.int i1), .val (.int i2), .val (.int i3), .val (.int i4), .val (.int 1), .val (.int 1), .val (.int c0), .val (.int c1), .val (.int c2), .val (.int c3), .val (.ref x1), .val (.ref x2), .val (.ref y), .val (.int (1 : Int32))] [(.int 1)])
  refine B (fun tgt kt => XS.iconst S.here S.hx rfl (hb hby at_220) kt) ?_
  show F T (mkF m 221 #[.val (.int i0), .val (.int i1), .val (.int i2), .val (.int i3), .val (.int i4), .val (.int 1), .val (.int 1), .val (.int c0), .val (.int c1), .val (.int c2), .val (.int c3), .val (.ref x1), .val (.ref x2), .val (.ref y), .val (.int (1 : Int32))] [(.int (2 : Int32)), (.int 1)])
  refine B (fun tgt kt => XS.icmpYes S.here S.hx rfl (pc0 := 221) (pc' := 250) rfl (hb hby at_221) rfl (ii_lt_t (by decide)) (by decide) (by decide) kt) ?_
  show F T (mkF m 250 #[.val (.int i0), .val (.int i1), .val (.int i2), .val (.int i3), .val (.int i4), .val (.int 1), .val (.int 1), .val (.int c0), .val (.int c1), .val (.int c2), .val (.int c3), .val (.ref x1), .val (.ref x2), .val (.ref y), .val (.int (1 : Int32))] [])
  refine B (fun tgt kt => XS.iload S.here S.hx rfl (hb hby at_250) rfl kt) ?_
  show F T (mkF m 252 #[.val (.int i0), .val (.int i1), .val (.int i2), .val (.int i3), .val (.int i4), .val (.int 1), .val (.int 1), .val (.int c0), .val (.int c1), .val (.int c2), .val (.int c3), .val (.ref x1), .val (.ref x2), .val (.ref y), .val (.int (1 : Int32))] [(.int (1 : Int32))])
  exact K _ _ S
set_option maxRecDepth 65536 in
set_option maxHeartbeats 40000000 in
theorem lw_t12 {p : Program} {l : Launch} {e : Env} {s : State} {m : MethodId} {args : Array Value} {below : List Frame} {meth : Method} {c : Code} {Z : State} {a0 : Array Value} {EL : List (String × Nat)} {F : State → JFrame → Prop} {sf : List Addr} {lt : List (String × Nat × Addr)} {kq nq : Nat} {h : Heap} {T : State} (hw : ∀ q ∈ tables_1, q.before a0 Z = true) (hEW : EW Z a0 EL) (B : Bw p e below F) (hby : c.code = code) (hml : c.maxLocals = 15) (zc : Int32) (CS : Sta Z Z.heap "java/lang/String" "COMPACT_STRINGS" "Z" (.int zc)) (hzc : ¬ zc = 0) (fm : Value) (SF : Sta Z Z.heap "jdk/internal/util/Preconditions" "SIOOBE_FORMATTER" "Ljava/util/function/BiFunction;" fm) (hfm : fm.isRef = true) (i0 i1 i2 i3 i4 : Int32) (c0 : Int32) (b0 : ¬ c0 < 0 ∧ ¬ (255 : Int32) < c0) (c1 : Int32) (b1 : ¬ c1 < 0 ∧ ¬ (255 : Int32) < c1) (c2 : Int32) (b2 : ¬ c2 < 0 ∧ ¬ (255 : Int32) < c2) (c3 : Int32) (b3 : ¬ c3 < 0 ∧ ¬ (255 : Int32) < c3) (x1 x2 y ty : Addr) (S : Sp p l e room_1 s m args below meth c Z a0 EL "org/triplebridge/mapping/ColumnSqlPinLaw" T h sf lt kq nq) (hkq : kq + 0 ≤ room_1.cells) (hnq : nq + 0 ≤ room_1.slots) (G : own_L Z h y ty [c0, 46, c2, c3]) (K : ∀ (T : State) (L : Array Slot), Sp p l e room_1 s m args below meth c Z a0 EL "org/triplebridge/mapping/ColumnSqlPinLaw" T h sf lt kq nq → F T (mkF m 252 L [(.int (1 : Int32))])) : F T (mkF m 92 #[.val (.int i0), .val (.int i1), .val (.int i2), .val (.int i3), .val (.int i4), .val (.int 1), .val (.int 2), .val (.int c0), .val (.int c1), .val (.int c2), .val (.int c3), .val (.ref x1), .val (.ref x2), .val (.ref y), .unset] []) := by
  have hbs : ∀ q ∈ ([c0, 46, c2, c3] : List Int32), ¬ q < 0 ∧ ¬ (255 : Int32) < q := (all_cons b0 (all_cons (by decide) (all_cons b2 (all_cons b3 all_nil))))
  show F T (mkF m 92 #[.val (.int i0), .val (.int i1), .val (.int i2), .val (.int i3), .val (.int i4), .val (.int 1), .val (.int 2), .val (.int c0), .val (.int c1), .val (.int c2), .val (.int c3), .val (.ref x1), .val (.ref x2), .val (.ref y), .unset] [])
  refine B (fun tgt kt => XS.aload S.here S.hx rfl (hb hby at_92) rfl rfl kt) ?_
  show F T (mkF m 94 #[.val (.int i0), .val (.int i1), .val (.int i2), .val (.int i3), .val (.int i4), .val (.int 1), .val (.int 2), .val (.int c0), .val (.int c1), .val (.int c2), .val (.int c3), .val (.ref x1), .val (.ref x2), .val (.ref y), .unset] [(.ref y)])
  refine Sp.virt B S (y := (⟨"java/lang/String", "length", "()I"⟩ : MethodName)) (C := "java/lang/String") (argsL := []) (rest := []) (hw _ (List.mem_of_getElem? (i := 159) rfl)) (hw _ (List.mem_of_getElem? (i := 76) rfl)) (hw _ (List.mem_of_getElem? (i := 78) rfl)) (hw _ (List.mem_of_getElem? (i := 78) rfl)) (hw _ (List.mem_of_getElem? (i := 77) rfl)) (by decide) (Call.con (W := 0) (b_len l Z a0 EL hw hEW _ zc CS hzc y ty [c0, 46, c2, c3] (by show 4 ≤ 8; decide) G) (hw _ (List.mem_of_getElem? (i := 79) rfl)) (hw _ (List.mem_of_getElem? (i := 6) rfl)) (by decide) (by decide)) G.1 (by simp) hkq hnq (by rw [hml]; rfl) (lenOf lw_p22 rfl) rfl (Nat.le_of_eq rfl) (hb hby at_94) fun v T h1 nw S hQ => ?_
  obtain ⟨rfl, rfl, rfl⟩ := hQ
  show F T (mkF m 97 #[.val (.int i0), .val (.int i1), .val (.int i2), .val (.int i3), .val (.int i4), .val (.int 1), .val (.int 2), .val (.int c0), .val (.int c1), .val (.int c2), .val (.int c3), .val (.ref x1), .val (.ref x2), .val (.ref y), .unset] [(.int (4 : Int32))])
  refine B (fun tgt kt => XS.iload S.here S.hx rfl (hb hby at_97) rfl kt) ?_
  show F T (mkF m 99 #[.val (.int i0), .val (.int i1), .val (.int i2), .val (.int i3), .val (.int i4), .val (.int 1), .val (.int 2), .val (.int c0), .val (.int c1), .val (.int c2), .val (.int c3), .val (.ref x1), .val (.ref x2), .val (.ref y), .unset] [(.int 1), (.int (4 : Int32))])
  refine B (fun tgt kt => XS.iconst S.here S.hx rfl (hb hby at_99) kt) ?_
  show F T (mkF m 100 #[.val (.int i0), .val (.int i1), .val (.int i2), .val (.int i3), .val (.int i4), .val (.int 1), .val (.int 2), .val (.int c0), .val (.int c1), .val (.int c2), .val (.int c3), .val (.ref x1), .val (.ref x2), .val (.ref y), .unset] [(.int (1 : Int32)), (.int 1), (.int (4 : Int32))])
  refine B (fun tgt kt => XS.iadd S.here S.hx rfl (hb hby at_100) rfl kt) ?_
  show F T (mkF m 101 #[.val (.int i0), .val (.int i1), .val (.int i2), .val (.int i3), .val (.int i4), .val (.int 1), .val (.int 2), .val (.int c0), .val (.int c1), .val (.int c2), .val (.int c3), .val (.ref x1), .val (.ref x2), .val (.ref y), .unset] [(.int ((1 : Int32) + (1 : Int32))), (.int (4 : Int32))])
  refine B (fun tgt kt => XS.iload S.here S.hx rfl (hb hby at_101) rfl kt) ?_
  show F T (mkF m 103 #[.val (.int i0), .val (.int i1), .val (.int i2), .val (.int i3), .val (.int i4), .val (.int 1), .val (.int 2), .val (.int c0), .val (.int c1), .val (.int c2), .val (.int c3), .val (.ref x1), .val (.ref x2), .val (.ref y), .unset] [(.int 2), (.int ((1 : Int32) + (1 : Int32))), (.int (4 : Int32))])
  refine B (fun tgt kt => XS.iadd S.here S.hx rfl (hb hby at_103) rfl kt) ?_
  show F T (mkF m 104 #[.val (.int i0), .val (.int i1), .val (.int i2), .val (.int i3), .val (.int i4), .val (.int 1), .val (.int 2), .val (.int c0), .val (.int c1), .val (.int c2), .val (.int c3), .val (.ref x1), .val (.ref x2), .val (.ref y), .unset] [(.int (((1 : Int32) + (1 : Int32)) + (2 : Int32))), (.int (4 : Int32))])
  refine B (fun tgt kt => XS.icmpYes S.here S.hx rfl (pc0 := 104) (pc' := 109) rfl (hb hby at_104) rfl (ii_eq_t (by decide)) (by decide) (by decide) kt) ?_
  show F T (mkF m 109 #[.val (.int i0), .val (.int i1), .val (.int i2), .val (.int i3), .val (.int i4), .val (.int 1), .val (.int 2), .val (.int c0), .val (.int c1), .val (.int c2), .val (.int c3), .val (.ref x1), .val (.ref x2), .val (.ref y), .unset] [])
  refine B (fun tgt kt => XS.aload S.here S.hx rfl (hb hby at_109) rfl rfl kt) ?_
  show F T (mkF m 111 #[.val (.int i0), .val (.int i1), .val (.int i2), .val (.int i3), .val (.int i4), .val (.int 1), .val (.int 2), .val (.int c0), .val (.int c1), .val (.int c2), .val (.int c3), .val (.ref x1), .val (.ref x2), .val (.ref y), .unset] [(.ref y)])
  refine B (fun tgt kt => XS.iload S.here S.hx rfl (hb hby at_111) rfl kt) ?_
  show F T (mkF m 113 #[.val (.int i0), .val (.int i1), .val (.int i2), .val (.int i3), .val (.int i4), .val (.int 1), .val (.int 2), .val (.int c0), .val (.int c1), .val (.int c2), .val (.int c3), .val (.ref x1), .val (.ref x2), .val (.ref y), .unset] [(.int 1), (.ref y)])
  refine Sp.virt B S (y := (⟨"java/lang/String", "charAt", "(I)C"⟩ : MethodName)) (C := "java/lang/String") (argsL := [(.int 1)]) (rest := []) (hw _ (List.mem_of_getElem? (i := 160) rfl)) (hw _ (List.mem_of_getElem? (i := 161) rfl)) (hw _ (List.mem_of_getElem? (i := 163) rfl)) (hw _ (List.mem_of_getElem? (i := 163) rfl)) (hw _ (List.mem_of_getElem? (i := 162) rfl)) (by decide) (Call.con (W := 0) (y_ca l Z a0 EL hw hEW _ zc CS hzc fm SF hfm y ty [c0, 46, c2, c3] (by show 4 ≤ 8; decide) hbs G 1 (by show 1 < 4; decide)) (hw _ (List.mem_of_getElem? (i := 164) rfl)) (hw _ (List.mem_of_getElem? (i := 6) rfl)) (by decide) (by decide)) G.1 (by simp) hkq hnq (by rw [hml]; rfl) (lenOf lw_p28 rfl) rfl (Nat.le_of_eq rfl) (hb hby at_113) fun v T h2 nw S hQ => ?_
  obtain ⟨rfl, rfl, rfl⟩ := hQ
  show F T (mkF m 116 #[.val (.int i0), .val (.int i1), .val (.int i2), .val (.int i3), .val (.int i4), .val (.int 1), .val (.int 2), .val (.int c0), .val (.int c1), .val (.int c2), .val (.int c3), .val (.ref x1), .val (.ref x2), .val (.ref y), .unset] [(.int (46 : Int32))])
  refine B (fun tgt kt => XS.bipush S.here S.hx rfl (hb hby at_116) kt) ?_
  show F T (mkF m 118 #[.val (.int i0), .val (.int i1), .val (.int i2), .val (.int i3), .val (.int i4), .val (.int 1), .val (.int 2), .val (.int c0), .val (.int c1), .val (.int c2), .val (.int c3), .val (.ref x1), .val (.ref x2), .val (.ref y), .unset] [(.int (46 : Int32)), (.int (46 : Int32))])
  refine B (fun tgt kt => XS.icmpNo S.here S.hx rfl (hb hby at_118) rfl (ii_ne_f rfl) kt) ?_
  show F T (mkF m 121 #[.val (.int i0), .val (.int i1), .val (.int i2), .val (.int i3), .val (.int i4), .val (.int 1), .val (.int 2), .val (.int c0), .val (.int c1), .val (.int c2), .val (.int c3), .val (.ref x1), .val (.ref x2), .val (.ref y), .unset] [])
  refine B (fun tgt kt => XS.iconst S.here S.hx rfl (hb hby at_121) kt) ?_
  show F T (mkF m 122 #[.val (.int i0), .val (.int i1), .val (.int i2), .val (.int i3), .val (.int i4), .val (.int 1), .val (.int 2), .val (.int c0), .val (.int c1), .val (.int c2), .val (.int c3), .val (.ref x1), .val (.ref x2), .val (.ref y), .unset] [(.int (1 : Int32))])
  refine B (fun tgt kt => XS.goto S.here S.hx rfl (pc0 := 122) (pc' := 126) rfl (hb hby at_122) (by decide) (by decide) kt) ?_
  show F T (mkF m 126 #[.val (.int i0), .val (.int i1), .val (.int i2), .val (.int i3), .val (.int i4), .val (.int 1), .val (.int 2), .val (.int c0), .val (.int c1), .val (.int c2), .val (.int c3), .val (.ref x1), .val (.ref x2), .val (.ref y), .unset] [(.int (1 : Int32))])
  refine B (fun tgt kt => XS.istore S.here S.hx rfl (hb hby at_126) rfl (l' := #[.val (.int i0), .val (.int i1), .val (.int i2), .val (.int i3), .val (.int i4), .val (.int 1), .val (.int 2), .val (.int c0), .val (.int c1), .val (.int c2), .val (.int c3), .val (.ref x1), .val (.ref x2), .val (.ref y), .val (.int (1 : Int32))]) rfl kt) ?_
  show F T (mkF m 128 #[.val (.int i0), .val (.int i1), .val (.int i2), .val (.int i3), .val (.int i4), .val (.int 1), .val (.int 2), .val (.int c0), .val (.int c1), .val (.int c2), .val (.int c3), .val (.ref x1), .val (.ref x2), .val (.ref y), .val (.int (1 : Int32))] [])
  refine B (fun tgt kt => XS.iload S.here S.hx rfl (hb hby at_128) rfl kt) ?_
  show F T (mkF m 130 #[.val (.int i0), .val (.int i1), .val (.int i2), .val (.int i3), .val (.int i4), .val (.int 1), .val (.int 2), .val (.int c0), .val (.int c1), .val (.int c2), .val (.int c3), .val (.ref x1), .val (.ref x2), .val (.ref y), .val (.int (1 : Int32))] [(.int 1)])
  refine B (fun tgt kt => XS.iconst S.here S.hx rfl (hb hby at_130) kt) ?_
  show F T (mkF m 131 #[.val (.int i0), .val (.int i1), .val (.int i2), .val (.int i3), .val (.int i4), .val (.int 1), .val (.int 2), .val (.int c0), .val (.int c1), .val (.int c2), .val (.int c3), .val (.ref x1), .val (.ref x2), .val (.ref y), .val (.int (1 : Int32))] [(.int (1 : Int32)), (.int 1)])
  refine B (fun tgt kt => XS.icmpNo S.here S.hx rfl (hb hby at_131) rfl (ii_lt_f (by decide)) kt) ?_
  show F T (mkF m 134 #[.val (.int i0), .val (.int i1), .val (.int i2), .val (.int i3), .val (.int i4), .val (.int 1), .val (.int 2), .val (.int c0), .val (.int c1), .val (.int c2), .val (.int c3), .val (.ref x1), .val (.ref x2), .val (.ref y), .val (.int (1 : Int32))] [])
  refine B (fun tgt kt => XS.iload S.here S.hx rfl (hb hby at_134) rfl kt) ?_
  show F T (mkF m 136 #[.val (.int i0), .val (.int i1), .val (.int i2), .val (.int i3), .val (.int i4), .val (.int 1), .val (.int 2), .val (.int c0), .val (.int c1), .val (.int c2), .val (.int c3), .val (.ref x1), .val (.ref x2), .val (.ref y), .val (.int (1 : Int32))] [(.int (1 : Int32))])
  refine B (fun tgt kt => XS.ifNo S.here S.hx rfl (hb hby at_136) rfl (i0_eq_f (by decide)) kt) ?_
  show F T (mkF m 139 #[.val (.int i0), .val (.int i1), .val (.int i2), .val (.int i3), .val (.int i4), .val (.int 1), .val (.int 2), .val (.int c0), .val (.int c1), .val (.int c2), .val (.int c3), .val (.ref x1), .val (.ref x2), .val (.ref y), .val (.int (1 : Int32))] [])
  refine B (fun tgt kt => XS.aload S.here S.hx rfl (hb hby at_139) rfl rfl kt) ?_
  show F T (mkF m 141 #[.val (.int i0), .val (.int i1), .val (.int i2), .val (.int i3), .val (.int i4), .val (.int 1), .val (.int 2), .val (.int c0), .val (.int c1), .val (.int c2), .val (.int c3), .val (.ref x1), .val (.ref x2), .val (.ref y), .val (.int (1 : Int32))] [(.ref y)])
  refine B (fun tgt kt => XS.iconst S.here S.hx rfl (hb hby at_141) kt) ?_
  show F T (mkF m 142 #[.val (.int i0), .val (.int i1), .val (.int i2), .val (.int i3), .val (.int i4), .val (.int 1), .val (.int 2), .val (.int c0), .val (.int c1), .val (.int c2), .val (.int c3), .val (.ref x1), .val (.ref x2), .val (.ref y), .val (.int (1 : Int32))] [(.int (0 : Int32)), (.ref y)])
  refine Sp.virt B S (y := (⟨"java/lang/String", "charAt", "(I)C"⟩ : MethodName)) (C := "java/lang/String") (argsL := [(.int (0 : Int32))]) (rest := []) (hw _ (List.mem_of_getElem? (i := 160) rfl)) (hw _ (List.mem_of_getElem? (i := 161) rfl)) (hw _ (List.mem_of_getElem? (i := 163) rfl)) (hw _ (List.mem_of_getElem? (i := 163) rfl)) (hw _ (List.mem_of_getElem? (i := 162) rfl)) (by decide) (Call.con (W := 0) (y_ca l Z a0 EL hw hEW _ zc CS hzc fm SF hfm y ty [c0, 46, c2, c3] (by show 4 ≤ 8; decide) hbs G 0 (by show 0 < 4; decide)) (hw _ (List.mem_of_getElem? (i := 164) rfl)) (hw _ (List.mem_of_getElem? (i := 6) rfl)) (by decide) (by decide)) G.1 (by simp) hkq hnq (by rw [hml]; rfl) (lenOf lw_p28 rfl) rfl (Nat.le_of_eq rfl) (hb hby at_142) fun v T h3 nw S hQ => ?_
  obtain ⟨rfl, rfl, rfl⟩ := hQ
  show F T (mkF m 145 #[.val (.int i0), .val (.int i1), .val (.int i2), .val (.int i3), .val (.int i4), .val (.int 1), .val (.int 2), .val (.int c0), .val (.int c1), .val (.int c2), .val (.int c3), .val (.ref x1), .val (.ref x2), .val (.ref y), .val (.int (1 : Int32))] [(.int c0)])
  refine B (fun tgt kt => XS.iload S.here S.hx rfl (hb hby at_145) rfl kt) ?_
  show F T (mkF m 147 #[.val (.int i0), .val (.int i1), .val (.int i2), .val (.int i3), .val (.int i4), .val (.int 1), .val (.int 2), .val (.int c0), .val (.int c1), .val (.int c2), .val (.int c3), .val (.ref x1), .val (.ref x2), .val (.ref y), .val (.int (1 : Int32))] [(.int c0), (.int c0)])
  refine B (fun tgt kt => XS.icmpNo S.here S.hx rfl (hb hby at_147) rfl (ii_ne_f rfl) kt) ?_
  show F T (mkF m 150 #[.val (.int i0), .val (.int i1), .val (.int i2), .val (.int i3), .val (.int i4), .val (.int 1), .val (.int 2), .val (.int c0), .val (.int c1), .val (.int c2), .val (.int c3), .val (.ref x1), .val (.ref x2), .val (.ref y), .val (.int (1 : Int32))] [])
  refine B (fun tgt kt => XS.iconst S.here S.hx rfl (hb hby at_150) kt) ?_
  show F T (mkF m 151 #[.val (.int i0), .val (.int i1), .val (.int i2), .val (.int i3), .val (.int i4), .val (.int 1), .val (.int 2), .val (.int c0), .val (.int c1), .val (.int c2), .val (.int c3), .val (.ref x1), .val (.ref x2), .val (.ref y), .val (.int (1 : Int32))] [(.int (1 : Int32))])
  refine B (fun tgt kt => XS.goto S.here S.hx rfl (pc0 := 151) (pc' := 155) rfl (hb hby at_151) (by decide) (by decide) kt) ?_
  show F T (mkF m 155 #[.val (.int i0), .val (.int i1), .val (.int i2), .val (.int i3), .val (.int i4), .val (.int 1), .val (.int 2), .val (.int c0), .val (.int c1), .val (.int c2), .val (.int c3), .val (.ref x1), .val (.ref x2), .val (.ref y), .val (.int (1 : Int32))] [(.int (1 : Int32))])
  refine B (fun tgt kt => XS.istore S.here S.hx rfl (hb hby at_155) rfl (l' := #[.val (.int i0), .val (.int i1), .val (.int i2), .val (.int i3), .val (.int i4), .val (.int 1), .val (.int 2), .val (.int c0), .val (.int c1), .val (.int c2), .val (.int c3), .val (.ref x1), .val (.ref x2), .val (.ref y), .val (.int (1 : Int32))]) rfl kt) ?_
  show F T (mkF m 157 #[.val (.int i0), .val (.int i1), .val (.int i2), .val (.int i3), .val (.int i4), .val (.int 1), .val (.int 2), .val (.int c0), .val (.int c1), .val (.int c2), .val (.int c3), .val (.ref x1), .val (.ref x2), .val (.ref y), .val (.int (1 : Int32))] [])
  refine B (fun tgt kt => XS.iload S.here S.hx rfl (hb hby at_157) rfl kt) ?_
  show F T (mkF m 159 #[.val (.int i0), .val (.int i1), .val (.int i2), .val (.int i3), .val (.int i4), .val (.int 1), .val (.int 2), .val (.int c0), .val (.int c1), .val (.int c2), .val (.int c3), .val (.ref x1), .val (.ref x2), .val (.ref y), .val (.int (1 : Int32))] [(.int 1)])
  refine B (fun tgt kt => XS.iconst S.here S.hx rfl (hb hby at_159) kt) ?_
  show F T (mkF m 160 #[.val (.int i0), .val (.int i1), .val (.int i2), .val (.int i3), .val (.int i4), .val (.int 1), .val (.int 2), .val (.int c0), .val (.int c1), .val (.int c2), .val (.int c3), .val (.ref x1), .val (.ref x2), .val (.ref y), .val (.int (1 : Int32))] [(.int (2 : Int32)), (.int 1)])
  refine B (fun tgt kt => XS.icmpYes S.here S.hx rfl (pc0 := 160) (pc' := 186) rfl (hb hby at_160) rfl (ii_lt_t (by decide)) (by decide) (by decide) kt) ?_
  show F T (mkF m 186 #[.val (.int i0), .val (.int i1), .val (.int i2), .val (.int i3), .val (.int i4), .val (.int 1), .val (.int 2), .val (.int c0), .val (.int c1), .val (.int c2), .val (.int c3), .val (.ref x1), .val (.ref x2), .val (.ref y), .val (.int (1 : Int32))] [])
  refine B (fun tgt kt => XS.iload S.here S.hx rfl (hb hby at_186) rfl kt) ?_
  show F T (mkF m 188 #[.val (.int i0), .val (.int i1), .val (.int i2), .val (.int i3), .val (.int i4), .val (.int 1), .val (.int 2), .val (.int c0), .val (.int c1), .val (.int c2), .val (.int c3), .val (.ref x1), .val (.ref x2), .val (.ref y), .val (.int (1 : Int32))] [(.int 2)])
  refine B (fun tgt kt => XS.iconst S.here S.hx rfl (hb hby at_188) kt) ?_
  show F T (mkF m 189 #[.val (.int i0), .val (.int i1), .val (.int i2), .val (.int i3), .val (.int i4), .val (.int 1), .val (.int 2), .val (.int c0), .val (.int c1), .val (.int c2), .val (.int c3), .val (.ref x1), .val (.ref x2), .val (.ref y), .val (.int (1 : Int32))] [(.int (1 : Int32)), (.int 2)])
  refine B (fun tgt kt => XS.icmpNo S.here S.hx rfl (hb hby at_189) rfl (ii_lt_f (by decide)) kt) ?_
  show F T (mkF m 192 #[.val (.int i0), .val (.int i1), .val (.int i2), .val (.int i3), .val (.int i4), .val (.int 1), .val (.int 2), .val (.int c0), .val (.int c1), .val (.int c2), .val (.int c3), .val (.ref x1), .val (.ref x2), .val (.ref y), .val (.int (1 : Int32))] [])
  refine B (fun tgt kt => XS.iload S.here S.hx rfl (hb hby at_192) rfl kt) ?_
  show F T (mkF m 194 #[.val (.int i0), .val (.int i1), .val (.int i2), .val (.int i3), .val (.int i4), .val (.int 1), .val (.int 2), .val (.int c0), .val (.int c1), .val (.int c2), .val (.int c3), .val (.ref x1), .val (.ref x2), .val (.ref y), .val (.int (1 : Int32))] [(.int (1 : Int32))])
  refine B (fun tgt kt => XS.ifNo S.here S.hx rfl (hb hby at_194) rfl (i0_eq_f (by decide)) kt) ?_
  show F T (mkF m 197 #[.val (.int i0), .val (.int i1), .val (.int i2), .val (.int i3), .val (.int i4), .val (.int 1), .val (.int 2), .val (.int c0), .val (.int c1), .val (.int c2), .val (.int c3), .val (.ref x1), .val (.ref x2), .val (.ref y), .val (.int (1 : Int32))] [])
  refine B (fun tgt kt => XS.aload S.here S.hx rfl (hb hby at_197) rfl rfl kt) ?_
  show F T (mkF m 199 #[.val (.int i0), .val (.int i1), .val (.int i2), .val (.int i3), .val (.int i4), .val (.int 1), .val (.int 2), .val (.int c0), .val (.int c1), .val (.int c2), .val (.int c3), .val (.ref x1), .val (.ref x2), .val (.ref y), .val (.int (1 : Int32))] [(.ref y)])
  refine B (fun tgt kt => XS.iload S.here S.hx rfl (hb hby at_199) rfl kt) ?_
  show F T (mkF m 201 #[.val (.int i0), .val (.int i1), .val (.int i2), .val (.int i3), .val (.int i4), .val (.int 1), .val (.int 2), .val (.int c0), .val (.int c1), .val (.int c2), .val (.int c3), .val (.ref x1), .val (.ref x2), .val (.ref y), .val (.int (1 : Int32))] [(.int 1), (.ref y)])
  refine B (fun tgt kt => XS.iconst S.here S.hx rfl (hb hby at_201) kt) ?_
  show F T (mkF m 202 #[.val (.int i0), .val (.int i1), .val (.int i2), .val (.int i3), .val (.int i4), .val (.int 1), .val (.int 2), .val (.int c0), .val (.int c1), .val (.int c2), .val (.int c3), .val (.ref x1), .val (.ref x2), .val (.ref y), .val (.int (1 : Int32))] [(.int (1 : Int32)), (.int 1), (.ref y)])
  refine B (fun tgt kt => XS.iadd S.here S.hx rfl (hb hby at_202) rfl kt) ?_
  show F T (mkF m 203 #[.val (.int i0), .val (.int i1), .val (.int i2), .val (.int i3), .val (.int i4), .val (.int 1), .val (.int 2), .val (.int c0), .val (.int c1), .val (.int c2), .val (.int c3), .val (.ref x1), .val (.ref x2), .val (.ref y), .val (.int (1 : Int32))] [(.int ((1 : Int32) + (1 : Int32))), (.ref y)])
  rw [show ((1 : Int32) + (1 : Int32)) = (2 : Int32) from by decide]
  show F T (mkF m 203 #[.val (.int i0), .val (.int i1), .val (.int i2), .val (.int i3), .val (.int i4), .val (.int 1), .val (.int 2), .val (.int c0), .val (.int c1), .val (.int c2), .val (.int c3), .val (.ref x1), .val (.ref x2), .val (.ref y), .val (.int (1 : Int32))] [(.int (2 : Int32)), (.ref y)])
  refine Sp.virt B S (y := (⟨"java/lang/String", "charAt", "(I)C"⟩ : MethodName)) (C := "java/lang/String") (argsL := [(.int (2 : Int32))]) (rest := []) (hw _ (List.mem_of_getElem? (i := 160) rfl)) (hw _ (List.mem_of_getElem? (i := 161) rfl)) (hw _ (List.mem_of_getElem? (i := 163) rfl)) (hw _ (List.mem_of_getElem? (i := 163) rfl)) (hw _ (List.mem_of_getElem? (i := 162) rfl)) (by decide) (Call.con (W := 0) (y_ca l Z a0 EL hw hEW _ zc CS hzc fm SF hfm y ty [c0, 46, c2, c3] (by show 4 ≤ 8; decide) hbs G 2 (by show 2 < 4; decide)) (hw _ (List.mem_of_getElem? (i := 164) rfl)) (hw _ (List.mem_of_getElem? (i := 6) rfl)) (by decide) (by decide)) G.1 (by simp) hkq hnq (by rw [hml]; rfl) (lenOf lw_p28 rfl) rfl (Nat.le_of_eq rfl) (hb hby at_203) fun v T h4 nw S hQ => ?_
  obtain ⟨rfl, rfl, rfl⟩ := hQ
  show F T (mkF m 206 #[.val (.int i0), .val (.int i1), .val (.int i2), .val (.int i3), .val (.int i4), .val (.int 1), .val (.int 2), .val (.int c0), .val (.int c1), .val (.int c2), .val (.int c3), .val (.ref x1), .val (.ref x2), .val (.ref y), .val (.int (1 : Int32))] [(.int c2)])
  refine B (fun tgt kt => XS.iload S.here S.hx rfl (hb hby at_206) rfl kt) ?_
  show F T (mkF m 208 #[.val (.int i0), .val (.int i1), .val (.int i2), .val (.int i3), .val (.int i4), .val (.int 1), .val (.int 2), .val (.int c0), .val (.int c1), .val (.int c2), .val (.int c3), .val (.ref x1), .val (.ref x2), .val (.ref y), .val (.int (1 : Int32))] [(.int c2), (.int c2)])
  refine B (fun tgt kt => XS.icmpNo S.here S.hx rfl (hb hby at_208) rfl (ii_ne_f rfl) kt) ?_
  show F T (mkF m 211 #[.val (.int i0), .val (.int i1), .val (.int i2), .val (.int i3), .val (.int i4), .val (.int 1), .val (.int 2), .val (.int c0), .val (.int c1), .val (.int c2), .val (.int c3), .val (.ref x1), .val (.ref x2), .val (.ref y), .val (.int (1 : Int32))] [])
  refine B (fun tgt kt => XS.iconst S.here S.hx rfl (hb hby at_211) kt) ?_
  show F T (mkF m 212 #[.val (.int i0), .val (.int i1), .val (.int i2), .val (.int i3), .val (.int i4), .val (.int 1), .val (.int 2), .val (.int c0), .val (.int c1), .val (.int c2), .val (.int c3), .val (.ref x1), .val (.ref x2), .val (.ref y), .val (.int (1 : Int32))] [(.int (1 : Int32))])
  refine B (fun tgt kt => XS.goto S.here S.hx rfl (pc0 := 212) (pc' := 216) rfl (hb hby at_212) (by decide) (by decide) kt) ?_
  show F T (mkF m 216 #[.val (.int i0), .val (.int i1), .val (.int i2), .val (.int i3), .val (.int i4), .val (.int 1), .val (.int 2), .val (.int c0), .val (.int c1), .val (.int c2), .val (.int c3), .val (.ref x1), .val (.ref x2), .val (.ref y), .val (.int (1 : Int32))] [(.int (1 : Int32))])
  refine B (fun tgt kt => XS.istore S.here S.hx rfl (hb hby at_216) rfl (l' := #[.val (.int i0), .val (.int i1), .val (.int i2), .val (.int i3), .val (.int i4), .val (.int 1), .val (.int 2), .val (.int c0), .val (.int c1), .val (.int c2), .val (.int c3), .val (.ref x1), .val (.ref x2), .val (.ref y), .val (.int (1 : Int32))]) rfl kt) ?_
  show F T (mkF m 218 #[.val (.int i0), .val (.int i1), .val (.int i2), .val (.int i3), .val (.int i4), .val (.int 1), .val (.int 2), .val (.int c0), .val (.int c1), .val (.int c2), .val (.int c3), .val (.ref x1), .val (.ref x2), .val (.ref y), .val (.int (1 : Int32))] [])
  refine B (fun tgt kt => XS.iload S.here S.hx rfl (hb hby at_218) rfl kt) ?_
  show F T (mkF m 220 #[.val (.int i0), .val (.int i1), .val (.int i2), .val (.int i3), .val (.int i4), .val (.int 1), .val (.int 2), .val (.int c0), .val (.int c1), .val (.int c2), .val (.int c3), .val (.ref x1), .val (.ref x2), .val (.ref y), .val (.int (1 : Int32))] [(.int 2)])
  refine B (fun tgt kt => XS.iconst S.here S.hx rfl (hb hby at_220) kt) ?_
  show F T (mkF m 221 #[.val (.int i0), .val (.int i1), .val (.int i2), .val (.int i3), .val (.int i4), .val (.int 1), .val (.int 2), .val (.int c0), .val (.int c1), .val (.int c2), .val (.int c3), .val (.ref x1), .val (.ref x2), .val (.ref y), .val (.int (1 : Int32))] [(.int (2 : Int32)), (.int 2)])
  refine B (fun tgt kt => XS.icmpNo S.here S.hx rfl (hb hby at_221) rfl (ii_lt_f (by decide)) kt) ?_
  show F T (mkF m 224 #[.val (.int i0), .val (.int i1), .val (.int i2), .val (.int i3), .val (.int i4), .val (.int 1), .val (.int 2), .val (.int c0), .val (.int c1), .val (.int c2), .val (.int c3), .val (.ref x1), .val (.ref x2), .val (.ref y), .val (.int (1 : Int32))] [])
  refine B (fun tgt kt => XS.iload S.here S.hx rfl (hb hby at_224) rfl kt) ?_
  show F T (mkF m 226 #[.val (.int i0), .val (.int i1), .val (.int i2), .val (.int i3), .val (.int i4), .val (.int 1), .val (.int 2), .val (.int c0), .val (.int c1), .val (.int c2), .val (.int c3), .val (.ref x1), .val (.ref x2), .val (.ref y), .val (.int (1 : Int32))] [(.int (1 : Int32))])
  refine B (fun tgt kt => XS.ifNo S.here S.hx rfl (hb hby at_226) rfl (i0_eq_f (by decide)) kt) ?_
  show F T (mkF m 229 #[.val (.int i0), .val (.int i1), .val (.int i2), .val (.int i3), .val (.int i4), .val (.int 1), .val (.int 2), .val (.int c0), .val (.int c1), .val (.int c2), .val (.int c3), .val (.ref x1), .val (.ref x2), .val (.ref y), .val (.int (1 : Int32))] [])
  refine B (fun tgt kt => XS.aload S.here S.hx rfl (hb hby at_229) rfl rfl kt) ?_
  show F T (mkF m 231 #[.val (.int i0), .val (.int i1), .val (.int i2), .val (.int i3), .val (.int i4), .val (.int 1), .val (.int 2), .val (.int c0), .val (.int c1), .val (.int c2), .val (.int c3), .val (.ref x1), .val (.ref x2), .val (.ref y), .val (.int (1 : Int32))] [(.ref y)])
  refine B (fun tgt kt => XS.iload S.here S.hx rfl (hb hby at_231) rfl kt) ?_
  show F T (mkF m 233 #[.val (.int i0), .val (.int i1), .val (.int i2), .val (.int i3), .val (.int i4), .val (.int 1), .val (.int 2), .val (.int c0), .val (.int c1), .val (.int c2), .val (.int c3), .val (.ref x1), .val (.ref x2), .val (.ref y), .val (.int (1 : Int32))] [(.int 1), (.ref y)])
  refine B (fun tgt kt => XS.iconst S.here S.hx rfl (hb hby at_233) kt) ?_
  show F T (mkF m 234 #[.val (.int i0), .val (.int i1), .val (.int i2), .val (.int i3), .val (.int i4), .val (.int 1), .val (.int 2), .val (.int c0), .val (.int c1), .val (.int c2), .val (.int c3), .val (.ref x1), .val (.ref x2), .val (.ref y), .val (.int (1 : Int32))] [(.int (2 : Int32)), (.int 1), (.ref y)])
  refine B (fun tgt kt => XS.iadd S.here S.hx rfl (hb hby at_234) rfl kt) ?_
  show F T (mkF m 235 #[.val (.int i0), .val (.int i1), .val (.int i2), .val (.int i3), .val (.int i4), .val (.int 1), .val (.int 2), .val (.int c0), .val (.int c1), .val (.int c2), .val (.int c3), .val (.ref x1), .val (.ref x2), .val (.ref y), .val (.int (1 : Int32))] [(.int ((1 : Int32) + (2 : Int32))), (.ref y)])
  rw [show ((1 : Int32) + (2 : Int32)) = (3 : Int32) from by decide]
  show F T (mkF m 235 #[.val (.int i0), .val (.int i1), .val (.int i2), .val (.int i3), .val (.int i4), .val (.int 1), .val (.int 2), .val (.int c0), .val (.int c1), .val (.int c2), .val (.int c3), .val (.ref x1), .val (.ref x2), .val (.ref y), .val (.int (1 : Int32))] [(.int (3 : Int32)), (.ref y)])
  refine Sp.virt B S (y := (⟨"java/lang/String", "charAt", "(I)C"⟩ : MethodName)) (C := "java/lang/String") (argsL := [(.int (3 : Int32))]) (rest := []) (hw _ (List.mem_of_getElem? (i := 160) rfl)) (hw _ (List.mem_of_getElem? (i := 161) rfl)) (hw _ (List.mem_of_getElem? (i := 163) rfl)) (hw _ (List.mem_of_getElem? (i := 163) rfl)) (hw _ (List.mem_of_getElem? (i := 162) rfl)) (by decide) (Call.con (W := 0) (y_ca l Z a0 EL hw hEW _ zc CS hzc fm SF hfm y ty [c0, 46, c2, c3] (by show 4 ≤ 8; decide) hbs G 3 (by show 3 < 4; decide)) (hw _ (List.mem_of_getElem? (i := 164) rfl)) (hw _ (List.mem_of_getElem? (i := 6) rfl)) (by decide) (by decide)) G.1 (by simp) hkq hnq (by rw [hml]; rfl) (lenOf lw_p28 rfl) rfl (Nat.le_of_eq rfl) (hb hby at_235) fun v T h5 nw S hQ => ?_
  obtain ⟨rfl, rfl, rfl⟩ := hQ
  show F T (mkF m 238 #[.val (.int i0), .val (.int i1), .val (.int i2), .val (.int i3), .val (.int i4), .val (.int 1), .val (.int 2), .val (.int c0), .val (.int c1), .val (.int c2), .val (.int c3), .val (.ref x1), .val (.ref x2), .val (.ref y), .val (.int (1 : Int32))] [(.int c3)])
  refine B (fun tgt kt => XS.iload S.here S.hx rfl (hb hby at_238) rfl kt) ?_
  show F T (mkF m 240 #[.val (.int i0), .val (.int i1), .val (.int i2), .val (.int i3), .val (.int i4), .val (.int 1), .val (.int 2), .val (.int c0), .val (.int c1), .val (.int c2), .val (.int c3), .val (.ref x1), .val (.ref x2), .val (.ref y), .val (.int (1 : Int32))] [(.int c3), (.int c3)])
  refine B (fun tgt kt => XS.icmpNo S.here S.hx rfl (hb hby at_240) rfl (ii_ne_f rfl) kt) ?_
  show F T (mkF m 243 #[.val (.int i0), .val (.int i1), .val (.int i2), .val (.int i3), .val (.int i4), .val (.int 1), .val (.int 2), .val (.int c0), .val (.int c1), .val (.int c2), .val (.int c3), .val (.ref x1), .val (.ref x2), .val (.ref y), .val (.int (1 : Int32))] [])
  refine B (fun tgt kt => XS.iconst S.here S.hx rfl (hb hby at_243) kt) ?_
  show F T (mkF m 244 #[.val (.int i0), .val (.int i1), .val (.int i2), .val (.int i3), .val (.int i4), .val (.int 1), .val (.int 2), .val (.int c0), .val (.int c1), .val (.int c2), .val (.int c3), .val (.ref x1), .val (.ref x2), .val (.ref y), .val (.int (1 : Int32))] [(.int (1 : Int32))])
  refine B (fun tgt kt => XS.goto S.here S.hx rfl (pc0 := 244) (pc' := 248) rfl (hb hby at_244) (by decide) (by decide) kt) ?_
  show F T (mkF m 248 #[.val (.int i0), .val (.int i1), .val (.int i2), .val (.int i3), .val (.int i4), .val (.int 1), .val (.int 2), .val (.int c0), .val (.int c1), .val (.int c2), .val (.int c3), .val (.ref x1), .val (.ref x2), .val (.ref y), .val (.int (1 : Int32))] [(.int (1 : Int32))])
  refine B (fun tgt kt => XS.istore S.here S.hx rfl (hb hby at_248) rfl (l' := #[.val (.int i0), .val (.int i1), .val (.int i2), .val (.int i3), .val (.int i4), .val (.int 1), .val (.int 2), .val (.int c0), .val (.int c1), .val (.int c2), .val (.int c3), .val (.ref x1), .val (.ref x2), .val (.ref y), .val (.int (1 : Int32))]) rfl kt) ?_
  show F T (mkF m 250 #[.val (.int i0), .val (.int i1), .val (.int i2), .val (.int i3), .val (.int i4), .val (.int 1), .val (.int 2), .val (.int c0), .val (.int c1), .val (.int c2), .val (.int c3), .val (.ref x1), .val (.ref x2), .val (.ref y), .val (.int (1 : Int32))] [])
  refine B (fun tgt kt => XS.iload S.here S.hx rfl (hb hby at_250) rfl kt) ?_
  show F T (mkF m 252 #[.val (.int i0), .val (.int i1), .val (.int i2), .val (.int i3), .val (.int i4), .val (.int 1), .val (.int 2), .val (.int c0), .val (.int c1), .val (.int c2), .val (.int c3), .val (.ref x1), .val (.ref x2), .val (.ref y), .val (.int (1 : Int32))] [(.int (1 : Int32))])
  exact K _ _ S
set_option maxRecDepth 65536 in
set_option maxHeartbeats 40000000 in
theorem lw_t20 {p : Program} {l : Launch} {e : Env} {s : State} {m : MethodId} {args : Array Value} {below : List Frame} {meth : Method} {c : Code} {Z : State} {a0 : Array Value} {EL : List (String × Nat)} {F : State → JFrame → Prop} {sf : List Addr} {lt : List (String × Nat × Addr)} {kq nq : Nat} {h : Heap} {T : State} (hw : ∀ q ∈ tables_1, q.before a0 Z = true) (hEW : EW Z a0 EL) (B : Bw p e below F) (hby : c.code = code) (hml : c.maxLocals = 15) (zc : Int32) (CS : Sta Z Z.heap "java/lang/String" "COMPACT_STRINGS" "Z" (.int zc)) (hzc : ¬ zc = 0) (fm : Value) (SF : Sta Z Z.heap "jdk/internal/util/Preconditions" "SIOOBE_FORMATTER" "Ljava/util/function/BiFunction;" fm) (hfm : fm.isRef = true) (i0 i1 i2 i3 i4 : Int32) (c0 : Int32) (b0 : ¬ c0 < 0 ∧ ¬ (255 : Int32) < c0) (c1 : Int32) (b1 : ¬ c1 < 0 ∧ ¬ (255 : Int32) < c1) (c2 : Int32) (b2 : ¬ c2 < 0 ∧ ¬ (255 : Int32) < c2) (c3 : Int32) (b3 : ¬ c3 < 0 ∧ ¬ (255 : Int32) < c3) (x1 x2 y ty : Addr) (S : Sp p l e room_1 s m args below meth c Z a0 EL "org/triplebridge/mapping/ColumnSqlPinLaw" T h sf lt kq nq) (hkq : kq + 0 ≤ room_1.cells) (hnq : nq + 0 ≤ room_1.slots) (G : own_L Z h y ty [c0, c1, 46]) (K : ∀ (T : State) (L : Array Slot), Sp p l e room_1 s m args below meth c Z a0 EL "org/triplebridge/mapping/ColumnSqlPinLaw" T h sf lt kq nq → F T (mkF m 252 L [(.int (1 : Int32))])) : F T (mkF m 92 #[.val (.int i0), .val (.int i1), .val (.int i2), .val (.int i3), .val (.int i4), .val (.int 2), .val (.int 0), .val (.int c0), .val (.int c1), .val (.int c2), .val (.int c3), .val (.ref x1), .val (.ref x2), .val (.ref y), .unset] []) := by
  have hbs : ∀ q ∈ ([c0, c1, 46] : List Int32), ¬ q < 0 ∧ ¬ (255 : Int32) < q := (all_cons b0 (all_cons b1 (all_cons (by decide) all_nil)))
  show F T (mkF m 92 #[.val (.int i0), .val (.int i1), .val (.int i2), .val (.int i3), .val (.int i4), .val (.int 2), .val (.int 0), .val (.int c0), .val (.int c1), .val (.int c2), .val (.int c3), .val (.ref x1), .val (.ref x2), .val (.ref y), .unset] [])
  refine B (fun tgt kt => XS.aload S.here S.hx rfl (hb hby at_92) rfl rfl kt) ?_
  show F T (mkF m 94 #[.val (.int i0), .val (.int i1), .val (.int i2), .val (.int i3), .val (.int i4), .val (.int 2), .val (.int 0), .val (.int c0), .val (.int c1), .val (.int c2), .val (.int c3), .val (.ref x1), .val (.ref x2), .val (.ref y), .unset] [(.ref y)])
  refine Sp.virt B S (y := (⟨"java/lang/String", "length", "()I"⟩ : MethodName)) (C := "java/lang/String") (argsL := []) (rest := []) (hw _ (List.mem_of_getElem? (i := 159) rfl)) (hw _ (List.mem_of_getElem? (i := 76) rfl)) (hw _ (List.mem_of_getElem? (i := 78) rfl)) (hw _ (List.mem_of_getElem? (i := 78) rfl)) (hw _ (List.mem_of_getElem? (i := 77) rfl)) (by decide) (Call.con (W := 0) (b_len l Z a0 EL hw hEW _ zc CS hzc y ty [c0, c1, 46] (by show 3 ≤ 8; decide) G) (hw _ (List.mem_of_getElem? (i := 79) rfl)) (hw _ (List.mem_of_getElem? (i := 6) rfl)) (by decide) (by decide)) G.1 (by simp) hkq hnq (by rw [hml]; rfl) (lenOf lw_p22 rfl) rfl (Nat.le_of_eq rfl) (hb hby at_94) fun v T h1 nw S hQ => ?_
  obtain ⟨rfl, rfl, rfl⟩ := hQ
  show F T (mkF m 97 #[.val (.int i0), .val (.int i1), .val (.int i2), .val (.int i3), .val (.int i4), .val (.int 2), .val (.int 0), .val (.int c0), .val (.int c1), .val (.int c2), .val (.int c3), .val (.ref x1), .val (.ref x2), .val (.ref y), .unset] [(.int (3 : Int32))])
  refine B (fun tgt kt => XS.iload S.here S.hx rfl (hb hby at_97) rfl kt) ?_
  show F T (mkF m 99 #[.val (.int i0), .val (.int i1), .val (.int i2), .val (.int i3), .val (.int i4), .val (.int 2), .val (.int 0), .val (.int c0), .val (.int c1), .val (.int c2), .val (.int c3), .val (.ref x1), .val (.ref x2), .val (.ref y), .unset] [(.int 2), (.int (3 : Int32))])
  refine B (fun tgt kt => XS.iconst S.here S.hx rfl (hb hby at_99) kt) ?_
  show F T (mkF m 100 #[.val (.int i0), .val (.int i1), .val (.int i2), .val (.int i3), .val (.int i4), .val (.int 2), .val (.int 0), .val (.int c0), .val (.int c1), .val (.int c2), .val (.int c3), .val (.ref x1), .val (.ref x2), .val (.ref y), .unset] [(.int (1 : Int32)), (.int 2), (.int (3 : Int32))])
  refine B (fun tgt kt => XS.iadd S.here S.hx rfl (hb hby at_100) rfl kt) ?_
  show F T (mkF m 101 #[.val (.int i0), .val (.int i1), .val (.int i2), .val (.int i3), .val (.int i4), .val (.int 2), .val (.int 0), .val (.int c0), .val (.int c1), .val (.int c2), .val (.int c3), .val (.ref x1), .val (.ref x2), .val (.ref y), .unset] [(.int ((2 : Int32) + (1 : Int32))), (.int (3 : Int32))])
  refine B (fun tgt kt => XS.iload S.here S.hx rfl (hb hby at_101) rfl kt) ?_
  show F T (mkF m 103 #[.val (.int i0), .val (.int i1), .val (.int i2), .val (.int i3), .val (.int i4), .val (.int 2), .val (.int 0), .val (.int c0), .val (.int c1), .val (.int c2), .val (.int c3), .val (.ref x1), .val (.ref x2), .val (.ref y), .unset] [(.int 0), (.int ((2 : Int32) + (1 : Int32))), (.int (3 : Int32))])
  refine B (fun tgt kt => XS.iadd S.here S.hx rfl (hb hby at_103) rfl kt) ?_
  show F T (mkF m 104 #[.val (.int i0), .val (.int i1), .val (.int i2), .val (.int i3), .val (.int i4), .val (.int 2), .val (.int 0), .val (.int c0), .val (.int c1), .val (.int c2), .val (.int c3), .val (.ref x1), .val (.ref x2), .val (.ref y), .unset] [(.int (((2 : Int32) + (1 : Int32)) + (0 : Int32))), (.int (3 : Int32))])
  refine B (fun tgt kt => XS.icmpYes S.here S.hx rfl (pc0 := 104) (pc' := 109) rfl (hb hby at_104) rfl (ii_eq_t (by decide)) (by decide) (by decide) kt) ?_
  show F T (mkF m 109 #[.val (.int i0), .val (.int i1), .val (.int i2), .val (.int i3), .val (.int i4), .val (.int 2), .val (.int 0), .val (.int c0), .val (.int c1), .val (.int c2), .val (.int c3), .val (.ref x1), .val (.ref x2), .val (.ref y), .unset] [])
  refine B (fun tgt kt => XS.aload S.here S.hx rfl (hb hby at_109) rfl rfl kt) ?_
  show F T (mkF m 111 #[.val (.int i0), .val (.int i1), .val (.int i2), .val (.int i3), .val (.int i4), .val (.int 2), .val (.int 0), .val (.int c0), .val (.int c1), .val (.int c2), .val (.int c3), .val (.ref x1), .val (.ref x2), .val (.ref y), .unset] [(.ref y)])
  refine B (fun tgt kt => XS.iload S.here S.hx rfl (hb hby at_111) rfl kt) ?_
  show F T (mkF m 113 #[.val (.int i0), .val (.int i1), .val (.int i2), .val (.int i3), .val (.int i4), .val (.int 2), .val (.int 0), .val (.int c0), .val (.int c1), .val (.int c2), .val (.int c3), .val (.ref x1), .val (.ref x2), .val (.ref y), .unset] [(.int 2), (.ref y)])
  refine Sp.virt B S (y := (⟨"java/lang/String", "charAt", "(I)C"⟩ : MethodName)) (C := "java/lang/String") (argsL := [(.int 2)]) (rest := []) (hw _ (List.mem_of_getElem? (i := 160) rfl)) (hw _ (List.mem_of_getElem? (i := 161) rfl)) (hw _ (List.mem_of_getElem? (i := 163) rfl)) (hw _ (List.mem_of_getElem? (i := 163) rfl)) (hw _ (List.mem_of_getElem? (i := 162) rfl)) (by decide) (Call.con (W := 0) (y_ca l Z a0 EL hw hEW _ zc CS hzc fm SF hfm y ty [c0, c1, 46] (by show 3 ≤ 8; decide) hbs G 2 (by show 2 < 3; decide)) (hw _ (List.mem_of_getElem? (i := 164) rfl)) (hw _ (List.mem_of_getElem? (i := 6) rfl)) (by decide) (by decide)) G.1 (by simp) hkq hnq (by rw [hml]; rfl) (lenOf lw_p28 rfl) rfl (Nat.le_of_eq rfl) (hb hby at_113) fun v T h2 nw S hQ => ?_
  obtain ⟨rfl, rfl, rfl⟩ := hQ
  show F T (mkF m 116 #[.val (.int i0), .val (.int i1), .val (.int i2), .val (.int i3), .val (.int i4), .val (.int 2), .val (.int 0), .val (.int c0), .val (.int c1), .val (.int c2), .val (.int c3), .val (.ref x1), .val (.ref x2), .val (.ref y), .unset] [(.int (46 : Int32))])
  refine B (fun tgt kt => XS.bipush S.here S.hx rfl (hb hby at_116) kt) ?_
  show F T (mkF m 118 #[.val (.int i0), .val (.int i1), .val (.int i2), .val (.int i3), .val (.int i4), .val (.int 2), .val (.int 0), .val (.int c0), .val (.int c1), .val (.int c2), .val (.int c3), .val (.ref x1), .val (.ref x2), .val (.ref y), .unset] [(.int (46 : Int32)), (.int (46 : Int32))])
  refine B (fun tgt kt => XS.icmpNo S.here S.hx rfl (hb hby at_118) rfl (ii_ne_f rfl) kt) ?_
  show F T (mkF m 121 #[.val (.int i0), .val (.int i1), .val (.int i2), .val (.int i3), .val (.int i4), .val (.int 2), .val (.int 0), .val (.int c0), .val (.int c1), .val (.int c2), .val (.int c3), .val (.ref x1), .val (.ref x2), .val (.ref y), .unset] [])
  refine B (fun tgt kt => XS.iconst S.here S.hx rfl (hb hby at_121) kt) ?_
  show F T (mkF m 122 #[.val (.int i0), .val (.int i1), .val (.int i2), .val (.int i3), .val (.int i4), .val (.int 2), .val (.int 0), .val (.int c0), .val (.int c1), .val (.int c2), .val (.int c3), .val (.ref x1), .val (.ref x2), .val (.ref y), .unset] [(.int (1 : Int32))])
  refine B (fun tgt kt => XS.goto S.here S.hx rfl (pc0 := 122) (pc' := 126) rfl (hb hby at_122) (by decide) (by decide) kt) ?_
  show F T (mkF m 126 #[.val (.int i0), .val (.int i1), .val (.int i2), .val (.int i3), .val (.int i4), .val (.int 2), .val (.int 0), .val (.int c0), .val (.int c1), .val (.int c2), .val (.int c3), .val (.ref x1), .val (.ref x2), .val (.ref y), .unset] [(.int (1 : Int32))])
  refine B (fun tgt kt => XS.istore S.here S.hx rfl (hb hby at_126) rfl (l' := #[.val (.int i0), .val (.int i1), .val (.int i2), .val (.int i3), .val (.int i4), .val (.int 2), .val (.int 0), .val (.int c0), .val (.int c1), .val (.int c2), .val (.int c3), .val (.ref x1), .val (.ref x2), .val (.ref y), .val (.int (1 : Int32))]) rfl kt) ?_
  show F T (mkF m 128 #[.val (.int i0), .val (.int i1), .val (.int i2), .val (.int i3), .val (.int i4), .val (.int 2), .val (.int 0), .val (.int c0), .val (.int c1), .val (.int c2), .val (.int c3), .val (.ref x1), .val (.ref x2), .val (.ref y), .val (.int (1 : Int32))] [])
  refine B (fun tgt kt => XS.iload S.here S.hx rfl (hb hby at_128) rfl kt) ?_
  show F T (mkF m 130 #[.val (.int i0), .val (.int i1), .val (.int i2), .val (.int i3), .val (.int i4), .val (.int 2), .val (.int 0), .val (.int c0), .val (.int c1), .val (.int c2), .val (.int c3), .val (.ref x1), .val (.ref x2), .val (.ref y), .val (.int (1 : Int32))] [(.int 2)])
  refine B (fun tgt kt => XS.iconst S.here S.hx rfl (hb hby at_130) kt) ?_
  show F T (mkF m 131 #[.val (.int i0), .val (.int i1), .val (.int i2), .val (.int i3), .val (.int i4), .val (.int 2), .val (.int 0), .val (.int c0), .val (.int c1), .val (.int c2), .val (.int c3), .val (.ref x1), .val (.ref x2), .val (.ref y), .val (.int (1 : Int32))] [(.int (1 : Int32)), (.int 2)])
  refine B (fun tgt kt => XS.icmpNo S.here S.hx rfl (hb hby at_131) rfl (ii_lt_f (by decide)) kt) ?_
  show F T (mkF m 134 #[.val (.int i0), .val (.int i1), .val (.int i2), .val (.int i3), .val (.int i4), .val (.int 2), .val (.int 0), .val (.int c0), .val (.int c1), .val (.int c2), .val (.int c3), .val (.ref x1), .val (.ref x2), .val (.ref y), .val (.int (1 : Int32))] [])
  refine B (fun tgt kt => XS.iload S.here S.hx rfl (hb hby at_134) rfl kt) ?_
  show F T (mkF m 136 #[.val (.int i0), .val (.int i1), .val (.int i2), .val (.int i3), .val (.int i4), .val (.int 2), .val (.int 0), .val (.int c0), .val (.int c1), .val (.int c2), .val (.int c3), .val (.ref x1), .val (.ref x2), .val (.ref y), .val (.int (1 : Int32))] [(.int (1 : Int32))])
  refine B (fun tgt kt => XS.ifNo S.here S.hx rfl (hb hby at_136) rfl (i0_eq_f (by decide)) kt) ?_
  show F T (mkF m 139 #[.val (.int i0), .val (.int i1), .val (.int i2), .val (.int i3), .val (.int i4), .val (.int 2), .val (.int 0), .val (.int c0), .val (.int c1), .val (.int c2), .val (.int c3), .val (.ref x1), .val (.ref x2), .val (.ref y), .val (.int (1 : Int32))] [])
  refine B (fun tgt kt => XS.aload S.here S.hx rfl (hb hby at_139) rfl rfl kt) ?_
  show F T (mkF m 141 #[.val (.int i0), .val (.int i1), .val (.int i2), .val (.int i3), .val (.int i4), .val (.int 2), .val (.int 0), .val (.int c0), .val (.int c1), .val (.int c2), .val (.int c3), .val (.ref x1), .val (.ref x2), .val (.ref y), .val (.int (1 : Int32))] [(.ref y)])
  refine B (fun tgt kt => XS.iconst S.here S.hx rfl (hb hby at_141) kt) ?_
  show F T (mkF m 142 #[.val (.int i0), .val (.int i1), .val (.int i2), .val (.int i3), .val (.int i4), .val (.int 2), .val (.int 0), .val (.int c0), .val (.int c1), .val (.int c2), .val (.int c3), .val (.ref x1), .val (.ref x2), .val (.ref y), .val (.int (1 : Int32))] [(.int (0 : Int32)), (.ref y)])
  refine Sp.virt B S (y := (⟨"java/lang/String", "charAt", "(I)C"⟩ : MethodName)) (C := "java/lang/String") (argsL := [(.int (0 : Int32))]) (rest := []) (hw _ (List.mem_of_getElem? (i := 160) rfl)) (hw _ (List.mem_of_getElem? (i := 161) rfl)) (hw _ (List.mem_of_getElem? (i := 163) rfl)) (hw _ (List.mem_of_getElem? (i := 163) rfl)) (hw _ (List.mem_of_getElem? (i := 162) rfl)) (by decide) (Call.con (W := 0) (y_ca l Z a0 EL hw hEW _ zc CS hzc fm SF hfm y ty [c0, c1, 46] (by show 3 ≤ 8; decide) hbs G 0 (by show 0 < 3; decide)) (hw _ (List.mem_of_getElem? (i := 164) rfl)) (hw _ (List.mem_of_getElem? (i := 6) rfl)) (by decide) (by decide)) G.1 (by simp) hkq hnq (by rw [hml]; rfl) (lenOf lw_p28 rfl) rfl (Nat.le_of_eq rfl) (hb hby at_142) fun v T h3 nw S hQ => ?_
  obtain ⟨rfl, rfl, rfl⟩ := hQ
  show F T (mkF m 145 #[.val (.int i0), .val (.int i1), .val (.int i2), .val (.int i3), .val (.int i4), .val (.int 2), .val (.int 0), .val (.int c0), .val (.int c1), .val (.int c2), .val (.int c3), .val (.ref x1), .val (.ref x2), .val (.ref y), .val (.int (1 : Int32))] [(.int c0)])
  refine B (fun tgt kt => XS.iload S.here S.hx rfl (hb hby at_145) rfl kt) ?_
  show F T (mkF m 147 #[.val (.int i0), .val (.int i1), .val (.int i2), .val (.int i3), .val (.int i4), .val (.int 2), .val (.int 0), .val (.int c0), .val (.int c1), .val (.int c2), .val (.int c3), .val (.ref x1), .val (.ref x2), .val (.ref y), .val (.int (1 : Int32))] [(.int c0), (.int c0)])
  refine B (fun tgt kt => XS.icmpNo S.here S.hx rfl (hb hby at_147) rfl (ii_ne_f rfl) kt) ?_
  show F T (mkF m 150 #[.val (.int i0), .val (.int i1), .val (.int i2), .val (.int i3), .val (.int i4), .val (.int 2), .val (.int 0), .val (.int c0), .val (.int c1), .val (.int c2), .val (.int c3), .val (.ref x1), .val (.ref x2), .val (.ref y), .val (.int (1 : Int32))] [])
  refine B (fun tgt kt => XS.iconst S.here S.hx rfl (hb hby at_150) kt) ?_
  show F T (mkF m 151 #[.val (.int i0), .val (.int i1), .val (.int i2), .val (.int i3), .val (.int i4), .val (.int 2), .val (.int 0), .val (.int c0), .val (.int c1), .val (.int c2), .val (.int c3), .val (.ref x1), .val (.ref x2), .val (.ref y), .val (.int (1 : Int32))] [(.int (1 : Int32))])
  refine B (fun tgt kt => XS.goto S.here S.hx rfl (pc0 := 151) (pc' := 155) rfl (hb hby at_151) (by decide) (by decide) kt) ?_
  show F T (mkF m 155 #[.val (.int i0), .val (.int i1), .val (.int i2), .val (.int i3), .val (.int i4), .val (.int 2), .val (.int 0), .val (.int c0), .val (.int c1), .val (.int c2), .val (.int c3), .val (.ref x1), .val (.ref x2), .val (.ref y), .val (.int (1 : Int32))] [(.int (1 : Int32))])
  refine B (fun tgt kt => XS.istore S.here S.hx rfl (hb hby at_155) rfl (l' := #[.val (.int i0), .val (.int i1), .val (.int i2), .val (.int i3), .val (.int i4), .val (.int 2), .val (.int 0), .val (.int c0), .val (.int c1), .val (.int c2), .val (.int c3), .val (.ref x1), .val (.ref x2), .val (.ref y), .val (.int (1 : Int32))]) rfl kt) ?_
  show F T (mkF m 157 #[.val (.int i0), .val (.int i1), .val (.int i2), .val (.int i3), .val (.int i4), .val (.int 2), .val (.int 0), .val (.int c0), .val (.int c1), .val (.int c2), .val (.int c3), .val (.ref x1), .val (.ref x2), .val (.ref y), .val (.int (1 : Int32))] [])
  refine B (fun tgt kt => XS.iload S.here S.hx rfl (hb hby at_157) rfl kt) ?_
  show F T (mkF m 159 #[.val (.int i0), .val (.int i1), .val (.int i2), .val (.int i3), .val (.int i4), .val (.int 2), .val (.int 0), .val (.int c0), .val (.int c1), .val (.int c2), .val (.int c3), .val (.ref x1), .val (.ref x2), .val (.ref y), .val (.int (1 : Int32))] [(.int 2)])
  refine B (fun tgt kt => XS.iconst S.here S.hx rfl (hb hby at_159) kt) ?_
  show F T (mkF m 160 #[.val (.int i0), .val (.int i1), .val (.int i2), .val (.int i3), .val (.int i4), .val (.int 2), .val (.int 0), .val (.int c0), .val (.int c1), .val (.int c2), .val (.int c3), .val (.ref x1), .val (.ref x2), .val (.ref y), .val (.int (1 : Int32))] [(.int (2 : Int32)), (.int 2)])
  refine B (fun tgt kt => XS.icmpNo S.here S.hx rfl (hb hby at_160) rfl (ii_lt_f (by decide)) kt) ?_
  show F T (mkF m 163 #[.val (.int i0), .val (.int i1), .val (.int i2), .val (.int i3), .val (.int i4), .val (.int 2), .val (.int 0), .val (.int c0), .val (.int c1), .val (.int c2), .val (.int c3), .val (.ref x1), .val (.ref x2), .val (.ref y), .val (.int (1 : Int32))] [])
  refine B (fun tgt kt => XS.iload S.here S.hx rfl (hb hby at_163) rfl kt) ?_
  show F T (mkF m 165 #[.val (.int i0), .val (.int i1), .val (.int i2), .val (.int i3), .val (.int i4), .val (.int 2), .val (.int 0), .val (.int c0), .val (.int c1), .val (.int c2), .val (.int c3), .val (.ref x1), .val (.ref x2), .val (.ref y), .val (.int (1 : Int32))] [(.int (1 : Int32))])
  refine B (fun tgt kt => XS.ifNo S.here S.hx rfl (hb hby at_165) rfl (i0_eq_f (by decide)) kt) ?_
  show F T (mkF m 168 #[.val (.int i0), .val (.int i1), .val (.int i2), .val (.int i3), .val (.int i4), .val (.int 2), .val (.int 0), .val (.int c0), .val (.int c1), .val (.int c2), .val (.int c3), .val (.ref x1), .val (.ref x2), .val (.ref y), .val (.int (1 : Int32))] [])
  refine B (fun tgt kt => XS.aload S.here S.hx rfl (hb hby at_168) rfl rfl kt) ?_
  show F T (mkF m 170 #[.val (.int i0), .val (.int i1), .val (.int i2), .val (.int i3), .val (.int i4), .val (.int 2), .val (.int 0), .val (.int c0), .val (.int c1), .val (.int c2), .val (.int c3), .val (.ref x1), .val (.ref x2), .val (.ref y), .val (.int (1 : Int32))] [(.ref y)])
  refine B (fun tgt kt => XS.iconst S.here S.hx rfl (hb hby at_170) kt) ?_
  show F T (mkF m 171 #[.val (.int i0), .val (.int i1), .val (.int i2), .val (.int i3), .val (.int i4), .val (.int 2), .val (.int 0), .val (.int c0), .val (.int c1), .val (.int c2), .val (.int c3), .val (.ref x1), .val (.ref x2), .val (.ref y), .val (.int (1 : Int32))] [(.int (1 : Int32)), (.ref y)])
  refine Sp.virt B S (y := (⟨"java/lang/String", "charAt", "(I)C"⟩ : MethodName)) (C := "java/lang/String") (argsL := [(.int (1 : Int32))]) (rest := []) (hw _ (List.mem_of_getElem? (i := 160) rfl)) (hw _ (List.mem_of_getElem? (i := 161) rfl)) (hw _ (List.mem_of_getElem? (i := 163) rfl)) (hw _ (List.mem_of_getElem? (i := 163) rfl)) (hw _ (List.mem_of_getElem? (i := 162) rfl)) (by decide) (Call.con (W := 0) (y_ca l Z a0 EL hw hEW _ zc CS hzc fm SF hfm y ty [c0, c1, 46] (by show 3 ≤ 8; decide) hbs G 1 (by show 1 < 3; decide)) (hw _ (List.mem_of_getElem? (i := 164) rfl)) (hw _ (List.mem_of_getElem? (i := 6) rfl)) (by decide) (by decide)) G.1 (by simp) hkq hnq (by rw [hml]; rfl) (lenOf lw_p28 rfl) rfl (Nat.le_of_eq rfl) (hb hby at_171) fun v T h4 nw S hQ => ?_
  obtain ⟨rfl, rfl, rfl⟩ := hQ
  show F T (mkF m 174 #[.val (.int i0), .val (.int i1), .val (.int i2), .val (.int i3), .val (.int i4), .val (.int 2), .val (.int 0), .val (.int c0), .val (.int c1), .val (.int c2), .val (.int c3), .val (.ref x1), .val (.ref x2), .val (.ref y), .val (.int (1 : Int32))] [(.int c1)])
  refine B (fun tgt kt => XS.iload S.here S.hx rfl (hb hby at_174) rfl kt) ?_
  show F T (mkF m 176 #[.val (.int i0), .val (.int i1), .val (.int i2), .val (.int i3), .val (.int i4), .val (.int 2), .val (.int 0), .val (.int c0), .val (.int c1), .val (.int c2), .val (.int c3), .val (.ref x1), .val (.ref x2), .val (.ref y), .val (.int (1 : Int32))] [(.int c1), (.int c1)])
  refine B (fun tgt kt => XS.icmpNo S.here S.hx rfl (hb hby at_176) rfl (ii_ne_f rfl) kt) ?_
  show F T (mkF m 179 #[.val (.int i0), .val (.int i1), .val (.int i2), .val (.int i3), .val (.int i4), .val (.int 2), .val (.int 0), .val (.int c0), .val (.int c1), .val (.int c2), .val (.int c3), .val (.ref x1), .val (.ref x2), .val (.ref y), .val (.int (1 : Int32))] [])
  refine B (fun tgt kt => XS.iconst S.here S.hx rfl (hb hby at_179) kt) ?_
  show F T (mkF m 180 #[.val (.int i0), .val (.int i1), .val (.int i2), .val (.int i3), .val (.int i4), .val (.int 2), .val (.int 0), .val (.int c0), .val (.int c1), .val (.int c2), .val (.int c3), .val (.ref x1), .val (.ref x2), .val (.ref y), .val (.int (1 : Int32))] [(.int (1 : Int32))])
  refine B (fun tgt kt => XS.goto S.here S.hx rfl (pc0 := 180) (pc' := 184) rfl (hb hby at_180) (by decide) (by decide) kt) ?_
  show F T (mkF m 184 #[.val (.int i0), .val (.int i1), .val (.int i2), .val (.int i3), .val (.int i4), .val (.int 2), .val (.int 0), .val (.int c0), .val (.int c1), .val (.int c2), .val (.int c3), .val (.ref x1), .val (.ref x2), .val (.ref y), .val (.int (1 : Int32))] [(.int (1 : Int32))])
  refine B (fun tgt kt => XS.istore S.here S.hx rfl (hb hby at_184) rfl (l' := #[.val (.int i0), .val (.int i1), .val (.int i2), .val (.int i3), .val (.int i4), .val (.int 2), .val (.int 0), .val (.int c0), .val (.int c1), .val (.int c2), .val (.int c3), .val (.ref x1), .val (.ref x2), .val (.ref y), .val (.int (1 : Int32))]) rfl kt) ?_
  show F T (mkF m 186 #[.val (.int i0), .val (.int i1), .val (.int i2), .val (.int i3), .val (.int i4), .val (.int 2), .val (.int 0), .val (.int c0), .val (.int c1), .val (.int c2), .val (.int c3), .val (.ref x1), .val (.ref x2), .val (.ref y), .val (.int (1 : Int32))] [])
  refine B (fun tgt kt => XS.iload S.here S.hx rfl (hb hby at_186) rfl kt) ?_
  show F T (mkF m 188 #[.val (.int i0), .val (.int i1), .val (.int i2), .val (.int i3), .val (.int i4), .val (.int 2), .val (.int 0), .val (.int c0), .val (.int c1), .val (.int c2), .val (.int c3), .val (.ref x1), .val (.ref x2), .val (.ref y), .val (.int (1 : Int32))] [(.int 0)])
  refine B (fun tgt kt => XS.iconst S.here S.hx rfl (hb hby at_188) kt) ?_
  show F T (mkF m 189 #[.val (.int i0), .val (.int i1), .val (.int i2), .val (.int i3), .val (.int i4), .val (.int 2), .val (.int 0), .val (.int c0), .val (.int c1), .val (.int c2), .val (.int c3), .val (.ref x1), .val (.ref x2), .val (.ref y), .val (.int (1 : Int32))] [(.int (1 : Int32)), (.int 0)])
  refine B (fun tgt kt => XS.icmpYes S.here S.hx rfl (pc0 := 189) (pc' := 218) rfl (hb hby at_189) rfl (ii_lt_t (by decide)) (by decide) (by decide) kt) ?_
  show F T (mkF m 218 #[.val (.int i0), .val (.int i1), .val (.int i2), .val (.int i3), .val (.int i4), .val (.int 2), .val (.int 0), .val (.int c0), .val (.int c1), .val (.int c2), .val (.int c3), .val (.ref x1), .val (.ref x2), .val (.ref y), .val (.int (1 : Int32))] [])
  refine B (fun tgt kt => XS.iload S.here S.hx rfl (hb hby at_218) rfl kt) ?_
  show F T (mkF m 220 #[.val (.int i0), .val (.int i1), .val (.int i2), .val (.int i3), .val (.int i4), .val (.int 2), .val (.int 0), .val (.int c0), .val (.int c1), .val (.int c2), .val (.int c3), .val (.ref x1), .val (.ref x2), .val (.ref y), .val (.int (1 : Int32))] [(.int 0)])
  refine B (fun tgt kt => XS.iconst S.here S.hx rfl (hb hby at_220) kt) ?_
  show F T (mkF m 221 #[.val (.int i0), .val (.int i1), .val (.int i2), .val (.int i3), .val (.int i4), .val (.int 2), .val (.int 0), .val (.int c0), .val (.int c1), .val (.int c2), .val (.int c3), .val (.ref x1), .val (.ref x2), .val (.ref y), .val (.int (1 : Int32))] [(.int (2 : Int32)), (.int 0)])
  refine B (fun tgt kt => XS.icmpYes S.here S.hx rfl (pc0 := 221) (pc' := 250) rfl (hb hby at_221) rfl (ii_lt_t (by decide)) (by decide) (by decide) kt) ?_
  show F T (mkF m 250 #[.val (.int i0), .val (.int i1), .val (.int i2), .val (.int i3), .val (.int i4), .val (.int 2), .val (.int 0), .val (.int c0), .val (.int c1), .val (.int c2), .val (.int c3), .val (.ref x1), .val (.ref x2), .val (.ref y), .val (.int (1 : Int32))] [])
  refine B (fun tgt kt => XS.iload S.here S.hx rfl (hb hby at_250) rfl kt) ?_
  show F T (mkF m 252 #[.val (.int i0), .val (.int i1), .val (.int i2), .val (.int i3), .val (.int i4), .val (.int 2), .val (.int 0), .val (.int c0), .val (.int c1), .val (.int c2), .val (.int c3), .val (.ref x1), .val (.ref x2), .val (.ref y), .val (.int (1 : Int32))] [(.int (1 : Int32))])
  exact K _ _ S
set_option maxRecDepth 65536 in
set_option maxHeartbeats 40000000 in
theorem lw_t21 {p : Program} {l : Launch} {e : Env} {s : State} {m : MethodId} {args : Array Value} {below : List Frame} {meth : Method} {c : Code} {Z : State} {a0 : Array Value} {EL : List (String × Nat)} {F : State → JFrame → Prop} {sf : List Addr} {lt : List (String × Nat × Addr)} {kq nq : Nat} {h : Heap} {T : State} (hw : ∀ q ∈ tables_1, q.before a0 Z = true) (hEW : EW Z a0 EL) (B : Bw p e below F) (hby : c.code = code) (hml : c.maxLocals = 15) (zc : Int32) (CS : Sta Z Z.heap "java/lang/String" "COMPACT_STRINGS" "Z" (.int zc)) (hzc : ¬ zc = 0) (fm : Value) (SF : Sta Z Z.heap "jdk/internal/util/Preconditions" "SIOOBE_FORMATTER" "Ljava/util/function/BiFunction;" fm) (hfm : fm.isRef = true) (i0 i1 i2 i3 i4 : Int32) (c0 : Int32) (b0 : ¬ c0 < 0 ∧ ¬ (255 : Int32) < c0) (c1 : Int32) (b1 : ¬ c1 < 0 ∧ ¬ (255 : Int32) < c1) (c2 : Int32) (b2 : ¬ c2 < 0 ∧ ¬ (255 : Int32) < c2) (c3 : Int32) (b3 : ¬ c3 < 0 ∧ ¬ (255 : Int32) < c3) (x1 x2 y ty : Addr) (S : Sp p l e room_1 s m args below meth c Z a0 EL "org/triplebridge/mapping/ColumnSqlPinLaw" T h sf lt kq nq) (hkq : kq + 0 ≤ room_1.cells) (hnq : nq + 0 ≤ room_1.slots) (G : own_L Z h y ty [c0, c1, 46, c2]) (K : ∀ (T : State) (L : Array Slot), Sp p l e room_1 s m args below meth c Z a0 EL "org/triplebridge/mapping/ColumnSqlPinLaw" T h sf lt kq nq → F T (mkF m 252 L [(.int (1 : Int32))])) : F T (mkF m 92 #[.val (.int i0), .val (.int i1), .val (.int i2), .val (.int i3), .val (.int i4), .val (.int 2), .val (.int 1), .val (.int c0), .val (.int c1), .val (.int c2), .val (.int c3), .val (.ref x1), .val (.ref x2), .val (.ref y), .unset] []) := by
  have hbs : ∀ q ∈ ([c0, c1, 46, c2] : List Int32), ¬ q < 0 ∧ ¬ (255 : Int32) < q := (all_cons b0 (all_cons b1 (all_cons (by decide) (all_cons b2 all_nil))))
  show F T (mkF m 92 #[.val (.int i0), .val (.int i1), .val (.int i2), .val (.int i3), .val (.int i4), .val (.int 2), .val (.int 1), .val (.int c0), .val (.int c1), .val (.int c2), .val (.int c3), .val (.ref x1), .val (.ref x2), .val (.ref y), .unset] [])
  refine B (fun tgt kt => XS.aload S.here S.hx rfl (hb hby at_92) rfl rfl kt) ?_
  show F T (mkF m 94 #[.val (.int i0), .val (.int i1), .val (.int i2), .val (.int i3), .val (.int i4), .val (.int 2), .val (.int 1), .val (.int c0), .val (.int c1), .val (.int c2), .val (.int c3), .val (.ref x1), .val (.ref x2), .val (.ref y), .unset] [(.ref y)])
  refine Sp.virt B S (y := (⟨"java/lang/String", "length", "()I"⟩ : MethodName)) (C := "java/lang/String") (argsL := []) (rest := []) (hw _ (List.mem_of_getElem? (i := 159) rfl)) (hw _ (List.mem_of_getElem? (i := 76) rfl)) (hw _ (List.mem_of_getElem? (i := 78) rfl)) (hw _ (List.mem_of_getElem? (i := 78) rfl)) (hw _ (List.mem_of_getElem? (i := 77) rfl)) (by decide) (Call.con (W := 0) (b_len l Z a0 EL hw hEW _ zc CS hzc y ty [c0, c1, 46, c2] (by show 4 ≤ 8; decide) G) (hw _ (List.mem_of_getElem? (i := 79) rfl)) (hw _ (List.mem_of_getElem? (i := 6) rfl)) (by decide) (by decide)) G.1 (by simp) hkq hnq (by rw [hml]; rfl) (lenOf lw_p22 rfl) rfl (Nat.le_of_eq rfl) (hb hby at_94) fun v T h1 nw S hQ => ?_
  obtain ⟨rfl, rfl, rfl⟩ := hQ
  show F T (mkF m 97 #[.val (.int i0), .val (.int i1), .val (.int i2), .val (.int i3), .val (.int i4), .val (.int 2), .val (.int 1), .val (.int c0), .val (.int c1), .val (.int c2), .val (.int c3), .val (.ref x1), .val (.ref x2), .val (.ref y), .unset] [(.int (4 : Int32))])
  refine B (fun tgt kt => XS.iload S.here S.hx rfl (hb hby at_97) rfl kt) ?_
  show F T (mkF m 99 #[.val (.int i0), .val (.int i1), .val (.int i2), .val (.int i3), .val (.int i4), .val (.int 2), .val (.int 1), .val (.int c0), .val (.int c1), .val (.int c2), .val (.int c3), .val (.ref x1), .val (.ref x2), .val (.ref y), .unset] [(.int 2), (.int (4 : Int32))])
  refine B (fun tgt kt => XS.iconst S.here S.hx rfl (hb hby at_99) kt) ?_
  show F T (mkF m 100 #[.val (.int i0), .val (.int i1), .val (.int i2), .val (.int i3), .val (.int i4), .val (.int 2), .val (.int 1), .val (.int c0), .val (.int c1), .val (.int c2), .val (.int c3), .val (.ref x1), .val (.ref x2), .val (.ref y), .unset] [(.int (1 : Int32)), (.int 2), (.int (4 : Int32))])
  refine B (fun tgt kt => XS.iadd S.here S.hx rfl (hb hby at_100) rfl kt) ?_
  show F T (mkF m 101 #[.val (.int i0), .val (.int i1), .val (.int i2), .val (.int i3), .val (.int i4), .val (.int 2), .val (.int 1), .val (.int c0), .val (.int c1), .val (.int c2), .val (.int c3), .val (.ref x1), .val (.ref x2), .val (.ref y), .unset] [(.int ((2 : Int32) + (1 : Int32))), (.int (4 : Int32))])
  refine B (fun tgt kt => XS.iload S.here S.hx rfl (hb hby at_101) rfl kt) ?_
  show F T (mkF m 103 #[.val (.int i0), .val (.int i1), .val (.int i2), .val (.int i3), .val (.int i4), .val (.int 2), .val (.int 1), .val (.int c0), .val (.int c1), .val (.int c2), .val (.int c3), .val (.ref x1), .val (.ref x2), .val (.ref y), .unset] [(.int 1), (.int ((2 : Int32) + (1 : Int32))), (.int (4 : Int32))])
  refine B (fun tgt kt => XS.iadd S.here S.hx rfl (hb hby at_103) rfl kt) ?_
  show F T (mkF m 104 #[.val (.int i0), .val (.int i1), .val (.int i2), .val (.int i3), .val (.int i4), .val (.int 2), .val (.int 1), .val (.int c0), .val (.int c1), .val (.int c2), .val (.int c3), .val (.ref x1), .val (.ref x2), .val (.ref y), .unset] [(.int (((2 : Int32) + (1 : Int32)) + (1 : Int32))), (.int (4 : Int32))])
  refine B (fun tgt kt => XS.icmpYes S.here S.hx rfl (pc0 := 104) (pc' := 109) rfl (hb hby at_104) rfl (ii_eq_t (by decide)) (by decide) (by decide) kt) ?_
  show F T (mkF m 109 #[.val (.int i0), .val (.int i1), .val (.int i2), .val (.int i3), .val (.int i4), .val (.int 2), .val (.int 1), .val (.int c0), .val (.int c1), .val (.int c2), .val (.int c3), .val (.ref x1), .val (.ref x2), .val (.ref y), .unset] [])
  refine B (fun tgt kt => XS.aload S.here S.hx rfl (hb hby at_109) rfl rfl kt) ?_
  show F T (mkF m 111 #[.val (.int i0), .val (.int i1), .val (.int i2), .val (.int i3), .val (.int i4), .val (.int 2), .val (.int 1), .val (.int c0), .val (.int c1), .val (.int c2), .val (.int c3), .val (.ref x1), .val (.ref x2), .val (.ref y), .unset] [(.ref y)])
  refine B (fun tgt kt => XS.iload S.here S.hx rfl (hb hby at_111) rfl kt) ?_
  show F T (mkF m 113 #[.val (.int i0), .val (.int i1), .val (.int i2), .val (.int i3), .val (.int i4), .val (.int 2), .val (.int 1), .val (.int c0), .val (.int c1), .val (.int c2), .val (.int c3), .val (.ref x1), .val (.ref x2), .val (.ref y), .unset] [(.int 2), (.ref y)])
  refine Sp.virt B S (y := (⟨"java/lang/String", "charAt", "(I)C"⟩ : MethodName)) (C := "java/lang/String") (argsL := [(.int 2)]) (rest := []) (hw _ (List.mem_of_getElem? (i := 160) rfl)) (hw _ (List.mem_of_getElem? (i := 161) rfl)) (hw _ (List.mem_of_getElem? (i := 163) rfl)) (hw _ (List.mem_of_getElem? (i := 163) rfl)) (hw _ (List.mem_of_getElem? (i := 162) rfl)) (by decide) (Call.con (W := 0) (y_ca l Z a0 EL hw hEW _ zc CS hzc fm SF hfm y ty [c0, c1, 46, c2] (by show 4 ≤ 8; decide) hbs G 2 (by show 2 < 4; decide)) (hw _ (List.mem_of_getElem? (i := 164) rfl)) (hw _ (List.mem_of_getElem? (i := 6) rfl)) (by decide) (by decide)) G.1 (by simp) hkq hnq (by rw [hml]; rfl) (lenOf lw_p28 rfl) rfl (Nat.le_of_eq rfl) (hb hby at_113) fun v T h2 nw S hQ => ?_
  obtain ⟨rfl, rfl, rfl⟩ := hQ
  show F T (mkF m 116 #[.val (.int i0), .val (.int i1), .val (.int i2), .val (.int i3), .val (.int i4), .val (.int 2), .val (.int 1), .val (.int c0), .val (.int c1), .val (.int c2), .val (.int c3), .val (.ref x1), .val (.ref x2), .val (.ref y), .unset] [(.int (46 : Int32))])
  refine B (fun tgt kt => XS.bipush S.here S.hx rfl (hb hby at_116) kt) ?_
  show F T (mkF m 118 #[.val (.int i0), .val (.int i1), .val (.int i2), .val (.int i3), .val (.int i4), .val (.int 2), .val (.int 1), .val (.int c0), .val (.int c1), .val (.int c2), .val (.int c3), .val (.ref x1), .val (.ref x2), .val (.ref y), .unset] [(.int (46 : Int32)), (.int (46 : Int32))])
  refine B (fun tgt kt => XS.icmpNo S.here S.hx rfl (hb hby at_118) rfl (ii_ne_f rfl) kt) ?_
  show F T (mkF m 121 #[.val (.int i0), .val (.int i1), .val (.int i2), .val (.int i3), .val (.int i4), .val (.int 2), .val (.int 1), .val (.int c0), .val (.int c1), .val (.int c2), .val (.int c3), .val (.ref x1), .val (.ref x2), .val (.ref y), .unset] [])
  refine B (fun tgt kt => XS.iconst S.here S.hx rfl (hb hby at_121) kt) ?_
  show F T (mkF m 122 #[.val (.int i0), .val (.int i1), .val (.int i2), .val (.int i3), .val (.int i4), .val (.int 2), .val (.int 1), .val (.int c0), .val (.int c1), .val (.int c2), .val (.int c3), .val (.ref x1), .val (.ref x2), .val (.ref y), .unset] [(.int (1 : Int32))])
  refine B (fun tgt kt => XS.goto S.here S.hx rfl (pc0 := 122) (pc' := 126) rfl (hb hby at_122) (by decide) (by decide) kt) ?_
  show F T (mkF m 126 #[.val (.int i0), .val (.int i1), .val (.int i2), .val (.int i3), .val (.int i4), .val (.int 2), .val (.int 1), .val (.int c0), .val (.int c1), .val (.int c2), .val (.int c3), .val (.ref x1), .val (.ref x2), .val (.ref y), .unset] [(.int (1 : Int32))])
  refine B (fun tgt kt => XS.istore S.here S.hx rfl (hb hby at_126) rfl (l' := #[.val (.int i0), .val (.int i1), .val (.int i2), .val (.int i3), .val (.int i4), .val (.int 2), .val (.int 1), .val (.int c0), .val (.int c1), .val (.int c2), .val (.int c3), .val (.ref x1), .val (.ref x2), .val (.ref y), .val (.int (1 : Int32))]) rfl kt) ?_
  show F T (mkF m 128 #[.val (.int i0), .val (.int i1), .val (.int i2), .val (.int i3), .val (.int i4), .val (.int 2), .val (.int 1), .val (.int c0), .val (.int c1), .val (.int c2), .val (.int c3), .val (.ref x1), .val (.ref x2), .val (.ref y), .val (.int (1 : Int32))] [])
  refine B (fun tgt kt => XS.iload S.here S.hx rfl (hb hby at_128) rfl kt) ?_
  show F T (mkF m 130 #[.val (.int i0), .val (.int i1), .val (.int i2), .val (.int i3), .val (.int i4), .val (.int 2), .val (.int 1), .val (.int c0), .val (.int c1), .val (.int c2), .val (.int c3), .val (.ref x1), .val (.ref x2), .val (.ref y), .val (.int (1 : Int32))] [(.int 2)])
  refine B (fun tgt kt => XS.iconst S.here S.hx rfl (hb hby at_130) kt) ?_
  show F T (mkF m 131 #[.val (.int i0), .val (.int i1), .val (.int i2), .val (.int i3), .val (.int i4), .val (.int 2), .val (.int 1), .val (.int c0), .val (.int c1), .val (.int c2), .val (.int c3), .val (.ref x1), .val (.ref x2), .val (.ref y), .val (.int (1 : Int32))] [(.int (1 : Int32)), (.int 2)])
  refine B (fun tgt kt => XS.icmpNo S.here S.hx rfl (hb hby at_131) rfl (ii_lt_f (by decide)) kt) ?_
  show F T (mkF m 134 #[.val (.int i0), .val (.int i1), .val (.int i2), .val (.int i3), .val (.int i4), .val (.int 2), .val (.int 1), .val (.int c0), .val (.int c1), .val (.int c2), .val (.int c3), .val (.ref x1), .val (.ref x2), .val (.ref y), .val (.int (1 : Int32))] [])
  refine B (fun tgt kt => XS.iload S.here S.hx rfl (hb hby at_134) rfl kt) ?_
  show F T (mkF m 136 #[.val (.int i0), .val (.int i1), .val (.int i2), .val (.int i3), .val (.int i4), .val (.int 2), .val (.int 1), .val (.int c0), .val (.int c1), .val (.int c2), .val (.int c3), .val (.ref x1), .val (.ref x2), .val (.ref y), .val (.int (1 : Int32))] [(.int (1 : Int32))])
  refine B (fun tgt kt => XS.ifNo S.here S.hx rfl (hb hby at_136) rfl (i0_eq_f (by decide)) kt) ?_
  show F T (mkF m 139 #[.val (.int i0), .val (.int i1), .val (.int i2), .val (.int i3), .val (.int i4), .val (.int 2), .val (.int 1), .val (.int c0), .val (.int c1), .val (.int c2), .val (.int c3), .val (.ref x1), .val (.ref x2), .val (.ref y), .val (.int (1 : Int32))] [])
  refine B (fun tgt kt => XS.aload S.here S.hx rfl (hb hby at_139) rfl rfl kt) ?_
  show F T (mkF m 141 #[.val (.int i0), .val (.int i1), .val (.int i2), .val (.int i3), .val (.int i4), .val (.int 2), .val (.int 1), .val (.int c0), .val (.int c1), .val (.int c2), .val (.int c3), .val (.ref x1), .val (.ref x2), .val (.ref y), .val (.int (1 : Int32))] [(.ref y)])
  refine B (fun tgt kt => XS.iconst S.here S.hx rfl (hb hby at_141) kt) ?_
  show F T (mkF m 142 #[.val (.int i0), .val (.int i1), .val (.int i2), .val (.int i3), .val (.int i4), .val (.int 2), .val (.int 1), .val (.int c0), .val (.int c1), .val (.int c2), .val (.int c3), .val (.ref x1), .val (.ref x2), .val (.ref y), .val (.int (1 : Int32))] [(.int (0 : Int32)), (.ref y)])
  refine Sp.virt B S (y := (⟨"java/lang/String", "charAt", "(I)C"⟩ : MethodName)) (C := "java/lang/String") (argsL := [(.int (0 : Int32))]) (rest := []) (hw _ (List.mem_of_getElem? (i := 160) rfl)) (hw _ (List.mem_of_getElem? (i := 161) rfl)) (hw _ (List.mem_of_getElem? (i := 163) rfl)) (hw _ (List.mem_of_getElem? (i := 163) rfl)) (hw _ (List.mem_of_getElem? (i := 162) rfl)) (by decide) (Call.con (W := 0) (y_ca l Z a0 EL hw hEW _ zc CS hzc fm SF hfm y ty [c0, c1, 46, c2] (by show 4 ≤ 8; decide) hbs G 0 (by show 0 < 4; decide)) (hw _ (List.mem_of_getElem? (i := 164) rfl)) (hw _ (List.mem_of_getElem? (i := 6) rfl)) (by decide) (by decide)) G.1 (by simp) hkq hnq (by rw [hml]; rfl) (lenOf lw_p28 rfl) rfl (Nat.le_of_eq rfl) (hb hby at_142) fun v T h3 nw S hQ => ?_
  obtain ⟨rfl, rfl, rfl⟩ := hQ
  show F T (mkF m 145 #[.val (.int i0), .val (.int i1), .val (.int i2), .val (.int i3), .val (.int i4), .val (.int 2), .val (.int 1), .val (.int c0), .val (.int c1), .val (.int c2), .val (.int c3), .val (.ref x1), .val (.ref x2), .val (.ref y), .val (.int (1 : Int32))] [(.int c0)])
  refine B (fun tgt kt => XS.iload S.here S.hx rfl (hb hby at_145) rfl kt) ?_
  show F T (mkF m 147 #[.val (.int i0), .val (.int i1), .val (.int i2), .val (.int i3), .val (.int i4), .val (.int 2), .val (.int 1), .val (.int c0), .val (.int c1), .val (.int c2), .val (.int c3), .val (.ref x1), .val (.ref x2), .val (.ref y), .val (.int (1 : Int32))] [(.int c0), (.int c0)])
  refine B (fun tgt kt => XS.icmpNo S.here S.hx rfl (hb hby at_147) rfl (ii_ne_f rfl) kt) ?_
  show F T (mkF m 150 #[.val (.int i0), .val (.int i1), .val (.int i2), .val (.int i3), .val (.int i4), .val (.int 2), .val (.int 1), .val (.int c0), .val (.int c1), .val (.int c2), .val (.int c3), .val (.ref x1), .val (.ref x2), .val (.ref y), .val (.int (1 : Int32))] [])
  refine B (fun tgt kt => XS.iconst S.here S.hx rfl (hb hby at_150) kt) ?_
  show F T (mkF m 151 #[.val (.int i0), .val (.int i1), .val (.int i2), .val (.int i3), .val (.int i4), .val (.int 2), .val (.int 1), .val (.int c0), .val (.int c1), .val (.int c2), .val (.int c3), .val (.ref x1), .val (.ref x2), .val (.ref y), .val (.int (1 : Int32))] [(.int (1 : Int32))])
  refine B (fun tgt kt => XS.goto S.here S.hx rfl (pc0 := 151) (pc' := 155) rfl (hb hby at_151) (by decide) (by decide) kt) ?_
  show F T (mkF m 155 #[.val (.int i0), .val (.int i1), .val (.int i2), .val (.int i3), .val (.int i4), .val (.int 2), .val (.int 1), .val (.int c0), .val (.int c1), .val (.int c2), .val (.int c3), .val (.ref x1), .val (.ref x2), .val (.ref y), .val (.int (1 : Int32))] [(.int (1 : Int32))])
  refine B (fun tgt kt => XS.istore S.here S.hx rfl (hb hby at_155) rfl (l' := #[.val (.int i0), .val (.int i1), .val (.int i2), .val (.int i3), .val (.int i4), .val (.int 2), .val (.int 1), .val (.int c0), .val (.int c1), .val (.int c2), .val (.int c3), .val (.ref x1), .val (.ref x2), .val (.ref y), .val (.int (1 : Int32))]) rfl kt) ?_
  show F T (mkF m 157 #[.val (.int i0), .val (.int i1), .val (.int i2), .val (.int i3), .val (.int i4), .val (.int 2), .val (.int 1), .val (.int c0), .val (.int c1), .val (.int c2), .val (.int c3), .val (.ref x1), .val (.ref x2), .val (.ref y), .val (.int (1 : Int32))] [])
  refine B (fun tgt kt => XS.iload S.here S.hx rfl (hb hby at_157) rfl kt) ?_
  show F T (mkF m 159 #[.val (.int i0), .val (.int i1), .val (.int i2), .val (.int i3), .val (.int i4), .val (.int 2), .val (.int 1), .val (.int c0), .val (.int c1), .val (.int c2), .val (.int c3), .val (.ref x1), .val (.ref x2), .val (.ref y), .val (.int (1 : Int32))] [(.int 2)])
  refine B (fun tgt kt => XS.iconst S.here S.hx rfl (hb hby at_159) kt) ?_
  show F T (mkF m 160 #[.val (.int i0), .val (.int i1), .val (.int i2), .val (.int i3), .val (.int i4), .val (.int 2), .val (.int 1), .val (.int c0), .val (.int c1), .val (.int c2), .val (.int c3), .val (.ref x1), .val (.ref x2), .val (.ref y), .val (.int (1 : Int32))] [(.int (2 : Int32)), (.int 2)])
  refine B (fun tgt kt => XS.icmpNo S.here S.hx rfl (hb hby at_160) rfl (ii_lt_f (by decide)) kt) ?_
  show F T (mkF m 163 #[.val (.int i0), .val (.int i1), .val (.int i2), .val (.int i3), .val (.int i4), .val (.int 2), .val (.int 1), .val (.int c0), .val (.int c1), .val (.int c2), .val (.int c3), .val (.ref x1), .val (.ref x2), .val (.ref y), .val (.int (1 : Int32))] [])
  refine B (fun tgt kt => XS.iload S.here S.hx rfl (hb hby at_163) rfl kt) ?_
  show F T (mkF m 165 #[.val (.int i0), .val (.int i1), .val (.int i2), .val (.int i3), .val (.int i4), .val (.int 2), .val (.int 1), .val (.int c0), .val (.int c1), .val (.int c2), .val (.int c3), .val (.ref x1), .val (.ref x2), .val (.ref y), .val (.int (1 : Int32))] [(.int (1 : Int32))])
  refine B (fun tgt kt => XS.ifNo S.here S.hx rfl (hb hby at_165) rfl (i0_eq_f (by decide)) kt) ?_
  show F T (mkF m 168 #[.val (.int i0), .val (.int i1), .val (.int i2), .val (.int i3), .val (.int i4), .val (.int 2), .val (.int 1), .val (.int c0), .val (.int c1), .val (.int c2), .val (.int c3), .val (.ref x1), .val (.ref x2), .val (.ref y), .val (.int (1 : Int32))] [])
  refine B (fun tgt kt => XS.aload S.here S.hx rfl (hb hby at_168) rfl rfl kt) ?_
  show F T (mkF m 170 #[.val (.int i0), .val (.int i1), .val (.int i2), .val (.int i3), .val (.int i4), .val (.int 2), .val (.int 1), .val (.int c0), .val (.int c1), .val (.int c2), .val (.int c3), .val (.ref x1), .val (.ref x2), .val (.ref y), .val (.int (1 : Int32))] [(.ref y)])
  refine B (fun tgt kt => XS.iconst S.here S.hx rfl (hb hby at_170) kt) ?_
  show F T (mkF m 171 #[.val (.int i0), .val (.int i1), .val (.int i2), .val (.int i3), .val (.int i4), .val (.int 2), .val (.int 1), .val (.int c0), .val (.int c1), .val (.int c2), .val (.int c3), .val (.ref x1), .val (.ref x2), .val (.ref y), .val (.int (1 : Int32))] [(.int (1 : Int32)), (.ref y)])
  refine Sp.virt B S (y := (⟨"java/lang/String", "charAt", "(I)C"⟩ : MethodName)) (C := "java/lang/String") (argsL := [(.int (1 : Int32))]) (rest := []) (hw _ (List.mem_of_getElem? (i := 160) rfl)) (hw _ (List.mem_of_getElem? (i := 161) rfl)) (hw _ (List.mem_of_getElem? (i := 163) rfl)) (hw _ (List.mem_of_getElem? (i := 163) rfl)) (hw _ (List.mem_of_getElem? (i := 162) rfl)) (by decide) (Call.con (W := 0) (y_ca l Z a0 EL hw hEW _ zc CS hzc fm SF hfm y ty [c0, c1, 46, c2] (by show 4 ≤ 8; decide) hbs G 1 (by show 1 < 4; decide)) (hw _ (List.mem_of_getElem? (i := 164) rfl)) (hw _ (List.mem_of_getElem? (i := 6) rfl)) (by decide) (by decide)) G.1 (by simp) hkq hnq (by rw [hml]; rfl) (lenOf lw_p28 rfl) rfl (Nat.le_of_eq rfl) (hb hby at_171) fun v T h4 nw S hQ => ?_
  obtain ⟨rfl, rfl, rfl⟩ := hQ
  show F T (mkF m 174 #[.val (.int i0), .val (.int i1), .val (.int i2), .val (.int i3), .val (.int i4), .val (.int 2), .val (.int 1), .val (.int c0), .val (.int c1), .val (.int c2), .val (.int c3), .val (.ref x1), .val (.ref x2), .val (.ref y), .val (.int (1 : Int32))] [(.int c1)])
  refine B (fun tgt kt => XS.iload S.here S.hx rfl (hb hby at_174) rfl kt) ?_
  show F T (mkF m 176 #[.val (.int i0), .val (.int i1), .val (.int i2), .val (.int i3), .val (.int i4), .val (.int 2), .val (.int 1), .val (.int c0), .val (.int c1), .val (.int c2), .val (.int c3), .val (.ref x1), .val (.ref x2), .val (.ref y), .val (.int (1 : Int32))] [(.int c1), (.int c1)])
  refine B (fun tgt kt => XS.icmpNo S.here S.hx rfl (hb hby at_176) rfl (ii_ne_f rfl) kt) ?_
  show F T (mkF m 179 #[.val (.int i0), .val (.int i1), .val (.int i2), .val (.int i3), .val (.int i4), .val (.int 2), .val (.int 1), .val (.int c0), .val (.int c1), .val (.int c2), .val (.int c3), .val (.ref x1), .val (.ref x2), .val (.ref y), .val (.int (1 : Int32))] [])
  refine B (fun tgt kt => XS.iconst S.here S.hx rfl (hb hby at_179) kt) ?_
  show F T (mkF m 180 #[.val (.int i0), .val (.int i1), .val (.int i2), .val (.int i3), .val (.int i4), .val (.int 2), .val (.int 1), .val (.int c0), .val (.int c1), .val (.int c2), .val (.int c3), .val (.ref x1), .val (.ref x2), .val (.ref y), .val (.int (1 : Int32))] [(.int (1 : Int32))])
  refine B (fun tgt kt => XS.goto S.here S.hx rfl (pc0 := 180) (pc' := 184) rfl (hb hby at_180) (by decide) (by decide) kt) ?_
  show F T (mkF m 184 #[.val (.int i0), .val (.int i1), .val (.int i2), .val (.int i3), .val (.int i4), .val (.int 2), .val (.int 1), .val (.int c0), .val (.int c1), .val (.int c2), .val (.int c3), .val (.ref x1), .val (.ref x2), .val (.ref y), .val (.int (1 : Int32))] [(.int (1 : Int32))])
  refine B (fun tgt kt => XS.istore S.here S.hx rfl (hb hby at_184) rfl (l' := #[.val (.int i0), .val (.int i1), .val (.int i2), .val (.int i3), .val (.int i4), .val (.int 2), .val (.int 1), .val (.int c0), .val (.int c1), .val (.int c2), .val (.int c3), .val (.ref x1), .val (.ref x2), .val (.ref y), .val (.int (1 : Int32))]) rfl kt) ?_
  show F T (mkF m 186 #[.val (.int i0), .val (.int i1), .val (.int i2), .val (.int i3), .val (.int i4), .val (.int 2), .val (.int 1), .val (.int c0), .val (.int c1), .val (.int c2), .val (.int c3), .val (.ref x1), .val (.ref x2), .val (.ref y), .val (.int (1 : Int32))] [])
  refine B (fun tgt kt => XS.iload S.here S.hx rfl (hb hby at_186) rfl kt) ?_
  show F T (mkF m 188 #[.val (.int i0), .val (.int i1), .val (.int i2), .val (.int i3), .val (.int i4), .val (.int 2), .val (.int 1), .val (.int c0), .val (.int c1), .val (.int c2), .val (.int c3), .val (.ref x1), .val (.ref x2), .val (.ref y), .val (.int (1 : Int32))] [(.int 1)])
  refine B (fun tgt kt => XS.iconst S.here S.hx rfl (hb hby at_188) kt) ?_
  show F T (mkF m 189 #[.val (.int i0), .val (.int i1), .val (.int i2), .val (.int i3), .val (.int i4), .val (.int 2), .val (.int 1), .val (.int c0), .val (.int c1), .val (.int c2), .val (.int c3), .val (.ref x1), .val (.ref x2), .val (.ref y), .val (.int (1 : Int32))] [(.int (1 : Int32)), (.int 1)])
  refine B (fun tgt kt => XS.icmpNo S.here S.hx rfl (hb hby at_189) rfl (ii_lt_f (by decide)) kt) ?_
  show F T (mkF m 192 #[.val (.int i0), .val (.int i1), .val (.int i2), .val (.int i3), .val (.int i4), .val (.int 2), .val (.int 1), .val (.int c0), .val (.int c1), .val (.int c2), .val (.int c3), .val (.ref x1), .val (.ref x2), .val (.ref y), .val (.int (1 : Int32))] [])
  refine B (fun tgt kt => XS.iload S.here S.hx rfl (hb hby at_192) rfl kt) ?_
  show F T (mkF m 194 #[.val (.int i0), .val (.int i1), .val (.int i2), .val (.int i3), .val (.int i4), .val (.int 2), .val (.int 1), .val (.int c0), .val (.int c1), .val (.int c2), .val (.int c3), .val (.ref x1), .val (.ref x2), .val (.ref y), .val (.int (1 : Int32))] [(.int (1 : Int32))])
  refine B (fun tgt kt => XS.ifNo S.here S.hx rfl (hb hby at_194) rfl (i0_eq_f (by decide)) kt) ?_
  show F T (mkF m 197 #[.val (.int i0), .val (.int i1), .val (.int i2), .val (.int i3), .val (.int i4), .val (.int 2), .val (.int 1), .val (.int c0), .val (.int c1), .val (.int c2), .val (.int c3), .val (.ref x1), .val (.ref x2), .val (.ref y), .val (.int (1 : Int32))] [])
  refine B (fun tgt kt => XS.aload S.here S.hx rfl (hb hby at_197) rfl rfl kt) ?_
  show F T (mkF m 199 #[.val (.int i0), .val (.int i1), .val (.int i2), .val (.int i3), .val (.int i4), .val (.int 2), .val (.int 1), .val (.int c0), .val (.int c1), .val (.int c2), .val (.int c3), .val (.ref x1), .val (.ref x2), .val (.ref y), .val (.int (1 : Int32))] [(.ref y)])
  refine B (fun tgt kt => XS.iload S.here S.hx rfl (hb hby at_199) rfl kt) ?_
  show F T (mkF m 201 #[.val (.int i0), .val (.int i1), .val (.int i2), .val (.int i3), .val (.int i4), .val (.int 2), .val (.int 1), .val (.int c0), .val (.int c1), .val (.int c2), .val (.int c3), .val (.ref x1), .val (.ref x2), .val (.ref y), .val (.int (1 : Int32))] [(.int 2), (.ref y)])
  refine B (fun tgt kt => XS.iconst S.here S.hx rfl (hb hby at_201) kt) ?_
  show F T (mkF m 202 #[.val (.int i0), .val (.int i1), .val (.int i2), .val (.int i3), .val (.int i4), .val (.int 2), .val (.int 1), .val (.int c0), .val (.int c1), .val (.int c2), .val (.int c3), .val (.ref x1), .val (.ref x2), .val (.ref y), .val (.int (1 : Int32))] [(.int (1 : Int32)), (.int 2), (.ref y)])
  refine B (fun tgt kt => XS.iadd S.here S.hx rfl (hb hby at_202) rfl kt) ?_
  show F T (mkF m 203 #[.val (.int i0), .val (.int i1), .val (.int i2), .val (.int i3), .val (.int i4), .val (.int 2), .val (.int 1), .val (.int c0), .val (.int c1), .val (.int c2), .val (.int c3), .val (.ref x1), .val (.ref x2), .val (.ref y), .val (.int (1 : Int32))] [(.int ((2 : Int32) + (1 : Int32))), (.ref y)])
  rw [show ((2 : Int32) + (1 : Int32)) = (3 : Int32) from by decide]
  show F T (mkF m 203 #[.val (.int i0), .val (.int i1), .val (.int i2), .val (.int i3), .val (.int i4), .val (.int 2), .val (.int 1), .val (.int c0), .val (.int c1), .val (.int c2), .val (.int c3), .val (.ref x1), .val (.ref x2), .val (.ref y), .val (.int (1 : Int32))] [(.int (3 : Int32)), (.ref y)])
  refine Sp.virt B S (y := (⟨"java/lang/String", "charAt", "(I)C"⟩ : MethodName)) (C := "java/lang/String") (argsL := [(.int (3 : Int32))]) (rest := []) (hw _ (List.mem_of_getElem? (i := 160) rfl)) (hw _ (List.mem_of_getElem? (i := 161) rfl)) (hw _ (List.mem_of_getElem? (i := 163) rfl)) (hw _ (List.mem_of_getElem? (i := 163) rfl)) (hw _ (List.mem_of_getElem? (i := 162) rfl)) (by decide) (Call.con (W := 0) (y_ca l Z a0 EL hw hEW _ zc CS hzc fm SF hfm y ty [c0, c1, 46, c2] (by show 4 ≤ 8; decide) hbs G 3 (by show 3 < 4; decide)) (hw _ (List.mem_of_getElem? (i := 164) rfl)) (hw _ (List.mem_of_getElem? (i := 6) rfl)) (by decide) (by decide)) G.1 (by simp) hkq hnq (by rw [hml]; rfl) (lenOf lw_p28 rfl) rfl (Nat.le_of_eq rfl) (hb hby at_203) fun v T h5 nw S hQ => ?_
  obtain ⟨rfl, rfl, rfl⟩ := hQ
  show F T (mkF m 206 #[.val (.int i0), .val (.int i1), .val (.int i2), .val (.int i3), .val (.int i4), .val (.int 2), .val (.int 1), .val (.int c0), .val (.int c1), .val (.int c2), .val (.int c3), .val (.ref x1), .val (.ref x2), .val (.ref y), .val (.int (1 : Int32))] [(.int c2)])
  refine B (fun tgt kt => XS.iload S.here S.hx rfl (hb hby at_206) rfl kt) ?_
  show F T (mkF m 208 #[.val (.int i0), .val (.int i1), .val (.int i2), .val (.int i3), .val (.int i4), .val (.int 2), .val (.int 1), .val (.int c0), .val (.int c1), .val (.int c2), .val (.int c3), .val (.ref x1), .val (.ref x2), .val (.ref y), .val (.int (1 : Int32))] [(.int c2), (.int c2)])
  refine B (fun tgt kt => XS.icmpNo S.here S.hx rfl (hb hby at_208) rfl (ii_ne_f rfl) kt) ?_
  show F T (mkF m 211 #[.val (.int i0), .val (.int i1), .val (.int i2), .val (.int i3), .val (.int i4), .val (.int 2), .val (.int 1), .val (.int c0), .val (.int c1), .val (.int c2), .val (.int c3), .val (.ref x1), .val (.ref x2), .val (.ref y), .val (.int (1 : Int32))] [])
  refine B (fun tgt kt => XS.iconst S.here S.hx rfl (hb hby at_211) kt) ?_
  show F T (mkF m 212 #[.val (.int i0), .val (.int i1), .val (.int i2), .val (.int i3), .val (.int i4), .val (.int 2), .val (.int 1), .val (.int c0), .val (.int c1), .val (.int c2), .val (.int c3), .val (.ref x1), .val (.ref x2), .val (.ref y), .val (.int (1 : Int32))] [(.int (1 : Int32))])
  refine B (fun tgt kt => XS.goto S.here S.hx rfl (pc0 := 212) (pc' := 216) rfl (hb hby at_212) (by decide) (by decide) kt) ?_
  show F T (mkF m 216 #[.val (.int i0), .val (.int i1), .val (.int i2), .val (.int i3), .val (.int i4), .val (.int 2), .val (.int 1), .val (.int c0), .val (.int c1), .val (.int c2), .val (.int c3), .val (.ref x1), .val (.ref x2), .val (.ref y), .val (.int (1 : Int32))] [(.int (1 : Int32))])
  refine B (fun tgt kt => XS.istore S.here S.hx rfl (hb hby at_216) rfl (l' := #[.val (.int i0), .val (.int i1), .val (.int i2), .val (.int i3), .val (.int i4), .val (.int 2), .val (.int 1), .val (.int c0), .val (.int c1), .val (.int c2), .val (.int c3), .val (.ref x1), .val (.ref x2), .val (.ref y), .val (.int (1 : Int32))]) rfl kt) ?_
  show F T (mkF m 218 #[.val (.int i0), .val (.int i1), .val (.int i2), .val (.int i3), .val (.int i4), .val (.int 2), .val (.int 1), .val (.int c0), .val (.int c1), .val (.int c2), .val (.int c3), .val (.ref x1), .val (.ref x2), .val (.ref y), .val (.int (1 : Int32))] [])
  refine B (fun tgt kt => XS.iload S.here S.hx rfl (hb hby at_218) rfl kt) ?_
  show F T (mkF m 220 #[.val (.int i0), .val (.int i1), .val (.int i2), .val (.int i3), .val (.int i4), .val (.int 2), .val (.int 1), .val (.int c0), .val (.int c1), .val (.int c2), .val (.int c3), .val (.ref x1), .val (.ref x2), .val (.ref y), .val (.int (1 : Int32))] [(.int 1)])
  refine B (fun tgt kt => XS.iconst S.here S.hx rfl (hb hby at_220) kt) ?_
  show F T (mkF m 221 #[.val (.int i0), .val (.int i1), .val (.int i2), .val (.int i3), .val (.int i4), .val (.int 2), .val (.int 1), .val (.int c0), .val (.int c1), .val (.int c2), .val (.int c3), .val (.ref x1), .val (.ref x2), .val (.ref y), .val (.int (1 : Int32))] [(.int (2 : Int32)), (.int 1)])
  refine B (fun tgt kt => XS.icmpYes S.here S.hx rfl (pc0 := 221) (pc' := 250) rfl (hb hby at_221) rfl (ii_lt_t (by decide)) (by decide) (by decide) kt) ?_
  show F T (mkF m 250 #[.val (.int i0), .val (.int i1), .val (.int i2), .val (.int i3), .val (.int i4), .val (.int 2), .val (.int 1), .val (.int c0), .val (.int c1), .val (.int c2), .val (.int c3), .val (.ref x1), .val (.ref x2), .val (.ref y), .val (.int (1 : Int32))] [])
  refine B (fun tgt kt => XS.iload S.here S.hx rfl (hb hby at_250) rfl kt) ?_
  show F T (mkF m 252 #[.val (.int i0), .val (.int i1), .val (.int i2), .val (.int i3), .val (.int i4), .val (.int 2), .val (.int 1), .val (.int c0), .val (.int c1), .val (.int c2), .val (.int c3), .val (.ref x1), .val (.ref x2), .val (.ref y), .val (.int (1 : Int32))] [(.int (1 : Int32))])
  exact K _ _ S
set_option maxRecDepth 65536 in
set_option maxHeartbeats 40000000 in
theorem lw_t22 {p : Program} {l : Launch} {e : Env} {s : State} {m : MethodId} {args : Array Value} {below : List Frame} {meth : Method} {c : Code} {Z : State} {a0 : Array Value} {EL : List (String × Nat)} {F : State → JFrame → Prop} {sf : List Addr} {lt : List (String × Nat × Addr)} {kq nq : Nat} {h : Heap} {T : State} (hw : ∀ q ∈ tables_1, q.before a0 Z = true) (hEW : EW Z a0 EL) (B : Bw p e below F) (hby : c.code = code) (hml : c.maxLocals = 15) (zc : Int32) (CS : Sta Z Z.heap "java/lang/String" "COMPACT_STRINGS" "Z" (.int zc)) (hzc : ¬ zc = 0) (fm : Value) (SF : Sta Z Z.heap "jdk/internal/util/Preconditions" "SIOOBE_FORMATTER" "Ljava/util/function/BiFunction;" fm) (hfm : fm.isRef = true) (i0 i1 i2 i3 i4 : Int32) (c0 : Int32) (b0 : ¬ c0 < 0 ∧ ¬ (255 : Int32) < c0) (c1 : Int32) (b1 : ¬ c1 < 0 ∧ ¬ (255 : Int32) < c1) (c2 : Int32) (b2 : ¬ c2 < 0 ∧ ¬ (255 : Int32) < c2) (c3 : Int32) (b3 : ¬ c3 < 0 ∧ ¬ (255 : Int32) < c3) (x1 x2 y ty : Addr) (S : Sp p l e room_1 s m args below meth c Z a0 EL "org/triplebridge/mapping/ColumnSqlPinLaw" T h sf lt kq nq) (hkq : kq + 0 ≤ room_1.cells) (hnq : nq + 0 ≤ room_1.slots) (G : own_L Z h y ty [c0, c1, 46, c2, c3]) (K : ∀ (T : State) (L : Array Slot), Sp p l e room_1 s m args below meth c Z a0 EL "org/triplebridge/mapping/ColumnSqlPinLaw" T h sf lt kq nq → F T (mkF m 252 L [(.int (1 : Int32))])) : F T (mkF m 92 #[.val (.int i0), .val (.int i1), .val (.int i2), .val (.int i3), .val (.int i4), .val (.int 2), .val (.int 2), .val (.int c0), .val (.int c1), .val (.int c2), .val (.int c3), .val (.ref x1), .val (.ref x2), .val (.ref y), .unset] []) := by
  have hbs : ∀ q ∈ ([c0, c1, 46, c2, c3] : List Int32), ¬ q < 0 ∧ ¬ (255 : Int32) < q := (all_cons b0 (all_cons b1 (all_cons (by decide) (all_cons b2 (all_cons b3 all_nil)))))
  show F T (mkF m 92 #[.val (.int i0), .val (.int i1), .val (.int i2), .val (.int i3), .val (.int i4), .val (.int 2), .val (.int 2), .val (.int c0), .val (.int c1), .val (.int c2), .val (.int c3), .val (.ref x1), .val (.ref x2), .val (.ref y), .unset] [])
  refine B (fun tgt kt => XS.aload S.here S.hx rfl (hb hby at_92) rfl rfl kt) ?_
  show F T (mkF m 94 #[.val (.int i0), .val (.int i1), .val (.int i2), .val (.int i3), .val (.int i4), .val (.int 2), .val (.int 2), .val (.int c0), .val (.int c1), .val (.int c2), .val (.int c3), .val (.ref x1), .val (.ref x2), .val (.ref y), .unset] [(.ref y)])
  refine Sp.virt B S (y := (⟨"java/lang/String", "length", "()I"⟩ : MethodName)) (C := "java/lang/String") (argsL := []) (rest := []) (hw _ (List.mem_of_getElem? (i := 159) rfl)) (hw _ (List.mem_of_getElem? (i := 76) rfl)) (hw _ (List.mem_of_getElem? (i := 78) rfl)) (hw _ (List.mem_of_getElem? (i := 78) rfl)) (hw _ (List.mem_of_getElem? (i := 77) rfl)) (by decide) (Call.con (W := 0) (b_len l Z a0 EL hw hEW _ zc CS hzc y ty [c0, c1, 46, c2, c3] (by show 5 ≤ 8; decide) G) (hw _ (List.mem_of_getElem? (i := 79) rfl)) (hw _ (List.mem_of_getElem? (i := 6) rfl)) (by decide) (by decide)) G.1 (by simp) hkq hnq (by rw [hml]; rfl) (lenOf lw_p22 rfl) rfl (Nat.le_of_eq rfl) (hb hby at_94) fun v T h1 nw S hQ => ?_
  obtain ⟨rfl, rfl, rfl⟩ := hQ
  show F T (mkF m 97 #[.val (.int i0), .val (.int i1), .val (.int i2), .val (.int i3), .val (.int i4), .val (.int 2), .val (.int 2), .val (.int c0), .val (.int c1), .val (.int c2), .val (.int c3), .val (.ref x1), .val (.ref x2), .val (.ref y), .unset] [(.int (5 : Int32))])
  refine B (fun tgt kt => XS.iload S.here S.hx rfl (hb hby at_97) rfl kt) ?_
  show F T (mkF m 99 #[.val (.int i0), .val (.int i1), .val (.int i2), .val (.int i3), .val (.int i4), .val (.int 2), .val (.int 2), .val (.int c0), .val (.int c1), .val (.int c2), .val (.int c3), .val (.ref x1), .val (.ref x2), .val (.ref y), .unset] [(.int 2), (.int (5 : Int32))])
  refine B (fun tgt kt => XS.iconst S.here S.hx rfl (hb hby at_99) kt) ?_
  show F T (mkF m 100 #[.val (.int i0), .val (.int i1), .val (.int i2), .val (.int i3), .val (.int i4), .val (.int 2), .val (.int 2), .val (.int c0), .val (.int c1), .val (.int c2), .val (.int c3), .val (.ref x1), .val (.ref x2), .val (.ref y), .unset] [(.int (1 : Int32)), (.int 2), (.int (5 : Int32))])
  refine B (fun tgt kt => XS.iadd S.here S.hx rfl (hb hby at_100) rfl kt) ?_
  show F T (mkF m 101 #[.val (.int i0), .val (.int i1), .val (.int i2), .val (.int i3), .val (.int i4), .val (.int 2), .val (.int 2), .val (.int c0), .val (.int c1), .val (.int c2), .val (.int c3), .val (.ref x1), .val (.ref x2), .val (.ref y), .unset] [(.int ((2 : Int32) + (1 : Int32))), (.int (5 : Int32))])
  refine B (fun tgt kt => XS.iload S.here S.hx rfl (hb hby at_101) rfl kt) ?_
  show F T (mkF m 103 #[.val (.int i0), .val (.int i1), .val (.int i2), .val (.int i3), .val (.int i4), .val (.int 2), .val (.int 2), .val (.int c0), .val (.int c1), .val (.int c2), .val (.int c3), .val (.ref x1), .val (.ref x2), .val (.ref y), .unset] [(.int 2), (.int ((2 : Int32) + (1 : Int32))), (.int (5 : Int32))])
  refine B (fun tgt kt => XS.iadd S.here S.hx rfl (hb hby at_103) rfl kt) ?_
  show F T (mkF m 104 #[.val (.int i0), .val (.int i1), .val (.int i2), .val (.int i3), .val (.int i4), .val (.int 2), .val (.int 2), .val (.int c0), .val (.int c1), .val (.int c2), .val (.int c3), .val (.ref x1), .val (.ref x2), .val (.ref y), .unset] [(.int (((2 : Int32) + (1 : Int32)) + (2 : Int32))), (.int (5 : Int32))])
  refine B (fun tgt kt => XS.icmpYes S.here S.hx rfl (pc0 := 104) (pc' := 109) rfl (hb hby at_104) rfl (ii_eq_t (by decide)) (by decide) (by decide) kt) ?_
  show F T (mkF m 109 #[.val (.int i0), .val (.int i1), .val (.int i2), .val (.int i3), .val (.int i4), .val (.int 2), .val (.int 2), .val (.int c0), .val (.int c1), .val (.int c2), .val (.int c3), .val (.ref x1), .val (.ref x2), .val (.ref y), .unset] [])
  refine B (fun tgt kt => XS.aload S.here S.hx rfl (hb hby at_109) rfl rfl kt) ?_
  show F T (mkF m 111 #[.val (.int i0), .val (.int i1), .val (.int i2), .val (.int i3), .val (.int i4), .val (.int 2), .val (.int 2), .val (.int c0), .val (.int c1), .val (.int c2), .val (.int c3), .val (.ref x1), .val (.ref x2), .val (.ref y), .unset] [(.ref y)])
  refine B (fun tgt kt => XS.iload S.here S.hx rfl (hb hby at_111) rfl kt) ?_
  show F T (mkF m 113 #[.val (.int i0), .val (.int i1), .val (.int i2), .val (.int i3), .val (.int i4), .val (.int 2), .val (.int 2), .val (.int c0), .val (.int c1), .val (.int c2), .val (.int c3), .val (.ref x1), .val (.ref x2), .val (.ref y), .unset] [(.int 2), (.ref y)])
  refine Sp.virt B S (y := (⟨"java/lang/String", "charAt", "(I)C"⟩ : MethodName)) (C := "java/lang/String") (argsL := [(.int 2)]) (rest := []) (hw _ (List.mem_of_getElem? (i := 160) rfl)) (hw _ (List.mem_of_getElem? (i := 161) rfl)) (hw _ (List.mem_of_getElem? (i := 163) rfl)) (hw _ (List.mem_of_getElem? (i := 163) rfl)) (hw _ (List.mem_of_getElem? (i := 162) rfl)) (by decide) (Call.con (W := 0) (y_ca l Z a0 EL hw hEW _ zc CS hzc fm SF hfm y ty [c0, c1, 46, c2, c3] (by show 5 ≤ 8; decide) hbs G 2 (by show 2 < 5; decide)) (hw _ (List.mem_of_getElem? (i := 164) rfl)) (hw _ (List.mem_of_getElem? (i := 6) rfl)) (by decide) (by decide)) G.1 (by simp) hkq hnq (by rw [hml]; rfl) (lenOf lw_p28 rfl) rfl (Nat.le_of_eq rfl) (hb hby at_113) fun v T h2 nw S hQ => ?_
  obtain ⟨rfl, rfl, rfl⟩ := hQ
  show F T (mkF m 116 #[.val (.int i0), .val (.int i1), .val (.int i2), .val (.int i3), .val (.int i4), .val (.int 2), .val (.int 2), .val (.int c0), .val (.int c1), .val (.int c2), .val (.int c3), .val (.ref x1), .val (.ref x2), .val (.ref y), .unset] [(.int (46 : Int32))])
  refine B (fun tgt kt => XS.bipush S.here S.hx rfl (hb hby at_116) kt) ?_
  show F T (mkF m 118 #[.val (.int i0), .val (.int i1), .val (.int i2), .val (.int i3), .val (.int i4), .val (.int 2), .val (.int 2), .val (.int c0), .val (.int c1), .val (.int c2), .val (.int c3), .val (.ref x1), .val (.ref x2), .val (.ref y), .unset] [(.int (46 : Int32)), (.int (46 : Int32))])
  refine B (fun tgt kt => XS.icmpNo S.here S.hx rfl (hb hby at_118) rfl (ii_ne_f rfl) kt) ?_
  show F T (mkF m 121 #[.val (.int i0), .val (.int i1), .val (.int i2), .val (.int i3), .val (.int i4), .val (.int 2), .val (.int 2), .val (.int c0), .val (.int c1), .val (.int c2), .val (.int c3), .val (.ref x1), .val (.ref x2), .val (.ref y), .unset] [])
  refine B (fun tgt kt => XS.iconst S.here S.hx rfl (hb hby at_121) kt) ?_
  show F T (mkF m 122 #[.val (.int i0), .val (.int i1), .val (.int i2), .val (.int i3), .val (.int i4), .val (.int 2), .val (.int 2), .val (.int c0), .val (.int c1), .val (.int c2), .val (.int c3), .val (.ref x1), .val (.ref x2), .val (.ref y), .unset] [(.int (1 : Int32))])
  refine B (fun tgt kt => XS.goto S.here S.hx rfl (pc0 := 122) (pc' := 126) rfl (hb hby at_122) (by decide) (by decide) kt) ?_
  show F T (mkF m 126 #[.val (.int i0), .val (.int i1), .val (.int i2), .val (.int i3), .val (.int i4), .val (.int 2), .val (.int 2), .val (.int c0), .val (.int c1), .val (.int c2), .val (.int c3), .val (.ref x1), .val (.ref x2), .val (.ref y), .unset] [(.int (1 : Int32))])
  refine B (fun tgt kt => XS.istore S.here S.hx rfl (hb hby at_126) rfl (l' := #[.val (.int i0), .val (.int i1), .val (.int i2), .val (.int i3), .val (.int i4), .val (.int 2), .val (.int 2), .val (.int c0), .val (.int c1), .val (.int c2), .val (.int c3), .val (.ref x1), .val (.ref x2), .val (.ref y), .val (.int (1 : Int32))]) rfl kt) ?_
  show F T (mkF m 128 #[.val (.int i0), .val (.int i1), .val (.int i2), .val (.int i3), .val (.int i4), .val (.int 2), .val (.int 2), .val (.int c0), .val (.int c1), .val (.int c2), .val (.int c3), .val (.ref x1), .val (.ref x2), .val (.ref y), .val (.int (1 : Int32))] [])
  refine B (fun tgt kt => XS.iload S.here S.hx rfl (hb hby at_128) rfl kt) ?_
  show F T (mkF m 130 #[.val (.int i0), .val (.int i1), .val (.int i2), .val (.int i3), .val (.int i4), .val (.int 2), .val (.int 2), .val (.int c0), .val (.int c1), .val (.int c2), .val (.int c3), .val (.ref x1), .val (.ref x2), .val (.ref y), .val (.int (1 : Int32))] [(.int 2)])
  refine B (fun tgt kt => XS.iconst S.here S.hx rfl (hb hby at_130) kt) ?_
  show F T (mkF m 131 #[.val (.int i0), .val (.int i1), .val (.int i2), .val (.int i3), .val (.int i4), .val (.int 2), .val (.int 2), .val (.int c0), .val (.int c1), .val (.int c2), .val (.int c3), .val (.ref x1), .val (.ref x2), .val (.ref y), .val (.int (1 : Int32))] [(.int (1 : Int32)), (.int 2)])
  refine B (fun tgt kt => XS.icmpNo S.here S.hx rfl (hb hby at_131) rfl (ii_lt_f (by decide)) kt) ?_
  show F T (mkF m 134 #[.val (.int i0), .val (.int i1), .val (.int i2), .val (.int i3), .val (.int i4), .val (.int 2), .val (.int 2), .val (.int c0), .val (.int c1), .val (.int c2), .val (.int c3), .val (.ref x1), .val (.ref x2), .val (.ref y), .val (.int (1 : Int32))] [])
  refine B (fun tgt kt => XS.iload S.here S.hx rfl (hb hby at_134) rfl kt) ?_
  show F T (mkF m 136 #[.val (.int i0), .val (.int i1), .val (.int i2), .val (.int i3), .val (.int i4), .val (.int 2), .val (.int 2), .val (.int c0), .val (.int c1), .val (.int c2), .val (.int c3), .val (.ref x1), .val (.ref x2), .val (.ref y), .val (.int (1 : Int32))] [(.int (1 : Int32))])
  refine B (fun tgt kt => XS.ifNo S.here S.hx rfl (hb hby at_136) rfl (i0_eq_f (by decide)) kt) ?_
  show F T (mkF m 139 #[.val (.int i0), .val (.int i1), .val (.int i2), .val (.int i3), .val (.int i4), .val (.int 2), .val (.int 2), .val (.int c0), .val (.int c1), .val (.int c2), .val (.int c3), .val (.ref x1), .val (.ref x2), .val (.ref y), .val (.int (1 : Int32))] [])
  refine B (fun tgt kt => XS.aload S.here S.hx rfl (hb hby at_139) rfl rfl kt) ?_
  show F T (mkF m 141 #[.val (.int i0), .val (.int i1), .val (.int i2), .val (.int i3), .val (.int i4), .val (.int 2), .val (.int 2), .val (.int c0), .val (.int c1), .val (.int c2), .val (.int c3), .val (.ref x1), .val (.ref x2), .val (.ref y), .val (.int (1 : Int32))] [(.ref y)])
  refine B (fun tgt kt => XS.iconst S.here S.hx rfl (hb hby at_141) kt) ?_
  show F T (mkF m 142 #[.val (.int i0), .val (.int i1), .val (.int i2), .val (.int i3), .val (.int i4), .val (.int 2), .val (.int 2), .val (.int c0), .val (.int c1), .val (.int c2), .val (.int c3), .val (.ref x1), .val (.ref x2), .val (.ref y), .val (.int (1 : Int32))] [(.int (0 : Int32)), (.ref y)])
  refine Sp.virt B S (y := (⟨"java/lang/String", "charAt", "(I)C"⟩ : MethodName)) (C := "java/lang/String") (argsL := [(.int (0 : Int32))]) (rest := []) (hw _ (List.mem_of_getElem? (i := 160) rfl)) (hw _ (List.mem_of_getElem? (i := 161) rfl)) (hw _ (List.mem_of_getElem? (i := 163) rfl)) (hw _ (List.mem_of_getElem? (i := 163) rfl)) (hw _ (List.mem_of_getElem? (i := 162) rfl)) (by decide) (Call.con (W := 0) (y_ca l Z a0 EL hw hEW _ zc CS hzc fm SF hfm y ty [c0, c1, 46, c2, c3] (by show 5 ≤ 8; decide) hbs G 0 (by show 0 < 5; decide)) (hw _ (List.mem_of_getElem? (i := 164) rfl)) (hw _ (List.mem_of_getElem? (i := 6) rfl)) (by decide) (by decide)) G.1 (by simp) hkq hnq (by rw [hml]; rfl) (lenOf lw_p28 rfl) rfl (Nat.le_of_eq rfl) (hb hby at_142) fun v T h3 nw S hQ => ?_
  obtain ⟨rfl, rfl, rfl⟩ := hQ
  show F T (mkF m 145 #[.val (.int i0), .val (.int i1), .val (.int i2), .val (.int i3), .val (.int i4), .val (.int 2), .val (.int 2), .val (.int c0), .val (.int c1), .val (.int c2), .val (.int c3), .val (.ref x1), .val (.ref x2), .val (.ref y), .val (.int (1 : Int32))] [(.int c0)])
  refine B (fun tgt kt => XS.iload S.here S.hx rfl (hb hby at_145) rfl kt) ?_
  show F T (mkF m 147 #[.val (.int i0), .val (.int i1), .val (.int i2), .val (.int i3), .val (.int i4), .val (.int 2), .val (.int 2), .val (.int c0), .val (.int c1), .val (.int c2), .val (.int c3), .val (.ref x1), .val (.ref x2), .val (.ref y), .val (.int (1 : Int32))] [(.int c0), (.int c0)])
  refine B (fun tgt kt => XS.icmpNo S.here S.hx rfl (hb hby at_147) rfl (ii_ne_f rfl) kt) ?_
  show F T (mkF m 150 #[.val (.int i0), .val (.int i1), .val (.int i2), .val (.int i3), .val (.int i4), .val (.int 2), .val (.int 2), .val (.int c0), .val (.int c1), .val (.int c2), .val (.int c3), .val (.ref x1), .val (.ref x2), .val (.ref y), .val (.int (1 : Int32))] [])
  refine B (fun tgt kt => XS.iconst S.here S.hx rfl (hb hby at_150) kt) ?_
  show F T (mkF m 151 #[.val (.int i0), .val (.int i1), .val (.int i2), .val (.int i3), .val (.int i4), .val (.int 2), .val (.int 2), .val (.int c0), .val (.int c1), .val (.int c2), .val (.int c3), .val (.ref x1), .val (.ref x2), .val (.ref y), .val (.int (1 : Int32))] [(.int (1 : Int32))])
  refine B (fun tgt kt => XS.goto S.here S.hx rfl (pc0 := 151) (pc' := 155) rfl (hb hby at_151) (by decide) (by decide) kt) ?_
  show F T (mkF m 155 #[.val (.int i0), .val (.int i1), .val (.int i2), .val (.int i3), .val (.int i4), .val (.int 2), .val (.int 2), .val (.int c0), .val (.int c1), .val (.int c2), .val (.int c3), .val (.ref x1), .val (.ref x2), .val (.ref y), .val (.int (1 : Int32))] [(.int (1 : Int32))])
  refine B (fun tgt kt => XS.istore S.here S.hx rfl (hb hby at_155) rfl (l' := #[.val (.int i0), .val (.int i1), .val (.int i2), .val (.int i3), .val (.int i4), .val (.int 2), .val (.int 2), .val (.int c0), .val (.int c1), .val (.int c2), .val (.int c3), .val (.ref x1), .val (.ref x2), .val (.ref y), .val (.int (1 : Int32))]) rfl kt) ?_
  show F T (mkF m 157 #[.val (.int i0), .val (.int i1), .val (.int i2), .val (.int i3), .val (.int i4), .val (.int 2), .val (.int 2), .val (.int c0), .val (.int c1), .val (.int c2), .val (.int c3), .val (.ref x1), .val (.ref x2), .val (.ref y), .val (.int (1 : Int32))] [])
  refine B (fun tgt kt => XS.iload S.here S.hx rfl (hb hby at_157) rfl kt) ?_
  show F T (mkF m 159 #[.val (.int i0), .val (.int i1), .val (.int i2), .val (.int i3), .val (.int i4), .val (.int 2), .val (.int 2), .val (.int c0), .val (.int c1), .val (.int c2), .val (.int c3), .val (.ref x1), .val (.ref x2), .val (.ref y), .val (.int (1 : Int32))] [(.int 2)])
  refine B (fun tgt kt => XS.iconst S.here S.hx rfl (hb hby at_159) kt) ?_
  show F T (mkF m 160 #[.val (.int i0), .val (.int i1), .val (.int i2), .val (.int i3), .val (.int i4), .val (.int 2), .val (.int 2), .val (.int c0), .val (.int c1), .val (.int c2), .val (.int c3), .val (.ref x1), .val (.ref x2), .val (.ref y), .val (.int (1 : Int32))] [(.int (2 : Int32)), (.int 2)])
  refine B (fun tgt kt => XS.icmpNo S.here S.hx rfl (hb hby at_160) rfl (ii_lt_f (by decide)) kt) ?_
  show F T (mkF m 163 #[.val (.int i0), .val (.int i1), .val (.int i2), .val (.int i3), .val (.int i4), .val (.int 2), .val (.int 2), .val (.int c0), .val (.int c1), .val (.int c2), .val (.int c3), .val (.ref x1), .val (.ref x2), .val (.ref y), .val (.int (1 : Int32))] [])
  refine B (fun tgt kt => XS.iload S.here S.hx rfl (hb hby at_163) rfl kt) ?_
  show F T (mkF m 165 #[.val (.int i0), .val (.int i1), .val (.int i2), .val (.int i3), .val (.int i4), .val (.int 2), .val (.int 2), .val (.int c0), .val (.int c1), .val (.int c2), .val (.int c3), .val (.ref x1), .val (.ref x2), .val (.ref y), .val (.int (1 : Int32))] [(.int (1 : Int32))])
  refine B (fun tgt kt => XS.ifNo S.here S.hx rfl (hb hby at_165) rfl (i0_eq_f (by decide)) kt) ?_
  show F T (mkF m 168 #[.val (.int i0), .val (.int i1), .val (.int i2), .val (.int i3), .val (.int i4), .val (.int 2), .val (.int 2), .val (.int c0), .val (.int c1), .val (.int c2), .val (.int c3), .val (.ref x1), .val (.ref x2), .val (.ref y), .val (.int (1 : Int32))] [])
  refine B (fun tgt kt => XS.aload S.here S.hx rfl (hb hby at_168) rfl rfl kt) ?_
  show F T (mkF m 170 #[.val (.int i0), .val (.int i1), .val (.int i2), .val (.int i3), .val (.int i4), .val (.int 2), .val (.int 2), .val (.int c0), .val (.int c1), .val (.int c2), .val (.int c3), .val (.ref x1), .val (.ref x2), .val (.ref y), .val (.int (1 : Int32))] [(.ref y)])
  refine B (fun tgt kt => XS.iconst S.here S.hx rfl (hb hby at_170) kt) ?_
  show F T (mkF m 171 #[.val (.int i0), .val (.int i1), .val (.int i2), .val (.int i3), .val (.int i4), .val (.int 2), .val (.int 2), .val (.int c0), .val (.int c1), .val (.int c2), .val (.int c3), .val (.ref x1), .val (.ref x2), .val (.ref y), .val (.int (1 : Int32))] [(.int (1 : Int32)), (.ref y)])
  refine Sp.virt B S (y := (⟨"java/lang/String", "charAt", "(I)C"⟩ : MethodName)) (C := "java/lang/String") (argsL := [(.int (1 : Int32))]) (rest := []) (hw _ (List.mem_of_getElem? (i := 160) rfl)) (hw _ (List.mem_of_getElem? (i := 161) rfl)) (hw _ (List.mem_of_getElem? (i := 163) rfl)) (hw _ (List.mem_of_getElem? (i := 163) rfl)) (hw _ (List.mem_of_getElem? (i := 162) rfl)) (by decide) (Call.con (W := 0) (y_ca l Z a0 EL hw hEW _ zc CS hzc fm SF hfm y ty [c0, c1, 46, c2, c3] (by show 5 ≤ 8; decide) hbs G 1 (by show 1 < 5; decide)) (hw _ (List.mem_of_getElem? (i := 164) rfl)) (hw _ (List.mem_of_getElem? (i := 6) rfl)) (by decide) (by decide)) G.1 (by simp) hkq hnq (by rw [hml]; rfl) (lenOf lw_p28 rfl) rfl (Nat.le_of_eq rfl) (hb hby at_171) fun v T h4 nw S hQ => ?_
  obtain ⟨rfl, rfl, rfl⟩ := hQ
  show F T (mkF m 174 #[.val (.int i0), .val (.int i1), .val (.int i2), .val (.int i3), .val (.int i4), .val (.int 2), .val (.int 2), .val (.int c0), .val (.int c1), .val (.int c2), .val (.int c3), .val (.ref x1), .val (.ref x2), .val (.ref y), .val (.int (1 : Int32))] [(.int c1)])
  refine B (fun tgt kt => XS.iload S.here S.hx rfl (hb hby at_174) rfl kt) ?_
  show F T (mkF m 176 #[.val (.int i0), .val (.int i1), .val (.int i2), .val (.int i3), .val (.int i4), .val (.int 2), .val (.int 2), .val (.int c0), .val (.int c1), .val (.int c2), .val (.int c3), .val (.ref x1), .val (.ref x2), .val (.ref y), .val (.int (1 : Int32))] [(.int c1), (.int c1)])
  refine B (fun tgt kt => XS.icmpNo S.here S.hx rfl (hb hby at_176) rfl (ii_ne_f rfl) kt) ?_
  show F T (mkF m 179 #[.val (.int i0), .val (.int i1), .val (.int i2), .val (.int i3), .val (.int i4), .val (.int 2), .val (.int 2), .val (.int c0), .val (.int c1), .val (.int c2), .val (.int c3), .val (.ref x1), .val (.ref x2), .val (.ref y), .val (.int (1 : Int32))] [])
  refine B (fun tgt kt => XS.iconst S.here S.hx rfl (hb hby at_179) kt) ?_
  show F T (mkF m 180 #[.val (.int i0), .val (.int i1), .val (.int i2), .val (.int i3), .val (.int i4), .val (.int 2), .val (.int 2), .val (.int c0), .val (.int c1), .val (.int c2), .val (.int c3), .val (.ref x1), .val (.ref x2), .val (.ref y), .val (.int (1 : Int32))] [(.int (1 : Int32))])
  refine B (fun tgt kt => XS.goto S.here S.hx rfl (pc0 := 180) (pc' := 184) rfl (hb hby at_180) (by decide) (by decide) kt) ?_
  show F T (mkF m 184 #[.val (.int i0), .val (.int i1), .val (.int i2), .val (.int i3), .val (.int i4), .val (.int 2), .val (.int 2), .val (.int c0), .val (.int c1), .val (.int c2), .val (.int c3), .val (.ref x1), .val (.ref x2), .val (.ref y), .val (.int (1 : Int32))] [(.int (1 : Int32))])
  refine B (fun tgt kt => XS.istore S.here S.hx rfl (hb hby at_184) rfl (l' := #[.val (.int i0), .val (.int i1), .val (.int i2), .val (.int i3), .val (.int i4), .val (.int 2), .val (.int 2), .val (.int c0), .val (.int c1), .val (.int c2), .val (.int c3), .val (.ref x1), .val (.ref x2), .val (.ref y), .val (.int (1 : Int32))]) rfl kt) ?_
  show F T (mkF m 186 #[.val (.int i0), .val (.int i1), .val (.int i2), .val (.int i3), .val (.int i4), .val (.int 2), .val (.int 2), .val (.int c0), .val (.int c1), .val (.int c2), .val (.int c3), .val (.ref x1), .val (.ref x2), .val (.ref y), .val (.int (1 : Int32))] [])
  refine B (fun tgt kt => XS.iload S.here S.hx rfl (hb hby at_186) rfl kt) ?_
  show F T (mkF m 188 #[.val (.int i0), .val (.int i1), .val (.int i2), .val (.int i3), .val (.int i4), .val (.int 2), .val (.int 2), .val (.int c0), .val (.int c1), .val (.int c2), .val (.int c3), .val (.ref x1), .val (.ref x2), .val (.ref y), .val (.int (1 : Int32))] [(.int 2)])
  refine B (fun tgt kt => XS.iconst S.here S.hx rfl (hb hby at_188) kt) ?_
  show F T (mkF m 189 #[.val (.int i0), .val (.int i1), .val (.int i2), .val (.int i3), .val (.int i4), .val (.int 2), .val (.int 2), .val (.int c0), .val (.int c1), .val (.int c2), .val (.int c3), .val (.ref x1), .val (.ref x2), .val (.ref y), .val (.int (1 : Int32))] [(.int (1 : Int32)), (.int 2)])
  refine B (fun tgt kt => XS.icmpNo S.here S.hx rfl (hb hby at_189) rfl (ii_lt_f (by decide)) kt) ?_
  show F T (mkF m 192 #[.val (.int i0), .val (.int i1), .val (.int i2), .val (.int i3), .val (.int i4), .val (.int 2), .val (.int 2), .val (.int c0), .val (.int c1), .val (.int c2), .val (.int c3), .val (.ref x1), .val (.ref x2), .val (.ref y), .val (.int (1 : Int32))] [])
  refine B (fun tgt kt => XS.iload S.here S.hx rfl (hb hby at_192) rfl kt) ?_
  show F T (mkF m 194 #[.val (.int i0), .val (.int i1), .val (.int i2), .val (.int i3), .val (.int i4), .val (.int 2), .val (.int 2), .val (.int c0), .val (.int c1), .val (.int c2), .val (.int c3), .val (.ref x1), .val (.ref x2), .val (.ref y), .val (.int (1 : Int32))] [(.int (1 : Int32))])
  refine B (fun tgt kt => XS.ifNo S.here S.hx rfl (hb hby at_194) rfl (i0_eq_f (by decide)) kt) ?_
  show F T (mkF m 197 #[.val (.int i0), .val (.int i1), .val (.int i2), .val (.int i3), .val (.int i4), .val (.int 2), .val (.int 2), .val (.int c0), .val (.int c1), .val (.int c2), .val (.int c3), .val (.ref x1), .val (.ref x2), .val (.ref y), .val (.int (1 : Int32))] [])
  refine B (fun tgt kt => XS.aload S.here S.hx rfl (hb hby at_197) rfl rfl kt) ?_
  show F T (mkF m 199 #[.val (.int i0), .val (.int i1), .val (.int i2), .val (.int i3), .val (.int i4), .val (.int 2), .val (.int 2), .val (.int c0), .val (.int c1), .val (.int c2), .val (.int c3), .val (.ref x1), .val (.ref x2), .val (.ref y), .val (.int (1 : Int32))] [(.ref y)])
  refine B (fun tgt kt => XS.iload S.here S.hx rfl (hb hby at_199) rfl kt) ?_
  show F T (mkF m 201 #[.val (.int i0), .val (.int i1), .val (.int i2), .val (.int i3), .val (.int i4), .val (.int 2), .val (.int 2), .val (.int c0), .val (.int c1), .val (.int c2), .val (.int c3), .val (.ref x1), .val (.ref x2), .val (.ref y), .val (.int (1 : Int32))] [(.int 2), (.ref y)])
  refine B (fun tgt kt => XS.iconst S.here S.hx rfl (hb hby at_201) kt) ?_
  show F T (mkF m 202 #[.val (.int i0), .val (.int i1), .val (.int i2), .val (.int i3), .val (.int i4), .val (.int 2), .val (.int 2), .val (.int c0), .val (.int c1), .val (.int c2), .val (.int c3), .val (.ref x1), .val (.ref x2), .val (.ref y), .val (.int (1 : Int32))] [(.int (1 : Int32)), (.int 2), (.ref y)])
  refine B (fun tgt kt => XS.iadd S.here S.hx rfl (hb hby at_202) rfl kt) ?_
  show F T (mkF m 203 #[.val (.int i0), .val (.int i1), .val (.int i2), .val (.int i3), .val (.int i4), .val (.int 2), .val (.int 2), .val (.int c0), .val (.int c1), .val (.int c2), .val (.int c3), .val (.ref x1), .val (.ref x2), .val (.ref y), .val (.int (1 : Int32))] [(.int ((2 : Int32) + (1 : Int32))), (.ref y)])
  rw [show ((2 : Int32) + (1 : Int32)) = (3 : Int32) from by decide]
  show F T (mkF m 203 #[.val (.int i0), .val (.int i1), .val (.int i2), .val (.int i3), .val (.int i4), .val (.int 2), .val (.int 2), .val (.int c0), .val (.int c1), .val (.int c2), .val (.int c3), .val (.ref x1), .val (.ref x2), .val (.ref y), .val (.int (1 : Int32))] [(.int (3 : Int32)), (.ref y)])
  refine Sp.virt B S (y := (⟨"java/lang/String", "charAt", "(I)C"⟩ : MethodName)) (C := "java/lang/String") (argsL := [(.int (3 : Int32))]) (rest := []) (hw _ (List.mem_of_getElem? (i := 160) rfl)) (hw _ (List.mem_of_getElem? (i := 161) rfl)) (hw _ (List.mem_of_getElem? (i := 163) rfl)) (hw _ (List.mem_of_getElem? (i := 163) rfl)) (hw _ (List.mem_of_getElem? (i := 162) rfl)) (by decide) (Call.con (W := 0) (y_ca l Z a0 EL hw hEW _ zc CS hzc fm SF hfm y ty [c0, c1, 46, c2, c3] (by show 5 ≤ 8; decide) hbs G 3 (by show 3 < 5; decide)) (hw _ (List.mem_of_getElem? (i := 164) rfl)) (hw _ (List.mem_of_getElem? (i := 6) rfl)) (by decide) (by decide)) G.1 (by simp) hkq hnq (by rw [hml]; rfl) (lenOf lw_p28 rfl) rfl (Nat.le_of_eq rfl) (hb hby at_203) fun v T h5 nw S hQ => ?_
  obtain ⟨rfl, rfl, rfl⟩ := hQ
  show F T (mkF m 206 #[.val (.int i0), .val (.int i1), .val (.int i2), .val (.int i3), .val (.int i4), .val (.int 2), .val (.int 2), .val (.int c0), .val (.int c1), .val (.int c2), .val (.int c3), .val (.ref x1), .val (.ref x2), .val (.ref y), .val (.int (1 : Int32))] [(.int c2)])
  refine B (fun tgt kt => XS.iload S.here S.hx rfl (hb hby at_206) rfl kt) ?_
  show F T (mkF m 208 #[.val (.int i0), .val (.int i1), .val (.int i2), .val (.int i3), .val (.int i4), .val (.int 2), .val (.int 2), .val (.int c0), .val (.int c1), .val (.int c2), .val (.int c3), .val (.ref x1), .val (.ref x2), .val (.ref y), .val (.int (1 : Int32))] [(.int c2), (.int c2)])
  refine B (fun tgt kt => XS.icmpNo S.here S.hx rfl (hb hby at_208) rfl (ii_ne_f rfl) kt) ?_
  show F T (mkF m 211 #[.val (.int i0), .val (.int i1), .val (.int i2), .val (.int i3), .val (.int i4), .val (.int 2), .val (.int 2), .val (.int c0), .val (.int c1), .val (.int c2), .val (.int c3), .val (.ref x1), .val (.ref x2), .val (.ref y), .val (.int (1 : Int32))] [])
  refine B (fun tgt kt => XS.iconst S.here S.hx rfl (hb hby at_211) kt) ?_
  show F T (mkF m 212 #[.val (.int i0), .val (.int i1), .val (.int i2), .val (.int i3), .val (.int i4), .val (.int 2), .val (.int 2), .val (.int c0), .val (.int c1), .val (.int c2), .val (.int c3), .val (.ref x1), .val (.ref x2), .val (.ref y), .val (.int (1 : Int32))] [(.int (1 : Int32))])
  refine B (fun tgt kt => XS.goto S.here S.hx rfl (pc0 := 212) (pc' := 216) rfl (hb hby at_212) (by decide) (by decide) kt) ?_
  show F T (mkF m 216 #[.val (.int i0), .val (.int i1), .val (.int i2), .val (.int i3), .val (.int i4), .val (.int 2), .val (.int 2), .val (.int c0), .val (.int c1), .val (.int c2), .val (.int c3), .val (.ref x1), .val (.ref x2), .val (.ref y), .val (.int (1 : Int32))] [(.int (1 : Int32))])
  refine B (fun tgt kt => XS.istore S.here S.hx rfl (hb hby at_216) rfl (l' := #[.val (.int i0), .val (.int i1), .val (.int i2), .val (.int i3), .val (.int i4), .val (.int 2), .val (.int 2), .val (.int c0), .val (.int c1), .val (.int c2), .val (.int c3), .val (.ref x1), .val (.ref x2), .val (.ref y), .val (.int (1 : Int32))]) rfl kt) ?_
  show F T (mkF m 218 #[.val (.int i0), .val (.int i1), .val (.int i2), .val (.int i3), .val (.int i4), .val (.int 2), .val (.int 2), .val (.int c0), .val (.int c1), .val (.int c2), .val (.int c3), .val (.ref x1), .val (.ref x2), .val (.ref y), .val (.int (1 : Int32))] [])
  refine B (fun tgt kt => XS.iload S.here S.hx rfl (hb hby at_218) rfl kt) ?_
  show F T (mkF m 220 #[.val (.int i0), .val (.int i1), .val (.int i2), .val (.int i3), .val (.int i4), .val (.int 2), .val (.int 2), .val (.int c0), .val (.int c1), .val (.int c2), .val (.int c3), .val (.ref x1), .val (.ref x2), .val (.ref y), .val (.int (1 : Int32))] [(.int 2)])
  refine B (fun tgt kt => XS.iconst S.here S.hx rfl (hb hby at_220) kt) ?_
  show F T (mkF m 221 #[.val (.int i0), .val (.int i1), .val (.int i2), .val (.int i3), .val (.int i4), .val (.int 2), .val (.int 2), .val (.int c0), .val (.int c1), .val (.int c2), .val (.int c3), .val (.ref x1), .val (.ref x2), .val (.ref y), .val (.int (1 : Int32))] [(.int (2 : Int32)), (.int 2)])
  refine B (fun tgt kt => XS.icmpNo S.here S.hx rfl (hb hby at_221) rfl (ii_lt_f (by decide)) kt) ?_
  show F T (mkF m 224 #[.val (.int i0), .val (.int i1), .val (.int i2), .val (.int i3), .val (.int i4), .val (.int 2), .val (.int 2), .val (.int c0), .val (.int c1), .val (.int c2), .val (.int c3), .val (.ref x1), .val (.ref x2), .val (.ref y), .val (.int (1 : Int32))] [])
  refine B (fun tgt kt => XS.iload S.here S.hx rfl (hb hby at_224) rfl kt) ?_
  show F T (mkF m 226 #[.val (.int i0), .val (.int i1), .val (.int i2), .val (.int i3), .val (.int i4), .val (.int 2), .val (.int 2), .val (.int c0), .val (.int c1), .val (.int c2), .val (.int c3), .val (.ref x1), .val (.ref x2), .val (.ref y), .val (.int (1 : Int32))] [(.int (1 : Int32))])
  refine B (fun tgt kt => XS.ifNo S.here S.hx rfl (hb hby at_226) rfl (i0_eq_f (by decide)) kt) ?_
  show F T (mkF m 229 #[.val (.int i0), .val (.int i1), .val (.int i2), .val (.int i3), .val (.int i4), .val (.int 2), .val (.int 2), .val (.int c0), .val (.int c1), .val (.int c2), .val (.int c3), .val (.ref x1), .val (.ref x2), .val (.ref y), .val (.int (1 : Int32))] [])
  refine B (fun tgt kt => XS.aload S.here S.hx rfl (hb hby at_229) rfl rfl kt) ?_
  show F T (mkF m 231 #[.val (.int i0), .val (.int i1), .val (.int i2), .val (.int i3), .val (.int i4), .val (.int 2), .val (.int 2), .val (.int c0), .val (.int c1), .val (.int c2), .val (.int c3), .val (.ref x1), .val (.ref x2), .val (.ref y), .val (.int (1 : Int32))] [(.ref y)])
  refine B (fun tgt kt => XS.iload S.here S.hx rfl (hb hby at_231) rfl kt) ?_
  show F T (mkF m 233 #[.val (.int i0), .val (.int i1), .val (.int i2), .val (.int i3), .val (.int i4), .val (.int 2), .val (.int 2), .val (.int c0), .val (.int c1), .val (.int c2), .val (.int c3), .val (.ref x1), .val (.ref x2), .val (.ref y), .val (.int (1 : Int32))] [(.int 2), (.ref y)])
  refine B (fun tgt kt => XS.iconst S.here S.hx rfl (hb hby at_233) kt) ?_
  show F T (mkF m 234 #[.val (.int i0), .val (.int i1), .val (.int i2), .val (.int i3), .val (.int i4), .val (.int 2), .val (.int 2), .val (.int c0), .val (.int c1), .val (.int c2), .val (.int c3), .val (.ref x1), .val (.ref x2), .val (.ref y), .val (.int (1 : Int32))] [(.int (2 : Int32)), (.int 2), (.ref y)])
  refine B (fun tgt kt => XS.iadd S.here S.hx rfl (hb hby at_234) rfl kt) ?_
  show F T (mkF m 235 #[.val (.int i0), .val (.int i1), .val (.int i2), .val (.int i3), .val (.int i4), .val (.int 2), .val (.int 2), .val (.int c0), .val (.int c1), .val (.int c2), .val (.int c3), .val (.ref x1), .val (.ref x2), .val (.ref y), .val (.int (1 : Int32))] [(.int ((2 : Int32) + (2 : Int32))), (.ref y)])
  rw [show ((2 : Int32) + (2 : Int32)) = (4 : Int32) from by decide]
  show F T (mkF m 235 #[.val (.int i0), .val (.int i1), .val (.int i2), .val (.int i3), .val (.int i4), .val (.int 2), .val (.int 2), .val (.int c0), .val (.int c1), .val (.int c2), .val (.int c3), .val (.ref x1), .val (.ref x2), .val (.ref y), .val (.int (1 : Int32))] [(.int (4 : Int32)), (.ref y)])
  refine Sp.virt B S (y := (⟨"java/lang/String", "charAt", "(I)C"⟩ : MethodName)) (C := "java/lang/String") (argsL := [(.int (4 : Int32))]) (rest := []) (hw _ (List.mem_of_getElem? (i := 160) rfl)) (hw _ (List.mem_of_getElem? (i := 161) rfl)) (hw _ (List.mem_of_getElem? (i := 163) rfl)) (hw _ (List.mem_of_getElem? (i := 163) rfl)) (hw _ (List.mem_of_getElem? (i := 162) rfl)) (by decide) (Call.con (W := 0) (y_ca l Z a0 EL hw hEW _ zc CS hzc fm SF hfm y ty [c0, c1, 46, c2, c3] (by show 5 ≤ 8; decide) hbs G 4 (by show 4 < 5; decide)) (hw _ (List.mem_of_getElem? (i := 164) rfl)) (hw _ (List.mem_of_getElem? (i := 6) rfl)) (by decide) (by decide)) G.1 (by simp) hkq hnq (by rw [hml]; rfl) (lenOf lw_p28 rfl) rfl (Nat.le_of_eq rfl) (hb hby at_235) fun v T h6 nw S hQ => ?_
  obtain ⟨rfl, rfl, rfl⟩ := hQ
  show F T (mkF m 238 #[.val (.int i0), .val (.int i1), .val (.int i2), .val (.int i3), .val (.int i4), .val (.int 2), .val (.int 2), .val (.int c0), .val (.int c1), .val (.int c2), .val (.int c3), .val (.ref x1), .val (.ref x2), .val (.ref y), .val (.int (1 : Int32))] [(.int c3)])
  refine B (fun tgt kt => XS.iload S.here S.hx rfl (hb hby at_238) rfl kt) ?_
  show F T (mkF m 240 #[.val (.int i0), .val (.int i1), .val (.int i2), .val (.int i3), .val (.int i4), .val (.int 2), .val (.int 2), .val (.int c0), .val (.int c1), .val (.int c2), .val (.int c3), .val (.ref x1), .val (.ref x2), .val (.ref y), .val (.int (1 : Int32))] [(.int c3), (.int c3)])
  refine B (fun tgt kt => XS.icmpNo S.here S.hx rfl (hb hby at_240) rfl (ii_ne_f rfl) kt) ?_
  show F T (mkF m 243 #[.val (.int i0), .val (.int i1), .val (.int i2), .val (.int i3), .val (.int i4), .val (.int 2), .val (.int 2), .val (.int c0), .val (.int c1), .val (.int c2), .val (.int c3), .val (.ref x1), .val (.ref x2), .val (.ref y), .val (.int (1 : Int32))] [])
  refine B (fun tgt kt => XS.iconst S.here S.hx rfl (hb hby at_243) kt) ?_
  show F T (mkF m 244 #[.val (.int i0), .val (.int i1), .val (.int i2), .val (.int i3), .val (.int i4), .val (.int 2), .val (.int 2), .val (.int c0), .val (.int c1), .val (.int c2), .val (.int c3), .val (.ref x1), .val (.ref x2), .val (.ref y), .val (.int (1 : Int32))] [(.int (1 : Int32))])
  refine B (fun tgt kt => XS.goto S.here S.hx rfl (pc0 := 244) (pc' := 248) rfl (hb hby at_244) (by decide) (by decide) kt) ?_
  show F T (mkF m 248 #[.val (.int i0), .val (.int i1), .val (.int i2), .val (.int i3), .val (.int i4), .val (.int 2), .val (.int 2), .val (.int c0), .val (.int c1), .val (.int c2), .val (.int c3), .val (.ref x1), .val (.ref x2), .val (.ref y), .val (.int (1 : Int32))] [(.int (1 : Int32))])
  refine B (fun tgt kt => XS.istore S.here S.hx rfl (hb hby at_248) rfl (l' := #[.val (.int i0), .val (.int i1), .val (.int i2), .val (.int i3), .val (.int i4), .val (.int 2), .val (.int 2), .val (.int c0), .val (.int c1), .val (.int c2), .val (.int c3), .val (.ref x1), .val (.ref x2), .val (.ref y), .val (.int (1 : Int32))]) rfl kt) ?_
  show F T (mkF m 250 #[.val (.int i0), .val (.int i1), .val (.int i2), .val (.int i3), .val (.int i4), .val (.int 2), .val (.int 2), .val (.int c0), .val (.int c1), .val (.int c2), .val (.int c3), .val (.ref x1), .val (.ref x2), .val (.ref y), .val (.int (1 : Int32))] [])
  refine B (fun tgt kt => XS.iload S.here S.hx rfl (hb hby at_250) rfl kt) ?_
  show F T (mkF m 252 #[.val (.int i0), .val (.int i1), .val (.int i2), .val (.int i3), .val (.int i4), .val (.int 2), .val (.int 2), .val (.int c0), .val (.int c1), .val (.int c2), .val (.int c3), .val (.ref x1), .val (.ref x2), .val (.ref y), .val (.int (1 : Int32))] [(.int (1 : Int32))])
  exact K _ _ S
theorem own_lef (m : MethodId) (i0 i1 i2 i3 i4 : Int32) : entryFrame m #[.int i0, .int i1, .int i2, .int i3, .int i4] 15 = mkF m 0 #[.val (.int i0), .val (.int i1), .val (.int i2), .val (.int i3), .val (.int i4), .unset, .unset, .unset, .unset, .unset, .unset, .unset, .unset, .unset, .unset] [] := by first | (simp [entryFrame, mkF, argsToLocals, Value.category]; done) | rfl
theorem own_lpn : plainFor (⟨"org/triplebridge/mapping/ColumnSqlPinLaw", "law", "(IIIII)Z"⟩ : MethodName) = true := by first | exact plainFor_of_name (by first | (simp [plainName, overriddenIn]; done) | decide +kernel) | decide +kernel
set_option maxRecDepth 65536 in
set_option maxHeartbeats 40000000 in
theorem own_law (l : Launch) (Z : State) (a0 : Array Value) (hw : ∀ d ∈ tables_1, d.before a0 Z = true) (hEW : EW Z a0 consts_1) (zc : Int32) (CS : Sta Z Z.heap "java/lang/String" "COMPACT_STRINGS" "Z" (.int zc)) (hzc : ¬ zc = 0) (fm : Value) (SF : Sta Z Z.heap "jdk/internal/util/Preconditions" "SIOOBE_FORMATTER" "Ljava/util/function/BiFunction;" fm) (hfm : fm.isRef = true) (i0 i1 i2 i3 i4 : Int32) :
    Con l Z consts_1 (⟨"org/triplebridge/mapping/ColumnSqlPinLaw", "law", "(IIIII)Z"⟩ : MethodName) code 15 (some .boolean) room_1 #[.int i0, .int i1, .int i2, .int i3, .int i4] Z.heap [] (fun v _ _ => v = some (.int 1)) := by
  have hS : ∀ d ∈ Bundle.stringAtoms, d.before a0 Z = true := fun d hd => hw d ((by decide +kernel : ∀ d ∈ Bundle.stringAtoms, d ∈ tables_1) d hd)
  have hmem : ("java/lang/String", 7) ∈ consts_1 := by decide
  have hmc : ("org/triplebridge/mapping/Column", 125) ∈ consts_1 := by decide
  refine Con.of own_lpn hEW ?_
  intro p e s m below meth c T F B hF hby hml hr hlk hnm S
  rw [own_lef]
  show F T (mkF m 0 #[.val (.int i0), .val (.int i1), .val (.int i2), .val (.int i3), .val (.int i4), .unset, .unset, .unset, .unset, .unset, .unset, .unset, .unset, .unset, .unset] [])
  refine B (fun tgt kt => XS.iloadN S.here S.hx rfl (hb hby at_0) rfl kt) ?_
  show F T (mkF m 1 #[.val (.int i0), .val (.int i1), .val (.int i2), .val (.int i3), .val (.int i4), .unset, .unset, .unset, .unset, .unset, .unset, .unset, .unset, .unset, .unset] [(.int i0)])
  refine B (fun tgt kt => XS.iconst S.here S.hx rfl (hb hby at_1) kt) ?_
  show F T (mkF m 2 #[.val (.int i0), .val (.int i1), .val (.int i2), .val (.int i3), .val (.int i4), .unset, .unset, .unset, .unset, .unset, .unset, .unset, .unset, .unset, .unset] [(.int (3 : Int32)), (.int i0)])
  refine B (fun tgt kt => XS.iand S.here S.hx rfl (hb hby at_2) rfl kt) ?_
  show F T (mkF m 3 #[.val (.int i0), .val (.int i1), .val (.int i2), .val (.int i3), .val (.int i4), .unset, .unset, .unset, .unset, .unset, .unset, .unset, .unset, .unset, .unset] [(.int (i0 &&& (3 : Int32)))])
  refine B (fun tgt kt => XS.iconst S.here S.hx rfl (hb hby at_3) kt) ?_
  show F T (mkF m 4 #[.val (.int i0), .val (.int i1), .val (.int i2), .val (.int i3), .val (.int i4), .unset, .unset, .unset, .unset, .unset, .unset, .unset, .unset, .unset, .unset] [(.int (3 : Int32)), (.int (i0 &&& (3 : Int32)))])
  refine Sp.irem B S (by decide) (hb hby at_4) ?_
  show F T (mkF m 5 #[.val (.int i0), .val (.int i1), .val (.int i2), .val (.int i3), .val (.int i4), .unset, .unset, .unset, .unset, .unset, .unset, .unset, .unset, .unset, .unset] [(.int ((i0 &&& (3 : Int32)) % (3 : Int32)))])
  obtain ⟨n1, en1⟩ : ∃ q, q = (i0 &&& (3 : Int32)) % (3 : Int32) := ⟨_, rfl⟩
  have d1 : n1 = 0 ∨ n1 = 1 ∨ n1 = 2 := by rw [en1]; exact own_r3 _
  rw [← en1]
  show F T (mkF m 5 #[.val (.int i0), .val (.int i1), .val (.int i2), .val (.int i3), .val (.int i4), .unset, .unset, .unset, .unset, .unset, .unset, .unset, .unset, .unset, .unset] [(.int n1)])
  refine B (fun tgt kt => XS.istore S.here S.hx rfl (hb hby at_5) rfl (l' := #[.val (.int i0), .val (.int i1), .val (.int i2), .val (.int i3), .val (.int i4), .val (.int n1), .unset, .unset, .unset, .unset, .unset, .unset, .unset, .unset, .unset]) rfl kt) ?_
  show F T (mkF m 7 #[.val (.int i0), .val (.int i1), .val (.int i2), .val (.int i3), .val (.int i4), .val (.int n1), .unset, .unset, .unset, .unset, .unset, .unset, .unset, .unset, .unset] [])
  refine B (fun tgt kt => XS.iloadN S.here S.hx rfl (hb hby at_7) rfl kt) ?_
  show F T (mkF m 8 #[.val (.int i0), .val (.int i1), .val (.int i2), .val (.int i3), .val (.int i4), .val (.int n1), .unset, .unset, .unset, .unset, .unset, .unset, .unset, .unset, .unset] [(.int i0)])
  refine B (fun tgt kt => XS.iconst S.here S.hx rfl (hb hby at_8) kt) ?_
  show F T (mkF m 9 #[.val (.int i0), .val (.int i1), .val (.int i2), .val (.int i3), .val (.int i4), .val (.int n1), .unset, .unset, .unset, .unset, .unset, .unset, .unset, .unset, .unset] [(.int (2 : Int32)), (.int i0)])
  refine B (fun tgt kt => XT.iushr S.here S.hx rfl (hb hby at_9) rfl kt) ?_
  show F T (mkF m 10 #[.val (.int i0), .val (.int i1), .val (.int i2), .val (.int i3), .val (.int i4), .val (.int n1), .unset, .unset, .unset, .unset, .unset, .unset, .unset, .unset, .unset] [(.int (i0.toUInt32 >>> ((2 : Int32) &&& 31).toUInt32).toInt32)])
  refine B (fun tgt kt => XS.iconst S.here S.hx rfl (hb hby at_10) kt) ?_
  show F T (mkF m 11 #[.val (.int i0), .val (.int i1), .val (.int i2), .val (.int i3), .val (.int i4), .val (.int n1), .unset, .unset, .unset, .unset, .unset, .unset, .unset, .unset, .unset] [(.int (3 : Int32)), (.int (i0.toUInt32 >>> ((2 : Int32) &&& 31).toUInt32).toInt32)])
  refine B (fun tgt kt => XS.iand S.here S.hx rfl (hb hby at_11) rfl kt) ?_
  show F T (mkF m 12 #[.val (.int i0), .val (.int i1), .val (.int i2), .val (.int i3), .val (.int i4), .val (.int n1), .unset, .unset, .unset, .unset, .unset, .unset, .unset, .unset, .unset] [(.int ((i0.toUInt32 >>> ((2 : Int32) &&& 31).toUInt32).toInt32 &&& (3 : Int32)))])
  refine B (fun tgt kt => XS.iconst S.here S.hx rfl (hb hby at_12) kt) ?_
  show F T (mkF m 13 #[.val (.int i0), .val (.int i1), .val (.int i2), .val (.int i3), .val (.int i4), .val (.int n1), .unset, .unset, .unset, .unset, .unset, .unset, .unset, .unset, .unset] [(.int (3 : Int32)), (.int ((i0.toUInt32 >>> ((2 : Int32) &&& 31).toUInt32).toInt32 &&& (3 : Int32)))])
  refine Sp.irem B S (by decide) (hb hby at_13) ?_
  show F T (mkF m 14 #[.val (.int i0), .val (.int i1), .val (.int i2), .val (.int i3), .val (.int i4), .val (.int n1), .unset, .unset, .unset, .unset, .unset, .unset, .unset, .unset, .unset] [(.int (((i0.toUInt32 >>> ((2 : Int32) &&& 31).toUInt32).toInt32 &&& (3 : Int32)) % (3 : Int32)))])
  obtain ⟨n2, en2⟩ : ∃ q, q = ((i0.toUInt32 >>> ((2 : Int32) &&& 31).toUInt32).toInt32 &&& (3 : Int32)) % (3 : Int32) := ⟨_, rfl⟩
  have d2 : n2 = 0 ∨ n2 = 1 ∨ n2 = 2 := by rw [en2]; exact own_r3 _
  rw [← en2]
  show F T (mkF m 14 #[.val (.int i0), .val (.int i1), .val (.int i2), .val (.int i3), .val (.int i4), .val (.int n1), .unset, .unset, .unset, .unset, .unset, .unset, .unset, .unset, .unset] [(.int n2)])
  refine B (fun tgt kt => XS.istore S.here S.hx rfl (hb hby at_14) rfl (l' := #[.val (.int i0), .val (.int i1), .val (.int i2), .val (.int i3), .val (.int i4), .val (.int n1), .val (.int n2), .unset, .unset, .unset, .unset, .unset, .unset, .unset, .unset]) rfl kt) ?_
  show F T (mkF m 16 #[.val (.int i0), .val (.int i1), .val (.int i2), .val (.int i3), .val (.int i4), .val (.int n1), .val (.int n2), .unset, .unset, .unset, .unset, .unset, .unset, .unset, .unset] [])
  refine B (fun tgt kt => XS.iloadN S.here S.hx rfl (hb hby at_16) rfl kt) ?_
  show F T (mkF m 17 #[.val (.int i0), .val (.int i1), .val (.int i2), .val (.int i3), .val (.int i4), .val (.int n1), .val (.int n2), .unset, .unset, .unset, .unset, .unset, .unset, .unset, .unset] [(.int i1)])
  refine B (fun tgt kt => XS.sipush S.here S.hx rfl (hb hby at_17) kt) ?_
  show F T (mkF m 20 #[.val (.int i0), .val (.int i1), .val (.int i2), .val (.int i3), .val (.int i4), .val (.int n1), .val (.int n2), .unset, .unset, .unset, .unset, .unset, .unset, .unset, .unset] [(.int (255 : Int32)), (.int i1)])
  refine B (fun tgt kt => XS.iand S.here S.hx rfl (hb hby at_20) rfl kt) ?_
  show F T (mkF m 21 #[.val (.int i0), .val (.int i1), .val (.int i2), .val (.int i3), .val (.int i4), .val (.int n1), .val (.int n2), .unset, .unset, .unset, .unset, .unset, .unset, .unset, .unset] [(.int (i1 &&& (255 : Int32)))])
  refine B (fun tgt kt => XT.i2c S.here S.hx rfl (hb hby at_21) rfl kt) ?_
  show F T (mkF m 22 #[.val (.int i0), .val (.int i1), .val (.int i2), .val (.int i3), .val (.int i4), .val (.int n1), .val (.int n2), .unset, .unset, .unset, .unset, .unset, .unset, .unset, .unset] [(.int (i1 &&& (255 : Int32)).toUInt32.toUInt16.toUInt32.toInt32)])
  obtain ⟨c0, ec0⟩ : ∃ q, q = (i1 &&& (255 : Int32)).toUInt32.toUInt16.toUInt32.toInt32 := ⟨_, rfl⟩
  have b0 : ¬ c0 < 0 ∧ ¬ (255 : Int32) < c0 := by rw [ec0]; exact own_c8 _
  rw [← ec0]
  show F T (mkF m 22 #[.val (.int i0), .val (.int i1), .val (.int i2), .val (.int i3), .val (.int i4), .val (.int n1), .val (.int n2), .unset, .unset, .unset, .unset, .unset, .unset, .unset, .unset] [(.int c0)])
  refine B (fun tgt kt => XS.istore S.here S.hx rfl (hb hby at_22) rfl (l' := #[.val (.int i0), .val (.int i1), .val (.int i2), .val (.int i3), .val (.int i4), .val (.int n1), .val (.int n2), .val (.int c0), .unset, .unset, .unset, .unset, .unset, .unset, .unset]) rfl kt) ?_
  show F T (mkF m 24 #[.val (.int i0), .val (.int i1), .val (.int i2), .val (.int i3), .val (.int i4), .val (.int n1), .val (.int n2), .val (.int c0), .unset, .unset, .unset, .unset, .unset, .unset, .unset] [])
  refine B (fun tgt kt => XS.iloadN S.here S.hx rfl (hb hby at_24) rfl kt) ?_
  show F T (mkF m 25 #[.val (.int i0), .val (.int i1), .val (.int i2), .val (.int i3), .val (.int i4), .val (.int n1), .val (.int n2), .val (.int c0), .unset, .unset, .unset, .unset, .unset, .unset, .unset] [(.int i2)])
  refine B (fun tgt kt => XS.sipush S.here S.hx rfl (hb hby at_25) kt) ?_
  show F T (mkF m 28 #[.val (.int i0), .val (.int i1), .val (.int i2), .val (.int i3), .val (.int i4), .val (.int n1), .val (.int n2), .val (.int c0), .unset, .unset, .unset, .unset, .unset, .unset, .unset] [(.int (255 : Int32)), (.int i2)])
  refine B (fun tgt kt => XS.iand S.here S.hx rfl (hb hby at_28) rfl kt) ?_
  show F T (mkF m 29 #[.val (.int i0), .val (.int i1), .val (.int i2), .val (.int i3), .val (.int i4), .val (.int n1), .val (.int n2), .val (.int c0), .unset, .unset, .unset, .unset, .unset, .unset, .unset] [(.int (i2 &&& (255 : Int32)))])
  refine B (fun tgt kt => XT.i2c S.here S.hx rfl (hb hby at_29) rfl kt) ?_
  show F T (mkF m 30 #[.val (.int i0), .val (.int i1), .val (.int i2), .val (.int i3), .val (.int i4), .val (.int n1), .val (.int n2), .val (.int c0), .unset, .unset, .unset, .unset, .unset, .unset, .unset] [(.int (i2 &&& (255 : Int32)).toUInt32.toUInt16.toUInt32.toInt32)])
  obtain ⟨c1, ec1⟩ : ∃ q, q = (i2 &&& (255 : Int32)).toUInt32.toUInt16.toUInt32.toInt32 := ⟨_, rfl⟩
  have b1 : ¬ c1 < 0 ∧ ¬ (255 : Int32) < c1 := by rw [ec1]; exact own_c8 _
  rw [← ec1]
  show F T (mkF m 30 #[.val (.int i0), .val (.int i1), .val (.int i2), .val (.int i3), .val (.int i4), .val (.int n1), .val (.int n2), .val (.int c0), .unset, .unset, .unset, .unset, .unset, .unset, .unset] [(.int c1)])
  refine B (fun tgt kt => XS.istore S.here S.hx rfl (hb hby at_30) rfl (l' := #[.val (.int i0), .val (.int i1), .val (.int i2), .val (.int i3), .val (.int i4), .val (.int n1), .val (.int n2), .val (.int c0), .val (.int c1), .unset, .unset, .unset, .unset, .unset, .unset]) rfl kt) ?_
  show F T (mkF m 32 #[.val (.int i0), .val (.int i1), .val (.int i2), .val (.int i3), .val (.int i4), .val (.int n1), .val (.int n2), .val (.int c0), .val (.int c1), .unset, .unset, .unset, .unset, .unset, .unset] [])
  refine B (fun tgt kt => XS.iloadN S.here S.hx rfl (hb hby at_32) rfl kt) ?_
  show F T (mkF m 33 #[.val (.int i0), .val (.int i1), .val (.int i2), .val (.int i3), .val (.int i4), .val (.int n1), .val (.int n2), .val (.int c0), .val (.int c1), .unset, .unset, .unset, .unset, .unset, .unset] [(.int i3)])
  refine B (fun tgt kt => XS.sipush S.here S.hx rfl (hb hby at_33) kt) ?_
  show F T (mkF m 36 #[.val (.int i0), .val (.int i1), .val (.int i2), .val (.int i3), .val (.int i4), .val (.int n1), .val (.int n2), .val (.int c0), .val (.int c1), .unset, .unset, .unset, .unset, .unset, .unset] [(.int (255 : Int32)), (.int i3)])
  refine B (fun tgt kt => XS.iand S.here S.hx rfl (hb hby at_36) rfl kt) ?_
  show F T (mkF m 37 #[.val (.int i0), .val (.int i1), .val (.int i2), .val (.int i3), .val (.int i4), .val (.int n1), .val (.int n2), .val (.int c0), .val (.int c1), .unset, .unset, .unset, .unset, .unset, .unset] [(.int (i3 &&& (255 : Int32)))])
  refine B (fun tgt kt => XT.i2c S.here S.hx rfl (hb hby at_37) rfl kt) ?_
  show F T (mkF m 38 #[.val (.int i0), .val (.int i1), .val (.int i2), .val (.int i3), .val (.int i4), .val (.int n1), .val (.int n2), .val (.int c0), .val (.int c1), .unset, .unset, .unset, .unset, .unset, .unset] [(.int (i3 &&& (255 : Int32)).toUInt32.toUInt16.toUInt32.toInt32)])
  obtain ⟨c2, ec2⟩ : ∃ q, q = (i3 &&& (255 : Int32)).toUInt32.toUInt16.toUInt32.toInt32 := ⟨_, rfl⟩
  have b2 : ¬ c2 < 0 ∧ ¬ (255 : Int32) < c2 := by rw [ec2]; exact own_c8 _
  rw [← ec2]
  show F T (mkF m 38 #[.val (.int i0), .val (.int i1), .val (.int i2), .val (.int i3), .val (.int i4), .val (.int n1), .val (.int n2), .val (.int c0), .val (.int c1), .unset, .unset, .unset, .unset, .unset, .unset] [(.int c2)])
  refine B (fun tgt kt => XS.istore S.here S.hx rfl (hb hby at_38) rfl (l' := #[.val (.int i0), .val (.int i1), .val (.int i2), .val (.int i3), .val (.int i4), .val (.int n1), .val (.int n2), .val (.int c0), .val (.int c1), .val (.int c2), .unset, .unset, .unset, .unset, .unset]) rfl kt) ?_
  show F T (mkF m 40 #[.val (.int i0), .val (.int i1), .val (.int i2), .val (.int i3), .val (.int i4), .val (.int n1), .val (.int n2), .val (.int c0), .val (.int c1), .val (.int c2), .unset, .unset, .unset, .unset, .unset] [])
  refine B (fun tgt kt => XS.iload S.here S.hx rfl (hb hby at_40) rfl kt) ?_
  show F T (mkF m 42 #[.val (.int i0), .val (.int i1), .val (.int i2), .val (.int i3), .val (.int i4), .val (.int n1), .val (.int n2), .val (.int c0), .val (.int c1), .val (.int c2), .unset, .unset, .unset, .unset, .unset] [(.int i4)])
  refine B (fun tgt kt => XS.sipush S.here S.hx rfl (hb hby at_42) kt) ?_
  show F T (mkF m 45 #[.val (.int i0), .val (.int i1), .val (.int i2), .val (.int i3), .val (.int i4), .val (.int n1), .val (.int n2), .val (.int c0), .val (.int c1), .val (.int c2), .unset, .unset, .unset, .unset, .unset] [(.int (255 : Int32)), (.int i4)])
  refine B (fun tgt kt => XS.iand S.here S.hx rfl (hb hby at_45) rfl kt) ?_
  show F T (mkF m 46 #[.val (.int i0), .val (.int i1), .val (.int i2), .val (.int i3), .val (.int i4), .val (.int n1), .val (.int n2), .val (.int c0), .val (.int c1), .val (.int c2), .unset, .unset, .unset, .unset, .unset] [(.int (i4 &&& (255 : Int32)))])
  refine B (fun tgt kt => XT.i2c S.here S.hx rfl (hb hby at_46) rfl kt) ?_
  show F T (mkF m 47 #[.val (.int i0), .val (.int i1), .val (.int i2), .val (.int i3), .val (.int i4), .val (.int n1), .val (.int n2), .val (.int c0), .val (.int c1), .val (.int c2), .unset, .unset, .unset, .unset, .unset] [(.int (i4 &&& (255 : Int32)).toUInt32.toUInt16.toUInt32.toInt32)])
  obtain ⟨c3, ec3⟩ : ∃ q, q = (i4 &&& (255 : Int32)).toUInt32.toUInt16.toUInt32.toInt32 := ⟨_, rfl⟩
  have b3 : ¬ c3 < 0 ∧ ¬ (255 : Int32) < c3 := by rw [ec3]; exact own_c8 _
  rw [← ec3]
  show F T (mkF m 47 #[.val (.int i0), .val (.int i1), .val (.int i2), .val (.int i3), .val (.int i4), .val (.int n1), .val (.int n2), .val (.int c0), .val (.int c1), .val (.int c2), .unset, .unset, .unset, .unset, .unset] [(.int c3)])
  refine B (fun tgt kt => XS.istore S.here S.hx rfl (hb hby at_47) rfl (l' := #[.val (.int i0), .val (.int i1), .val (.int i2), .val (.int i3), .val (.int i4), .val (.int n1), .val (.int n2), .val (.int c0), .val (.int c1), .val (.int c2), .val (.int c3), .unset, .unset, .unset, .unset]) rfl kt) ?_
  show F T (mkF m 49 #[.val (.int i0), .val (.int i1), .val (.int i2), .val (.int i3), .val (.int i4), .val (.int n1), .val (.int n2), .val (.int c0), .val (.int c1), .val (.int c2), .val (.int c3), .unset, .unset, .unset, .unset] [])
  refine B (fun tgt kt => XS.iload S.here S.hx rfl (hb hby at_49) rfl kt) ?_
  show F T (mkF m 51 #[.val (.int i0), .val (.int i1), .val (.int i2), .val (.int i3), .val (.int i4), .val (.int n1), .val (.int n2), .val (.int c0), .val (.int c1), .val (.int c2), .val (.int c3), .unset, .unset, .unset, .unset] [(.int n1)])
  refine B (fun tgt kt => XS.iload S.here S.hx rfl (hb hby at_51) rfl kt) ?_
  show F T (mkF m 53 #[.val (.int i0), .val (.int i1), .val (.int i2), .val (.int i3), .val (.int i4), .val (.int n1), .val (.int n2), .val (.int c0), .val (.int c1), .val (.int c2), .val (.int c3), .unset, .unset, .unset, .unset] [(.int c0), (.int n1)])
  refine B (fun tgt kt => XS.iload S.here S.hx rfl (hb hby at_53) rfl kt) ?_
  show F T (mkF m 55 #[.val (.int i0), .val (.int i1), .val (.int i2), .val (.int i3), .val (.int i4), .val (.int n1), .val (.int n2), .val (.int c0), .val (.int c1), .val (.int c2), .val (.int c3), .unset, .unset, .unset, .unset] [(.int c1), (.int c0), (.int n1)])
  refine Sp.static B S (y := (⟨"org/triplebridge/mapping/ColumnSqlPinLaw", "make", "(ICC)Ljava/lang/String;"⟩ : MethodName)) (argsL := [(.int n1), (.int c0), (.int c1)]) (rest := []) (hw _ (List.mem_of_getElem? (i := 0) rfl)) (hw _ (List.mem_of_getElem? (i := 1) rfl)) (hw _ (List.mem_of_getElem? (i := 2) rfl)) (hw _ (List.mem_of_getElem? (i := 3) rfl)) (by decide) (Call.con (W := 0) (b_mk l Z a0 consts_1 hw hEW _ hS hmem zc CS hzc n1 c0 c1 d1 b0 b1) (hw _ (List.mem_of_getElem? (i := 3) rfl)) (hw _ (List.mem_of_getElem? (i := 2) rfl)) (by decide) (by decide)) (by simp) (by decide) (by decide) (by rw [hml]; rfl) (lenOf lw_p7 rfl) rfl (Nat.le_of_eq rfl) (hb hby at_55) fun v T h1 nw S hQ => ?_
  obtain ⟨x1, t1, rfl, rfl, K, G1⟩ := hQ
  show F T (mkF m 58 #[.val (.int i0), .val (.int i1), .val (.int i2), .val (.int i3), .val (.int i4), .val (.int n1), .val (.int n2), .val (.int c0), .val (.int c1), .val (.int c2), .val (.int c3), .unset, .unset, .unset, .unset] [(.ref x1)])
  refine B (fun tgt kt => XS.astore S.here S.hx rfl (hb hby at_58) rfl rfl (l' := #[.val (.int i0), .val (.int i1), .val (.int i2), .val (.int i3), .val (.int i4), .val (.int n1), .val (.int n2), .val (.int c0), .val (.int c1), .val (.int c2), .val (.int c3), .val (.ref x1), .unset, .unset, .unset]) rfl kt) ?_
  show F T (mkF m 60 #[.val (.int i0), .val (.int i1), .val (.int i2), .val (.int i3), .val (.int i4), .val (.int n1), .val (.int n2), .val (.int c0), .val (.int c1), .val (.int c2), .val (.int c3), .val (.ref x1), .unset, .unset, .unset] [])
  refine B (fun tgt kt => XS.iload S.here S.hx rfl (hb hby at_60) rfl kt) ?_
  show F T (mkF m 62 #[.val (.int i0), .val (.int i1), .val (.int i2), .val (.int i3), .val (.int i4), .val (.int n1), .val (.int n2), .val (.int c0), .val (.int c1), .val (.int c2), .val (.int c3), .val (.ref x1), .unset, .unset, .unset] [(.int n2)])
  refine B (fun tgt kt => XS.iload S.here S.hx rfl (hb hby at_62) rfl kt) ?_
  show F T (mkF m 64 #[.val (.int i0), .val (.int i1), .val (.int i2), .val (.int i3), .val (.int i4), .val (.int n1), .val (.int n2), .val (.int c0), .val (.int c1), .val (.int c2), .val (.int c3), .val (.ref x1), .unset, .unset, .unset] [(.int c2), (.int n2)])
  refine B (fun tgt kt => XS.iload S.here S.hx rfl (hb hby at_64) rfl kt) ?_
  show F T (mkF m 66 #[.val (.int i0), .val (.int i1), .val (.int i2), .val (.int i3), .val (.int i4), .val (.int n1), .val (.int n2), .val (.int c0), .val (.int c1), .val (.int c2), .val (.int c3), .val (.ref x1), .unset, .unset, .unset] [(.int c3), (.int c2), (.int n2)])
  refine Sp.static B S (y := (⟨"org/triplebridge/mapping/ColumnSqlPinLaw", "make", "(ICC)Ljava/lang/String;"⟩ : MethodName)) (argsL := [(.int n2), (.int c2), (.int c3)]) (rest := []) (hw _ (List.mem_of_getElem? (i := 0) rfl)) (hw _ (List.mem_of_getElem? (i := 1) rfl)) (hw _ (List.mem_of_getElem? (i := 2) rfl)) (hw _ (List.mem_of_getElem? (i := 3) rfl)) (by decide) (Call.con (W := 0) (b_mk l Z a0 consts_1 hw hEW _ hS hmem zc CS hzc n2 c2 c3 d2 b2 b3) (hw _ (List.mem_of_getElem? (i := 3) rfl)) (hw _ (List.mem_of_getElem? (i := 2) rfl)) (by decide) (by decide)) (by simp) (by decide) (by decide) (by rw [hml]; rfl) (lenOf lw_p7 rfl) rfl (Nat.le_of_eq rfl) (hb hby at_66) fun v T h2 nw S hQ => ?_
  obtain ⟨x2, t2, rfl, rfl, K, G2⟩ := hQ
  show F T (mkF m 69 #[.val (.int i0), .val (.int i1), .val (.int i2), .val (.int i3), .val (.int i4), .val (.int n1), .val (.int n2), .val (.int c0), .val (.int c1), .val (.int c2), .val (.int c3), .val (.ref x1), .unset, .unset, .unset] [(.ref x2)])
  replace G1 := G1.keep K (by simp) (by simp)
  refine B (fun tgt kt => XS.astore S.here S.hx rfl (hb hby at_69) rfl rfl (l' := #[.val (.int i0), .val (.int i1), .val (.int i2), .val (.int i3), .val (.int i4), .val (.int n1), .val (.int n2), .val (.int c0), .val (.int c1), .val (.int c2), .val (.int c3), .val (.ref x1), .val (.ref x2), .unset, .unset]) rfl kt) ?_
  show F T (mkF m 71 #[.val (.int i0), .val (.int i1), .val (.int i2), .val (.int i3), .val (.int i4), .val (.int n1), .val (.int n2), .val (.int c0), .val (.int c1), .val (.int c2), .val (.int c3), .val (.ref x1), .val (.ref x2), .unset, .unset] [])
  have l1 := G1.lt
  have l2 := G2.lt
  refine Sp.newO B S (hw _ (List.mem_of_getElem? (i := 26) rfl)) (hw _ (List.mem_of_getElem? (i := 27) rfl)) (hw _ (List.mem_of_getElem? (i := 28) rfl)) (hb hby at_71) (by decide) (by decide) fun T h3 x S E gx Ax D => ?_
  have O : Ob Z a0 h3 x "org/triplebridge/mapping/Column" [("org/triplebridge/mapping/Column", "table", "Ljava/lang/String;", .null), ("org/triplebridge/mapping/Column", "name", "Ljava/lang/String;", .null)] := Ob.new Ax D [("org/triplebridge/mapping/Column", "table", "Ljava/lang/String;", (.object "java/lang/String")), ("org/triplebridge/mapping/Column", "name", "Ljava/lang/String;", (.object "java/lang/String"))] (all_cons ⟨(Or.inr (hw _ (List.mem_of_getElem? (i := 39) rfl))), by decide⟩ (all_cons ⟨(Or.inr (hw _ (List.mem_of_getElem? (i := 41) rfl))), by decide⟩ all_nil))
  show F T (mkF m 74 #[.val (.int i0), .val (.int i1), .val (.int i2), .val (.int i3), .val (.int i4), .val (.int n1), .val (.int n2), .val (.int c0), .val (.int c1), .val (.int c2), .val (.int c3), .val (.ref x1), .val (.ref x2), .unset, .unset] [(.ref x)])
  replace G1 := G1.ext E
  replace G2 := G2.ext E
  refine B (fun tgt kt => XS.dup S.here S.hx rfl (hb hby at_74) rfl rfl kt) ?_
  show F T (mkF m 75 #[.val (.int i0), .val (.int i1), .val (.int i2), .val (.int i3), .val (.int i4), .val (.int n1), .val (.int n2), .val (.int c0), .val (.int c1), .val (.int c2), .val (.int c3), .val (.ref x1), .val (.ref x2), .unset, .unset] [(.ref x), (.ref x)])
  refine B (fun tgt kt => XS.aload S.here S.hx rfl (hb hby at_75) rfl rfl kt) ?_
  show F T (mkF m 77 #[.val (.int i0), .val (.int i1), .val (.int i2), .val (.int i3), .val (.int i4), .val (.int n1), .val (.int n2), .val (.int c0), .val (.int c1), .val (.int c2), .val (.int c3), .val (.ref x1), .val (.ref x2), .unset, .unset] [(.ref x1), (.ref x), (.ref x)])
  refine B (fun tgt kt => XS.aload S.here S.hx rfl (hb hby at_77) rfl rfl kt) ?_
  show F T (mkF m 79 #[.val (.int i0), .val (.int i1), .val (.int i2), .val (.int i3), .val (.int i4), .val (.int n1), .val (.int n2), .val (.int c0), .val (.int c1), .val (.int c2), .val (.int c3), .val (.ref x1), .val (.ref x2), .unset, .unset] [(.ref x2), (.ref x1), (.ref x), (.ref x)])
  refine Sp.special B S (y := (⟨"org/triplebridge/mapping/Column", "<init>", "(Ljava/lang/String;Ljava/lang/String;)V"⟩ : MethodName)) (argsL := [(.ref x1), (.ref x2)]) (rest := [(.ref x)]) rfl (hw _ (List.mem_of_getElem? (i := 29) rfl)) (hw _ (List.mem_of_getElem? (i := 30) rfl)) (hw _ (List.mem_of_getElem? (i := 31) rfl)) (by decide) (Call.con (W := 1) (b_ci l Z a0 consts_1 hw hEW _ x x1 x2 _ _ O) (hw _ (List.mem_of_getElem? (i := 31) rfl)) (hw _ (List.mem_of_getElem? (i := 28) rfl)) (by decide) (by decide)) (by simp) (by decide) (by decide) (by rw [hml]; rfl) (lenOf lw_p15 rfl) rfl (Nat.le_of_eq rfl) (hb hby at_79) fun v T h4 nw S hQ => ?_
  obtain ⟨rfl, rfl, K, O⟩ := hQ
  replace G1 := G1.keep K (nin1 (by omega)) (nin1 (by omega))
  replace G2 := G2.keep K (nin1 (by omega)) (nin1 (by omega))
  show F T (mkF m 82 #[.val (.int i0), .val (.int i1), .val (.int i2), .val (.int i3), .val (.int i4), .val (.int n1), .val (.int n2), .val (.int c0), .val (.int c1), .val (.int c2), .val (.int c3), .val (.ref x1), .val (.ref x2), .unset, .unset] [(.ref x)])
  refine Sp.virt B S (y := (⟨"org/triplebridge/mapping/Column", "sql", "()Ljava/lang/String;"⟩ : MethodName)) (C := "org/triplebridge/mapping/Column") (argsL := []) (rest := []) (hw _ (List.mem_of_getElem? (i := 42) rfl)) (hw _ (List.mem_of_getElem? (i := 43) rfl)) (hw _ (List.mem_of_getElem? (i := 45) rfl)) (hw _ (List.mem_of_getElem? (i := 45) rfl)) (hw _ (List.mem_of_getElem? (i := 44) rfl)) (by decide) (Call.con (W := 0) (b_sql l Z a0 consts_1 hw hEW _ hS hmc zc CS hzc x x1 t1 x2 t2 _ _ own_mkl own_mkl O G1 G2) (hw _ (List.mem_of_getElem? (i := 46) rfl)) (hw _ (List.mem_of_getElem? (i := 28) rfl)) (by decide) (by decide)) O.1 (by simp) (by decide) (by decide) (by rw [hml]; rfl) (lenOf lw_p18 rfl) rfl (Nat.le_of_eq rfl) (hb hby at_82) fun v T h5 nw S hQ => ?_
  obtain ⟨y, ty, rfl, rfl, K, G⟩ := hQ
  show F T (mkF m 85 #[.val (.int i0), .val (.int i1), .val (.int i2), .val (.int i3), .val (.int i4), .val (.int n1), .val (.int n2), .val (.int c0), .val (.int c1), .val (.int c2), .val (.int c3), .val (.ref x1), .val (.ref x2), .unset, .unset] [(.ref y)])
  refine B (fun tgt kt => XS.astore S.here S.hx rfl (hb hby at_85) rfl rfl (l' := #[.val (.int i0), .val (.int i1), .val (.int i2), .val (.int i3), .val (.int i4), .val (.int n1), .val (.int n2), .val (.int c0), .val (.int c1), .val (.int c2), .val (.int c3), .val (.ref x1), .val (.ref x2), .val (.ref y), .unset]) rfl kt) ?_
  show F T (mkF m 87 #[.val (.int i0), .val (.int i1), .val (.int i2), .val (.int i3), .val (.int i4), .val (.int n1), .val (.int n2), .val (.int c0), .val (.int c1), .val (.int c2), .val (.int c3), .val (.ref x1), .val (.ref x2), .val (.ref y), .unset] [])
  refine B (fun tgt kt => XS.aload S.here S.hx rfl (hb hby at_87) rfl rfl kt) ?_
  show F T (mkF m 89 #[.val (.int i0), .val (.int i1), .val (.int i2), .val (.int i3), .val (.int i4), .val (.int n1), .val (.int n2), .val (.int c0), .val (.int c1), .val (.int c2), .val (.int c3), .val (.ref x1), .val (.ref x2), .val (.ref y), .unset] [(.ref y)])
  refine B (fun tgt kt => XS.ifnullNo S.here S.hx rfl (hb hby at_89) rfl kt) ?_
  show F T (mkF m 92 #[.val (.int i0), .val (.int i1), .val (.int i2), .val (.int i3), .val (.int i4), .val (.int n1), .val (.int n2), .val (.int c0), .val (.int c1), .val (.int c2), .val (.int c3), .val (.ref x1), .val (.ref x2), .val (.ref y), .unset] [])
  rcases d1 with rfl | rfl | rfl <;> rcases d2 with rfl | rfl | rfl
  · rw [own_mk0, own_mk0] at G
    refine lw_t00 hw hEW B hby hml zc CS hzc fm SF hfm i0 i1 i2 i3 i4 c0 b0 c1 b1 c2 b2 c3 b3 x1 x2 y ty S (by decide) (by decide) G (fun T L S => ?_)
    exact hF ((S.mono (by decide) (by decide)).retI hr hlk (by simp) (by decide) (hb hby at_252) (nw := []) rfl (by simp))
  · rw [own_mk0, own_mk1] at G
    refine lw_t01 hw hEW B hby hml zc CS hzc fm SF hfm i0 i1 i2 i3 i4 c0 b0 c1 b1 c2 b2 c3 b3 x1 x2 y ty S (by decide) (by decide) G (fun T L S => ?_)
    exact hF ((S.mono (by decide) (by decide)).retI hr hlk (by simp) (by decide) (hb hby at_252) (nw := []) rfl (by simp))
  · rw [own_mk0, own_mk2] at G
    refine lw_t02 hw hEW B hby hml zc CS hzc fm SF hfm i0 i1 i2 i3 i4 c0 b0 c1 b1 c2 b2 c3 b3 x1 x2 y ty S (by decide) (by decide) G (fun T L S => ?_)
    exact hF ((S.mono (by decide) (by decide)).retI hr hlk (by simp) (by decide) (hb hby at_252) (nw := []) rfl (by simp))
  · rw [own_mk1, own_mk0] at G
    refine lw_t10 hw hEW B hby hml zc CS hzc fm SF hfm i0 i1 i2 i3 i4 c0 b0 c1 b1 c2 b2 c3 b3 x1 x2 y ty S (by decide) (by decide) G (fun T L S => ?_)
    exact hF ((S.mono (by decide) (by decide)).retI hr hlk (by simp) (by decide) (hb hby at_252) (nw := []) rfl (by simp))
  · rw [own_mk1, own_mk1] at G
    refine lw_t11 hw hEW B hby hml zc CS hzc fm SF hfm i0 i1 i2 i3 i4 c0 b0 c1 b1 c2 b2 c3 b3 x1 x2 y ty S (by decide) (by decide) G (fun T L S => ?_)
    exact hF ((S.mono (by decide) (by decide)).retI hr hlk (by simp) (by decide) (hb hby at_252) (nw := []) rfl (by simp))
  · rw [own_mk1, own_mk2] at G
    refine lw_t12 hw hEW B hby hml zc CS hzc fm SF hfm i0 i1 i2 i3 i4 c0 b0 c1 b1 c2 b2 c3 b3 x1 x2 y ty S (by decide) (by decide) G (fun T L S => ?_)
    exact hF ((S.mono (by decide) (by decide)).retI hr hlk (by simp) (by decide) (hb hby at_252) (nw := []) rfl (by simp))
  · rw [own_mk2, own_mk0] at G
    refine lw_t20 hw hEW B hby hml zc CS hzc fm SF hfm i0 i1 i2 i3 i4 c0 b0 c1 b1 c2 b2 c3 b3 x1 x2 y ty S (by decide) (by decide) G (fun T L S => ?_)
    exact hF ((S.mono (by decide) (by decide)).retI hr hlk (by simp) (by decide) (hb hby at_252) (nw := []) rfl (by simp))
  · rw [own_mk2, own_mk1] at G
    refine lw_t21 hw hEW B hby hml zc CS hzc fm SF hfm i0 i1 i2 i3 i4 c0 b0 c1 b1 c2 b2 c3 b3 x1 x2 y ty S (by decide) (by decide) G (fun T L S => ?_)
    exact hF ((S.mono (by decide) (by decide)).retI hr hlk (by simp) (by decide) (hb hby at_252) (nw := []) rfl (by simp))
  · rw [own_mk2, own_mk2] at G
    refine lw_t22 hw hEW B hby hml zc CS hzc fm SF hfm i0 i1 i2 i3 i4 c0 b0 c1 b1 c2 b2 c3 b3 x1 x2 y ty S (by decide) (by decide) G (fun T L S => ?_)
    exact hF ((S.mono (by decide) (by decide)).retI hr hlk (by simp) (by decide) (hb hby at_252) (nw := []) rfl (by simp))
set_option maxRecDepth 65536 in
set_option maxHeartbeats 40000000 in
theorem comes_1 {Post : Tables → Env → Array Value → State → Outcome → State → Prop} (hpost : ∀ tb e args s v u, (limb_1_1.after args s (.returned v) u = true ∧ limb_1_2.after args s (.returned v) u = true ∧ True) → Jvm.Pilot.@@N@@.Jvm.D.FramedW s (.returned v) u (Jvm.fieldLocs frame_1_writes args s ++ Jvm.arrayLocs frame_1_arrays args s ++ Jvm.staticLocs frame_1_statics s) 40 2240 → Post tb e args s (.returned v) u) :
    ArmFor flags0 classFile x code maxLocals ret World_1 tables_1 room_1 Calls_1 rest_1 Pre_1 Post := by
  intro l hfl _ _ p e ha hc hk s m args below hf hA hF happ hP
  obtain ⟨hcalls, hrest, hpre⟩ := hP
  obtain ⟨g1, g2, g3, hnamed, g5, g6, g7, hat⟩ := (Spec.applies_iff hf).mp happ
  obtain ⟨hg, hn⟩ := and_e (Cond.before_iff.mp (show (Jvm.Cond.and given_1 narrow_1).before args s = true from hpre))
  obtain ⟨q0, hg⟩ := and_e hg
  obtain ⟨k0, hg⟩ := and_e hg
  obtain ⟨k1, hg⟩ := and_e hg
  obtain ⟨k2, hg⟩ := and_e hg
  obtain ⟨k3, hg⟩ := and_e hg
  have k4 := hg
  obtain ⟨w0, w1, w2, w3, w4, rfl⟩ : ∃ w0 w1 w2 w3 w4 : Value, args = #[w0, w1, w2, w3, w4] := by
    have hs : args.size = 5 := by simpa [Cond.value, given_1] using q0
    obtain ⟨L⟩ := args
    match L, hs with
    | [w0, w1, w2, w3, w4], _ => exact ⟨w0, w1, w2, w3, w4, rfl⟩
  have hw := fun d (hd : d ∈ tables_1) => atoms_spec (ws := Jvm.Cond.code x code maxLocals ret :: tables_1) hat d (List.mem_cons_of_mem _ hd)
  obtain ⟨hsets, hown0⟩ := atoms_of _ (rest_1_c_eq ▸ (show rest_1_c.before _ s = true from hrest))
  obtain ⟨i0, e0⟩ := is_v k0
  obtain rfl : w0 = (.int i0) := Option.some.inj e0
  obtain ⟨i1, e1⟩ := is_v k1
  obtain rfl : w1 = (.int i1) := Option.some.inj e1
  obtain ⟨i2, e2⟩ := is_v k2
  obtain rfl : w2 = (.int i2) := Option.some.inj e2
  obtain ⟨i3, e3⟩ := is_v k3
  obtain rfl : w3 = (.int i3) := Option.some.inj e3
  obtain ⟨i4, e4⟩ := is_v k4
  obtain rfl : w4 = (.int i4) := Option.some.inj e4
  have n5 := not_v (Cond.before_iff.mp (hsets _ (List.mem_of_getElem? (i := 2) rfl)))
  obtain ⟨zc, ez⟩ := is_v (Cond.before_iff.mp (hsets _ (List.mem_of_getElem? (i := 1) rfl)))
  have CS : Sta s s.heap "java/lang/String" "COMPACT_STRINGS" "Z" (.int zc) := Sta.start ez (Or.inl (hsets _ (List.mem_of_getElem? (i := 0) rfl)))
  have hzc : ¬ zc = (0 : Int32) := gotF (Cond.eq_ints ez (Term.int_eval (0))) n5
  obtain ⟨sf0, es0, rs0⟩ := isR_v (Cond.before_iff.mp (hsets _ (List.mem_of_getElem? (i := 8) rfl)))
  have SF : Sta s s.heap "jdk/internal/util/Preconditions" "SIOOBE_FORMATTER" "Ljava/util/function/BiFunction;" sf0 := Sta.start es0 (Or.inl (hsets _ (List.mem_of_getElem? (i := 7) rfl)))
  have hheld : ∀ q ∈ consts_1, Jvm.Lit.constHeld s q.1 q.2 := hcalls.1
  have hEW : EW s #[.int i0, .int i1, .int i2, .int i3, .int i4] consts_1 := EW.cons (hw _ (List.mem_of_getElem? (i := 18) rfl)) (by decide) ( EW.cons (hw _ (List.mem_of_getElem? (i := 113) rfl)) (by decide) (EW.nil))
  have hC : CHv s consts_1 s.vm s.heap := CHv.start hEW hheld (hsets _ (List.mem_of_getElem? (i := 2) rfl)) (hw _ (List.mem_of_getElem? (i := 19) rfl)) (hw _ (List.mem_of_getElem? (i := 5) rfl))
  obtain ⟨n, o, h1, h2, h3, _, L, nw, rfl, rfl, -, N, -, -, hq⟩ := own_law l s _ hw hEW zc CS hzc sf0 SF rs0 i0 i1 i2 i3 i4 p e ha hc hk s m _ below hf ((Spec.appliesLoose_iff hf).mpr ⟨g1, g2, g3, hnamed, g5, (by rw [State.ripe_iff, Bool.and_eq_true] at g6; exact g6.1), g7, (by
    show (Jvm.Cond.and _ .tt).before _ s = true
    rw [Cond.before_and, Bool.and_eq_true]
    exact ⟨atoms_spec (ws := Jvm.Cond.code x code maxLocals ret :: tables_1) hat _ (List.mem_cons_self ..), rfl⟩)⟩) ⟨rfl, State.Warmed39.refl s, rfl, hC, ⟨Nat.le_refl _, fun _ _ q => q⟩, fun _ q => nomatch q⟩ trivial
  refine ⟨n, _, h1, h2, h3, hpost _ _ _ _ _ _ ⟨Cond.after_iff.mpr rfl, Cond.after_iff.mpr (eq_i res_at (Term.int_eval (1)) rfl), trivial⟩ ⟨hq.1, hq.2.1, hq.2.2.1, (hq.2.2.2.sift fun y hy => Or.inr (N y hy)).mono (by decide) (by decide)⟩⟩
theorem main_1_1 : Claimed_1_1 := comes_1 fun _ _ _ _ _ _ h hF => ⟨h.1, hF⟩
theorem main_1_2 : Claimed_1_2 := comes_1 fun _ _ _ _ _ _ h hF => ⟨h.2.1, hF⟩
end Jvm.Pilot.@@N@@
namespace Jvm.Pilot.@@N@@
open Jvm Jvm.ClassFile Sem Op Lib Jvm.Free Jvm.Stand Jvm.Pilot.@@N@@.Jvm.D
/-! MADE BY PROGRAM (witnessworld.py) out of the Statement's table words and the real class files: 27 classes; the members and pool entries that the words name. The judged class is class 1, her method 1. -/
namespace start1
open Jvm.ClassFile
def u (s : String) : CpInfo := .utf8 (stringToUtf16 s)
/-- a pool by its gaps: so many unusable entries, then the entry; so many at the end -/
def gap : Nat → List CpInfo → List CpInfo
  | 0, r => r
  | n + 1, r => .unusable :: gap n r
def poolList (es : List (Nat × CpInfo)) (last : Nat) : List CpInfo := es.foldr (fun e r => gap e.1 (e.2 :: r)) (gap last [])
def pool (es : List (Nat × CpInfo)) (last : Nat) : Array CpInfo := ⟨poolList es last⟩
def fileOf (pool : Array CpInfo) (this : Nat) (attrs : Array Attribute := #[]) (ms : Array MethodInfo := #[]) (fl : Nat := 33) (sup : Nat := 0) (ifs : Array Nat := #[]) (fds : Array FieldInfo := #[]) : ClassFile where
  minorVersion := 0
  majorVersion := 65
  constantPool := pool
  accessFlags := fl
  thisClass := this
  superClass := sup
  interfaces := ifs
  fields := fds
  methods := ms
  attributes := attrs
def plain (name : String) (sup : Option ClassId) : Class where
  name := name
  kind := .ordinary
  loader := none
  accessFlags := 33
  super := sup
  interfaces := #[]
  cf := none
  fields := #[]
  methods := #[]
  instanceTypes := #[]
  staticTypes := #[]
  resolved := #[]
  callSites := []
  init := .initialized
  statics := none
  mirror := none

def pool0 : Array CpInfo := pool [(5, u "<init>"), (0, u "()V"), (1, .class_ 10), (1, u "java/lang/Object")] 113

def k0c0 : Code := { maxStack := 0, maxLocals := 1, code := object_method_1_code, exceptionTable := #[], attributes := #[] }
def k0m0 : Method := { name := "<init>", desc := "()V", sig := { parameters := [], returnType := none }, accessFlags := 1, code := some k0c0 }
/-- java/lang/Object -/
def k0 : Class := { plain "java/lang/Object" none with
  accessFlags := 33
  interfaces := #[]
  cf := some (fileOf pool0 8 #[] #[{ accessFlags := 1, nameIndex := 5, descriptorIndex := 6, attributes := #[] }] 33 0 #[] #[])
  fields := #[]
  methods := #[k0m0]
  instanceTypes := #[]
  staticTypes := #[]
  resolved := Array.replicate 124 none
  statics := none }

def pool1 : Array CpInfo := pool [(2, .class_ 4), (1, u "java/lang/Object"), (0, u "<init>"), (0, u "()V"), (0, .methodref 8 9), (0, .class_ 10), (0, .nameAndType 11 12), (0, u "org/triplebridge/mapping/ColumnSqlPinLaw"), (0, u "make"), (0, u "(ICC)Ljava/lang/String;"), (0, .class_ 14), (0, u "org/triplebridge/mapping/Column"), (0, .methodref 13 16), (0, .nameAndType 5 17), (0, u "(Ljava/lang/String;Ljava/lang/String;)V"), (0, .methodref 13 19), (0, .nameAndType 20 21), (0, u "sql"), (0, u "()Ljava/lang/String;"), (0, .methodref 23 24), (0, .class_ 25), (0, .nameAndType 26 27), (0, u "java/lang/String"), (0, u "length"), (0, u "()I"), (0, .methodref 23 29), (0, .nameAndType 30 31), (0, u "charAt"), (0, u "(I)C"), (0, .methodref 23 33), (0, .nameAndType 5 34), (0, u "([C)V"), (0, .methodref 23 36), (0, .nameAndType 37 38), (0, u "valueOf"), (0, u "(C)Ljava/lang/String;"), (2, u "law"), (0, u "(IIIII)Z")] 3

def k1m0 : Method := { name := "<init>", desc := "()V", sig := { parameters := [], returnType := none }, accessFlags := 1, code := none }
def k1c1 : Code := { maxStack := 4, maxLocals := 15, code := code, exceptionTable := #[], attributes := #[] }
def k1m1 : Method := { name := "law", desc := "(IIIII)Z", sig := { parameters := [.int, .int, .int, .int, .int], returnType := some .boolean }, accessFlags := 9, code := some k1c1 }
def k1c2 : Code := { maxStack := 6, maxLocals := 3, code := method_3_code, exceptionTable := #[], attributes := #[] }
def k1m2 : Method := { name := "make", desc := "(ICC)Ljava/lang/String;", sig := { parameters := [.int, .char, .char], returnType := some (.object "java/lang/String") }, accessFlags := 10, code := some k1c2 }
/-- org/triplebridge/mapping/ColumnSqlPinLaw -/
def k1 : Class := { plain "org/triplebridge/mapping/ColumnSqlPinLaw" (some 0) with
  accessFlags := 49
  interfaces := #[]
  cf := some (fileOf pool1 8 #[] #[{ accessFlags := 1, nameIndex := 5, descriptorIndex := 6, attributes := #[] }, { accessFlags := 9, nameIndex := 41, descriptorIndex := 42, attributes := #[] }, { accessFlags := 10, nameIndex := 11, descriptorIndex := 12, attributes := #[] }] 49 2 #[] #[])
  fields := #[]
  methods := #[k1m0, k1m1, k1m2]
  instanceTypes := #[]
  staticTypes := #[]
  resolved := Array.replicate 46 none
  statics := none }

def pool2 : Array CpInfo := pool [(1, .class_ 2), (0, u "java/io/Serializable"), (0, .class_ 4), (0, u "java/lang/Object")] 2

/-- java/io/Serializable -/
def k2 : Class := { plain "java/io/Serializable" (some 0) with
  accessFlags := 1537
  interfaces := #[]
  cf := some (fileOf pool2 1 #[] #[] 1537 3 #[] #[])
  fields := #[]
  methods := #[]
  instanceTypes := #[]
  staticTypes := #[]
  resolved := Array.replicate 7 none
  statics := none }

def pool3 : Array CpInfo := pool [(1, .class_ 2), (0, u "java/lang/Comparable"), (0, .class_ 4), (0, u "java/lang/Object")] 7

/-- java/lang/Comparable -/
def k3 : Class := { plain "java/lang/Comparable" (some 0) with
  accessFlags := 1537
  interfaces := #[]
  cf := some (fileOf pool3 1 #[] #[] 1537 3 #[] #[])
  fields := #[]
  methods := #[]
  instanceTypes := #[]
  staticTypes := #[]
  resolved := Array.replicate 12 none
  statics := none }

def pool4 : Array CpInfo := pool [(2, .class_ 4), (1, u "java/lang/CharSequence"), (42, .class_ 48), (0, u "java/lang/CharSequence$1CodePointIterator"), (10, .class_ 60), (0, u "java/lang/CharSequence$1CharIterator"), (5, .class_ 67), (0, u "java/lang/Object")] 63

/-- java/lang/CharSequence -/
def k4 : Class := { plain "java/lang/CharSequence" (some 0) with
  accessFlags := 1537
  interfaces := #[]
  cf := some (fileOf pool4 2 #[.nestMembers #[47, 59]] #[] 1537 66 #[] #[])
  fields := #[]
  methods := #[]
  instanceTypes := #[]
  staticTypes := #[]
  resolved := Array.replicate 131 none
  statics := none }

def pool5 : Array CpInfo := pool [(1, .class_ 2), (0, u "java/lang/constant/Constable"), (0, .class_ 4), (0, u "java/lang/Object")] 6

/-- java/lang/constant/Constable -/
def k5 : Class := { plain "java/lang/constant/Constable" (some 0) with
  accessFlags := 1537
  interfaces := #[]
  cf := some (fileOf pool5 1 #[] #[] 1537 3 #[] #[])
  fields := #[]
  methods := #[]
  instanceTypes := #[]
  staticTypes := #[]
  resolved := Array.replicate 11 none
  statics := none }

def pool6 : Array CpInfo := pool [(1, .class_ 2), (0, u "java/lang/constant/ConstantDesc"), (0, .class_ 4), (0, u "java/lang/Object")] 32

/-- java/lang/constant/ConstantDesc -/
def k6 : Class := { plain "java/lang/constant/ConstantDesc" (some 0) with
  accessFlags := 1537
  interfaces := #[]
  cf := some (fileOf pool6 1 #[] #[] 1537 3 #[] #[])
  fields := #[]
  methods := #[]
  instanceTypes := #[]
  staticTypes := #[]
  resolved := Array.replicate 37 none
  statics := none }

def pool7 : Array CpInfo := pool [(1, .methodref 2 3), (0, .class_ 4), (0, .nameAndType 5 6), (0, u "java/lang/Object"), (0, u "<init>"), (0, u "()V"), (0, .string 8), (0, u ""), (0, .fieldref 10 11), (0, .class_ 12), (0, .nameAndType 13 14), (0, u "java/lang/String"), (0, u "value"), (0, u "[B"), (0, .fieldref 10 16), (0, .nameAndType 17 18), (0, u "coder"), (0, u "B"), (2, u "hash"), (0, u "I"), (2, u "hashIsZero"), (0, u "Z"), (0, .methodref 10 28), (0, .nameAndType 5 29), (0, u "([CIILjava/lang/Void;)V"), (8, .fieldref 10 39), (0, .nameAndType 40 26), (0, u "COMPACT_STRINGS"), (1, .class_ 44), (1, u "java/lang/StringUTF16"), (0, u "compress"), (1, .methodref 42 48), (0, .nameAndType 49 50), (0, u "coderFromArrayLen"), (0, u "([BI)B"), (2, u "toBytes"), (0, .methodref 55 56), (0, .class_ 57), (0, .nameAndType 58 59), (0, u "java/util/Arrays"), (0, u "copyOfRange"), (0, u "([BII)[B"), (47, .class_ 109), (1, u "java/lang/StringLatin1"), (32, u "()Z"), (34, .methodref 42 178), (0, .nameAndType 45 179), (0, u "([CII)[B"), (13, .class_ 195), (1, u "java/lang/System"), (13, .methodref 10 210), (0, .nameAndType 5 211), (0, u "([BB)V"), (0, .methodref 193 213), (0, .nameAndType 214 215), (0, u "arraycopy"), (0, u "(Ljava/lang/Object;ILjava/lang/Object;II)V"), (118, u "()I"), (0, .methodref 10 336), (0, .nameAndType 17 337), (0, u "()B"), (2, u "()[B"), (22, u "([BI)C"), (5, u "(C)Z"), (21, u "(II)V"), (35, u "(I)C"), (61, .methodref 10 490), (0, .nameAndType 5 491), (0, u "(Ljava/lang/AbstractStringBuilder;Ljava/lang/Void;)V"), (0, .methodref 10 493), (0, .nameAndType 494 142), (0, u "isLatin1"), (0, .methodref 107 496), (0, .nameAndType 497 363), (0, u "charAt"), (3, u "checkIndex"), (4, .nameAndType 507 334), (0, u "length"), (24, u "getBytes"), (16, .methodref 550 506), (0, .class_ 551), (0, u "java/lang/AbstractStringBuilder"), (0, .methodref 550 553), (0, .nameAndType 554 340), (0, u "getValue"), (20, .class_ 576), (0, u "java/lang/CharSequence"), (22, u "CASE_INSENSITIVE_ORDER"), (0, u "Ljava/util/Comparator;"), (181, u "valueOf"), (0, u "(C)Ljava/lang/String;"), (37, u "([BIB)V"), (188, u "([C)V"), (4, .methodref 107 1016), (0, .nameAndType 1017 369), (0, u "canEncode"), (0, .methodref 107 1019), (0, .nameAndType 53 1020), (0, u "(C)[B"), (26, .methodref 550 493), (5, .fieldref 1054 1055), (0, .class_ 1056), (0, .nameAndType 1057 1058), (0, u "jdk/internal/util/Preconditions"), (0, u "SIOOBE_FORMATTER"), (0, u "Ljava/util/function/BiFunction;"), (0, .methodref 1054 1060), (0, .nameAndType 501 1061), (0, u "(IILjava/util/function/BiFunction;)I"), (39, u "serialPersistentFields"), (0, u "[Ljava/io/ObjectStreamField;"), (0, .class_ 1104), (0, u "java/lang/String$CaseInsensitiveComparator"), (1, .class_ 1107), (0, u "java/io/Serializable"), (0, .class_ 1109), (0, u "java/lang/Comparable"), (0, .class_ 1111), (0, u "java/lang/constant/Constable"), (0, .class_ 1113), (0, u "java/lang/constant/ConstantDesc"), (2, u "serialVersionUID"), (0, u "J"), (3, u "REPL"), (0, u "C"), (2, u "LATIN1"), (1, u "UTF16"), (105, u "(Ljava/lang/StringBuilder;)V")] 217

def k7m0 : Method := { name := "<init>", desc := "()V", sig := { parameters := [], returnType := none }, accessFlags := 1, code := none }
def k7c1 : Code := { maxStack := 5, maxLocals := 2, code := jdk_42_method_3_code, exceptionTable := #[], attributes := #[] }
def k7m1 : Method := { name := "<init>", desc := "([C)V", sig := { parameters := [(.array .char)], returnType := none }, accessFlags := 1, code := some k7c1 }
def k7c2 : Code := { maxStack := 3, maxLocals := 2, code := jdk_42_method_53_code, exceptionTable := #[], attributes := #[] }
def k7m2 : Method := { name := "<init>", desc := "(Ljava/lang/StringBuilder;)V", sig := { parameters := [(.object "java/lang/StringBuilder")], returnType := none }, accessFlags := 1, code := some k7c2 }
def k7c3 : Code := { maxStack := 2, maxLocals := 1, code := jdk_42_method_54_code, exceptionTable := #[], attributes := #[] }
def k7m3 : Method := { name := "length", desc := "()I", sig := { parameters := [], returnType := some .int }, accessFlags := 1, code := some k7c3 }
def k7c4 : Code := { maxStack := 2, maxLocals := 2, code := jdk_42_method_56_code, exceptionTable := #[], attributes := #[] }
def k7m4 : Method := { name := "charAt", desc := "(I)C", sig := { parameters := [.int], returnType := some .char }, accessFlags := 1, code := some k7c4 }
def k7c5 : Code := { maxStack := 4, maxLocals := 1, code := jdk_42_method_139_code, exceptionTable := #[], attributes := #[] }
def k7m5 : Method := { name := "valueOf", desc := "(C)Ljava/lang/String;", sig := { parameters := [.char], returnType := some (.object "java/lang/String") }, accessFlags := 9, code := some k7c5 }
def k7c6 : Code := { maxStack := 5, maxLocals := 4, code := jdk_42_method_147_code, exceptionTable := #[], attributes := #[] }
def k7m6 : Method := { name := "getBytes", desc := "([BIB)V", sig := { parameters := [(.array .byte), .int, .byte], returnType := none }, accessFlags := 0, code := some k7c6 }
def k7c7 : Code := { maxStack := 4, maxLocals := 6, code := jdk_42_method_149_code, exceptionTable := #[], attributes := #[] }
def k7m7 : Method := { name := "<init>", desc := "([CIILjava/lang/Void;)V", sig := { parameters := [(.array .char), .int, .int, (.object "java/lang/Void")], returnType := none }, accessFlags := 2, code := some k7c7 }
def k7c8 : Code := { maxStack := 5, maxLocals := 5, code := jdk_42_method_150_code, exceptionTable := #[], attributes := #[] }
def k7m8 : Method := { name := "<init>", desc := "(Ljava/lang/AbstractStringBuilder;Ljava/lang/Void;)V", sig := { parameters := [(.object "java/lang/AbstractStringBuilder"), (.object "java/lang/Void")], returnType := none }, accessFlags := 0, code := some k7c8 }
def k7c9 : Code := { maxStack := 2, maxLocals := 3, code := jdk_42_method_151_code, exceptionTable := #[], attributes := #[] }
def k7m9 : Method := { name := "<init>", desc := "([BB)V", sig := { parameters := [(.array .byte), .byte], returnType := none }, accessFlags := 0, code := some k7c9 }
def k7c10 : Code := { maxStack := 1, maxLocals := 1, code := jdk_42_method_152_code, exceptionTable := #[], attributes := #[] }
def k7m10 : Method := { name := "coder", desc := "()B", sig := { parameters := [], returnType := some .byte }, accessFlags := 0, code := some k7c10 }
def k7c11 : Code := { maxStack := 1, maxLocals := 1, code := jdk_42_method_154_code, exceptionTable := #[], attributes := #[] }
def k7m11 : Method := { name := "isLatin1", desc := "()Z", sig := { parameters := [], returnType := some .boolean }, accessFlags := 0, code := some k7c11 }
def k7c12 : Code := { maxStack := 3, maxLocals := 2, code := jdk_42_method_155_code, exceptionTable := #[], attributes := #[] }
def k7m12 : Method := { name := "checkIndex", desc := "(II)V", sig := { parameters := [.int, .int], returnType := none }, accessFlags := 8, code := some k7c12 }
/-- java/lang/String -/
def k7 : Class := { plain "java/lang/String" (some 0) with
  accessFlags := 49
  interfaces := #[2, 3, 4, 5, 6]
  cf := some (fileOf pool7 10 #[.nestMembers #[1103]] #[{ accessFlags := 1, nameIndex := 5, descriptorIndex := 6, attributes := #[] }, { accessFlags := 1, nameIndex := 5, descriptorIndex := 1010, attributes := #[] }, { accessFlags := 1, nameIndex := 5, descriptorIndex := 1233, attributes := #[] }, { accessFlags := 1, nameIndex := 507, descriptorIndex := 334, attributes := #[] }, { accessFlags := 1, nameIndex := 497, descriptorIndex := 427, attributes := #[] }, { accessFlags := 9, nameIndex := 782, descriptorIndex := 783, attributes := #[] }, { accessFlags := 0, nameIndex := 532, descriptorIndex := 821, attributes := #[] }, { accessFlags := 2, nameIndex := 5, descriptorIndex := 29, attributes := #[] }, { accessFlags := 0, nameIndex := 5, descriptorIndex := 491, attributes := #[] }, { accessFlags := 0, nameIndex := 5, descriptorIndex := 211, attributes := #[] }, { accessFlags := 0, nameIndex := 17, descriptorIndex := 337, attributes := #[] }, { accessFlags := 0, nameIndex := 494, descriptorIndex := 142, attributes := #[] }, { accessFlags := 8, nameIndex := 501, descriptorIndex := 391, attributes := #[] }] 49 2 #[1106, 1108, 575, 1110, 1112] #[{ accessFlags := 18, nameIndex := 13, descriptorIndex := 14, attributes := #[] }, { accessFlags := 18, nameIndex := 17, descriptorIndex := 18, attributes := #[] }, { accessFlags := 2, nameIndex := 21, descriptorIndex := 22, attributes := #[] }, { accessFlags := 2, nameIndex := 25, descriptorIndex := 26, attributes := #[] }, { accessFlags := 26, nameIndex := 1116, descriptorIndex := 1117, attributes := #[] }, { accessFlags := 24, nameIndex := 40, descriptorIndex := 26, attributes := #[] }, { accessFlags := 26, nameIndex := 1101, descriptorIndex := 1102, attributes := #[] }, { accessFlags := 26, nameIndex := 1121, descriptorIndex := 1122, attributes := #[] }, { accessFlags := 25, nameIndex := 599, descriptorIndex := 600, attributes := #[] }, { accessFlags := 24, nameIndex := 1125, descriptorIndex := 18, attributes := #[] }, { accessFlags := 24, nameIndex := 1127, descriptorIndex := 18, attributes := #[] }])
  fields := #[{ name := "value", type := (.array .byte), accessFlags := 18, slot := 0, constantValue := 0 }, { name := "coder", type := .byte, accessFlags := 18, slot := 1, constantValue := 0 }, { name := "hash", type := .int, accessFlags := 2, slot := 2, constantValue := 0 }, { name := "hashIsZero", type := .boolean, accessFlags := 2, slot := 3, constantValue := 0 }, { name := "serialVersionUID", type := .long, accessFlags := 26, slot := 0, constantValue := 0 }, { name := "COMPACT_STRINGS", type := .boolean, accessFlags := 24, slot := 1, constantValue := 0 }, { name := "serialPersistentFields", type := (.array (.object "java/io/ObjectStreamField")), accessFlags := 26, slot := 2, constantValue := 0 }, { name := "REPL", type := .char, accessFlags := 26, slot := 3, constantValue := 0 }, { name := "CASE_INSENSITIVE_ORDER", type := (.object "java/util/Comparator"), accessFlags := 25, slot := 4, constantValue := 0 }, { name := "LATIN1", type := .byte, accessFlags := 24, slot := 5, constantValue := 0 }, { name := "UTF16", type := .byte, accessFlags := 24, slot := 6, constantValue := 0 }]
  methods := #[k7m0, k7m1, k7m2, k7m3, k7m4, k7m5, k7m6, k7m7, k7m8, k7m9, k7m10, k7m11, k7m12]
  instanceTypes := #[(.array .byte), .byte, .int, .boolean]
  staticTypes := #[.long, .boolean, (.array (.object "java/io/ObjectStreamField")), .char, (.object "java/util/Comparator"), .byte, .byte]
  resolved := Array.replicate 1451 none
  statics := some 0 }

def pool8 : Array CpInfo := pool [(1, .methodref 2 3), (0, .class_ 4), (0, .nameAndType 5 6), (0, u "java/lang/Object"), (0, u "<init>"), (0, u "()V"), (0, .class_ 8), (0, u "java/lang/Record")] 13

def k8c0 : Code := { maxStack := 1, maxLocals := 1, code := jdk_30_method_1_code, exceptionTable := #[], attributes := #[] }
def k8m0 : Method := { name := "<init>", desc := "()V", sig := { parameters := [], returnType := none }, accessFlags := 4, code := some k8c0 }
/-- java/lang/Record -/
def k8 : Class := { plain "java/lang/Record" (some 0) with
  accessFlags := 1057
  interfaces := #[]
  cf := some (fileOf pool8 7 #[] #[{ accessFlags := 4, nameIndex := 5, descriptorIndex := 6, attributes := #[] }] 1057 2 #[] #[])
  fields := #[]
  methods := #[k8m0]
  instanceTypes := #[]
  staticTypes := #[]
  resolved := Array.replicate 22 none
  statics := none }

def pool9 : Array CpInfo := pool [(1, .class_ 2), (0, u "org/triplebridge/mapping/Column"), (0, .methodref 4 5), (0, .class_ 6), (0, .nameAndType 7 8), (0, u "java/lang/Record"), (0, u "<init>"), (0, u "()V"), (0, .fieldref 1 10), (0, .nameAndType 11 12), (0, u "table"), (0, u "Ljava/lang/String;"), (0, .fieldref 1 14), (0, .nameAndType 15 12), (0, u "name"), (2, u "NAME"), (0, u "Ljava/util/regex/Pattern;"), (14, .class_ 35), (0, u "java/lang/StringBuilder"), (0, .methodref 34 5), (2, .methodref 34 40), (0, .nameAndType 41 42), (0, u "append"), (0, u "(Ljava/lang/String;)Ljava/lang/StringBuilder;"), (2, .methodref 34 46), (0, .nameAndType 47 48), (0, u "toString"), (0, u "()Ljava/lang/String;"), (9, u "(Ljava/lang/String;Ljava/lang/String;)V"), (5, u "ONE_IDENTIFIER"), (60, .string 126), (0, u "."), (19, u "PLAIN"), (3, u "DELIMITED"), (2, u "IDENTIFIER"), (15, u "sql")] 23

def k9c0 : Code := { maxStack := 2, maxLocals := 3, code := prog_19_method_1_code, exceptionTable := #[], attributes := #[] }
def k9m0 : Method := { name := "<init>", desc := "(Ljava/lang/String;Ljava/lang/String;)V", sig := { parameters := [(.object "java/lang/String"), (.object "java/lang/String")], returnType := none }, accessFlags := 1, code := some k9c0 }
def k9c1 : Code := { maxStack := 2, maxLocals := 1, code := prog_19_method_6_code, exceptionTable := #[], attributes := #[] }
def k9m1 : Method := { name := "sql", desc := "()Ljava/lang/String;", sig := { parameters := [], returnType := some (.object "java/lang/String") }, accessFlags := 1, code := some k9c1 }
/-- org/triplebridge/mapping/Column -/
def k9 : Class := { plain "org/triplebridge/mapping/Column" (some 8) with
  accessFlags := 49
  interfaces := #[]
  cf := some (fileOf pool9 1 #[] #[{ accessFlags := 1, nameIndex := 7, descriptorIndex := 58, attributes := #[] }, { accessFlags := 1, nameIndex := 169, descriptorIndex := 48, attributes := #[] }] 49 4 #[] #[{ accessFlags := 18, nameIndex := 11, descriptorIndex := 12, attributes := #[] }, { accessFlags := 18, nameIndex := 15, descriptorIndex := 12, attributes := #[] }, { accessFlags := 24, nameIndex := 146, descriptorIndex := 12, attributes := #[] }, { accessFlags := 24, nameIndex := 150, descriptorIndex := 12, attributes := #[] }, { accessFlags := 24, nameIndex := 153, descriptorIndex := 12, attributes := #[] }, { accessFlags := 26, nameIndex := 18, descriptorIndex := 19, attributes := #[] }, { accessFlags := 26, nameIndex := 64, descriptorIndex := 19, attributes := #[] }])
  fields := #[{ name := "table", type := (.object "java/lang/String"), accessFlags := 18, slot := 0, constantValue := 0 }, { name := "name", type := (.object "java/lang/String"), accessFlags := 18, slot := 1, constantValue := 0 }, { name := "PLAIN", type := (.object "java/lang/String"), accessFlags := 24, slot := 0, constantValue := 0 }, { name := "DELIMITED", type := (.object "java/lang/String"), accessFlags := 24, slot := 1, constantValue := 0 }, { name := "IDENTIFIER", type := (.object "java/lang/String"), accessFlags := 24, slot := 2, constantValue := 0 }, { name := "NAME", type := (.object "java/util/regex/Pattern"), accessFlags := 26, slot := 3, constantValue := 0 }, { name := "ONE_IDENTIFIER", type := (.object "java/util/regex/Pattern"), accessFlags := 26, slot := 4, constantValue := 0 }]
  methods := #[k9m0, k9m1]
  instanceTypes := #[(.object "java/lang/String"), (.object "java/lang/String")]
  staticTypes := #[(.object "java/lang/String"), (.object "java/lang/String"), (.object "java/lang/String"), (.object "java/util/regex/Pattern"), (.object "java/util/regex/Pattern")]
  resolved := Array.replicate 193 none
  statics := none }

def pool10 : Array CpInfo := pool [(1, .class_ 2), (0, u "java/lang/Appendable"), (0, .class_ 4), (0, u "java/lang/Object")] 9

/-- java/lang/Appendable -/
def k10 : Class := { plain "java/lang/Appendable" (some 0) with
  accessFlags := 1537
  interfaces := #[]
  cf := some (fileOf pool10 1 #[] #[] 1537 3 #[] #[])
  fields := #[]
  methods := #[]
  instanceTypes := #[]
  staticTypes := #[]
  resolved := Array.replicate 14 none
  statics := none }

def pool11 : Array CpInfo := pool [(1, .class_ 2), (0, u "java/lang/String"), (0, .methodref 4 5), (0, .class_ 6), (0, .nameAndType 7 8), (0, u "java/lang/Object"), (0, u "<init>"), (0, u "()V"), (1, .class_ 12), (1, u "java/lang/AbstractStringBuilder"), (0, u "EMPTYVALUE"), (0, u "[B"), (0, .fieldref 10 16), (0, .nameAndType 17 14), (0, u "value"), (0, .fieldref 1 19), (0, .nameAndType 20 21), (0, u "COMPACT_STRINGS"), (0, u "Z"), (0, .fieldref 10 23), (0, .nameAndType 24 25), (0, u "coder"), (0, u "B"), (6, .methodref 1 33), (0, .nameAndType 34 35), (0, u "length"), (0, u "()I"), (4, .methodref 1 41), (0, .nameAndType 24 42), (0, u "()B"), (2, u "append"), (0, u "(Ljava/lang/String;)Ljava/lang/AbstractStringBuilder;"), (1, .class_ 49), (0, u "java/lang/CharSequence"), (19, u "(Ljava/lang/String;)V"), (5, u "maybeLatin1"), (3, .fieldref 10 80), (0, .nameAndType 81 82), (0, u "count"), (0, u "I"), (2, u "isLatin1"), (0, u "()Z"), (13, .methodref 10 101), (0, .nameAndType 102 103), (0, u "ensureCapacityInternal"), (0, u "(I)V"), (104, .methodref 10 209), (0, .nameAndType 210 211), (0, u "putStringAt"), (0, u "(ILjava/lang/String;)V"), (5, u "inflateIfNeededFor"), (2, .nameAndType 221 222), (0, u "getBytes"), (0, u "([BIB)V"), (174, .methodref 10 398), (0, .nameAndType 217 69), (0, .methodref 1 220), (3, u "()[B"), (40, .class_ 445), (0, u "java/lang/Appendable"), (106, u "getValue")] 56

def k11m0 : Method := { name := "<init>", desc := "()V", sig := { parameters := [], returnType := none }, accessFlags := 0, code := none }
def k11c1 : Code := { maxStack := 2, maxLocals := 2, code := jdk_68_method_2_code, exceptionTable := #[], attributes := #[] }
def k11m1 : Method := { name := "<init>", desc := "(I)V", sig := { parameters := [.int], returnType := none }, accessFlags := 0, code := some k11c1 }
def k11c2 : Code := { maxStack := 1, maxLocals := 1, code := jdk_68_method_6_code, exceptionTable := #[], attributes := #[] }
def k11m2 : Method := { name := "length", desc := "()I", sig := { parameters := [], returnType := some .int }, accessFlags := 1, code := some k11c2 }
def k11c3 : Code := { maxStack := 4, maxLocals := 3, code := jdk_68_method_9_code, exceptionTable := #[], attributes := #[] }
def k11m3 : Method := { name := "ensureCapacityInternal", desc := "(I)V", sig := { parameters := [.int], returnType := none }, accessFlags := 2, code := some k11c3 }
def k11c4 : Code := { maxStack := 3, maxLocals := 3, code := jdk_68_method_22_code, exceptionTable := #[], attributes := #[] }
def k11m4 : Method := { name := "append", desc := "(Ljava/lang/String;)Ljava/lang/AbstractStringBuilder;", sig := { parameters := [(.object "java/lang/String")], returnType := some (.object "java/lang/AbstractStringBuilder") }, accessFlags := 1, code := some k11c4 }
def k11c5 : Code := { maxStack := 1, maxLocals := 1, code := jdk_68_method_64_code, exceptionTable := #[], attributes := #[] }
def k11m5 : Method := { name := "getValue", desc := "()[B", sig := { parameters := [], returnType := some (.array .byte) }, accessFlags := 16, code := some k11c5 }
def k11c6 : Code := { maxStack := 1, maxLocals := 1, code := jdk_68_method_68_code, exceptionTable := #[], attributes := #[] }
def k11m6 : Method := { name := "isLatin1", desc := "()Z", sig := { parameters := [], returnType := some .boolean }, accessFlags := 16, code := some k11c6 }
def k11c7 : Code := { maxStack := 2, maxLocals := 2, code := jdk_68_method_71_code, exceptionTable := #[], attributes := #[] }
def k11m7 : Method := { name := "inflateIfNeededFor", desc := "(Ljava/lang/String;)V", sig := { parameters := [(.object "java/lang/String")], returnType := none }, accessFlags := 2, code := some k11c7 }
def k11c8 : Code := { maxStack := 4, maxLocals := 3, code := jdk_68_method_73_code, exceptionTable := #[], attributes := #[] }
def k11m8 : Method := { name := "putStringAt", desc := "(ILjava/lang/String;)V", sig := { parameters := [.int, (.object "java/lang/String")], returnType := none }, accessFlags := 2, code := some k11c8 }
/-- java/lang/AbstractStringBuilder -/
def k11 : Class := { plain "java/lang/AbstractStringBuilder" (some 0) with
  accessFlags := 1056
  interfaces := #[10, 4]
  cf := some (fileOf pool11 10 #[] #[{ accessFlags := 0, nameIndex := 7, descriptorIndex := 8, attributes := #[] }, { accessFlags := 0, nameIndex := 7, descriptorIndex := 103, attributes := #[] }, { accessFlags := 1, nameIndex := 34, descriptorIndex := 35, attributes := #[] }, { accessFlags := 2, nameIndex := 102, descriptorIndex := 103, attributes := #[] }, { accessFlags := 1, nameIndex := 45, descriptorIndex := 46, attributes := #[] }, { accessFlags := 16, nameIndex := 552, descriptorIndex := 403, attributes := #[] }, { accessFlags := 16, nameIndex := 85, descriptorIndex := 86, attributes := #[] }, { accessFlags := 2, nameIndex := 217, descriptorIndex := 69, attributes := #[] }, { accessFlags := 2, nameIndex := 210, descriptorIndex := 211, attributes := #[] }] 1056 4 #[444, 48] #[{ accessFlags := 0, nameIndex := 17, descriptorIndex := 14, attributes := #[] }, { accessFlags := 0, nameIndex := 24, descriptorIndex := 25, attributes := #[] }, { accessFlags := 0, nameIndex := 75, descriptorIndex := 21, attributes := #[] }, { accessFlags := 0, nameIndex := 81, descriptorIndex := 82, attributes := #[] }, { accessFlags := 26, nameIndex := 13, descriptorIndex := 14, attributes := #[] }])
  fields := #[{ name := "value", type := (.array .byte), accessFlags := 0, slot := 0, constantValue := 0 }, { name := "coder", type := .byte, accessFlags := 0, slot := 1, constantValue := 0 }, { name := "maybeLatin1", type := .boolean, accessFlags := 0, slot := 2, constantValue := 0 }, { name := "count", type := .int, accessFlags := 0, slot := 3, constantValue := 0 }, { name := "EMPTYVALUE", type := (.array .byte), accessFlags := 26, slot := 0, constantValue := 0 }]
  methods := #[k11m0, k11m1, k11m2, k11m3, k11m4, k11m5, k11m6, k11m7, k11m8]
  instanceTypes := #[(.array .byte), .byte, .boolean, .int]
  staticTypes := #[(.array .byte)]
  resolved := Array.replicate 609 none
  statics := none }

def pool12 : Array CpInfo := pool [(1, .methodref 2 3), (0, .class_ 4), (0, .nameAndType 5 6), (0, u "java/lang/AbstractStringBuilder"), (0, u "<init>"), (0, u "(I)V"), (11, .class_ 20), (1, u "java/lang/String"), (3, .class_ 26), (1, u "java/lang/StringBuilder"), (0, u "append"), (0, u "(Ljava/lang/String;)Ljava/lang/StringBuilder;"), (0, .methodref 2 30), (0, .nameAndType 27 31), (0, u "(Ljava/lang/String;)Ljava/lang/AbstractStringBuilder;"), (105, .methodref 18 138), (0, .nameAndType 5 139), (0, u "(Ljava/lang/StringBuilder;)V"), (5, u "()V"), (10, u "()I"), (186, .methodref 2 344), (0, .nameAndType 345 156), (0, u "length"), (3, .class_ 350), (0, u "java/lang/Appendable"), (0, .class_ 352), (0, u "java/io/Serializable"), (0, .class_ 354), (0, u "java/lang/Comparable"), (0, .class_ 356), (0, u "java/lang/CharSequence"), (0, u "serialVersionUID"), (0, u "J"), (40, u "toString"), (0, u "()Ljava/lang/String;")] 21

def k12c0 : Code := { maxStack := 2, maxLocals := 1, code := jdk_67_method_1_code, exceptionTable := #[], attributes := #[] }
def k12m0 : Method := { name := "<init>", desc := "()V", sig := { parameters := [], returnType := none }, accessFlags := 1, code := some k12c0 }
def k12c1 : Code := { maxStack := 2, maxLocals := 2, code := jdk_67_method_7_code, exceptionTable := #[], attributes := #[] }
def k12m1 : Method := { name := "append", desc := "(Ljava/lang/String;)Ljava/lang/StringBuilder;", sig := { parameters := [(.object "java/lang/String")], returnType := some (.object "java/lang/StringBuilder") }, accessFlags := 1, code := some k12c1 }
def k12c2 : Code := { maxStack := 3, maxLocals := 1, code := jdk_67_method_42_code, exceptionTable := #[], attributes := #[] }
def k12m2 : Method := { name := "toString", desc := "()Ljava/lang/String;", sig := { parameters := [], returnType := some (.object "java/lang/String") }, accessFlags := 1, code := some k12c2 }
def k12c3 : Code := { maxStack := 1, maxLocals := 1, code := jdk_67_method_93_code, exceptionTable := #[], attributes := #[] }
def k12m3 : Method := { name := "length", desc := "()I", sig := { parameters := [], returnType := some .int }, accessFlags := 4161, code := some k12c3 }
/-- java/lang/StringBuilder -/
def k12 : Class := { plain "java/lang/StringBuilder" (some 11) with
  accessFlags := 49
  interfaces := #[10, 2, 3, 4]
  cf := some (fileOf pool12 24 #[] #[{ accessFlags := 1, nameIndex := 5, descriptorIndex := 145, attributes := #[] }, { accessFlags := 1, nameIndex := 27, descriptorIndex := 28, attributes := #[] }, { accessFlags := 1, nameIndex := 399, descriptorIndex := 400, attributes := #[] }, { accessFlags := 4161, nameIndex := 345, descriptorIndex := 156, attributes := #[] }] 49 2 #[349, 351, 353, 355] #[{ accessFlags := 24, nameIndex := 357, descriptorIndex := 358, attributes := #[] }])
  fields := #[{ name := "serialVersionUID", type := .long, accessFlags := 24, slot := 0, constantValue := 0 }]
  methods := #[k12m0, k12m1, k12m2, k12m3]
  instanceTypes := #[(.array .byte), .byte, .boolean, .int]
  staticTypes := #[.long]
  resolved := Array.replicate 422 none
  statics := none }

def pool13 : Array CpInfo := pool [(2, .class_ 4), (1, u "java/lang/Object"), (0, u "<init>"), (0, u "()V"), (1, .class_ 10), (1, u "java/lang/System"), (0, u "allowSecurityManager"), (0, u "I"), (16, u "cons"), (0, u "Ljava/io/Console;"), (77, .class_ 110), (1, u "java/lang/System$CallersHolder"), (43, u "initialErrStream"), (0, u "Ljava/io/PrintStream;"), (19, u "security"), (0, u "Ljava/lang/SecurityManager;"), (31, .class_ 209), (0, u "java/lang/System$1"), (7, u "props"), (0, u "Ljava/util/Properties;"), (2, u "lineSeparator"), (0, u "Ljava/lang/String;"), (96, .class_ 321), (1, u "java/lang/System$LoggerFinder"), (5, .class_ 328), (0, u "java/lang/System$Logger"), (67, u "err"), (2, u "out"), (91, u "notSupportedJnuEncoding"), (15, u "in"), (17, u "initialIn"), (0, u "Ljava/io/InputStream;"), (35, u "bootLayer"), (0, u "Ljava/lang/ModuleLayer;"), (99, .class_ 664), (0, u "java/lang/System$2"), (9, u "NEVER"), (2, u "MAYBE"), (49, u "arraycopy"), (0, u "(Ljava/lang/Object;ILjava/lang/Object;II)V"), (72, .class_ 802), (0, u "java/lang/System$Logger$Level")] 31

def k13m0 : Method := { name := "<init>", desc := "()V", sig := { parameters := [], returnType := none }, accessFlags := 2, code := none }
def k13m1 : Method := { name := "arraycopy", desc := "(Ljava/lang/Object;ILjava/lang/Object;II)V", sig := { parameters := [(.object "java/lang/Object"), .int, (.object "java/lang/Object"), .int, .int], returnType := none }, accessFlags := 265, code := none }
/-- java/lang/System -/
def k13 : Class := { plain "java/lang/System" (some 0) with
  accessFlags := 49
  interfaces := #[]
  cf := some (fileOf pool13 8 #[.nestMembers #[319, 327, 801, 108, 663, 208]] #[{ accessFlags := 2, nameIndex := 5, descriptorIndex := 6, attributes := #[] }, { accessFlags := 265, nameIndex := 727, descriptorIndex := 728, attributes := #[] }] 49 2 #[] #[{ accessFlags := 25, nameIndex := 507, descriptorIndex := 526, attributes := #[] }, { accessFlags := 25, nameIndex := 399, descriptorIndex := 155, attributes := #[] }, { accessFlags := 25, nameIndex := 396, descriptorIndex := 155, attributes := #[] }, { accessFlags := 10, nameIndex := 525, descriptorIndex := 526, attributes := #[] }, { accessFlags := 26, nameIndex := 674, descriptorIndex := 12, attributes := #[] }, { accessFlags := 26, nameIndex := 677, descriptorIndex := 12, attributes := #[] }, { accessFlags := 10, nameIndex := 11, descriptorIndex := 12, attributes := #[] }, { accessFlags := 74, nameIndex := 175, descriptorIndex := 176, attributes := #[] }, { accessFlags := 10, nameIndex := 491, descriptorIndex := 222, attributes := #[] }, { accessFlags := 74, nameIndex := 29, descriptorIndex := 30, attributes := #[] }, { accessFlags := 74, nameIndex := 154, descriptorIndex := 155, attributes := #[] }, { accessFlags := 10, nameIndex := 217, descriptorIndex := 218, attributes := #[] }, { accessFlags := 10, nameIndex := 221, descriptorIndex := 222, attributes := #[] }, { accessFlags := 8, nameIndex := 562, descriptorIndex := 563, attributes := #[] }])
  fields := #[{ name := "in", type := (.object "java/io/InputStream"), accessFlags := 25, slot := 0, constantValue := 0 }, { name := "out", type := (.object "java/io/PrintStream"), accessFlags := 25, slot := 1, constantValue := 0 }, { name := "err", type := (.object "java/io/PrintStream"), accessFlags := 25, slot := 2, constantValue := 0 }, { name := "initialIn", type := (.object "java/io/InputStream"), accessFlags := 10, slot := 3, constantValue := 0 }, { name := "NEVER", type := .int, accessFlags := 26, slot := 4, constantValue := 0 }, { name := "MAYBE", type := .int, accessFlags := 26, slot := 5, constantValue := 0 }, { name := "allowSecurityManager", type := .int, accessFlags := 10, slot := 6, constantValue := 0 }, { name := "security", type := (.object "java/lang/SecurityManager"), accessFlags := 74, slot := 7, constantValue := 0 }, { name := "notSupportedJnuEncoding", type := (.object "java/lang/String"), accessFlags := 10, slot := 8, constantValue := 0 }, { name := "cons", type := (.object "java/io/Console"), accessFlags := 74, slot := 9, constantValue := 0 }, { name := "initialErrStream", type := (.object "java/io/PrintStream"), accessFlags := 74, slot := 10, constantValue := 0 }, { name := "props", type := (.object "java/util/Properties"), accessFlags := 10, slot := 11, constantValue := 0 }, { name := "lineSeparator", type := (.object "java/lang/String"), accessFlags := 10, slot := 12, constantValue := 0 }, { name := "bootLayer", type := (.object "java/lang/ModuleLayer"), accessFlags := 8, slot := 13, constantValue := 0 }]
  methods := #[k13m0, k13m1]
  instanceTypes := #[]
  staticTypes := #[(.object "java/io/InputStream"), (.object "java/io/PrintStream"), (.object "java/io/PrintStream"), (.object "java/io/InputStream"), .int, .int, .int, (.object "java/lang/SecurityManager"), (.object "java/lang/String"), (.object "java/io/Console"), (.object "java/io/PrintStream"), (.object "java/util/Properties"), (.object "java/lang/String"), (.object "java/lang/ModuleLayer")]
  resolved := Array.replicate 834 none
  statics := none }

def pool14 : Array CpInfo := pool [(2, .class_ 4), (1, u "java/lang/Object"), (0, u "<init>"), (0, u "()V"), (7, .class_ 16), (1, u "java/util/Arrays"), (57, .class_ 76), (1, u "java/util/Arrays$NaturalOrder"), (36, .class_ 115), (1, u "java/util/Arrays$LegacyMergeSort"), (1, u "Z"), (21, u "copyOfRange"), (10, .methodref 151 152), (0, .class_ 153), (0, .nameAndType 154 155), (0, u "java/lang/System"), (0, u "arraycopy"), (0, u "(Ljava/lang/Object;ILjava/lang/Object;II)V"), (148, .methodref 305 306), (0, .class_ 307), (0, .nameAndType 308 309), (0, u "java/lang/Math"), (0, u "min"), (0, u "(II)I"), (29, .methodref 14 340), (0, .nameAndType 341 342), (0, u "copyOfRangeByte"), (0, u "([BII)[B"), (0, .methodref 14 344), (0, .nameAndType 345 346), (0, u "checkLength"), (0, u "(II)V"), (28, .class_ 376), (0, u "java/util/Arrays$ArrayList"), (68, u "$assertionsDisabled"), (269, u "MIN_ARRAY_SORT_GRAN"), (0, u "I"), (2, u "INSERTIONSORT_THRESHOLD"), (255, .class_ 976), (0, u "java/util/Arrays$ArrayItr")] 52

def k14m0 : Method := { name := "<init>", desc := "()V", sig := { parameters := [], returnType := none }, accessFlags := 2, code := none }
def k14c1 : Code := { maxStack := 4, maxLocals := 2, code := jdk_65_method_131_code, exceptionTable := #[], attributes := #[] }
def k14m1 : Method := { name := "checkLength", desc := "(II)V", sig := { parameters := [.int, .int], returnType := none }, accessFlags := 10, code := some k14c1 }
def k14c2 : Code := { maxStack := 3, maxLocals := 3, code := jdk_65_method_132_code, exceptionTable := #[], attributes := #[] }
def k14m2 : Method := { name := "copyOfRange", desc := "([BII)[B", sig := { parameters := [(.array .byte), .int, .int], returnType := some (.array .byte) }, accessFlags := 9, code := some k14c2 }
def k14c3 : Code := { maxStack := 6, maxLocals := 5, code := jdk_65_method_133_code, exceptionTable := #[], attributes := #[] }
def k14m3 : Method := { name := "copyOfRangeByte", desc := "([BII)[B", sig := { parameters := [(.array .byte), .int, .int], returnType := some (.array .byte) }, accessFlags := 10, code := some k14c3 }
/-- java/util/Arrays -/
def k14 : Class := { plain "java/util/Arrays" (some 0) with
  accessFlags := 49
  interfaces := #[]
  cf := some (fileOf pool14 14 #[.nestMembers #[975, 375, 113, 74]] #[{ accessFlags := 2, nameIndex := 5, descriptorIndex := 6, attributes := #[] }, { accessFlags := 10, nameIndex := 345, descriptorIndex := 346, attributes := #[] }, { accessFlags := 9, nameIndex := 139, descriptorIndex := 342, attributes := #[] }, { accessFlags := 10, nameIndex := 341, descriptorIndex := 342, attributes := #[] }] 49 2 #[] #[{ accessFlags := 26, nameIndex := 715, descriptorIndex := 716, attributes := #[] }, { accessFlags := 26, nameIndex := 719, descriptorIndex := 716, attributes := #[] }, { accessFlags := 4120, nameIndex := 445, descriptorIndex := 117, attributes := #[] }])
  fields := #[{ name := "MIN_ARRAY_SORT_GRAN", type := .int, accessFlags := 26, slot := 0, constantValue := 0 }, { name := "INSERTIONSORT_THRESHOLD", type := .int, accessFlags := 26, slot := 1, constantValue := 0 }, { name := "$assertionsDisabled", type := .boolean, accessFlags := 4120, slot := 2, constantValue := 0 }]
  methods := #[k14m0, k14m1, k14m2, k14m3]
  instanceTypes := #[]
  staticTypes := #[.int, .int, .boolean]
  resolved := Array.replicate 1029 none
  statics := none }

def pool15 : Array CpInfo := pool [(1, .class_ 2), (0, u "java/lang/Math"), (1, .class_ 6), (1, u "java/lang/Object"), (0, u "<init>"), (0, u "()V"), (89, .class_ 100), (1, u "java/lang/Math$RandomNumberGeneratorHolder"), (71, u "negativeZeroFloatBits"), (0, u "J"), (2, u "negativeZeroDoubleBits"), (24, u "min"), (43, u "$assertionsDisabled"), (0, u "Z"), (88, u "(II)I"), (2, u "twoToTheDoubleScaleDown"), (0, u "D"), (4, u "twoToTheDoubleScaleUp"), (9, u "E"), (3, u "PI"), (2, u "TAU"), (2, u "DEGREES_TO_RADIANS"), (0, u "RADIANS_TO_DEGREES")] 94

def k15m0 : Method := { name := "<init>", desc := "()V", sig := { parameters := [], returnType := none }, accessFlags := 2, code := none }
def k15c1 : Code := { maxStack := 2, maxLocals := 2, code := jdk_29_method_69_code, exceptionTable := #[], attributes := #[] }
def k15m1 : Method := { name := "min", desc := "(II)I", sig := { parameters := [.int, .int], returnType := some .int }, accessFlags := 9, code := some k15c1 }
/-- java/lang/Math -/
def k15 : Class := { plain "java/lang/Math" (some 0) with
  accessFlags := 49
  interfaces := #[]
  cf := some (fileOf pool15 1 #[.nestMembers #[98]] #[{ accessFlags := 2, nameIndex := 7, descriptorIndex := 8, attributes := #[] }, { accessFlags := 9, nameIndex := 201, descriptorIndex := 335, attributes := #[] }] 49 4 #[] #[{ accessFlags := 25, nameIndex := 354, descriptorIndex := 339, attributes := #[] }, { accessFlags := 25, nameIndex := 358, descriptorIndex := 339, attributes := #[] }, { accessFlags := 25, nameIndex := 361, descriptorIndex := 339, attributes := #[] }, { accessFlags := 26, nameIndex := 364, descriptorIndex := 339, attributes := #[] }, { accessFlags := 26, nameIndex := 365, descriptorIndex := 339, attributes := #[] }, { accessFlags := 26, nameIndex := 172, descriptorIndex := 173, attributes := #[] }, { accessFlags := 26, nameIndex := 176, descriptorIndex := 173, attributes := #[] }, { accessFlags := 8, nameIndex := 344, descriptorIndex := 339, attributes := #[] }, { accessFlags := 8, nameIndex := 338, descriptorIndex := 339, attributes := #[] }, { accessFlags := 4120, nameIndex := 245, descriptorIndex := 246, attributes := #[] }])
  fields := #[{ name := "E", type := .double, accessFlags := 25, slot := 0, constantValue := 0 }, { name := "PI", type := .double, accessFlags := 25, slot := 1, constantValue := 0 }, { name := "TAU", type := .double, accessFlags := 25, slot := 2, constantValue := 0 }, { name := "DEGREES_TO_RADIANS", type := .double, accessFlags := 26, slot := 3, constantValue := 0 }, { name := "RADIANS_TO_DEGREES", type := .double, accessFlags := 26, slot := 4, constantValue := 0 }, { name := "negativeZeroFloatBits", type := .long, accessFlags := 26, slot := 5, constantValue := 0 }, { name := "negativeZeroDoubleBits", type := .long, accessFlags := 26, slot := 6, constantValue := 0 }, { name := "twoToTheDoubleScaleUp", type := .double, accessFlags := 8, slot := 7, constantValue := 0 }, { name := "twoToTheDoubleScaleDown", type := .double, accessFlags := 8, slot := 8, constantValue := 0 }, { name := "$assertionsDisabled", type := .boolean, accessFlags := 4120, slot := 9, constantValue := 0 }]
  methods := #[k15m0, k15m1]
  instanceTypes := #[]
  staticTypes := #[.double, .double, .double, .double, .double, .long, .long, .double, .double, .boolean]
  resolved := Array.replicate 460 none
  statics := none }

def pool16 : Array CpInfo := pool [(1, .class_ 2), (0, u "java/lang/String"), (1, .class_ 6), (1, u "java/lang/Object"), (0, u "<init>"), (0, u "()V"), (0, .methodref 1 10), (0, .nameAndType 11 12), (0, u "checkIndex"), (0, u "(II)V"), (1, .class_ 16), (1, u "java/lang/StringLatin1"), (36, u "([BI)C"), (36, u "canEncode"), (14, u "(C)Z"), (15, u "$assertionsDisabled"), (0, u "Z"), (98, .class_ 223), (1, u "java/lang/StringLatin1$LinesSpliterator"), (28, u "charAt"), (127, u "toBytes"), (1, u "(C)[B"), (7, .class_ 391), (0, u "java/lang/StringLatin1$CharsSpliterator")] 3

def k16m0 : Method := { name := "<init>", desc := "()V", sig := { parameters := [], returnType := none }, accessFlags := 0, code := none }
def k16c1 : Code := { maxStack := 2, maxLocals := 2, code := jdk_43_method_2_code, exceptionTable := #[], attributes := #[] }
def k16m1 : Method := { name := "charAt", desc := "([BI)C", sig := { parameters := [(.array .byte), .int], returnType := some .char }, accessFlags := 9, code := some k16c1 }
def k16c2 : Code := { maxStack := 2, maxLocals := 1, code := jdk_43_method_3_code, exceptionTable := #[], attributes := #[] }
def k16m2 : Method := { name := "canEncode", desc := "(C)Z", sig := { parameters := [.char], returnType := some .boolean }, accessFlags := 9, code := some k16c2 }
def k16c3 : Code := { maxStack := 4, maxLocals := 1, code := jdk_43_method_46_code, exceptionTable := #[], attributes := #[] }
def k16m3 : Method := { name := "toBytes", desc := "(C)[B", sig := { parameters := [.char], returnType := some (.array .byte) }, accessFlags := 9, code := some k16c3 }
/-- java/lang/StringLatin1 -/
def k16 : Class := { plain "java/lang/StringLatin1" (some 0) with
  accessFlags := 48
  interfaces := #[]
  cf := some (fileOf pool16 14 #[.nestMembers #[390, 221]] #[{ accessFlags := 0, nameIndex := 7, descriptorIndex := 8, attributes := #[] }, { accessFlags := 9, nameIndex := 252, descriptorIndex := 53, attributes := #[] }, { accessFlags := 9, nameIndex := 90, descriptorIndex := 105, attributes := #[] }, { accessFlags := 9, nameIndex := 380, descriptorIndex := 382, attributes := #[] }] 48 4 #[] #[{ accessFlags := 4120, nameIndex := 121, descriptorIndex := 122, attributes := #[] }])
  fields := #[{ name := "$assertionsDisabled", type := .boolean, accessFlags := 4120, slot := 0, constantValue := 0 }]
  methods := #[k16m0, k16m1, k16m2, k16m3]
  instanceTypes := #[]
  staticTypes := #[.boolean]
  resolved := Array.replicate 395 none
  statics := none }

def pool17 : Array CpInfo := pool [(2, .class_ 4), (1, u "java/lang/Object"), (0, u "<init>"), (0, u "()V"), (17, .class_ 26), (1, u "jdk/internal/util/Preconditions"), (6, u "checkIndex"), (21, .class_ 56), (0, u "jdk/internal/util/Preconditions$4"), (57, .class_ 115), (0, u "jdk/internal/util/Preconditions$1"), (7, u "SIOOBE_FORMATTER"), (0, u "Ljava/util/function/BiFunction;"), (0, .class_ 126), (0, u "jdk/internal/util/Preconditions$2"), (3, u "AIOOBE_FORMATTER"), (0, .class_ 132), (0, u "jdk/internal/util/Preconditions$3"), (3, u "IOOBE_FORMATTER"), (41, u "(IILjava/util/function/BiFunction;)I")] 15

def k17m0 : Method := { name := "<init>", desc := "()V", sig := { parameters := [], returnType := none }, accessFlags := 1, code := none }
def k17c1 : Code := { maxStack := 3, maxLocals := 3, code := jdk_41_method_11_code, exceptionTable := #[], attributes := #[] }
def k17m1 : Method := { name := "checkIndex", desc := "(IILjava/util/function/BiFunction;)I", sig := { parameters := [.int, .int, (.object "java/util/function/BiFunction")], returnType := some .int }, accessFlags := 9, code := some k17c1 }
/-- jdk/internal/util/Preconditions -/
def k17 : Class := { plain "jdk/internal/util/Preconditions" (some 0) with
  accessFlags := 33
  interfaces := #[]
  cf := some (fileOf pool17 24 #[.nestMembers #[55, 131, 125, 114]] #[{ accessFlags := 1, nameIndex := 5, descriptorIndex := 6, attributes := #[] }, { accessFlags := 9, nameIndex := 33, descriptorIndex := 178, attributes := #[] }] 33 2 #[] #[{ accessFlags := 25, nameIndex := 123, descriptorIndex := 124, attributes := #[] }, { accessFlags := 25, nameIndex := 130, descriptorIndex := 124, attributes := #[] }, { accessFlags := 25, nameIndex := 136, descriptorIndex := 124, attributes := #[] }])
  fields := #[{ name := "SIOOBE_FORMATTER", type := (.object "java/util/function/BiFunction"), accessFlags := 25, slot := 0, constantValue := 0 }, { name := "AIOOBE_FORMATTER", type := (.object "java/util/function/BiFunction"), accessFlags := 25, slot := 1, constantValue := 0 }, { name := "IOOBE_FORMATTER", type := (.object "java/util/function/BiFunction"), accessFlags := 25, slot := 2, constantValue := 0 }]
  methods := #[k17m0, k17m1]
  instanceTypes := #[]
  staticTypes := #[(.object "java/util/function/BiFunction"), (.object "java/util/function/BiFunction"), (.object "java/util/function/BiFunction")]
  resolved := Array.replicate 194 none
  statics := some 1 }

def pool18 : Array CpInfo := pool [(6, .class_ 8), (1, u "java/lang/Object"), (0, u "<init>"), (0, u "()V"), (1, .class_ 14), (1, u "java/lang/StringUTF16"), (31, u "$assertionsDisabled"), (0, u "Z"), (13, u "HI_BYTE_SHIFT"), (0, u "I"), (2, u "LO_BYTE_SHIFT"), (49, .methodref 12 116), (0, .nameAndType 117 118), (0, u "compress"), (0, u "([CI[BII)I"), (3, u "([CII)[B"), (138, u "coderFromArrayLen"), (0, u "([BI)B"), (106, .class_ 371), (1, u "java/lang/StringUTF16$LinesSpliterator"), (58, u "MAX_LENGTH"), (196, .class_ 628), (0, u "java/lang/StringUTF16$CodePointsSpliterator"), (0, .class_ 630), (0, u "java/lang/StringUTF16$CharsSpliterator")] 4

def k18m0 : Method := { name := "<init>", desc := "()V", sig := { parameters := [], returnType := none }, accessFlags := 0, code := none }
def k18c1 : Code := { maxStack := 2, maxLocals := 2, code := jdk_52_method_15_code, exceptionTable := #[], attributes := #[] }
def k18m1 : Method := { name := "coderFromArrayLen", desc := "([BI)B", sig := { parameters := [(.array .byte), .int], returnType := some .byte }, accessFlags := 8, code := some k18c1 }
def k18c2 : Code := { maxStack := 5, maxLocals := 6, code := jdk_52_method_16_code, exceptionTable := #[], attributes := #[] }
def k18m2 : Method := { name := "compress", desc := "([CII)[B", sig := { parameters := [(.array .char), .int, .int], returnType := some (.array .byte) }, accessFlags := 9, code := some k18c2 }
def k18c3 : Code := { maxStack := 3, maxLocals := 7, code := jdk_52_method_21_code, exceptionTable := #[], attributes := #[] }
def k18m3 : Method := { name := "compress", desc := "([CI[BII)I", sig := { parameters := [(.array .char), .int, (.array .byte), .int, .int], returnType := some .int }, accessFlags := 9, code := some k18c3 }
/-- java/lang/StringUTF16 -/
def k18 : Class := { plain "java/lang/StringUTF16" (some 0) with
  accessFlags := 48
  interfaces := #[]
  cf := some (fileOf pool18 12 #[.nestMembers #[627, 629, 369]] #[{ accessFlags := 0, nameIndex := 9, descriptorIndex := 10, attributes := #[] }, { accessFlags := 8, nameIndex := 261, descriptorIndex := 262, attributes := #[] }, { accessFlags := 9, nameIndex := 117, descriptorIndex := 122, attributes := #[] }, { accessFlags := 9, nameIndex := 117, descriptorIndex := 118, attributes := #[] }] 48 6 #[] #[{ accessFlags := 26, nameIndex := 61, descriptorIndex := 62, attributes := #[] }, { accessFlags := 26, nameIndex := 65, descriptorIndex := 62, attributes := #[] }, { accessFlags := 24, nameIndex := 430, descriptorIndex := 62, attributes := #[] }, { accessFlags := 4120, nameIndex := 46, descriptorIndex := 47, attributes := #[] }])
  fields := #[{ name := "HI_BYTE_SHIFT", type := .int, accessFlags := 26, slot := 0, constantValue := 0 }, { name := "LO_BYTE_SHIFT", type := .int, accessFlags := 26, slot := 1, constantValue := 0 }, { name := "MAX_LENGTH", type := .int, accessFlags := 24, slot := 2, constantValue := 0 }, { name := "$assertionsDisabled", type := .boolean, accessFlags := 4120, slot := 3, constantValue := 0 }]
  methods := #[k18m0, k18m1, k18m2, k18m3]
  instanceTypes := #[]
  staticTypes := #[.int, .int, .int, .boolean]
  resolved := Array.replicate 635 none
  statics := none }

def pool19 : Array CpInfo := pool [(9, u "<init>"), (6, .class_ 18), (1, u "java/lang/Object"), (0, u "()V"), (1, .class_ 23), (1, u "jdk/internal/util/ArraysSupport"), (0, u "LOG2_ARRAY_LONG_INDEX_SCALE"), (0, u "I"), (2, u "U"), (0, u "Ljdk/internal/misc/Unsafe;"), (8, u "BIG_ENDIAN"), (0, u "Z"), (8, u "LOG2_BYTE_BIT_SIZE"), (4, u "LOG2_ARRAY_INT_INDEX_SCALE"), (54, u "JLA"), (0, u "Ljdk/internal/access/JavaLangAccess;"), (11, u "LOG2_ARRAY_BOOLEAN_INDEX_SCALE"), (9, u "LOG2_ARRAY_BYTE_INDEX_SCALE"), (5, u "LOG2_ARRAY_CHAR_INDEX_SCALE"), (5, u "LOG2_ARRAY_SHORT_INDEX_SCALE"), (18, u "LOG2_ARRAY_FLOAT_INDEX_SCALE"), (24, u "LOG2_ARRAY_DOUBLE_INDEX_SCALE"), (89, u "T_BOOLEAN"), (2, u "T_CHAR"), (1, u "T_FLOAT"), (1, u "T_DOUBLE"), (1, u "T_BYTE"), (1, u "T_SHORT"), (1, u "T_INT"), (1, u "T_LONG"), (1, u "SOFT_MAX_ARRAY_LENGTH")] 83

def k19m0 : Method := { name := "<init>", desc := "()V", sig := { parameters := [], returnType := none }, accessFlags := 2, code := none }
/-- jdk/internal/util/ArraysSupport -/
def k19 : Class := { plain "jdk/internal/util/ArraysSupport" (some 0) with
  accessFlags := 33
  interfaces := #[]
  cf := some (fileOf pool19 21 #[] #[{ accessFlags := 2, nameIndex := 9, descriptorIndex := 19, attributes := #[] }] 33 16 #[] #[{ accessFlags := 24, nameIndex := 28, descriptorIndex := 29, attributes := #[] }, { accessFlags := 26, nameIndex := 38, descriptorIndex := 39, attributes := #[] }, { accessFlags := 25, nameIndex := 121, descriptorIndex := 25, attributes := #[] }, { accessFlags := 25, nameIndex := 131, descriptorIndex := 25, attributes := #[] }, { accessFlags := 25, nameIndex := 137, descriptorIndex := 25, attributes := #[] }, { accessFlags := 25, nameIndex := 143, descriptorIndex := 25, attributes := #[] }, { accessFlags := 25, nameIndex := 53, descriptorIndex := 25, attributes := #[] }, { accessFlags := 25, nameIndex := 24, descriptorIndex := 25, attributes := #[] }, { accessFlags := 25, nameIndex := 162, descriptorIndex := 25, attributes := #[] }, { accessFlags := 25, nameIndex := 187, descriptorIndex := 25, attributes := #[] }, { accessFlags := 26, nameIndex := 48, descriptorIndex := 25, attributes := #[] }, { accessFlags := 25, nameIndex := 277, descriptorIndex := 25, attributes := #[] }, { accessFlags := 25, nameIndex := 280, descriptorIndex := 25, attributes := #[] }, { accessFlags := 25, nameIndex := 282, descriptorIndex := 25, attributes := #[] }, { accessFlags := 25, nameIndex := 284, descriptorIndex := 25, attributes := #[] }, { accessFlags := 25, nameIndex := 286, descriptorIndex := 25, attributes := #[] }, { accessFlags := 25, nameIndex := 288, descriptorIndex := 25, attributes := #[] }, { accessFlags := 25, nameIndex := 290, descriptorIndex := 25, attributes := #[] }, { accessFlags := 25, nameIndex := 292, descriptorIndex := 25, attributes := #[] }, { accessFlags := 26, nameIndex := 108, descriptorIndex := 109, attributes := #[] }, { accessFlags := 25, nameIndex := 294, descriptorIndex := 25, attributes := #[] }])
  fields := #[{ name := "U", type := (.object "jdk/internal/misc/Unsafe"), accessFlags := 24, slot := 0, constantValue := 0 }, { name := "BIG_ENDIAN", type := .boolean, accessFlags := 26, slot := 1, constantValue := 0 }, { name := "LOG2_ARRAY_BOOLEAN_INDEX_SCALE", type := .int, accessFlags := 25, slot := 2, constantValue := 0 }, { name := "LOG2_ARRAY_BYTE_INDEX_SCALE", type := .int, accessFlags := 25, slot := 3, constantValue := 0 }, { name := "LOG2_ARRAY_CHAR_INDEX_SCALE", type := .int, accessFlags := 25, slot := 4, constantValue := 0 }, { name := "LOG2_ARRAY_SHORT_INDEX_SCALE", type := .int, accessFlags := 25, slot := 5, constantValue := 0 }, { name := "LOG2_ARRAY_INT_INDEX_SCALE", type := .int, accessFlags := 25, slot := 6, constantValue := 0 }, { name := "LOG2_ARRAY_LONG_INDEX_SCALE", type := .int, accessFlags := 25, slot := 7, constantValue := 0 }, { name := "LOG2_ARRAY_FLOAT_INDEX_SCALE", type := .int, accessFlags := 25, slot := 8, constantValue := 0 }, { name := "LOG2_ARRAY_DOUBLE_INDEX_SCALE", type := .int, accessFlags := 25, slot := 9, constantValue := 0 }, { name := "LOG2_BYTE_BIT_SIZE", type := .int, accessFlags := 26, slot := 10, constantValue := 0 }, { name := "T_BOOLEAN", type := .int, accessFlags := 25, slot := 11, constantValue := 0 }, { name := "T_CHAR", type := .int, accessFlags := 25, slot := 12, constantValue := 0 }, { name := "T_FLOAT", type := .int, accessFlags := 25, slot := 13, constantValue := 0 }, { name := "T_DOUBLE", type := .int, accessFlags := 25, slot := 14, constantValue := 0 }, { name := "T_BYTE", type := .int, accessFlags := 25, slot := 15, constantValue := 0 }, { name := "T_SHORT", type := .int, accessFlags := 25, slot := 16, constantValue := 0 }, { name := "T_INT", type := .int, accessFlags := 25, slot := 17, constantValue := 0 }, { name := "T_LONG", type := .int, accessFlags := 25, slot := 18, constantValue := 0 }, { name := "JLA", type := (.object "jdk/internal/access/JavaLangAccess"), accessFlags := 26, slot := 19, constantValue := 0 }, { name := "SOFT_MAX_ARRAY_LENGTH", type := .int, accessFlags := 25, slot := 20, constantValue := 0 }]
  methods := #[k19m0]
  instanceTypes := #[]
  staticTypes := #[(.object "jdk/internal/misc/Unsafe"), .boolean, .int, .int, .int, .int, .int, .int, .int, .int, .int, .int, .int, .int, .int, .int, .int, .int, .int, (.object "jdk/internal/access/JavaLangAccess"), .int]
  resolved := Array.replicate 378 none
  statics := none }

def pool20 : Array CpInfo := pool [(1, u "java/lang/Cloneable"), (0, .class_ 1), (0, u "java/lang/Object"), (0, .class_ 3)] 3

/-- java/lang/Cloneable -/
def k20 : Class := { plain "java/lang/Cloneable" (some 0) with
  accessFlags := 1537
  interfaces := #[]
  cf := some (fileOf pool20 2 #[] #[] 1537 4 #[] #[])
  fields := #[]
  methods := #[]
  instanceTypes := #[]
  staticTypes := #[]
  resolved := Array.replicate 8 none
  statics := none }

/-- the primitive byte -/
def k21 : Class := { plain "byte" none with kind := .primitive 'B', accessFlags := 0x411 }
/-- [B -/
def k22 : Class := { plain "[B" (some 0) with kind := .array 21 .byte, interfaces := #[20, 2], accessFlags := 1041 }

/-- the primitive char -/
def k23 : Class := { plain "char" none with kind := .primitive 'C', accessFlags := 0x411 }
/-- [C -/
def k24 : Class := { plain "[C" (some 0) with kind := .array 23 .char, interfaces := #[20, 2], accessFlags := 1041 }

/-- the primitive int -/
def k25 : Class := { plain "int" none with kind := .primitive 'I', accessFlags := 0x411 }
/-- [I -/
def k26 : Class := { plain "[I" (some 0) with kind := .array 25 .int, interfaces := #[20, 2], accessFlags := 1041 }

def heap : Heap := #[{ cls := 7, slots := #[.long 0, .int 1, .null, .int 0, .null, .int 0, .int 0], vm := .statics 7 },
  { cls := 17, slots := #[.null, .null, .null], vm := .statics 17 }]
def classes : Array Class := #[k0, k1, k2, k3, k4, k5, k6, k7, k8, k9, k10, k11, k12, k13, k14, k15, k16, k17, k18, k19, k20, k21, k22, k23, k24, k25, k26]
def interned : List (Array UInt16 × Addr) := []
def slotsUsed : Nat := 10
def theMethod : MethodId := ⟨1, 1⟩
def args0 : Array Value := #[.int 65, .int 66, .int 67, .int 68, .int 69]
def aboutOver (below : List Frame) : State where
  vm := { classes := classes, interned := interned.toArray }
  heap := heap
  slotsUsed := slotsUsed
  threads := #[{ frames := .invoking theMethod args0 :: below }]
def below0 : List Frame := [.native { method := ⟨0, 0⟩, args := #[] }]
def about1 : State := aboutOver below0
def p0 : Program := .bare "" "" ""
def e0 : Env := launch0.env 0 0 0
theorem w_frames : about1.frames = Frame.invoking theMethod args0 :: below0 := rfl
set_option maxRecDepth 65536 in
theorem w_args : argsFit about1.vm theMethod args0 = true := by decide +kernel
set_option maxRecDepth 65536 in
theorem w_heap : heapFits about1 = true := by decide +kernel
set_option maxRecDepth 65536 in
theorem w_runnable : about1.curStatus? = some .runnable := by decide +kernel
set_option maxRecDepth 65536 in
theorem w_alone : about1.alone = true := by decide +kernel
set_option maxRecDepth 65536 in
theorem w_named : about1.methodNamed? x = some theMethod := by decide +kernel
set_option maxRecDepth 65536 in
theorem w_hears : about1.hears theMethod below0 = true := by decide +kernel
set_option maxRecDepth 65536 in
theorem w_ripe : about1.ripe theMethod args0 below0 = true := by decide +kernel
theorem w_running : about1.status = .running := rfl
set_option maxRecDepth 65536 in
theorem w_room : about1.hasRoom e0.platform room_1 = true :=
  launch0.hasRoom_least _ room_1 (by decide +kernel) (by decide +kernel) (by decide +kernel) (by decide +kernel) (by decide +kernel) (by decide +kernel)
theorem allAtoms_all (ts : List Jvm.Cond) (a : Array Jvm.Value) (st : Jvm.State) : (allAtoms ts).before a st = ts.all (fun c => c.before a st) := by
  induction ts with
  | nil => rfl
  | cons c t ih =>
    show (Jvm.Cond.and c (allAtoms t)).before a st = _
    rw [Jvm.Cond.before_and, ih, List.all_cons]
def words1 : List Jvm.Cond := Jvm.Cond.code x code maxLocals ret :: tables_1
/-- a 'code' word, met by the world's own term for the bytes: nothing is compared byte by byte -/
theorem code_word {y : MethodName} {bytes : ByteArray} {mx : Nat} {rt : Option FieldType} {a : Array Value} {s : State} {m : MethodId} {meth : Method} {c : Code} (h1 : s.methodNamed? y = some m) (h2 : s.vm.method? m = some meth) (h3 : meth.code = some c) (h4 : c.code = bytes)
    (h5 : (c.maxLocals == mx && c.exceptionTable.isEmpty && decide (c.maxStack ≤ mostOperands) && decide (meth.sig.returnType = rt) && !meth.locks && decide (parseMethodDescriptor y.desc = some meth.sig)) = true) : (Jvm.Cond.code y bytes mx rt).before a s = true := by
  simp only [Bool.and_eq_true, beq_iff_eq, Bool.not_eq_true', decide_eq_true_eq] at h5
  obtain ⟨⟨⟨⟨⟨g1, g2⟩, g3⟩, g4⟩, g5⟩, g6⟩ := h5
  simp [Cond.before, Cond.holds, Cond.value, h1, h2, h3, h4, g1, g2, g3, g4, g5, g6]
def isCode : Jvm.Cond → Bool
  | .code _ _ _ _ => true
  | _ => false
theorem all_split {L : List Jvm.Cond} {P : Jvm.Cond → Bool} (h1 : L.all (fun c => isCode c || P c) = true) (h2 : ∀ c ∈ L.filter isCode, P c = true) : L.all P = true := by
  refine List.all_eq_true.mpr fun c hc => ?_
  have h := List.all_eq_true.mp h1 c hc
  rcases Bool.eq_false_or_eq_true (isCode c) with hi | hi
  · exact h2 c (List.mem_filter.mpr ⟨hc, hi⟩)
  · simpa [hi] using h
set_option maxRecDepth 65536 in
theorem w_c0 : (Jvm.Cond.code x code maxLocals ret).before args0 about1 = true := code_word (m := ⟨1, 1⟩) (meth := k1m1) (c := k1c1) (by decide +kernel) rfl rfl rfl (by decide +kernel)
set_option maxRecDepth 65536 in
theorem w_c1 : (Jvm.Cond.code ({ cls := "org/triplebridge/mapping/ColumnSqlPinLaw", name := "make", desc := "(ICC)Ljava/lang/String;" } : Jvm.MethodName) method_3_code (3 : Nat) (Option.some (Jvm.ClassFile.FieldType.object "java/lang/String"))).before args0 about1 = true := code_word (m := ⟨1, 2⟩) (meth := k1m2) (c := k1c2) (by decide +kernel) rfl rfl rfl (by decide +kernel)
set_option maxRecDepth 65536 in
theorem w_c2 : (Jvm.Cond.code ({ cls := "java/lang/String", name := "<init>", desc := "([C)V" } : Jvm.MethodName) jdk_42_method_3_code (2 : Nat) (Option.none : Option Jvm.ClassFile.FieldType)).before args0 about1 = true := code_word (m := ⟨7, 1⟩) (meth := k7m1) (c := k7c1) (by decide +kernel) rfl rfl rfl (by decide +kernel)
set_option maxRecDepth 65536 in
theorem w_c3 : (Jvm.Cond.code ({ cls := "java/lang/String", name := "<init>", desc := "([CIILjava/lang/Void;)V" } : Jvm.MethodName) jdk_42_method_149_code (6 : Nat) (Option.none : Option Jvm.ClassFile.FieldType)).before args0 about1 = true := code_word (m := ⟨7, 7⟩) (meth := k7m7) (c := k7c7) (by decide +kernel) rfl rfl rfl (by decide +kernel)
set_option maxRecDepth 65536 in
theorem w_c4 : (Jvm.Cond.code ({ cls := "java/lang/Object", name := "<init>", desc := "()V" } : Jvm.MethodName) object_method_1_code (1 : Nat) (Option.none : Option Jvm.ClassFile.FieldType)).before args0 about1 = true := code_word (m := ⟨0, 0⟩) (meth := k0m0) (c := k0c0) (by decide +kernel) rfl rfl rfl (by decide +kernel)
set_option maxRecDepth 65536 in
theorem w_c5 : (Jvm.Cond.code ({ cls := "org/triplebridge/mapping/Column", name := "<init>", desc := "(Ljava/lang/String;Ljava/lang/String;)V" } : Jvm.MethodName) prog_19_method_1_code (3 : Nat) (Option.none : Option Jvm.ClassFile.FieldType)).before args0 about1 = true := code_word (m := ⟨9, 0⟩) (meth := k9m0) (c := k9c0) (by decide +kernel) rfl rfl rfl (by decide +kernel)
set_option maxRecDepth 65536 in
theorem w_c6 : (Jvm.Cond.code ({ cls := "java/lang/Record", name := "<init>", desc := "()V" } : Jvm.MethodName) jdk_30_method_1_code (1 : Nat) (Option.none : Option Jvm.ClassFile.FieldType)).before args0 about1 = true := code_word (m := ⟨8, 0⟩) (meth := k8m0) (c := k8c0) (by decide +kernel) rfl rfl rfl (by decide +kernel)
set_option maxRecDepth 65536 in
theorem w_c7 : (Jvm.Cond.code ({ cls := "org/triplebridge/mapping/Column", name := "sql", desc := "()Ljava/lang/String;" } : Jvm.MethodName) prog_19_method_6_code (1 : Nat) (Option.some (Jvm.ClassFile.FieldType.object "java/lang/String"))).before args0 about1 = true := code_word (m := ⟨9, 1⟩) (meth := k9m1) (c := k9c1) (by decide +kernel) rfl rfl rfl (by decide +kernel)
set_option maxRecDepth 65536 in
theorem w_c8 : (Jvm.Cond.code ({ cls := "java/lang/StringBuilder", name := "<init>", desc := "()V" } : Jvm.MethodName) jdk_67_method_1_code (1 : Nat) (Option.none : Option Jvm.ClassFile.FieldType)).before args0 about1 = true := code_word (m := ⟨12, 0⟩) (meth := k12m0) (c := k12c0) (by decide +kernel) rfl rfl rfl (by decide +kernel)
set_option maxRecDepth 65536 in
theorem w_c9 : (Jvm.Cond.code ({ cls := "java/lang/AbstractStringBuilder", name := "<init>", desc := "(I)V" } : Jvm.MethodName) jdk_68_method_2_code (2 : Nat) (Option.none : Option Jvm.ClassFile.FieldType)).before args0 about1 = true := code_word (m := ⟨11, 1⟩) (meth := k11m1) (c := k11c1) (by decide +kernel) rfl rfl rfl (by decide +kernel)
set_option maxRecDepth 65536 in
theorem w_c10 : (Jvm.Cond.code ({ cls := "java/lang/StringBuilder", name := "append", desc := "(Ljava/lang/String;)Ljava/lang/StringBuilder;" } : Jvm.MethodName) jdk_67_method_7_code (2 : Nat) (Option.some (Jvm.ClassFile.FieldType.object "java/lang/StringBuilder"))).before args0 about1 = true := code_word (m := ⟨12, 1⟩) (meth := k12m1) (c := k12c1) (by decide +kernel) rfl rfl rfl (by decide +kernel)
set_option maxRecDepth 65536 in
theorem w_c11 : (Jvm.Cond.code ({ cls := "java/lang/AbstractStringBuilder", name := "append", desc := "(Ljava/lang/String;)Ljava/lang/AbstractStringBuilder;" } : Jvm.MethodName) jdk_68_method_22_code (3 : Nat) (Option.some (Jvm.ClassFile.FieldType.object "java/lang/AbstractStringBuilder"))).before args0 about1 = true := code_word (m := ⟨11, 4⟩) (meth := k11m4) (c := k11c4) (by decide +kernel) rfl rfl rfl (by decide +kernel)
set_option maxRecDepth 65536 in
theorem w_c12 : (Jvm.Cond.code ({ cls := "java/lang/String", name := "length", desc := "()I" } : Jvm.MethodName) jdk_42_method_54_code (1 : Nat) (Option.some Jvm.ClassFile.FieldType.int)).before args0 about1 = true := code_word (m := ⟨7, 3⟩) (meth := k7m3) (c := k7c3) (by decide +kernel) rfl rfl rfl (by decide +kernel)
set_option maxRecDepth 65536 in
theorem w_c13 : (Jvm.Cond.code ({ cls := "java/lang/String", name := "coder", desc := "()B" } : Jvm.MethodName) jdk_42_method_152_code (1 : Nat) (Option.some Jvm.ClassFile.FieldType.byte)).before args0 about1 = true := code_word (m := ⟨7, 10⟩) (meth := k7m10) (c := k7c10) (by decide +kernel) rfl rfl rfl (by decide +kernel)
set_option maxRecDepth 65536 in
theorem w_c14 : (Jvm.Cond.code ({ cls := "java/lang/AbstractStringBuilder", name := "ensureCapacityInternal", desc := "(I)V" } : Jvm.MethodName) jdk_68_method_9_code (3 : Nat) (Option.none : Option Jvm.ClassFile.FieldType)).before args0 about1 = true := code_word (m := ⟨11, 3⟩) (meth := k11m3) (c := k11c3) (by decide +kernel) rfl rfl rfl (by decide +kernel)
set_option maxRecDepth 65536 in
theorem w_c15 : (Jvm.Cond.code ({ cls := "java/lang/AbstractStringBuilder", name := "putStringAt", desc := "(ILjava/lang/String;)V" } : Jvm.MethodName) jdk_68_method_73_code (3 : Nat) (Option.none : Option Jvm.ClassFile.FieldType)).before args0 about1 = true := code_word (m := ⟨11, 8⟩) (meth := k11m8) (c := k11c8) (by decide +kernel) rfl rfl rfl (by decide +kernel)
set_option maxRecDepth 65536 in
theorem w_c16 : (Jvm.Cond.code ({ cls := "java/lang/AbstractStringBuilder", name := "inflateIfNeededFor", desc := "(Ljava/lang/String;)V" } : Jvm.MethodName) jdk_68_method_71_code (2 : Nat) (Option.none : Option Jvm.ClassFile.FieldType)).before args0 about1 = true := code_word (m := ⟨11, 7⟩) (meth := k11m7) (c := k11c7) (by decide +kernel) rfl rfl rfl (by decide +kernel)
set_option maxRecDepth 65536 in
theorem w_c17 : (Jvm.Cond.code ({ cls := "java/lang/String", name := "getBytes", desc := "([BIB)V" } : Jvm.MethodName) jdk_42_method_147_code (4 : Nat) (Option.none : Option Jvm.ClassFile.FieldType)).before args0 about1 = true := code_word (m := ⟨7, 6⟩) (meth := k7m6) (c := k7c6) (by decide +kernel) rfl rfl rfl (by decide +kernel)
set_option maxRecDepth 65536 in
theorem w_c18 : (Jvm.Cond.code ({ cls := "java/lang/StringBuilder", name := "toString", desc := "()Ljava/lang/String;" } : Jvm.MethodName) jdk_67_method_42_code (1 : Nat) (Option.some (Jvm.ClassFile.FieldType.object "java/lang/String"))).before args0 about1 = true := code_word (m := ⟨12, 2⟩) (meth := k12m2) (c := k12c2) (by decide +kernel) rfl rfl rfl (by decide +kernel)
set_option maxRecDepth 65536 in
theorem w_c19 : (Jvm.Cond.code ({ cls := "java/lang/String", name := "<init>", desc := "(Ljava/lang/StringBuilder;)V" } : Jvm.MethodName) jdk_42_method_53_code (2 : Nat) (Option.none : Option Jvm.ClassFile.FieldType)).before args0 about1 = true := code_word (m := ⟨7, 2⟩) (meth := k7m2) (c := k7c2) (by decide +kernel) rfl rfl rfl (by decide +kernel)
set_option maxRecDepth 65536 in
theorem w_c20 : (Jvm.Cond.code ({ cls := "java/lang/String", name := "<init>", desc := "(Ljava/lang/AbstractStringBuilder;Ljava/lang/Void;)V" } : Jvm.MethodName) jdk_42_method_150_code (5 : Nat) (Option.none : Option Jvm.ClassFile.FieldType)).before args0 about1 = true := code_word (m := ⟨7, 8⟩) (meth := k7m8) (c := k7c8) (by decide +kernel) rfl rfl rfl (by decide +kernel)
set_option maxRecDepth 65536 in
theorem w_c21 : (Jvm.Cond.code ({ cls := "java/lang/AbstractStringBuilder", name := "getValue", desc := "()[B" } : Jvm.MethodName) jdk_68_method_64_code (1 : Nat) (Option.some (Jvm.ClassFile.FieldType.array Jvm.ClassFile.FieldType.byte))).before args0 about1 = true := code_word (m := ⟨11, 5⟩) (meth := k11m5) (c := k11c5) (by decide +kernel) rfl rfl rfl (by decide +kernel)
set_option maxRecDepth 65536 in
theorem w_c22 : (Jvm.Cond.code ({ cls := "java/lang/StringBuilder", name := "length", desc := "()I" } : Jvm.MethodName) jdk_67_method_93_code (1 : Nat) (Option.some Jvm.ClassFile.FieldType.int)).before args0 about1 = true := code_word (m := ⟨12, 3⟩) (meth := k12m3) (c := k12c3) (by decide +kernel) rfl rfl rfl (by decide +kernel)
set_option maxRecDepth 65536 in
theorem w_c23 : (Jvm.Cond.code ({ cls := "java/lang/AbstractStringBuilder", name := "length", desc := "()I" } : Jvm.MethodName) jdk_68_method_6_code (1 : Nat) (Option.some Jvm.ClassFile.FieldType.int)).before args0 about1 = true := code_word (m := ⟨11, 2⟩) (meth := k11m2) (c := k11c2) (by decide +kernel) rfl rfl rfl (by decide +kernel)
set_option maxRecDepth 65536 in
theorem w_c24 : (Jvm.Cond.code ({ cls := "java/lang/AbstractStringBuilder", name := "isLatin1", desc := "()Z" } : Jvm.MethodName) jdk_68_method_68_code (1 : Nat) (Option.some Jvm.ClassFile.FieldType.boolean)).before args0 about1 = true := code_word (m := ⟨11, 6⟩) (meth := k11m6) (c := k11c6) (by decide +kernel) rfl rfl rfl (by decide +kernel)
set_option maxRecDepth 65536 in
theorem w_c25 : (Jvm.Cond.code ({ cls := "java/util/Arrays", name := "copyOfRange", desc := "([BII)[B" } : Jvm.MethodName) jdk_65_method_132_code (3 : Nat) (Option.some (Jvm.ClassFile.FieldType.array Jvm.ClassFile.FieldType.byte))).before args0 about1 = true := code_word (m := ⟨14, 2⟩) (meth := k14m2) (c := k14c2) (by decide +kernel) rfl rfl rfl (by decide +kernel)
set_option maxRecDepth 65536 in
theorem w_c26 : (Jvm.Cond.code ({ cls := "java/util/Arrays", name := "copyOfRangeByte", desc := "([BII)[B" } : Jvm.MethodName) jdk_65_method_133_code (5 : Nat) (Option.some (Jvm.ClassFile.FieldType.array Jvm.ClassFile.FieldType.byte))).before args0 about1 = true := code_word (m := ⟨14, 3⟩) (meth := k14m3) (c := k14c3) (by decide +kernel) rfl rfl rfl (by decide +kernel)
set_option maxRecDepth 65536 in
theorem w_c27 : (Jvm.Cond.code ({ cls := "java/util/Arrays", name := "checkLength", desc := "(II)V" } : Jvm.MethodName) jdk_65_method_131_code (2 : Nat) (Option.none : Option Jvm.ClassFile.FieldType)).before args0 about1 = true := code_word (m := ⟨14, 1⟩) (meth := k14m1) (c := k14c1) (by decide +kernel) rfl rfl rfl (by decide +kernel)
set_option maxRecDepth 65536 in
theorem w_c28 : (Jvm.Cond.code ({ cls := "java/lang/Math", name := "min", desc := "(II)I" } : Jvm.MethodName) jdk_29_method_69_code (2 : Nat) (Option.some Jvm.ClassFile.FieldType.int)).before args0 about1 = true := code_word (m := ⟨15, 1⟩) (meth := k15m1) (c := k15c1) (by decide +kernel) rfl rfl rfl (by decide +kernel)
set_option maxRecDepth 65536 in
theorem w_c29 : (Jvm.Cond.code ({ cls := "java/lang/String", name := "charAt", desc := "(I)C" } : Jvm.MethodName) jdk_42_method_56_code (2 : Nat) (Option.some Jvm.ClassFile.FieldType.char)).before args0 about1 = true := code_word (m := ⟨7, 4⟩) (meth := k7m4) (c := k7c4) (by decide +kernel) rfl rfl rfl (by decide +kernel)
set_option maxRecDepth 65536 in
theorem w_c30 : (Jvm.Cond.code ({ cls := "java/lang/String", name := "isLatin1", desc := "()Z" } : Jvm.MethodName) jdk_42_method_154_code (1 : Nat) (Option.some Jvm.ClassFile.FieldType.boolean)).before args0 about1 = true := code_word (m := ⟨7, 11⟩) (meth := k7m11) (c := k7c11) (by decide +kernel) rfl rfl rfl (by decide +kernel)
set_option maxRecDepth 65536 in
theorem w_c31 : (Jvm.Cond.code ({ cls := "java/lang/StringLatin1", name := "charAt", desc := "([BI)C" } : Jvm.MethodName) jdk_43_method_2_code (2 : Nat) (Option.some Jvm.ClassFile.FieldType.char)).before args0 about1 = true := code_word (m := ⟨16, 1⟩) (meth := k16m1) (c := k16c1) (by decide +kernel) rfl rfl rfl (by decide +kernel)
set_option maxRecDepth 65536 in
theorem w_c32 : (Jvm.Cond.code ({ cls := "java/lang/String", name := "checkIndex", desc := "(II)V" } : Jvm.MethodName) jdk_42_method_155_code (2 : Nat) (Option.none : Option Jvm.ClassFile.FieldType)).before args0 about1 = true := code_word (m := ⟨7, 12⟩) (meth := k7m12) (c := k7c12) (by decide +kernel) rfl rfl rfl (by decide +kernel)
set_option maxRecDepth 65536 in
theorem w_c33 : (Jvm.Cond.code ({ cls := "jdk/internal/util/Preconditions", name := "checkIndex", desc := "(IILjava/util/function/BiFunction;)I" } : Jvm.MethodName) jdk_41_method_11_code (3 : Nat) (Option.some Jvm.ClassFile.FieldType.int)).before args0 about1 = true := code_word (m := ⟨17, 1⟩) (meth := k17m1) (c := k17c1) (by decide +kernel) rfl rfl rfl (by decide +kernel)
set_option maxRecDepth 65536 in
theorem w_c34 : (Jvm.Cond.code ({ cls := "java/lang/StringUTF16", name := "compress", desc := "([CII)[B" } : Jvm.MethodName) jdk_52_method_16_code (6 : Nat) (Option.some (Jvm.ClassFile.FieldType.array Jvm.ClassFile.FieldType.byte))).before args0 about1 = true := code_word (m := ⟨18, 2⟩) (meth := k18m2) (c := k18c2) (by decide +kernel) rfl rfl rfl (by decide +kernel)
set_option maxRecDepth 65536 in
theorem w_c35 : (Jvm.Cond.code ({ cls := "java/lang/StringUTF16", name := "compress", desc := "([CI[BII)I" } : Jvm.MethodName) jdk_52_method_21_code (7 : Nat) (Option.some Jvm.ClassFile.FieldType.int)).before args0 about1 = true := code_word (m := ⟨18, 3⟩) (meth := k18m3) (c := k18c3) (by decide +kernel) rfl rfl rfl (by decide +kernel)
set_option maxRecDepth 65536 in
theorem w_c36 : (Jvm.Cond.code ({ cls := "java/lang/StringUTF16", name := "coderFromArrayLen", desc := "([BI)B" } : Jvm.MethodName) jdk_52_method_15_code (2 : Nat) (Option.some Jvm.ClassFile.FieldType.byte)).before args0 about1 = true := code_word (m := ⟨18, 1⟩) (meth := k18m1) (c := k18c1) (by decide +kernel) rfl rfl rfl (by decide +kernel)
set_option maxRecDepth 65536 in
theorem w_c37 : (Jvm.Cond.code ({ cls := "java/lang/String", name := "valueOf", desc := "(C)Ljava/lang/String;" } : Jvm.MethodName) jdk_42_method_139_code (1 : Nat) (Option.some (Jvm.ClassFile.FieldType.object "java/lang/String"))).before args0 about1 = true := code_word (m := ⟨7, 5⟩) (meth := k7m5) (c := k7c5) (by decide +kernel) rfl rfl rfl (by decide +kernel)
set_option maxRecDepth 65536 in
theorem w_c38 : (Jvm.Cond.code ({ cls := "java/lang/StringLatin1", name := "canEncode", desc := "(C)Z" } : Jvm.MethodName) jdk_43_method_3_code (1 : Nat) (Option.some Jvm.ClassFile.FieldType.boolean)).before args0 about1 = true := code_word (m := ⟨16, 2⟩) (meth := k16m2) (c := k16c2) (by decide +kernel) rfl rfl rfl (by decide +kernel)
set_option maxRecDepth 65536 in
theorem w_c39 : (Jvm.Cond.code ({ cls := "java/lang/StringLatin1", name := "toBytes", desc := "(C)[B" } : Jvm.MethodName) jdk_43_method_46_code (1 : Nat) (Option.some (Jvm.ClassFile.FieldType.array Jvm.ClassFile.FieldType.byte))).before args0 about1 = true := code_word (m := ⟨16, 3⟩) (meth := k16m3) (c := k16c3) (by decide +kernel) rfl rfl rfl (by decide +kernel)
set_option maxRecDepth 65536 in
theorem w_c40 : (Jvm.Cond.code ({ cls := "java/lang/String", name := "<init>", desc := "([BB)V" } : Jvm.MethodName) jdk_42_method_151_code (3 : Nat) (Option.none : Option Jvm.ClassFile.FieldType)).before args0 about1 = true := code_word (m := ⟨7, 9⟩) (meth := k7m9) (c := k7c9) (by decide +kernel) rfl rfl rfl (by decide +kernel)
def codes1 : List Jvm.Cond := [Jvm.Cond.code x code maxLocals ret, Jvm.Cond.code ({ cls := "org/triplebridge/mapping/ColumnSqlPinLaw", name := "make", desc := "(ICC)Ljava/lang/String;" } : Jvm.MethodName) method_3_code (3 : Nat) (Option.some (Jvm.ClassFile.FieldType.object "java/lang/String")), Jvm.Cond.code ({ cls := "java/lang/String", name := "<init>", desc := "([C)V" } : Jvm.MethodName) jdk_42_method_3_code (2 : Nat) (Option.none : Option Jvm.ClassFile.FieldType), Jvm.Cond.code ({ cls := "java/lang/String", name := "<init>", desc := "([CIILjava/lang/Void;)V" } : Jvm.MethodName) jdk_42_method_149_code (6 : Nat) (Option.none : Option Jvm.ClassFile.FieldType), Jvm.Cond.code ({ cls := "java/lang/Object", name := "<init>", desc := "()V" } : Jvm.MethodName) object_method_1_code (1 : Nat) (Option.none : Option Jvm.ClassFile.FieldType), Jvm.Cond.code ({ cls := "org/triplebridge/mapping/Column", name := "<init>", desc := "(Ljava/lang/String;Ljava/lang/String;)V" } : Jvm.MethodName) prog_19_method_1_code (3 : Nat) (Option.none : Option Jvm.ClassFile.FieldType), Jvm.Cond.code ({ cls := "java/lang/Record", name := "<init>", desc := "()V" } : Jvm.MethodName) jdk_30_method_1_code (1 : Nat) (Option.none : Option Jvm.ClassFile.FieldType), Jvm.Cond.code ({ cls := "org/triplebridge/mapping/Column", name := "sql", desc := "()Ljava/lang/String;" } : Jvm.MethodName) prog_19_method_6_code (1 : Nat) (Option.some (Jvm.ClassFile.FieldType.object "java/lang/String")), Jvm.Cond.code ({ cls := "java/lang/StringBuilder", name := "<init>", desc := "()V" } : Jvm.MethodName) jdk_67_method_1_code (1 : Nat) (Option.none : Option Jvm.ClassFile.FieldType), Jvm.Cond.code ({ cls := "java/lang/AbstractStringBuilder", name := "<init>", desc := "(I)V" } : Jvm.MethodName) jdk_68_method_2_code (2 : Nat) (Option.none : Option Jvm.ClassFile.FieldType), Jvm.Cond.code ({ cls := "java/lang/StringBuilder", name := "append", desc := "(Ljava/lang/String;)Ljava/lang/StringBuilder;" } : Jvm.MethodName) jdk_67_method_7_code (2 : Nat) (Option.some (Jvm.ClassFile.FieldType.object "java/lang/StringBuilder")), Jvm.Cond.code ({ cls := "java/lang/AbstractStringBuilder", name := "append", desc := "(Ljava/lang/String;)Ljava/lang/AbstractStringBuilder;" } : Jvm.MethodName) jdk_68_method_22_code (3 : Nat) (Option.some (Jvm.ClassFile.FieldType.object "java/lang/AbstractStringBuilder")), Jvm.Cond.code ({ cls := "java/lang/String", name := "length", desc := "()I" } : Jvm.MethodName) jdk_42_method_54_code (1 : Nat) (Option.some Jvm.ClassFile.FieldType.int), Jvm.Cond.code ({ cls := "java/lang/String", name := "coder", desc := "()B" } : Jvm.MethodName) jdk_42_method_152_code (1 : Nat) (Option.some Jvm.ClassFile.FieldType.byte), Jvm.Cond.code ({ cls := "java/lang/AbstractStringBuilder", name := "ensureCapacityInternal", desc := "(I)V" } : Jvm.MethodName) jdk_68_method_9_code (3 : Nat) (Option.none : Option Jvm.ClassFile.FieldType), Jvm.Cond.code ({ cls := "java/lang/AbstractStringBuilder", name := "putStringAt", desc := "(ILjava/lang/String;)V" } : Jvm.MethodName) jdk_68_method_73_code (3 : Nat) (Option.none : Option Jvm.ClassFile.FieldType), Jvm.Cond.code ({ cls := "java/lang/AbstractStringBuilder", name := "inflateIfNeededFor", desc := "(Ljava/lang/String;)V" } : Jvm.MethodName) jdk_68_method_71_code (2 : Nat) (Option.none : Option Jvm.ClassFile.FieldType), Jvm.Cond.code ({ cls := "java/lang/String", name := "getBytes", desc := "([BIB)V" } : Jvm.MethodName) jdk_42_method_147_code (4 : Nat) (Option.none : Option Jvm.ClassFile.FieldType), Jvm.Cond.code ({ cls := "java/lang/StringBuilder", name := "toString", desc := "()Ljava/lang/String;" } : Jvm.MethodName) jdk_67_method_42_code (1 : Nat) (Option.some (Jvm.ClassFile.FieldType.object "java/lang/String")), Jvm.Cond.code ({ cls := "java/lang/String", name := "<init>", desc := "(Ljava/lang/StringBuilder;)V" } : Jvm.MethodName) jdk_42_method_53_code (2 : Nat) (Option.none : Option Jvm.ClassFile.FieldType), Jvm.Cond.code ({ cls := "java/lang/String", name := "<init>", desc := "(Ljava/lang/AbstractStringBuilder;Ljava/lang/Void;)V" } : Jvm.MethodName) jdk_42_method_150_code (5 : Nat) (Option.none : Option Jvm.ClassFile.FieldType), Jvm.Cond.code ({ cls := "java/lang/AbstractStringBuilder", name := "getValue", desc := "()[B" } : Jvm.MethodName) jdk_68_method_64_code (1 : Nat) (Option.some (Jvm.ClassFile.FieldType.array Jvm.ClassFile.FieldType.byte)), Jvm.Cond.code ({ cls := "java/lang/StringBuilder", name := "length", desc := "()I" } : Jvm.MethodName) jdk_67_method_93_code (1 : Nat) (Option.some Jvm.ClassFile.FieldType.int), Jvm.Cond.code ({ cls := "java/lang/AbstractStringBuilder", name := "length", desc := "()I" } : Jvm.MethodName) jdk_68_method_6_code (1 : Nat) (Option.some Jvm.ClassFile.FieldType.int), Jvm.Cond.code ({ cls := "java/lang/AbstractStringBuilder", name := "isLatin1", desc := "()Z" } : Jvm.MethodName) jdk_68_method_68_code (1 : Nat) (Option.some Jvm.ClassFile.FieldType.boolean), Jvm.Cond.code ({ cls := "java/util/Arrays", name := "copyOfRange", desc := "([BII)[B" } : Jvm.MethodName) jdk_65_method_132_code (3 : Nat) (Option.some (Jvm.ClassFile.FieldType.array Jvm.ClassFile.FieldType.byte)), Jvm.Cond.code ({ cls := "java/util/Arrays", name := "copyOfRangeByte", desc := "([BII)[B" } : Jvm.MethodName) jdk_65_method_133_code (5 : Nat) (Option.some (Jvm.ClassFile.FieldType.array Jvm.ClassFile.FieldType.byte)), Jvm.Cond.code ({ cls := "java/util/Arrays", name := "checkLength", desc := "(II)V" } : Jvm.MethodName) jdk_65_method_131_code (2 : Nat) (Option.none : Option Jvm.ClassFile.FieldType), Jvm.Cond.code ({ cls := "java/lang/Math", name := "min", desc := "(II)I" } : Jvm.MethodName) jdk_29_method_69_code (2 : Nat) (Option.some Jvm.ClassFile.FieldType.int), Jvm.Cond.code ({ cls := "java/lang/String", name := "charAt", desc := "(I)C" } : Jvm.MethodName) jdk_42_method_56_code (2 : Nat) (Option.some Jvm.ClassFile.FieldType.char), Jvm.Cond.code ({ cls := "java/lang/String", name := "isLatin1", desc := "()Z" } : Jvm.MethodName) jdk_42_method_154_code (1 : Nat) (Option.some Jvm.ClassFile.FieldType.boolean), Jvm.Cond.code ({ cls := "java/lang/StringLatin1", name := "charAt", desc := "([BI)C" } : Jvm.MethodName) jdk_43_method_2_code (2 : Nat) (Option.some Jvm.ClassFile.FieldType.char), Jvm.Cond.code ({ cls := "java/lang/String", name := "checkIndex", desc := "(II)V" } : Jvm.MethodName) jdk_42_method_155_code (2 : Nat) (Option.none : Option Jvm.ClassFile.FieldType), Jvm.Cond.code ({ cls := "jdk/internal/util/Preconditions", name := "checkIndex", desc := "(IILjava/util/function/BiFunction;)I" } : Jvm.MethodName) jdk_41_method_11_code (3 : Nat) (Option.some Jvm.ClassFile.FieldType.int), Jvm.Cond.code ({ cls := "java/lang/StringUTF16", name := "compress", desc := "([CII)[B" } : Jvm.MethodName) jdk_52_method_16_code (6 : Nat) (Option.some (Jvm.ClassFile.FieldType.array Jvm.ClassFile.FieldType.byte)), Jvm.Cond.code ({ cls := "java/lang/StringUTF16", name := "compress", desc := "([CI[BII)I" } : Jvm.MethodName) jdk_52_method_21_code (7 : Nat) (Option.some Jvm.ClassFile.FieldType.int), Jvm.Cond.code ({ cls := "java/lang/StringUTF16", name := "coderFromArrayLen", desc := "([BI)B" } : Jvm.MethodName) jdk_52_method_15_code (2 : Nat) (Option.some Jvm.ClassFile.FieldType.byte), Jvm.Cond.code ({ cls := "java/lang/String", name := "valueOf", desc := "(C)Ljava/lang/String;" } : Jvm.MethodName) jdk_42_method_139_code (1 : Nat) (Option.some (Jvm.ClassFile.FieldType.object "java/lang/String")), Jvm.Cond.code ({ cls := "java/lang/StringLatin1", name := "canEncode", desc := "(C)Z" } : Jvm.MethodName) jdk_43_method_3_code (1 : Nat) (Option.some Jvm.ClassFile.FieldType.boolean), Jvm.Cond.code ({ cls := "java/lang/StringLatin1", name := "toBytes", desc := "(C)[B" } : Jvm.MethodName) jdk_43_method_46_code (1 : Nat) (Option.some (Jvm.ClassFile.FieldType.array Jvm.ClassFile.FieldType.byte)), Jvm.Cond.code ({ cls := "java/lang/String", name := "<init>", desc := "([BB)V" } : Jvm.MethodName) jdk_42_method_151_code (3 : Nat) (Option.none : Option Jvm.ClassFile.FieldType)]
set_option maxRecDepth 65536 in
theorem codes_eq : words1.filter isCode = codes1 := rfl
theorem w_codes : ∀ c ∈ words1.filter isCode, c.before args0 about1 = true := by
  rw [codes_eq]
  intro c hc
  simp only [codes1, List.mem_cons, List.not_mem_nil, or_false] at hc
  rcases hc with rfl | rfl | rfl | rfl | rfl | rfl | rfl | rfl | rfl | rfl | rfl | rfl | rfl | rfl | rfl | rfl | rfl | rfl | rfl | rfl | rfl | rfl | rfl | rfl | rfl | rfl | rfl | rfl | rfl | rfl | rfl | rfl | rfl | rfl | rfl | rfl | rfl | rfl | rfl | rfl | rfl
  · exact w_c0
  · exact w_c1
  · exact w_c2
  · exact w_c3
  · exact w_c4
  · exact w_c5
  · exact w_c6
  · exact w_c7
  · exact w_c8
  · exact w_c9
  · exact w_c10
  · exact w_c11
  · exact w_c12
  · exact w_c13
  · exact w_c14
  · exact w_c15
  · exact w_c16
  · exact w_c17
  · exact w_c18
  · exact w_c19
  · exact w_c20
  · exact w_c21
  · exact w_c22
  · exact w_c23
  · exact w_c24
  · exact w_c25
  · exact w_c26
  · exact w_c27
  · exact w_c28
  · exact w_c29
  · exact w_c30
  · exact w_c31
  · exact w_c32
  · exact w_c33
  · exact w_c34
  · exact w_c35
  · exact w_c36
  · exact w_c37
  · exact w_c38
  · exact w_c39
  · exact w_c40
set_option maxRecDepth 65536 in
theorem w_t1 : (words1.take 24).all (fun c => isCode c || c.before args0 about1) = true := by decide +kernel
set_option maxRecDepth 65536 in
theorem w_t2 : ((words1.drop 24).take 24).all (fun c => isCode c || c.before args0 about1) = true := by decide +kernel
set_option maxRecDepth 65536 in
theorem w_t3 : (((words1.drop 24).drop 24).take 24).all (fun c => isCode c || c.before args0 about1) = true := by decide +kernel
set_option maxRecDepth 65536 in
theorem w_t4 : ((((words1.drop 24).drop 24).drop 24).take 24).all (fun c => isCode c || c.before args0 about1) = true := by decide +kernel
set_option maxRecDepth 65536 in
theorem w_t5 : (((((words1.drop 24).drop 24).drop 24).drop 24).take 24).all (fun c => isCode c || c.before args0 about1) = true := by decide +kernel
set_option maxRecDepth 65536 in
theorem w_t6 : ((((((words1.drop 24).drop 24).drop 24).drop 24).drop 24).take 24).all (fun c => isCode c || c.before args0 about1) = true := by decide +kernel
set_option maxRecDepth 65536 in
theorem w_t7 : (((((((words1.drop 24).drop 24).drop 24).drop 24).drop 24).drop 24).take 24).all (fun c => isCode c || c.before args0 about1) = true := by decide +kernel
set_option maxRecDepth 65536 in
theorem w_t8 : ((((((((words1.drop 24).drop 24).drop 24).drop 24).drop 24).drop 24).drop 24).take 24).all (fun c => isCode c || c.before args0 about1) = true := by decide +kernel
set_option maxRecDepth 65536 in
theorem w_t9 : ((((((((words1.drop 24).drop 24).drop 24).drop 24).drop 24).drop 24).drop 24).drop 24).all (fun c => isCode c || c.before args0 about1) = true := by decide +kernel
theorem w_tables : (allAtoms (Jvm.Cond.code x code maxLocals ret :: tables_1)).before args0 about1 = true := by
  rw [allAtoms_all]
  show words1.all (fun c => c.before args0 about1) = true
  refine all_split ?_ w_codes
  rw [← List.take_append_drop 24 words1, List.all_append, w_t1, ← List.take_append_drop 24 (words1.drop 24), List.all_append, w_t2, ← List.take_append_drop 24 ((words1.drop 24).drop 24), List.all_append, w_t3, ← List.take_append_drop 24 (((words1.drop 24).drop 24).drop 24), List.all_append, w_t4, ← List.take_append_drop 24 ((((words1.drop 24).drop 24).drop 24).drop 24), List.all_append, w_t5, ← List.take_append_drop 24 (((((words1.drop 24).drop 24).drop 24).drop 24).drop 24), List.all_append, w_t6, ← List.take_append_drop 24 ((((((words1.drop 24).drop 24).drop 24).drop 24).drop 24).drop 24), List.all_append, w_t7, ← List.take_append_drop 24 (((((((words1.drop 24).drop 24).drop 24).drop 24).drop 24).drop 24).drop 24), List.all_append, w_t8, w_t9]
  rfl
set_option maxRecDepth 65536 in
theorem w_rest : rest_1_c.before args0 about1 = true := by decide +kernel
set_option maxRecDepth 65536 in
theorem w_case : (Jvm.Cond.and given_1 narrow_1).before args0 about1 = true := by decide +kernel
set_option maxRecDepth 65536 in
theorem w_consts : constsHeld consts_1 about1 := Jvm.Lit.constsHeldB_iff.mp (by decide +kernel)
theorem w_applies : (headSpec (Jvm.Cond.code x code maxLocals ret :: tables_1) room_1).applies x e0.platform about1 = true :=
  (Spec.applies_iff w_frames).mpr ⟨w_running, w_runnable, w_alone, w_named, w_hears, w_ripe, w_room, w_tables⟩
theorem atStart : AtStart classFile x code maxLocals ret World_1 tables_1 room_1 Calls_1 rest_1 Pre_1 launch0 p0 e0 about1 theMethod args0 below0 :=
  ⟨lists_1, trivial, launch0.admits_env _ _ _, launch0.least_env, fairChoices_fair.cas, fairChoices_fair.clock, w_frames, w_args, w_heap, w_applies, ⟨w_consts, trivial⟩, w_rest, w_case⟩
end start1
theorem witness_1 : WitnessClaimed_1 := ⟨start1.p0, start1.e0, start1.about1, start1.theMethod, start1.args0, start1.below0, start1.atStart⟩
end Jvm.Pilot.@@N@@
