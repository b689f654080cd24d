import JvmDerived
import JvmDerived.Pilot.@@N@@Statement
import JvmDerived.Pilot.@@N@@Code
set_option linter.unusedVariables false
set_option linter.unusedSimpArgs false
namespace Jvm.OwnKit
section Special
open Jvm Jvm.ClassFile Sem Op
variable {Q : Unit → Pre} {E : CtlPost} {e : Env} {d : Bool} {acts : List Action} {s : State} {f : JFrame}
/-- invokespecial of the direct superclass's own method, the entry of either kind -/
theorem wp_super {index a : Nat} {m : MethodId} {k ck : Class} {meth : Method} {args rest : List Value} {cell : Cell} {kcell : Class}
    (hs : s.topJava?.isSome) (hnamed : namesResolved s.vm f.method.cls index m.cls) (hr : s.vm.methodReady f.method.cls index m) (hck : s.vm.classes[f.method.cls]? = some ck) (hni : ck.isInterface = false) (hsup : ck.super = some m.cls)
    (hk : s.vm.classes[m.cls]? = some k) (hm : s.vm.method? m = some meth) (hname : meth.name ≠ "<init>") (hstatic : meth.isStatic = false) (habs : meth.isAbstract = false) (hfound : lookupSpecial s.vm m.cls meth.name meth.desc = .method m)
    (hlen : args.length = meth.sig.parameters.length) (hstack : f.stack = args.reverse ++ .ref a :: rest) (hcell : s.heap[a]? = some cell) (hobj : ∀ c, cell.vm ≠ .statics c) (hkcell : s.vm.classes[cell.cls]? = some kcell) :
    wp (invokespecial.sem index) Q E e d acts (s.setTop f) ↔ E (.invoke m (.ref a :: args).toArray) acts (s.setTop { f with stack := rest }) := by
  obtain ⟨kc, cf, ci, n, h1, h2, h3, h4⟩ := hnamed
  cases h1.symm.trans hck
  have hpre : ∀ {Q' : ClassId → Pre} {d' : Bool} {acts' : List Action}, wp (Jvm.refClassAt index) Q' E e d' acts' (s.setTop f) ↔ Q' m.cls d' acts' (s.setTop f) := by
    intro Q' d' acts'
    rcases h3 with h3 | h3 <;>
      simp [Jvm.refClassAt, Jvm.constantAt, State.method?_setTop f hs, h1, h2, h3, W.resolveClassAt_ready (State.method?_setTop f hs) h4]
  simp only [invokespecial.sem, wp_bind', W.resolveMethodAt_ready (State.method?_setTop f hs) hr]
  simp only [W.theMethod, State.vm_setTop, hm, Option.some.injEq, exists_eq_left', wp_bind', hpre]
  simp [hs, hname, hstatic, habs, h1, hk, hm, hsup, hni, hfound, State.method?_setTop f hs, Jvm.popArgs, ← hlen, popN_top hs hstack, hcell, hobj, hkcell]
end Special
section Super
open Jvm Jvm.ClassFile Sem Op Lib Bundle Jvm.Stand Jvm.Free Jvm.LawKit Jvm.RoadKit
variable {p : Program} {l : Launch} {e : Env} {R : Room} {s : State} {m : MethodId} {args : Array Value} {below : List Frame} {meth : Method} {c : Code} {T : State} {locs : List Loc} {cells slots : Nat} {Z : State} {a0 : Array Value} {h : Heap}
theorem superS (X : Stand p l e R s m args below meth c T locs cells slots) (hx : p.tables.exec = Jvm.exec) (hZ : Z.Warmed39 s.vm) {own K : String} {index : Nat} {y : MethodName} (hown : s.vm.findClass own = some m.cls) (w1 : (Jvm.Cond.methodLink own index y).before a0 Z = true)
    (w3 : (Jvm.Cond.instanceMethod y).before a0 Z = true) (w4 : (Jvm.Cond.superclass own y.cls).before a0 Z = true) (hn : y.name ≠ "<init>") (hy : y.cls ≠ "java/lang/invoke/MethodHandle" ∧ y.cls ≠ "java/lang/invoke/VarHandle") {W : Nat} {Pre : Pt → Array Value → Prop} {Post : Pt → Array Value → Option Value → Pt → Prop} (hK : BackS l R p e below s args y 3 W Pre Post)
    (eT : T.heap = h) {a : Addr} (F : Exa Z h a K) {g : JFrame} (hg : g.method = m) (hsize : g.locals.size = c.maxLocals) {bytes : ByteArray} {maxL : Nat} {ret : Option FieldType} (wc : (Jvm.Cond.code y bytes maxL ret).before a0 Z = true) {argsL rest : List Value}
    (hlen : ∀ sig, parseMethodDescriptor y.desc = some sig → argsL.length = sig.parameters.length) (hstack : g.stack = argsL.reverse ++ .ref a :: rest) (hW : 2 * g.monitorRoom + (rest.map fun v => v.category).sum ≤ W)
    (hdg : decode c.code g.pc = .ok (.invokespecial index, 3)) (hpre : ∀ vm₁, s.WarmedH vm₁ → Pre ⟨T.setVm vm₁, locs, cells, slots⟩ (.ref a :: argsL).toArray) :
    ∃ (v : Option Value) (vm₁ : Vm) (B : Pt), s.WarmedH vm₁ ∧ Stand p l e R (s.setVm B.U.vm) m args below meth c B.U B.locs B.cells B.slots ∧ s.Since B.U.vm B.U.heap.size ∧ T.heap.size ≤ B.U.heap.size ∧ Post ⟨T.setVm vm₁, locs, cells, slots⟩ (.ref a :: argsL).toArray v B ∧
      Steps p.tables e below (T.setTop g) (B.U.setTop { g with pc := g.pc + 3, stack := v.toList ++ rest }) := by
  have hpl : e.platform.magicAccessors = ({} : Platform).magicAccessors := by rw [X.admits.platform]
  obtain ⟨r0, methM, hnamed, hmethM, hstM, habM⟩ := Cond.instanceMethod_spec (mv (args := args) hZ w3)
  obtain ⟨m2, cM, q1, -, -, -, -, -, -, hsig⟩ := Cond.code_spec hnamed (mv (args := args) hZ wc)
  cases hmethM.symm.trans q1
  obtain ⟨ci, hl, hright⟩ := Cond.methodLink_spec hown hnamed (mv (args := args) hZ w1) e.platform hpl
  obtain ⟨kx, hkx, hnx⟩ := className_of_methodNamed hnamed
  obtain ⟨hnm, hds⟩ := name_of_methodNamed hnamed hmethM
  have hE : s.MethodEntry e T.vm m.cls index r0 ci := State.methodEntry X.warmed hl hright fun k hk => by
    cases hkx.symm.trans hk
    rw [hnx]; exact hy
  obtain ⟨dk, cfile, nt, _, _, via, ck, _, hd, hcf, hcp, -⟩ := hl.here
  have hcp' : cfile.constantPool[index]? = some (.methodref ci nt) ∨ cfile.constantPool[index]? = some (.interfaceMethodref ci nt) := by
    cases via
    · exact Or.inl (by simpa using hcp)
    · exact Or.inr (by simpa using hcp)
  have hcn := findClass_of_methodNamed hnamed
  have ws := mv (args := args) hZ w4
  simp only [Cond.before, Cond.holds, Cond.value, hown, hcn, hd, hkx, Option.bind_some, Option.map_some] at ws
  have ws' : ((dk.super = some r0.cls ∧ dk.kind = .ordinary) ∧ kx.kind = .ordinary) ∧ dk.isInterface = false := by simpa using ws
  have alike := hE.warmed.alike
  obtain ⟨dk₂, hdk₂, hres⟩ := hE.classReady
  obtain ⟨dk₃, hdk₃, hed⟩ := alike.2.2 _ _ hd
  cases hdk₂.symm.trans hdk₃
  obtain ⟨kx₂, hkx₂, -⟩ := alike.2.2 _ _ hkx
  obtain ⟨cell, kc, f1, -, f3, f4, -⟩ := F
  obtain ⟨kc', hkc', -⟩ := (State.Warmed39.alike (wtrans (U := T.setVm (T.vm.called m.cls ci index r0)) hZ hE.warmed)).2.2 _ _ f3
  have hfound := lookupSpecial_of_named hnamed hmethM hstM
  have X₁ := X.noted hE.warmed
  subst hg
  obtain ⟨v, B, X', hS, hgr, hpost, hsteps⟩ := hK g.method meth c ⟨T.setVm (T.vm.called g.method.cls ci index r0), locs, cells, slots⟩ { g with stack := rest } (.invokespecial index) r0 (.ref a :: argsL).toArray X₁ rfl hsize hdg hW (X₁.named hnamed) (hpre _ hE.warmed)
  refine ⟨v, _, B, hE.warmed, X', hS, hgr, hpost, ?_⟩
  jvm_step X.here [hx, hdg, invokespecial.wp_cold (e := e) (s := T) (s₀ := s) (f := g) X.here.top hE hd hcf hcp' hmethM,
    wp_super (e := e) (s := T.setVm (T.vm.called g.method.cls ci index r0)) (f := g) (m := r0) (k := kx₂) (ck := dk₂) (meth := methM) (a := a) (args := argsL) (rest := rest) (cell := cell) (kcell := kc')
      X.here.top ⟨dk₂, cfile, ci, nt, hdk₂, by rw [hed]; exact hcf, hcp', dk₂, hdk₂, hres⟩ hE.ready hdk₂ (by rw [hed]; exact ws'.2) (by rw [hed]; exact ws'.1.1.1) hkx₂
      (by show (T.vm.called g.method.cls ci index r0).method? r0 = some methM; rw [alike.method?]; exact hmethM) (by rw [hnm]; exact hn) hstM habM
      (by show lookupSpecial (T.vm.called g.method.cls ci index r0) r0.cls methM.name methM.desc = .method r0; rw [alike.lookupSpecial, hnm, hds]; exact hfound) (hlen _ hsig) hstack (by show T.heap[a]? = some cell; rw [eT]; exact f1)
      (fun z hz => by rw [hz] at f4; cases f4) hkc']
  intro acts1
  rw [doInvoke_state]
  exact hsteps
end Super
end Jvm.OwnKit
namespace Jvm.OwnKit
open Jvm Jvm.ClassFile Sem Op Lib Bundle Jvm.Stand Jvm.Free Jvm.LawKit Jvm.RoadKit
/-- a predicate on where the run stands that goes backwards along steps -/
def Bw (p : Program) (e : Env) (below : List Frame) (F : State → JFrame → Prop) : Prop :=
  ∀ {T T' : State} {g g' : JFrame}, (∀ t, Steps p.tables e below (T'.setTop g') t → Steps p.tables e below (T.setTop g) t) → F T' g' → F T g
/-- where the walk stands: sf: new cells that no booked literal owns; lq: entries whose String is known -/
def Sp (p : Program) (l : Launch) (e : Env) (R : Room) (s : State) (m : MethodId) (args : Array Value) (below : List Frame) (meth : Method) (c : Code) (Z : State) (a0 : Array Value) (EL : List (String × Nat)) (own : String)
    (T : State) (h : Heap) (sf : List Addr) (lq : List (String × Nat × Addr)) (k n : Nat) : Prop :=
  ∃ (vm0 : Vm) (k0 : Nat) (locs : List Loc), Stand p l e R (s.setVm vm0) m args below meth c T locs k n ∧ T.heap = h ∧ s.Since vm0 k0 ∧ k0 ≤ h.size ∧ Z.Warmed39 vm0 ∧ vm0.findClass own = some m.cls ∧
    CHr Z EL s.vm s.heap vm0 h ∧ Fr Z.heap.size locs ∧ Ext Z.heap h ∧ (∀ x ∈ sf, Safe Z EL vm0 h x ∧ Z.heap.size ≤ x ∧ x < h.size) ∧ (∀ q ∈ lq, Lit (s.setVm vm0) q.1 q.2.1 q.2.2) ∧ p.tables.exec = Jvm.exec ∧ EW Z a0 EL
/-- the end of a body's walk -/
def Fin (p : Program) (e : Env) (below : List Frame) (s Z : State) (EL : List (String × Nat)) (Q : Option Value → Heap → List Addr → Prop) (k n : Nat) (T : State) (g : JFrame) : Prop :=
  ∃ (s₂ : State) (o : Outcome), Steps p.tables e below (T.setTop g) s₂ ∧ s₂.status = .running ∧ Ended s₂ below o ∧
    ∃ (v : Option Value) (L : List Loc) (nw : List Addr), o = .returned v ∧ Q v s₂.heap nw ∧ (∀ x ∈ nw, Safe Z EL s₂.vm s₂.heap x ∧ Z.heap.size ≤ x ∧ x < s₂.heap.size) ∧ Fr Z.heap.size L ∧ Ext Z.heap s₂.heap ∧ CHr Z EL s.vm s.heap s₂.vm s₂.heap ∧ ReturnedEndW s o s₂ L k n
/-- a callee's contract -/
def Con (l : Launch) (Z : State) (EL : List (String × Nat)) (y : MethodName) (bytes : ByteArray) (maxL : Nat) (ret : Option FieldType) (rm : Room) (as' : Array Value) (h : Heap) (sf : List Addr) (Q : Option Value → Heap → List Addr → Prop) : Prop :=
  MetFree l y (head1 [Jvm.Cond.code y bytes maxL ret] rm) (fun a U => a = as' ∧ Z.Warmed39 U.vm ∧ U.heap = h ∧ CHv Z EL U.vm h ∧ Ext Z.heap h ∧ ∀ x ∈ sf, Safe Z EL U.vm h x ∧ Z.heap.size ≤ x ∧ x < h.size) (fun _ _ _ _ _ => True)
    (fun _ U o U' => ∃ (v : Option Value) (L : List Loc) (nw : List Addr), o = .returned v ∧ Q v U'.heap nw ∧ (∀ x ∈ nw, Safe Z EL U'.vm U'.heap x ∧ Z.heap.size ≤ x ∧ x < U'.heap.size) ∧ Fr Z.heap.size L ∧ Ext Z.heap U'.heap ∧ CHr Z EL U.vm U.heap U'.vm U'.heap ∧ ReturnedEndW U o U' L rm.cells rm.slots)
/-- a call that comes back -/
def Call (l : Launch) (R : Room) (p : Program) (e : Env) (below : List Frame) (s : State) (args : Array Value) (Z : State) (a0 : Array Value) (EL : List (String × Nat)) (y : MethodName) (len W : Nat) (as' : Array Value) (h : Heap) (sf : List Addr) (kc ks : Nat) (Q : Option Value → Heap → List Addr → Prop) : Prop :=
  ∀ vm0 : Vm, Z.Warmed39 vm0 → CHv Z EL vm0 h → EW Z a0 EL → Ext Z.heap h → (∀ x ∈ sf, Safe Z EL vm0 h x ∧ Z.heap.size ≤ x ∧ x < h.size) →
    BackS l R p e below (s.setVm vm0) args y len W (fun A a => a = as' ∧ A.U.heap = h ∧ A.cells + kc ≤ R.cells ∧ A.slots + ks ≤ R.slots)
      (fun A _ v B => ∃ (L : List Loc) (nw : List Addr), Q v B.U.heap nw ∧ (∀ x ∈ nw, Safe Z EL B.U.vm B.U.heap x ∧ Z.heap.size ≤ x ∧ x < B.U.heap.size) ∧ Fr Z.heap.size L ∧ Ext Z.heap B.U.heap ∧ B.locs = A.locs ++ L ∧ B.cells = A.cells + kc ∧ B.slots = A.slots + ks ∧ CHr Z EL vm0 h B.U.vm B.U.heap)
theorem nin1 {x y : Nat} (h : x ≠ y) : x ∉ ([y] : List Addr) := fun q => h (List.mem_singleton.mp q)
theorem nin2 {x y z : Nat} (h : x ≠ y) (h2 : x ≠ z) : x ∉ ([y, z] : List Addr) := fun q => (List.mem_cons.mp q).elim h fun q => h2 (List.mem_singleton.mp q)
theorem qk1 {a k : Nat} {ws : List Addr} (h : (a : Addr) ∈ ws ∨ k ≤ a) : ∀ x ∈ ([a] : List Addr), x ∈ ws ∨ k ≤ x := fun x hx => by cases List.mem_singleton.mp hx; exact h
theorem natlt {a b : Nat} (h : a < b) : a < b := h
theorem natne {a b : Nat} (h : a ≠ b) : a ≠ b := h
theorem acmp_same {x : Value} : Jvm.Free.XT.acmp .ne x x = false := by simp [Jvm.Free.XT.acmp]
section Kit
variable {p : Program} {l : Launch} {e : Env} {R : Room} {s : State} {m : MethodId} {args : Array Value} {below : List Frame} {meth : Method} {c : Code} {Z : State} {a0 : Array Value} {EL : List (String × Nat)} {own : String}
  {T : State} {h h' : Heap} {sf : List Addr} {lq : List (String × Nat × Addr)} {k n : Nat} {F : State → JFrame → Prop} {Q : Option Value → Heap → List Addr → Prop}
theorem Fin.bw {kc ks : Nat} : Bw p e below (Fin p e below s Z EL Q kc ks) := fun st ⟨s₂, o, h1, r⟩ => ⟨s₂, o, st _ h1, r⟩
theorem Sp.here (S : Sp p l e R s m args below meth c Z a0 EL own T h sf lq k n) : At T m c below := by obtain ⟨_, _, _, X, -⟩ := S; exact X.here
theorem Sp.hx (S : Sp p l e R s m args below meth c Z a0 EL own T h sf lq k n) : p.tables.exec = Jvm.exec := by obtain ⟨_, _, _, -, -, -, -, -, -, -, -, -, -, -, q, -⟩ := S; exact q
theorem Sp.old (S : Sp p l e R s m args below meth c Z a0 EL own T h sf lq k n) : Ext Z.heap h := by obtain ⟨_, _, _, -, -, -, -, -, -, -, -, q, -⟩ := S; exact q
theorem Sp.isnew (S : Sp p l e R s m args below meth c Z a0 EL own T h sf lq k n) {x : Addr} (hx : x ∈ sf) : Z.heap.size ≤ x := by obtain ⟨_, _, _, -, -, -, -, -, -, -, -, -, q, -⟩ := S; exact (q x hx).2.1
theorem Sp.mono (S : Sp p l e R s m args below meth c Z a0 EL own T h sf lq k n) {k' n' : Nat} (hk : k ≤ k') (hn : n ≤ n') : Sp p l e R s m args below meth c Z a0 EL own T h sf lq k' n' := by
  obtain ⟨vm0, k0, locs, X, r⟩ := S
  exact ⟨vm0, k0, locs, X.mono hk hn, r⟩
theorem Sp.sub (S : Sp p l e R s m args below meth c Z a0 EL own T h sf lq k n) {sf' : List Addr} (hs : ∀ x ∈ sf', x ∈ sf) : Sp p l e R s m args below meth c Z a0 EL own T h sf' lq k n := by
  obtain ⟨vm0, k0, locs, X, h1, h2, h3, h4, h5, h6, h7, h8, h9, r⟩ := S
  exact ⟨vm0, k0, locs, X, h1, h2, h3, h4, h5, h6, h7, h8, fun x hx => h9 x (hs x hx), r⟩
theorem Sp.noLit (S : Sp p l e R s m args below meth c Z a0 EL own T h sf lq k n) : Sp p l e R s m args below meth c Z a0 EL own T h sf [] k n := by
  obtain ⟨vm0, k0, locs, X, h1, h2, h3, h4, h5, h6, h7, h8, h9, h10, r⟩ := S
  exact ⟨vm0, k0, locs, X, h1, h2, h3, h4, h5, h6, h7, h8, h9, (fun _ q => nomatch q), r⟩
/-- a body, entered -/
theorem Con.of {y : MethodName} {bytes : ByteArray} {maxL : Nat} {ret : Option FieldType} {rm : Room} {as' : Array Value} (hpl : plainFor y = true) (hEW : EW Z a0 EL)
    (body : ∀ (p : Program) (e : Env) (s : State) (m : MethodId) (below : List Frame) (meth : Method) (c : Code) (T : State) (F : State → JFrame → Prop), Bw p e below F → (∀ {T : State} {g : JFrame}, Fin p e below s Z EL Q rm.cells rm.slots T g → F T g) →
      c.code = bytes → c.maxLocals = maxL → meth.sig.returnType = ret → meth.locks = false → meth.name = y.name → Sp p l e rm s m as' below meth c Z a0 EL y.cls T h sf [] 0 0 → F T (entryFrame m as' maxL)) :
    Con l Z EL y bytes maxL ret rm as' h sf Q := by
  refine MetFree.of_bodySF hpl (hisR (ws := [])) ?_
  intro p e s m args below meth c s₁ Bd hml0 hP hK
  obtain ⟨rfl, hZ, hh, hC, hE, hsf⟩ := hP
  have hX : Stand p l e rm (s.setVm s.vm) m args below meth c s₁ [] 0 0 := Stand.of_body Bd
  have e0 : s₁.heap = h := by rw [← hh, Bd.state]; rfl
  refine body p e s m below meth c s₁ (Fin p e below s Z EL Q rm.cells rm.slots) Fin.bw (fun q => q) Bd.bytes hml0 Bd.returns Bd.notSynchronized (name_of_methodNamed Bd.named Bd.method).1 ⟨s.vm, 0, [], hX, e0, (State.WarmedH.refl s).since 0, Nat.zero_le _, hZ, findClass_of_methodNamed Bd.named, ?_, Fr.nil _, hE, hsf, (fun _ q => nomatch q), Bd.exec, hEW⟩
  rw [← hh] at hC ⊢
  exact CHr.refl hC
theorem Call.con {y : MethodName} {bytes : ByteArray} {maxL : Nat} {ret : Option FieldType} {rm : Room} {as' : Array Value} {len W : Nat} (hM : Con l Z EL y bytes maxL ret rm as' h sf Q)
    (wc : (Jvm.Cond.code y bytes maxL ret).before a0 Z = true) (wz : (Jvm.Cond.initialized y.cls).before a0 Z = true) (hf : rm.frames + 1 ≤ R.frames) (hl : W + (maxL + 11) + rm.locals ≤ R.locals) :
    Call l R p e below s args Z a0 EL y len W as' h sf rm.cells rm.slots Q := fun vm0 hZ hC hEL hE hsf =>
  BackS.of_freeW (bytes := bytes) (maxL := maxL) (ret := ret) (E := fun _ first o t L k n => k = rm.cells ∧ n = rm.slots ∧ ∃ (v : Option Value) (nw : List Addr), o = .returned v ∧ Q v t.heap nw ∧ (∀ x ∈ nw, Safe Z EL t.vm t.heap x ∧ Z.heap.size ≤ x ∧ x < t.heap.size) ∧ Fr Z.heap.size L ∧ Ext Z.heap t.heap ∧ CHr Z EL first.vm first.heap t.vm t.heap) hM hf hl
    (fun m meth c A a Y hp => have hU : Z.Warmed39 A.U.vm := wtrans (s := s.setVm vm0) hZ Y.warmed
      ⟨by show (Jvm.Cond.and _ .tt).before a A.U = true; rw [Cond.before_and, mv hU wc]; rfl, mv hU wc, mv hU wz, hp.2.2.1, hp.2.2.2⟩)
    (fun m meth c A a g mk Y hp => ⟨hp.1, wtrans (s := s.setVm vm0) hZ Y.warmed, hp.2.1, (CHv.at Y hZ hEL hC).1, hE, fun x hx => ⟨(CHv.at Y hZ hEL hC).safe (hsf x hx).2.2 (hsf x hx).1, (hsf x hx).2⟩⟩) (fun _ _ _ _ _ _ _ _ _ => trivial)
    (fun _ _ _ _ ⟨v, L, nw, h1, h2, h3, h4, h5, h6, h7⟩ => ⟨L, _, _, h7, rfl, rfl, v, nw, h1, h2, h3, h4, h5, h6⟩)
    (fun m meth c A a g mk v t L k n Y hp _ _ ⟨e1, e2, v', nw, e3, e4, e5, e6, e7, e8⟩ => by
      cases e3; subst e1 e2
      refine ⟨L, nw, e4, e5, e6, e7, rfl, rfl, rfl, (CHv.at Y hZ hEL hC).trans ?_⟩
      rw [← hp.2.1]; exact e8)
/-- a law of the other form: its callee interns nothing -/
theorem Call.back {y : MethodName} {as' : Array Value} {len W kc ks : Nat} {ws : List Addr} {Qb : Option Value → Heap → List Loc → Prop} (hws : ∀ x ∈ ws, x ∈ sf)
    (hK : ∀ s' : State, Z.Warmed39 s'.vm → Back l R p e below s' args y len W (fun A a => a = as' ∧ A.U.heap = h ∧ A.cells + kc ≤ R.cells ∧ A.slots + ks ≤ R.slots) (fun A _ v B => ∃ L, Qb v B.U.heap L ∧ B.locs = A.locs ++ L ∧ B.cells = A.cells + kc ∧ B.slots = A.slots + ks))
    (hq : ∀ v h' L, Qb v h' L → Fr Z.heap.size L ∧ Keep h h' ws ∧ ∃ nw, Q v h' nw ∧ ∀ x ∈ nw, h.size ≤ x ∧ x < h'.size) :
    Call l R p e below s args Z a0 EL y len W as' h sf kc ks Q := fun vm0 hZ hC hEL hE hsf => by
  intro m meth c A g ig mk a X hg hsize hdg hW hn hp
  obtain ⟨v, B, X', ⟨L, hQ, hl, hc, hs⟩, st⟩ := hK (s.setVm vm0) hZ m meth c A g ig mk a X hg hsize hdg hW hn hp
  obtain ⟨hFr, K, nw, q1, q2⟩ := hq _ _ _ hQ
  have R1 : CHr Z EL vm0 h B.U.vm h := CHv.at (h := h) X' hZ hEL hC
  have hsafe : ∀ x ∈ ws, Safe Z EL B.U.vm h x := fun x hx => R1.safe (hsf x (hws x hx)).2.2 (hsf x (hws x hx)).1
  have R2 : CHr Z EL B.U.vm h B.U.vm B.U.heap := CHr.keep K hsafe R1.1
  have hE' : Ext Z.heap B.U.heap := ⟨Nat.le_trans hE.1 K.1, fun x cl q => K.2.1 x cl (hE.2 x cl q) fun z => absurd (Array.getElem?_eq_some_iff.mp q).1 (Nat.not_lt.mpr (hsf x (hws x z)).2.1)⟩
  refine ⟨v, B, X'.retabled X'.warmed.wide, X'.warmed.since _, by rw [hp.2.1]; exact K.1, ⟨L, nw, q1, fun x hx => ⟨fun Bq => ?_, Nat.le_trans hE.1 (q2 x hx).1, (q2 x hx).2⟩, hFr, hE', hl, hc, hs, R1.trans R2⟩, st⟩
  have Bq' : Bk Z EL B.U.vm h x := (CHv.keepStep K hsafe R1.1).2 x Bq
  exact Safe.new (q2 x hx).1 Bq'
/-- the same, where the heap is as it was -/
theorem Call.pure {y : MethodName} {as' : Array Value} {len W : Nat} {Qv : Option Value → Prop} 
    (hK : ∀ s' : State, Z.Warmed39 s'.vm → Back l R p e below s' args y len W (fun A a => a = as' ∧ A.U.heap = h ∧ A.cells + 0 ≤ R.cells ∧ A.slots + 0 ≤ R.slots) (fun A _ v B => ∃ L, (Qv v ∧ L = [] ∧ B.U.heap = h) ∧ B.locs = A.locs ++ L ∧ B.cells = A.cells + 0 ∧ B.slots = A.slots + 0)) :
    Call l R p e below s args Z a0 EL y len W as' h sf 0 0 (fun v h' nw => Qv v ∧ nw = [] ∧ h = h') :=
  Call.back (ws := []) (Qb := fun v h' L => Qv v ∧ L = [] ∧ h' = h) (fun _ q => nomatch q) hK fun v h' L ⟨h1, h2, h3⟩ => by
    subst h2 h3
    exact ⟨Fr.nil _, Keep.refl _ _, [], ⟨h1, rfl, rfl⟩, fun _ q => nomatch q⟩
/-- behind a call -/
theorem Sp.after {vm0 : Vm} {k0 : Nat} {locs : List Loc} {kc ks : Nat} {B : Pt}
    (hS : s.Since vm0 k0) (hk : k0 ≤ h.size) (hZ : Z.Warmed39 vm0) (ho : vm0.findClass own = some m.cls) (hC : CHr Z EL s.vm s.heap vm0 h) (hN : Fr Z.heap.size locs) (hsf : ∀ x ∈ sf, Safe Z EL vm0 h x ∧ Z.heap.size ≤ x ∧ x < h.size) (hlt : ∀ q ∈ lq, Lit (s.setVm vm0) q.1 q.2.1 q.2.2) (hx : p.tables.exec = Jvm.exec) (hW : EW Z a0 EL)
    (X : Stand p l e R ((s.setVm vm0).setVm B.U.vm) m args below meth c B.U B.locs B.cells B.slots) (h2 : (s.setVm vm0).Since B.U.vm B.U.heap.size)
    {L : List Loc} {nw : List Addr} (q2 : ∀ x ∈ nw, Safe Z EL B.U.vm B.U.heap x ∧ Z.heap.size ≤ x ∧ x < B.U.heap.size) (q3 : Fr Z.heap.size L) (q4 : Ext Z.heap B.U.heap) (q5 : B.locs = locs ++ L) (q6 : B.cells = k + kc) (q7 : B.slots = n + ks) (q8 : CHr Z EL vm0 h B.U.vm B.U.heap) :
    Sp p l e R s m args below meth c Z a0 EL own B.U B.U.heap (nw ++ sf) lq (k + kc) (n + ks) := by
  rw [← q6, ← q7]
  refine ⟨B.U.vm, B.U.heap.size, B.locs, X, rfl, hS.trans h2 (Nat.le_trans hk q8.2.1), Nat.le_refl _, State.Warmed39.trans (t := s.setVm vm0) hZ h2.1, (h2.1.alike.findClass _ _).trans ho, hC.trans q8, by rw [q5]; exact hN.app q3, q4, fun x hx' => ?_, fun q hq => Lit.stays (hlt q hq) h2.1, hx, hW⟩
  rcases List.mem_append.mp hx' with z | z
  · exact q2 x z
  · exact ⟨q8.safe (hsf x z).2.2 (hsf x z).1, (hsf x z).2.1, Nat.lt_of_lt_of_le (hsf x z).2.2 q8.2.1⟩
theorem Sp.special (B : Bw p e below F) (S : Sp p l e R s m args below meth c Z a0 EL own T h sf lq k n) {ix : Nat} {y : MethodName} {bytes : ByteArray} {maxL : Nat} {a : Addr} {argsL rest st : List Value} {sfc : List Addr} {kc ks W pc : Nat} {Ls : Array Slot} (hy1 : y.name = "<init>")
    (w1 : (Jvm.Cond.methodLink own ix y).before a0 Z = true) (w2 : (Jvm.Cond.instanceMethod y).before a0 Z = true) (w3 : (Jvm.Cond.code y bytes maxL none).before a0 Z = true) (hy : y.cls ≠ "java/lang/invoke/MethodHandle" ∧ y.cls ≠ "java/lang/invoke/VarHandle")
    (C : Call l R p e below s args Z a0 EL y 3 W (.ref a :: argsL).toArray h sfc kc ks Q) (hsub : ∀ x ∈ sfc, x ∈ sf) (hkc : k + kc ≤ R.cells) (hks : n + ks ≤ R.slots) (hml : Ls.size = c.maxLocals)
    (hlen : ∀ sig, parseMethodDescriptor y.desc = some sig → argsL.length = sig.parameters.length) (hst : st = argsL.reverse ++ .ref a :: rest) (hW : (rest.map fun v => v.category).sum ≤ W) (hd : decode c.code pc = .ok (.invokespecial ix, 3))
    (K : ∀ (v : Option Value) (T' : State) (h' : Heap) (nw : List Addr), Sp p l e R s m args below meth c Z a0 EL own T' h' (nw ++ sf) lq (k + kc) (n + ks) → Q v h' nw → F T' (mkF m (pc + 3) Ls (v.toList ++ rest))) : F T (mkF m pc Ls st) := by
  obtain ⟨vm0, k0, locs, X, eT, hS, hk, hZ, ho, hC, hN, hE, hsf, hlt, hx, hEW⟩ := S
  obtain ⟨v, vm₁, B', hw, X', h2, hgr, ⟨L, nw, q1, q2, q3, q4, q5, q6, q7, q8⟩, st'⟩ := X.specialBackS hx hy1 ho (mvT (s := s.setVm vm0) hZ w1) (mvT (s := s.setVm vm0) hZ w2) (mvT (s := s.setVm vm0) hZ w3) hy (C vm0 hZ hC.1 hEW hE fun x hx => hsf x (hsub x hx)) (g := mkF m pc Ls st) rfl hml (Steps.refl _) hlen hst (by show 2 * 0 + _ ≤ _; omega) hd (fun vm₁ _ => ⟨rfl, eT, hkc, hks⟩)
  exact B (fun t kt => st'.trans kt) (K v B'.U B'.U.heap nw (Sp.after hS hk hZ ho hC hN hsf hlt hx hEW X' h2 q2 q3 q4 q5 q6 q7 q8) q1)
theorem Sp.static (B : Bw p e below F) (S : Sp p l e R s m args below meth c Z a0 EL own T h sf lq k n) {ix : Nat} {y : MethodName} {bytes : ByteArray} {maxL : Nat} {ret : Option FieldType} {argsL rest st : List Value} {sfc : List Addr} {kc ks W pc : Nat} {Ls : Array Slot}
    (w1 : (Jvm.Cond.methodLink own ix y).before a0 Z = true) (w2 : (Jvm.Cond.static y).before a0 Z = true) (wz : (Jvm.Cond.initialized y.cls).before a0 Z = true) (w3 : (Jvm.Cond.code y bytes maxL ret).before a0 Z = true) (hy : y.cls ≠ "java/lang/invoke/MethodHandle" ∧ y.cls ≠ "java/lang/invoke/VarHandle")
    (C : Call l R p e below s args Z a0 EL y 3 W argsL.toArray h sfc kc ks Q) (hsub : ∀ x ∈ sfc, x ∈ sf) (hkc : k + kc ≤ R.cells) (hks : n + ks ≤ R.slots) (hml : Ls.size = c.maxLocals)
    (hlen : ∀ sig, parseMethodDescriptor y.desc = some sig → argsL.length = sig.parameters.length) (hst : st = argsL.reverse ++ rest) (hW : (rest.map fun v => v.category).sum ≤ W) (hd : decode c.code pc = .ok (.invokestatic ix, 3))
    (K : ∀ (v : Option Value) (T' : State) (h' : Heap) (nw : List Addr), Sp p l e R s m args below meth c Z a0 EL own T' h' (nw ++ sf) lq (k + kc) (n + ks) → Q v h' nw → F T' (mkF m (pc + 3) Ls (v.toList ++ rest))) : F T (mkF m pc Ls st) := by
  obtain ⟨vm0, k0, locs, X, eT, hS, hk, hZ, ho, hC, hN, hE, hsf, hlt, hx, hEW⟩ := S
  obtain ⟨v, vm₁, B', hw, X', h2, hgr, ⟨L, nw, q1, q2, q3, q4, q5, q6, q7, q8⟩, st'⟩ := callSS X hx ho (mvT (s := s.setVm vm0) hZ w1) (mvT (s := s.setVm vm0) hZ w2) (mvT (s := s.setVm vm0) hZ wz) (mvT (s := s.setVm vm0) hZ w3) hy (C vm0 hZ hC.1 hEW hE fun x hx => hsf x (hsub x hx)) (g := mkF m pc Ls st) rfl hml hlen hst (by show 2 * 0 + _ ≤ _; omega) hd (fun vm₁ _ => ⟨rfl, eT, hkc, hks⟩)
  exact B (fun t kt => st'.trans kt) (K v B'.U B'.U.heap nw (Sp.after hS hk hZ ho hC hN hsf hlt hx hEW X' h2 q2 q3 q4 q5 q6 q7 q8) q1)
theorem Sp.virt (B : Bw p e below F) (S : Sp p l e R s m args below meth c Z a0 EL own T h sf lq k n) {ix : Nat} {y z : MethodName} {C : String} {a : Addr} {argsL rest st : List Value} {sfc : List Addr} {kc ks W pc : Nat} {Ls : Array Slot}
    (w1 : (Jvm.Cond.methodLink own ix y).before a0 Z = true) (w2 : (Jvm.Cond.declares y).before a0 Z = true) (wf : (Jvm.Cond.selects y.cls y y).before a0 Z = true) (w3 : (Jvm.Cond.selects C y z).before a0 Z = true) (w4 : (Jvm.Cond.instanceMethod z).before a0 Z = true) (hy : y.cls ≠ "java/lang/invoke/MethodHandle" ∧ y.cls ≠ "java/lang/invoke/VarHandle")
    (CC : Call l R p e below s args Z a0 EL z 3 W (.ref a :: argsL).toArray h sfc kc ks Q) (E : Exa Z h a C) (hsub : ∀ x ∈ sfc, x ∈ sf) (hkc : k + kc ≤ R.cells) (hks : n + ks ≤ R.slots) (hml : Ls.size = c.maxLocals)
    (hlen : ∀ sig, parseMethodDescriptor y.desc = some sig → argsL.length = sig.parameters.length) (hst : st = argsL.reverse ++ .ref a :: rest) (hW : (rest.map fun v => v.category).sum ≤ W) (hd : decode c.code pc = .ok (.invokevirtual ix, 3))
    (K : ∀ (v : Option Value) (T' : State) (h' : Heap) (nw : List Addr), Sp p l e R s m args below meth c Z a0 EL own T' h' (nw ++ sf) lq (k + kc) (n + ks) → Q v h' nw → F T' (mkF m (pc + 3) Ls (v.toList ++ rest))) : F T (mkF m pc Ls st) := by
  obtain ⟨vm0, k0, locs, X, eT, hS, hk, hZ, ho, hC, hN, hE, hsf, hlt, hx, hEW⟩ := S
  obtain ⟨cB, kB, r1, r2, r3⟩ := isOf (s := s.setVm vm0) hZ eT E
  obtain ⟨v, vm₁, B', hw, X', h2, hgr, ⟨L, nw, q1, q2, q3, q4, q5, q6, q7, q8⟩, st'⟩ := X.virtualBackS hx ho (mvT (s := s.setVm vm0) hZ w1) (mvT (s := s.setVm vm0) hZ w2) (notFace_of_selects (args := #[]) (mvT (s := s.setVm vm0) hZ wf)) (mvT (s := s.setVm vm0) hZ w3) (mvT (s := s.setVm vm0) hZ w4) hy (CC vm0 hZ hC.1 hEW hE fun x hx => hsf x (hsub x hx)) r1 r3 (g := mkF m pc Ls st) rfl hml (Steps.refl _) hlen hst (by show 2 * 0 + _ ≤ _; omega) hd (fun vm₁ _ => ⟨rfl, eT, hkc, hks⟩)
  exact B (fun t kt => st'.trans kt) (K v B'.U B'.U.heap nw (Sp.after hS hk hZ ho hC hN hsf hlt hx hEW X' h2 q2 q3 q4 q5 q6 q7 q8) q1)
theorem Sp.super (B : Bw p e below F) (S : Sp p l e R s m args below meth c Z a0 EL own T h sf lq k n) {ix : Nat} {y : MethodName} {bytes : ByteArray} {maxL : Nat} {ret : Option FieldType} {K0 : String} {a : Addr} {argsL rest st : List Value} {sfc : List Addr} {kc ks W pc : Nat} {Ls : Array Slot} (hn : y.name ≠ "<init>")
    (w1 : (Jvm.Cond.methodLink own ix y).before a0 Z = true) (w2 : (Jvm.Cond.instanceMethod y).before a0 Z = true) (w4 : (Jvm.Cond.superclass own y.cls).before a0 Z = true) (w3 : (Jvm.Cond.code y bytes maxL ret).before a0 Z = true) (hy : y.cls ≠ "java/lang/invoke/MethodHandle" ∧ y.cls ≠ "java/lang/invoke/VarHandle")
    (C : Call l R p e below s args Z a0 EL y 3 W (.ref a :: argsL).toArray h sfc kc ks Q) (E : Exa Z h a K0) (hsub : ∀ x ∈ sfc, x ∈ sf) (hkc : k + kc ≤ R.cells) (hks : n + ks ≤ R.slots) (hml : Ls.size = c.maxLocals)
    (hlen : ∀ sig, parseMethodDescriptor y.desc = some sig → argsL.length = sig.parameters.length) (hst : st = argsL.reverse ++ .ref a :: rest) (hW : (rest.map fun v => v.category).sum ≤ W) (hd : decode c.code pc = .ok (.invokespecial ix, 3))
    (K : ∀ (v : Option Value) (T' : State) (h' : Heap) (nw : List Addr), Sp p l e R s m args below meth c Z a0 EL own T' h' (nw ++ sf) lq (k + kc) (n + ks) → Q v h' nw → F T' (mkF m (pc + 3) Ls (v.toList ++ rest))) : F T (mkF m pc Ls st) := by
  obtain ⟨vm0, k0, locs, X, eT, hS, hk, hZ, ho, hC, hN, hE, hsf, hlt, hx, hEW⟩ := S
  obtain ⟨v, vm₁, B', hw, X', h2, hgr, ⟨L, nw, q1, q2, q3, q4, q5, q6, q7, q8⟩, st'⟩ := superS (s := s.setVm vm0) X hx hZ ho w1 w2 w4 hn hy (C vm0 hZ hC.1 hEW hE fun x hx => hsf x (hsub x hx)) eT E (g := mkF m pc Ls st) rfl hml w3 hlen hst (by show 2 * 0 + _ ≤ _; omega) hd (fun vm₁ _ => ⟨rfl, eT, hkc, hks⟩)
  exact B (fun t kt => st'.trans kt) (K v B'.U B'.U.heap nw (Sp.after hS hk hZ ho hC hN hsf hlt hx hEW X' h2 q2 q3 q4 q5 q6 q7 q8) q1)
/-- the heap as it was: what a law that makes no change hands on -/
theorem Sp.same (S : Sp p l e R s m args below meth c Z a0 EL own T h sf lq k n) {P : State → Prop} (st : ∀ (vm0 : Vm) (locs : List Loc), Stand p l e R (s.setVm vm0) m args below meth c T locs k n → Z.Warmed39 vm0 → vm0.findClass own = some m.cls → T.heap = h → ∃ T', Stand p l e R (s.setVm vm0) m args below meth c T' locs k n ∧ T'.heap = h ∧ P T') :
    ∃ T', Sp p l e R s m args below meth c Z a0 EL own T' h sf lq k n ∧ P T' := by
  obtain ⟨vm0, k0, locs, X, eT, r1, r2, hZ, ho, r⟩ := S
  obtain ⟨T', X', e', st'⟩ := st vm0 locs X hZ ho eT
  exact ⟨T', ⟨vm0, k0, locs, X', e', r1, r2, hZ, ho, r⟩, st'⟩
theorem Sp.get (B : Bw p e below F) (S : Sp p l e R s m args below meth c Z a0 EL own T h sf lq k n) {R0 O nm d : String} {ix pc : Nat} {Ls : Array Slot} {a : Addr} {v : Value} {rest : List Value} (w : (Jvm.Cond.fieldLink own ix R0 nm d).before a0 Z = true) (via : Via Z R0 O nm d) (Fl : Fld Z h a O nm d v) (hd : decode c.code pc = .ok (.getfield ix, 3))
    (K : ∀ T', Sp p l e R s m args below meth c Z a0 EL own T' h sf lq k n → F T' (mkF m (pc + 3) Ls (v :: rest))) : F T (mkF m pc Ls (.ref a :: rest)) := by
  obtain ⟨T', S', st⟩ := S.same fun vm0 locs X hZ ho eT => getF X S.hx hZ ho (host := "") (Or.inl w) via eT Fl (g := mkF m pc Ls (.ref a :: rest)) rfl rfl hd
  exact B st (K T' S')
theorem Sp.getS (B : Bw p e below F) (S : Sp p l e R s m args below meth c Z a0 EL own T h sf lq k n) {R0 O nm d : String} {ix pc : Nat} {Ls : Array Slot} {v : Value} {st : List Value} (w : (Jvm.Cond.fieldLink own ix R0 nm d).before a0 Z = true) (via : Via Z R0 O nm d) (Fs : Sta Z Z.heap O nm d v) (hd : decode c.code pc = .ok (.getstatic ix, 3))
    (K : ∀ T', Sp p l e R s m args below meth c Z a0 EL own T' h sf lq k n → F T' (mkF m (pc + 3) Ls (v :: st))) : F T (mkF m pc Ls st) := by
  obtain ⟨T', S', st'⟩ := S.same fun vm0 locs X hZ ho eT => RoadKit.getS X S.hx hZ (host := "") ho w via eT (Fs.ext S.old) (g := mkF m pc Ls st) rfl hd
  exact B st' (K T' S')
theorem Sp.cast (B : Bw p e below F) (S : Sp p l e R s m args below meth c Z a0 EL own T h sf lq k n) {C : String} {ix pc : Nat} {Ls : Array Slot} {a : Addr} {rest : List Value} (w : (Jvm.Cond.classLink own ix C).before a0 Z = true) (I : Ins Z h a C true) (hd : decode c.code pc = .ok (.checkcast ix, 3))
    (K : ∀ T', Sp p l e R s m args below meth c Z a0 EL own T' h sf lq k n → F T' (mkF m (pc + 3) Ls (.ref a :: rest))) : F T (mkF m pc Ls (.ref a :: rest)) := by
  obtain ⟨T', S', st'⟩ := S.same fun vm0 locs X hZ ho eT => castY X S.hx hZ ho w eT I (g := mkF m pc Ls (.ref a :: rest)) rfl rfl hd
  exact B st' (K T' S')
theorem Sp.instY (B : Bw p e below F) (S : Sp p l e R s m args below meth c Z a0 EL own T h sf lq k n) {C : String} {ix pc : Nat} {Ls : Array Slot} {a : Addr} {rest : List Value} (w : (Jvm.Cond.classLink own ix C).before a0 Z = true) (I : Ins Z h a C true) (hd : decode c.code pc = .ok (.instanceof ix, 3))
    (K : ∀ T', Sp p l e R s m args below meth c Z a0 EL own T' h sf lq k n → F T' (mkF m (pc + 3) Ls (.int 1 :: rest))) : F T (mkF m pc Ls (.ref a :: rest)) := by
  obtain ⟨T', S', st'⟩ := S.same fun vm0 locs X hZ ho eT => RoadKit.instY X S.hx hZ ho w eT I (g := mkF m pc Ls (.ref a :: rest)) rfl rfl hd
  exact B st' (K T' S')
theorem Sp.initO (B : Bw p e below F) (S : Sp p l e R s m args below meth c Z a0 EL own T h sf lq k n) {ix pc W : Nat} {Ls : Array Slot} {a : Addr} {rest : List Value} (w1 : (Jvm.Cond.methodLink own ix Lib.objectInit).before a0 Z = true) (w2 : (Jvm.Cond.instanceMethod Lib.objectInit).before a0 Z = true) (w3 : (Jvm.Cond.code Lib.objectInit ⟨#[0xb1]⟩ 1 none).before a0 Z = true)
    (hml : Ls.size = c.maxLocals) (hd : decode c.code pc = .ok (.invokespecial ix, 3)) (hf : 1 ≤ R.frames) (hW : (rest.map fun v => v.category).sum ≤ W) (hl : W + 12 ≤ R.locals)
    (K : ∀ T', Sp p l e R s m args below meth c Z a0 EL own T' h sf lq k n → F T' (mkF m (pc + 3) Ls rest)) : F T (mkF m pc Ls (.ref a :: rest)) := by
  obtain ⟨T', S', st'⟩ := S.same fun vm0 locs X hZ ho eT => RoadKit.initO X S.hx hZ ho w1 w2 w3 eT (g := mkF m pc Ls (.ref a :: rest)) rfl hml rfl hd hf (W := W) (by show 2 * 0 + _ ≤ _; omega) hl
  exact B st' (K T' S')
/-- one place of a new cell written -/
theorem Sp.wr {T' : State} {vm0 : Vm} {k0 : Nat} {locs : List Loc} {a : Addr} {sl : Nat} {v : Value} (X : Stand p l e R (s.setVm vm0) m args below meth c T' (locs ++ [⟨a, sl⟩]) k n) (eT : T'.heap = h') (hS : s.Since vm0 k0) (hk : k0 ≤ h.size) (hZ : Z.Warmed39 vm0) (ho : vm0.findClass own = some m.cls) (hC : CHr Z EL s.vm s.heap vm0 h) (hN : Fr Z.heap.size locs) (hE : Ext Z.heap h)
    (hsf : ∀ x ∈ sf, Safe Z EL vm0 h x ∧ Z.heap.size ≤ x ∧ x < h.size) (hlt : ∀ q ∈ lq, Lit (s.setVm vm0) q.1 q.2.1 q.2.2) (hx : p.tables.exec = Jvm.exec) (hEW : EW Z a0 EL) (W : Wr h h' a sl v) (ha : a ∈ sf) : Sp p l e R s m args below meth c Z a0 EL own T' h' sf lq k n := by
  have hs := W.size
  refine ⟨vm0, k0, _, X, eT, hS, by rw [hs]; exact hk, hZ, ho, hC.trans (CHr.wr W (hsf a ha).1 hC.1), Fr.snoc X hN (hsf a ha).2.1, ⟨by rw [hs]; exact hE.1, fun x cl q => ?_⟩, fun x hx' => ⟨Safe.wr W (hsf a ha).1 hC.1 (hsf x hx').1, (hsf x hx').2.1, by rw [hs]; exact (hsf x hx').2.2⟩, hlt, hx, hEW⟩
  exact (Keep.of_wr W).2.1 x cl (hE.2 x cl q) (ninS (Nat.ne_of_lt (Nat.lt_of_lt_of_le (Array.getElem?_eq_some_iff.mp q).1 (hsf a ha).2.1)) nin0)
theorem Sp.put (B : Bw p e below F) (S : Sp p l e R s m args below meth c Z a0 EL own T h sf lq k n) {R0 O nm d C : String} {ix kk pc : Nat} {ty : FieldType} {Ls : Array Slot} {a : Addr} {v v' old : Value} {rest : List Value} (w : (Jvm.Cond.fieldLink own ix R0 nm d).before a0 Z = true) (via : Via Z R0 O nm d) (Fl : Fld Z h a O nm d old) (E : Exa Z h a C)
    (L : (Jvm.Cond.lays C O nm d).before a0 Z = true ∨ ((Jvm.Cond.laysFinal C O nm d).before a0 Z = true ∧ own = O ∧ meth.name = "<init>")) (wi : (Jvm.Cond.instantiable C kk).before a0 Z = true) (hty : parseFieldDescriptor d = some ty) (hn : narrow ty v = v') (hf : fits ty v' = true) (ha : a ∈ sf) (hd : decode c.code pc = .ok (.putfield ix, 3))
    (K : ∀ T' h', Sp p l e R s m args below meth c Z a0 EL own T' h' sf lq k n → Wr h h' a (RoadKit.slotOf Z O nm d) v' → F T' (mkF m (pc + 3) Ls rest)) : F T (mkF m pc Ls (v :: .ref a :: rest)) := by
  obtain ⟨vm0, k0, locs, X, eT, hS, hk, hZ, ho, hC, hN, hE, hsf, hlt, hx, hEW⟩ := S
  obtain ⟨T', h', X', e', W, st⟩ := putFN X hx hZ ho w via eT Fl E L wi hty hn hf (g := mkF m pc Ls (v :: .ref a :: rest)) rfl rfl hd
  exact B st (K T' h' (Sp.wr X' e' hS hk hZ ho hC hN hE hsf hlt hx hEW W ha) W)
/-- a cell made -/
theorem Sp.grow {T' : State} {vm0 : Vm} {k0 k' n' : Nat} {locs : List Loc} (X : Stand p l e R (s.setVm vm0) m args below meth c T' locs k' n') (eT : T'.heap = h') (hS : s.Since vm0 k0) (hk : k0 ≤ h.size) (hZ : Z.Warmed39 vm0) (ho : vm0.findClass own = some m.cls) (hC : CHr Z EL s.vm s.heap vm0 h) (hN : Fr Z.heap.size locs) (hE : Ext Z.heap h)
    (hsf : ∀ x ∈ sf, Safe Z EL vm0 h x ∧ Z.heap.size ≤ x ∧ x < h.size) (hlt : ∀ q ∈ lq, Lit (s.setVm vm0) q.1 q.2.1 q.2.2) (hx : p.tables.exec = Jvm.exec) (hEW : EW Z a0 EL) (E : Ext h h') (hlt' : h.size < h'.size) : Sp p l e R s m args below meth c Z a0 EL own T' h' (h.size :: sf) lq k' n' := by
  refine ⟨vm0, k0, _, X, eT, hS, Nat.le_trans hk E.1, hZ, ho, hC.trans (CHr.ext E hC.1), hN, ⟨Nat.le_trans hE.1 E.1, fun x cl q => E.2 _ _ (hE.2 x cl q)⟩, fun x hx' => ?_, hlt, hx, hEW⟩
  rcases List.mem_cons.mp hx' with rfl | q
  · exact ⟨Safe.ext E hC.1 (Safe.new (Nat.le_refl _)), hE.1, hlt'⟩
  · exact ⟨Safe.ext E hC.1 (hsf x q).1, (hsf x q).2.1, Nat.lt_of_lt_of_le (hsf x q).2.2 E.1⟩
theorem Sp.newO (B : Bw p e below F) (S : Sp p l e R s m args below meth c Z a0 EL own T h sf lq k n) {C : String} {ix kk pc : Nat} {Ls : Array Slot} {st : List Value} (w : (Jvm.Cond.classLink own ix C).before a0 Z = true) (wi : (Jvm.Cond.instantiable C kk).before a0 Z = true) (wz : (Jvm.Cond.initialized C).before a0 Z = true) (hd : decode c.code pc = .ok (.new ix, 3)) (hc : k + 1 ≤ R.cells) (hl : n + kk ≤ R.slots)
    (K : ∀ T' h' a, Sp p l e R s m args below meth c Z a0 EL own T' h' (a :: sf) lq (k + 1) (n + kk) → Ext h h' → h.size ≤ a → Exa Z h' a C → (∀ {O nm d : String} {ty : FieldType}, Laid Z a0 C O nm d → parseFieldDescriptor d = some ty → Fld Z h' a O nm d (defaultValue ty)) → F T' (mkF m (pc + 3) Ls (.ref a :: st))) : F T (mkF m pc Ls st) := by
  obtain ⟨vm0, k0, locs, X, eT, hS, hk, hZ, ho, hC, hN, hE, hsf, hlt, hx, hEW⟩ := S
  obtain ⟨T', h', X', e', E, A, D, -, st'⟩ := RoadKit.newO X hx hZ ho w wi wz eT (g := mkF m pc Ls st) rfl hd hc hl
  exact B st' (K T' h' h.size (Sp.grow X' e' hS hk hZ ho hC hN hE hsf hlt hx hEW E A.lt) E (Nat.le_refl _) A fun a b => D a b)
theorem Sp.newP (B : Bw p e below F) (S : Sp p l e R s m args below meth c Z a0 EL own T h sf lq k n) {aty : ArrayType} {cap pc : Nat} {Ls : Array Slot} {z : Int32} {rest : List Value} {ad : String} (w : (Jvm.Cond.arrayClass (newarray.typeOf aty)).before a0 Z = true) (hd : decode c.code pc = .ok (.newarray aty, 2)) (hn : ¬ z < 0) (hcap : z.toNatClampNeg ≤ cap) (hb : cap * 8 ≤ 536870912) (hc : k + 1 ≤ R.cells) (hl : n + cap ≤ R.slots) (had : "[" ++ (newarray.typeOf aty).toString = ad)
    (K : ∀ T' h' a kA, Sp p l e R s m args below meth c Z a0 EL own T' h' (a :: sf) lq (k + 1) (n + cap) → Ext h h' → h.size ≤ a → Exa Z h' a ad → Arv Z h' a kA (newarray.typeOf aty) z [] (defaultValue (newarray.typeOf aty)) → F T' (mkF m (pc + 2) Ls (.ref a :: rest))) : F T (mkF m pc Ls (.int z :: rest)) := by
  obtain ⟨vm0, k0, locs, X, eT, hS, hk, hZ, ho, hC, hN, hE, hsf, hlt, hx, hEW⟩ := S
  obtain ⟨T', h', cA, X', e', E, A, Ex, st'⟩ := newPE X hx hZ w eT (g := mkF m pc Ls (.int z :: rest)) rfl hd rfl hn hcap hb hc hl had
  exact B st' (K T' h' h.size cA (Sp.grow X' e' hS hk hZ ho hC hN hE hsf hlt hx hEW E A.lt) E (Nat.le_refl _) Ex (Arv.new A hn))
theorem Sp.stC (B : Bw p e below F) (S : Sp p l e R s m args below meth c Z a0 EL own T h sf lq k n) {a : Addr} {kA : ClassId} {z j x x' : Int32} {vs : List Value} {dv : Value} {i pc : Nat} {Ls : Array Slot} {rest : List Value} (V : Arv Z h a kA .char z vs dv) (hj : ¬ j < 0 ∧ j < z) (hi : j.toNatClampNeg = i) (hil : i < vs.length) (hx' : nar .char x = x') (ha : a ∈ sf) (hd : decode c.code pc = .ok (.castore, 1))
    (K : ∀ T' h', Sp p l e R s m args below meth c Z a0 EL own T' h' sf lq k n → Wr h h' a j.toNatClampNeg (.int x') → Arv Z h' a kA .char z (vs.set i (.int x')) dv → F T' (mkF m (pc + 1) Ls rest)) : F T (mkF m pc Ls (.int x :: .int j :: .ref a :: rest)) := by
  obtain ⟨vm0, k0, locs, X, eT, hS, hk, hZ, ho, hC, hN, hE, hsf, hlt, hx, hEW⟩ := S
  obtain ⟨cl, A, q1, q2, q3, H, G⟩ := V
  obtain ⟨T', h', X', e', W, st⟩ := RoadKit.stC X hx hZ eT A (inb_of q2 hj) (g := mkF m pc Ls (.int x :: .int j :: .ref a :: rest)) rfl rfl hd
  have hf : fits .char (.int x') = true := hx' ▸ fits_nar_char x
  rw [hx'] at W
  exact B st (K T' h' (Sp.wr X' e' hS hk hZ ho hC hN hE hsf hlt hx hEW W ha) W (Arv.set A q1 q2 q3 H G hf W i hi hil))
theorem Sp.stB (B : Bw p e below F) (S : Sp p l e R s m args below meth c Z a0 EL own T h sf lq k n) {a : Addr} {kA : ClassId} {z j x x' : Int32} {vs : List Value} {dv : Value} {i pc : Nat} {Ls : Array Slot} {rest : List Value} (V : Arv Z h a kA .byte z vs dv) (hj : ¬ j < 0 ∧ j < z) (hi : j.toNatClampNeg = i) (hil : i < vs.length) (hx' : nar .byte x = x') (ha : a ∈ sf) (hd : decode c.code pc = .ok (.bastore, 1))
    (K : ∀ T' h', Sp p l e R s m args below meth c Z a0 EL own T' h' sf lq k n → Wr h h' a j.toNatClampNeg (.int x') → Arv Z h' a kA .byte z (vs.set i (.int x')) dv → F T' (mkF m (pc + 1) Ls rest)) : F T (mkF m pc Ls (.int x :: .int j :: .ref a :: rest)) := by
  obtain ⟨vm0, k0, locs, X, eT, hS, hk, hZ, ho, hC, hN, hE, hsf, hlt, hx, hEW⟩ := S
  obtain ⟨cl, A, q1, q2, q3, H, G⟩ := V
  obtain ⟨T', h', X', e', W, st⟩ := RoadKit.stB X hx hZ eT A (inb_of q2 hj) (g := mkF m pc Ls (.int x :: .int j :: .ref a :: rest)) rfl rfl hd
  have hf : fits .byte (.int x') = true := hx' ▸ fits_nar_byte x
  rw [hx'] at W
  exact B st (K T' h' (Sp.wr X' e' hS hk hZ ho hC hN hE hsf hlt hx hEW W ha) W (Arv.set A q1 q2 q3 H G hf W i hi hil))
theorem Sp.alen (B : Bw p e below F) (S : Sp p l e R s m args below meth c Z a0 EL own T h sf lq k n) {a : Addr} {kA : ClassId} {ty : FieldType} {z : Int32} {vs : List Value} {dv : Value} {pc : Nat} {Ls : Array Slot} {rest : List Value} (V : Arv Z h a kA ty z vs dv) (hd : decode c.code pc = .ok (.arraylength, 1))
    (K : F T (mkF m (pc + 1) Ls (.int z :: rest))) : F T (mkF m pc Ls (.ref a :: rest)) := by
  obtain ⟨vm0, k0, locs, X, eT, hS, hk, hZ, ho, hC, hN, hE, hsf, hlt, hx, hEW⟩ := S
  obtain ⟨cl, A, q1, q2, q3, H, G⟩ := V
  refine B (fun t kt => ?_) K
  refine X.arraylength hx (by rw [eT]; exact A.1) (State.isArrayOf_alike hZ.alike A.2.1) (g := mkF m pc Ls (.ref a :: rest)) rfl rfl hd _ ?_
  rw [len_of q2 q3]
  exact kt
theorem Sp.cald (B : Bw p e below F) (S : Sp p l e R s m args below meth c Z a0 EL own T h sf lq k n) {a : Addr} {kA : ClassId} {z j x : Int32} {vs : List Value} {dv : Value} {pc : Nat} {Ls : Array Slot} {rest : List Value} (V : Arv Z h a kA .char z vs dv) (hj : ¬ j < 0 ∧ j < z) (hv : vs.getD j.toNatClampNeg dv = .int x) (hd : decode c.code pc = .ok (.caload, 1))
    (K : F T (mkF m (pc + 1) Ls (.int x :: rest))) : F T (mkF m pc Ls (.int j :: .ref a :: rest)) := by
  obtain ⟨vm0, k0, locs, X, eT, hS, hk, hZ, ho, hC, hN, hE, hsf, hlt, hx, hEW⟩ := S
  obtain ⟨cl, A, q1, q2, q3, H, G⟩ := V
  refine B (fun t kt => ?_) K
  exact X.caload hx (j := j) (v := .int x) (by rw [eT]; exact A.1) (State.isArrayOf_alike hZ.alike A.2.1) A.2.2 (inb_of q2 hj) (H.at (inb_of q2 hj) hv) (g := mkF m pc Ls (.int j :: .ref a :: rest)) rfl rfl hd _ kt
theorem Sp.bald (B : Bw p e below F) (S : Sp p l e R s m args below meth c Z a0 EL own T h sf lq k n) {a : Addr} {kA : ClassId} {z j x : Int32} {vs : List Value} {dv : Value} {pc : Nat} {Ls : Array Slot} {rest : List Value} (V : Arv Z h a kA .byte z vs dv) (hj : ¬ j < 0 ∧ j < z) (hv : vs.getD j.toNatClampNeg dv = .int x) (hd : decode c.code pc = .ok (.baload, 1))
    (K : F T (mkF m (pc + 1) Ls (.int x :: rest))) : F T (mkF m pc Ls (.int j :: .ref a :: rest)) := by
  obtain ⟨vm0, k0, locs, X, eT, hS, hk, hZ, ho, hC, hN, hE, hsf, hlt, hx, hEW⟩ := S
  obtain ⟨cl, A, q1, q2, q3, H, G⟩ := V
  refine B (fun t kt => ?_) K
  exact X.baloadBytes hx (j := j) (v := .int x) (by rw [eT]; exact A.1) (State.isArrayOf_alike hZ.alike A.2.1) A.2.2 (inb_of q2 hj) (H.at (inb_of q2 hj) hv) (g := mkF m pc Ls (.int j :: .ref a :: rest)) rfl rfl hd _ kt
theorem Sp.irem (B : Bw p e below F) (S : Sp p l e R s m args below meth c Z a0 EL own T h sf lq k n) {x y : Int32} {pc : Nat} {Ls : Array Slot} {rest : List Value} (hy : y ≠ 0) (hd : decode c.code pc = .ok (.irem, 1))
    (K : F T (mkF m (pc + 1) Ls (.int (x % y) :: rest))) : F T (mkF m pc Ls (.int y :: .int x :: rest)) := by
  obtain ⟨vm0, k0, locs, X, eT, hS, hk, hZ, ho, hC, hN, hE, hsf, hlt, hx, hEW⟩ := S
  exact B (fun t kt => iremM X hx (g := mkF m pc Ls (.int y :: .int x :: rest)) rfl hd rfl hy kt) K
theorem Sp.ldcI (B : Bw p e below F) (S : Sp p l e R s m args below meth c Z a0 EL own T h sf lq k n) {v : Int32} {ix pc : Nat} {Ls : Array Slot} {st : List Value} (w : (Jvm.Cond.constant own ix v).before a0 Z = true) (hd : decode c.code pc = .ok (.ldc ix, 2))
    (K : F T (mkF m (pc + 2) Ls (.int v :: st))) : F T (mkF m pc Ls st) := by
  obtain ⟨vm0, k0, locs, X, eT, hS, hk, hZ, ho, hC, hN, hE, hsf, hlt, hx, hEW⟩ := S
  exact B (fun t kt => X.ldcI hx ho (mvT (s := s.setVm vm0) hZ w) (g := mkF m pc Ls st) rfl hd kt) K
/-- more room than is asked -/
theorem Call.mono {y : MethodName} {as' : Array Value} {len W kc ks kc' ks' : Nat} (C : Call l R p e below s args Z a0 EL y len W as' h sf kc ks Q) (hk : kc ≤ kc') (hs : ks ≤ ks') : Call l R p e below s args Z a0 EL y len W as' h sf kc' ks' Q := fun vm0 hZ hC hEL hE hsf => by
  intro m meth c A g ig mk a X hg hsize hdg hW hn hp
  obtain ⟨v, B, X', h2, hgr, ⟨L, nw, q1, q2, q3, q4, q5, q6, q7, q8⟩, st⟩ := C vm0 hZ hC hEL hE hsf m meth c A g ig mk a X hg hsize hdg hW hn ⟨hp.1, hp.2.1, Nat.le_trans (Nat.add_le_add_left hk _) hp.2.2.1, Nat.le_trans (Nat.add_le_add_left hs _) hp.2.2.2⟩
  exact ⟨v, ⟨B.U, B.locs, A.cells + kc', A.slots + ks'⟩, X'.mono (by rw [q6]; exact Nat.add_le_add_left hk _) (by rw [q7]; exact Nat.add_le_add_left hs _), h2, hgr, ⟨L, nw, q1, q2, q3, q4, q5, rfl, rfl, q8⟩, st⟩
theorem Call.imp {y : MethodName} {as' : Array Value} {len W kc ks : Nat} {Q' : Option Value → Heap → List Addr → Prop} (C : Call l R p e below s args Z a0 EL y len W as' h sf kc ks Q) (hq : ∀ v h' nw, Q v h' nw → Q' v h' nw) : Call l R p e below s args Z a0 EL y len W as' h sf kc ks Q' := fun vm0 hZ hC hEL hE hsf => by
  intro m meth c A g ig mk a X hg hsize hdg hW hn hp
  obtain ⟨v, B, X', h2, hgr, ⟨L, nw, q1, q2⟩, st⟩ := C vm0 hZ hC hEL hE hsf m meth c A g ig mk a X hg hsize hdg hW hn hp
  exact ⟨v, B, X', h2, hgr, ⟨L, nw, hq _ _ _ q1, q2⟩, st⟩
/-- a String constant of EL loaded, its text read -/
theorem Sp.ldc (B : Bw p e below F) (S : Sp p l e R s m args below meth c Z a0 EL own T h sf lq k n) {text : String} {ix nn pc : Nat} {Ls : Array Slot} {st : List Value} (w : (Jvm.Cond.stringLink own ix text).before a0 Z = true) (wS : ∀ a ∈ Bundle.stringAtoms, a.before a0 Z = true) (hmem : (own, ix) ∈ EL)
    {vs : List Value} {z : Int32} (ht : (∀ c ∈ text.toList, c.toNat < 256) ∧ text.toList.map (fun c => Value.int (Jvm.Lit.byteI c.toNat.toUInt16)) = vs) (hz : ¬ z < 0) (hl : z.toNatClampNeg = vs.length) (hd : decode c.code pc = .ok (.ldc ix, 2)) (hn : 4 * text.toList.length ≤ nn) (hbig : nn ≤ 536870912) (hc : k + 2 ≤ R.cells) (hl' : n + (nn + 4) ≤ R.slots)
    (K : ∀ T' h' a b kb, Sp p l e R s m args below meth c Z a0 EL own T' h' sf [(own, ix, a)] (k + 2) (n + (nn + 4)) → Ext h h' → Exa Z h' a "java/lang/String" → Fld Z h' a "java/lang/String" "coder" "B" (.int 0) → Fld Z h' a "java/lang/String" "value" "[B" (.ref b) → Arv Z h' b kb .byte z vs (.int 0) → (∀ x ∈ sf, x ≠ a ∧ x ≠ b) → F T' (mkF m (pc + 2) Ls (.ref a :: st))) : F T (mkF m pc Ls st) := by
  obtain ⟨vm0, k0, locs, X, eT, hS, hk, hZ, ho, hC, hN, hE, hsf, hlt, hx, hEW⟩ := S
  obtain ⟨a, T', h', k1, b, kb, X', e', E, hS', hk', hZ', ho', e1, e2, e3, e4, e5, e6, hCr, hL, hne, st'⟩ := ldcCH X hx hZ ho w wS eT hS hk hEW hmem hC.1 ht hz hl (g := mkF m pc Ls st) rfl hd hn hbig hc hl'
  refine B st' (K T' h' a b kb ⟨T'.vm, k1, locs, X', e', hS', hk', hZ', ho', hC.trans hCr, hN, ⟨Nat.le_trans hE.1 E.1, fun x cl q => E.2 _ _ (hE.2 x cl q)⟩, fun x hx' => ⟨hCr.safe (hsf x hx').2.2 (hsf x hx').1, (hsf x hx').2.1, Nat.lt_of_lt_of_le (hsf x hx').2.2 E.1⟩, fun q hq => ?_, hx, hEW⟩ E e1 e2 e3 e4 fun x hx' => hne x (hCr.safe (hsf x hx').2.2 (hsf x hx').1))
  cases List.mem_singleton.mp hq
  exact hL
/-- the same entry again -/
theorem Sp.ldcA (B : Bw p e below F) (S : Sp p l e R s m args below meth c Z a0 EL own T h sf lq k n) {text : String} {ix pc : Nat} {a : Addr} {Ls : Array Slot} {st : List Value} (w : (Jvm.Cond.stringLink own ix text).before a0 Z = true) (hq : (own, ix, a) ∈ lq) (hd : decode c.code pc = .ok (.ldc ix, 2))
    (K : F T (mkF m (pc + 2) Ls (.ref a :: st))) : F T (mkF m pc Ls st) := by
  obtain ⟨vm0, k0, locs, X, eT, hS, hk, hZ, ho, hC, hN, hE, hsf, hlt, hx, hEW⟩ := S
  exact B (ldcAgain X hx hZ ho w (hlt _ hq) (g := mkF m pc Ls st) rfl hd) K
/-- returns -/
theorem Sp.leave {kc ks : Nat} (S : Sp p l e R s m args below meth c Z a0 EL own T h sf lq kc ks) {v : Option Value} (hv : meth.sig.returnType = none → v = none) (hlk : meth.locks = false) {nw : List Addr} (hq : Q v h nw) (hnw : ∀ x ∈ nw, x ∈ sf) {g : JFrame}
    (go : ∀ (vm0 : Vm) (locs : List Loc) (fs : List Frame), Stand p l e R (s.setVm vm0) m args below meth c T locs kc ks → (∀ (f : JFrame) (acts : List Action), f.method = m → f.locked = none → f.entered = [] → (doReturn e (T.setTop f) acts v).1 = T.setFrames fs) → Steps p.tables e below (T.setTop g) (T.setFrames fs)) :
    Fin p e below s Z EL Q kc ks T g := by
  obtain ⟨vm0, k0, locs, X, eT, hS, hk, hZ, ho, hC, hN, hE, hsf, hlt, hx, hEW⟩ := S
  obtain ⟨fs, h1, h2, h3, h4⟩ := X.leaveW hS (by rw [eT]; exact hk) hv hlk
  have R1 : CHr Z EL vm0 h T.vm h := CHv.at X hZ hEW hC.1
  refine ⟨_, _, go vm0 locs fs X h1, h2, h3, v, locs, nw, rfl, by show Q v T.heap nw; rw [eT]; exact hq, fun x hx' => ?_, hN, by show Ext Z.heap T.heap; rw [eT]; exact hE, by show CHr Z EL s.vm s.heap T.vm T.heap; rw [eT]; exact hC.trans R1, h4⟩
  have q := hsf x (hnw x hx')
  show Safe Z EL T.vm T.heap x ∧ Z.heap.size ≤ x ∧ x < T.heap.size
  rw [eT]; exact ⟨R1.safe q.2.2 q.1, q.2⟩
theorem Sp.ret {kc ks pc : Nat} {Ls : Array Slot} (S : Sp p l e R s m args below meth c Z a0 EL own T h sf lq kc ks) (hr : meth.sig.returnType = none) (hlk : meth.locks = false) (hd : decode c.code pc = .ok (.return_, 1)) {nw : List Addr} (hq : Q none h nw) (hnw : ∀ x ∈ nw, x ∈ sf) : Fin p e below s Z EL Q kc ks T (mkF m pc Ls []) :=
  S.leave (fun _ => rfl) hlk hq hnw fun vm0 locs fs X hl => X.returnOut S.hx hr hd hl
theorem Sp.retV {kc ks pc : Nat} {Ls : Array Slot} {t : FieldType} {w : Value} {i : Instr} {rest : List Value} (S : Sp p l e R s m args below meth c Z a0 EL own T h sf lq kc ks) (hr : meth.sig.returnType = some t) (hlk : meth.locks = false) (hn : narrow t w = w)
    (hi : (i = .ireturn ∧ (t = .int ∨ t = .boolean ∨ t = .byte ∨ t = .char ∨ t = .short) ∧ ∃ z, w = .int z) ∨ (i = .lreturn ∧ t = .long ∧ ∃ z, w = .long z) ∨ (i = .dreturn ∧ t = .double ∧ ∃ z, w = .double z) ∨ (i = .freturn ∧ t = .float ∧ ∃ z, w = .float z) ∨ (i = .areturn ∧ t.isReference = true ∧ w.isRef = true))
    (hd : decode c.code pc = .ok (i, 1)) {nw : List Addr} (hq : Q (some w) h nw) (hnw : ∀ x ∈ nw, x ∈ sf) : Fin p e below s Z EL Q kc ks T (mkF m pc Ls (w :: rest)) :=
  S.leave (fun q => by rw [hr] at q; cases q) hlk hq hnw fun vm0 locs fs X hl => retOut X S.hx hr hn hi hd hl
theorem Sp.retA {kc ks pc : Nat} {Ls : Array Slot} {t : FieldType} {w : Value} {rest : List Value} (S : Sp p l e R s m args below meth c Z a0 EL own T h sf lq kc ks) (hr : meth.sig.returnType = some t) (hlk : meth.locks = false) (ht : t.isReference = true) (hw : w.isRef = true)
    (hd : decode c.code pc = .ok (.areturn, 1)) {nw : List Addr} (hq : Q (some w) h nw) (hnw : ∀ x ∈ nw, x ∈ sf) : Fin p e below s Z EL Q kc ks T (mkF m pc Ls (w :: rest)) :=
  S.retV hr hlk (by cases w <;> first | (cases hw; done) | (cases t <;> rfl)) (Or.inr (Or.inr (Or.inr (Or.inr ⟨rfl, ht, hw⟩)))) hd hq hnw
theorem Sp.retI {kc ks pc : Nat} {Ls : Array Slot} {t : FieldType} {z : Int32} {rest : List Value} (S : Sp p l e R s m args below meth c Z a0 EL own T h sf lq kc ks) (hr : meth.sig.returnType = some t) (hlk : meth.locks = false) (ht : t = .int ∨ t = .boolean ∨ t = .byte ∨ t = .char ∨ t = .short) (hn : narrow t (.int z) = .int z)
    (hd : decode c.code pc = .ok (.ireturn, 1)) {nw : List Addr} (hq : Q (some (.int z)) h nw) (hnw : ∀ x ∈ nw, x ∈ sf) : Fin p e below s Z EL Q kc ks T (mkF m pc Ls (.int z :: rest)) :=
  S.retV hr hlk hn (Or.inl ⟨rfl, ht, z, rfl⟩) hd hq hnw
/-- an object by its class and some of its fields -/
def Ob (Z : State) (a0 : Array Value) (h : Heap) (a : Addr) (C : String) (fs : List (String × String × String × Value)) : Prop :=
  Exa Z h a C ∧ ∀ f ∈ fs, Laid Z a0 C f.1 f.2.1 f.2.2.1 ∧ (∃ t, parseFieldDescriptor f.2.2.1 = some t) ∧ Fld Z h a f.1 f.2.1 f.2.2.1 f.2.2.2
theorem all_nil {α : Type} {P : α → Prop} : ∀ x ∈ ([] : List α), P x := fun _ q => nomatch q
theorem all_cons {α : Type} {P : α → Prop} {y : α} {L : List α} (q : P y) (r : ∀ x ∈ L, P x) : ∀ x ∈ y :: L, P x := fun x z => (List.mem_cons.mp z).elim (fun u => u ▸ q) (r x)
section Obj
variable {a b : Addr} {C : String} {fs : List (String × String × String × Value)}
theorem Ob.lt (O : Ob Z a0 h a C fs) : @LT.lt Nat _ a h.size := O.1.lt
theorem Ob.ext (O : Ob Z a0 h a C fs) (E : Ext h h') : Ob Z a0 h' a C fs := ⟨O.1.ext E, fun f hf => ⟨(O.2 f hf).1, (O.2 f hf).2.1, (O.2 f hf).2.2.ext E⟩⟩
theorem Ob.keep {ws : List Addr} (O : Ob Z a0 h a C fs) (K : Keep h h' ws) (q : a ∉ ws) : Ob Z a0 h' a C fs := ⟨O.1.keep K, fun f hf => ⟨(O.2 f hf).1, (O.2 f hf).2.1, (O.2 f hf).2.2.keep K q⟩⟩
theorem Ob.other {sl : Nat} {v : Value} (O : Ob Z a0 h a C fs) (W : Wr h h' b sl v) (q : a ≠ b) : Ob Z a0 h' a C fs := O.keep (Keep.of_wr W) (ninS q nin0)
theorem Ob.f (O : Ob Z a0 h a C fs) {i : Nat} {x : String × String × String × Value} (hi : fs[i]? = some x) : Fld Z h a x.1 x.2.1 x.2.2.1 x.2.2.2 := (O.2 x (List.mem_of_getElem? hi)).2.2
theorem Ob.laid (O : Ob Z a0 h a C fs) {i : Nat} {x : String × String × String × Value} (hi : fs[i]? = some x) : Laid Z a0 C x.1 x.2.1 x.2.2.1 := (O.2 x (List.mem_of_getElem? hi)).1
theorem Ob.put (O : Ob Z a0 h a C fs) {i : Nat} {O' nm d : String} {old v : Value} {ns : List String} (hi : fs[i]? = some (O', nm, d, old)) (hns : fs.map (·.2.1) = ns) (hnd : ns.Nodup) (W : Wr h h' a (RoadKit.slotOf Z O' nm d) v) : Ob Z a0 h' a C (fs.set i (O', nm, d, v)) := by
  subst hns
  have hil : i < fs.length := (List.getElem?_eq_some_iff.mp hi).1
  refine ⟨O.1.wr W, fun f hf => ?_⟩
  obtain ⟨j, hj⟩ := List.getElem?_of_mem hf
  rw [List.getElem?_set] at hj
  by_cases hij : i = j
  · subst hij
    simp only [if_true, hil] at hj
    cases hj
    have q1 := O.laid hi
    have q2 := (O.2 _ (List.mem_of_getElem? hi)).2.1
    have q3 := (O.f hi).same W
    exact ⟨q1, q2, q3⟩
  · simp only [hij, if_false] at hj
    obtain ⟨t, ht⟩ := (O.2 _ (List.mem_of_getElem? hi)).2.1
    obtain ⟨t', ht'⟩ := (O.2 _ (List.mem_of_getElem? hj)).2.1
    have hne : f.2.1 ≠ nm := fun q => by
      have e1 : (fs.map (·.2.1))[i]? = some nm := by rw [List.getElem?_map, hi]; rfl
      have e2 : (fs.map (·.2.1))[j]? = some nm := by rw [List.getElem?_map, hj, ← q]; rfl
      have hil' : i < (fs.map (·.2.1)).length := by rw [List.length_map]; exact hil
      exact hij ((List.getElem?_inj hil' hnd).mp (e1.trans e2.symm))
    have q1 := O.laid hj
    have q2 := O.laid hi
    have q3 := O.f hj
    exact ⟨q1, ⟨t', ht'⟩, q3.other W (Or.inr (slot_ne q1 q2 hne ht' ht))⟩
theorem Ob.new (A : Exa Z h a C) (D : ∀ {O nm d : String} {ty : FieldType}, Laid Z a0 C O nm d → parseFieldDescriptor d = some ty → Fld Z h a O nm d (defaultValue ty)) (ls : List (String × String × String × FieldType)) (hl : ∀ q ∈ ls, Laid Z a0 C q.1 q.2.1 q.2.2.1 ∧ parseFieldDescriptor q.2.2.1 = some q.2.2.2) :
    Ob Z a0 h a C (ls.map fun q => (q.1, q.2.1, q.2.2.1, defaultValue q.2.2.2)) := ⟨A, fun f hf => by
  obtain ⟨q, hq, rfl⟩ := List.mem_map.mp hf
  exact ⟨(hl q hq).1, ⟨_, (hl q hq).2⟩, D (hl q hq).1 (hl q hq).2⟩⟩
theorem Sp.getO (B : Bw p e below F) (S : Sp p l e R s m args below meth c Z a0 EL own T h sf lq k n) {O' nm d : String} {ix pc i : Nat} {Ls : Array Slot} {v : Value} {rest : List Value} (w : (Jvm.Cond.fieldLink own ix O' nm d).before a0 Z = true) (O : Ob Z a0 h a C fs) (hi : fs[i]? = some (O', nm, d, v)) (hd : decode c.code pc = .ok (.getfield ix, 3))
    (K : ∀ T', Sp p l e R s m args below meth c Z a0 EL own T' h sf lq k n → F T' (mkF m (pc + 3) Ls (v :: rest))) : F T (mkF m pc Ls (.ref a :: rest)) :=
  Sp.get B S w Via.refl (O.f hi) hd K
theorem Sp.putO (B : Bw p e below F) (S : Sp p l e R s m args below meth c Z a0 EL own T h sf lq k n) {O' nm d : String} {ix kk pc i : Nat} {ty : FieldType} {Ls : Array Slot} {v v' old : Value} {rest : List Value} {ns : List String} (w : (Jvm.Cond.fieldLink own ix O' nm d).before a0 Z = true) (O : Ob Z a0 h a C fs) (hi : fs[i]? = some (O', nm, d, old)) (hns : fs.map (·.2.1) = ns) (hnd : ns.Nodup)
    (L : (Jvm.Cond.lays C O' nm d).before a0 Z = true ∨ ((Jvm.Cond.laysFinal C O' nm d).before a0 Z = true ∧ own = O' ∧ meth.name = "<init>")) (wi : (Jvm.Cond.instantiable C kk).before a0 Z = true) (hty : parseFieldDescriptor d = some ty) (hn : narrow ty v = v') (hf : fits ty v' = true) (ha : a ∈ sf) (hd : decode c.code pc = .ok (.putfield ix, 3))
    (K : ∀ T' h', Sp p l e R s m args below meth c Z a0 EL own T' h' sf lq k n → Keep h h' [a] → Ob Z a0 h' a C (fs.set i (O', nm, d, v')) → F T' (mkF m (pc + 3) Ls rest)) : F T (mkF m pc Ls (v :: .ref a :: rest)) :=
  Sp.put B S w Via.refl (O.f hi) O.1 L wi hty hn hf ha hd fun T' h' S' W => K T' h' S' (Keep.of_wr W) (O.put hi hns hnd W)
end Obj
end Kit
end Jvm.OwnKit
/- laws to paste: Road.backArv, Road.eqW, Road.codOf, Road.wide_lo, Road.wide_hi, StrChars.narrow_ch (cut by pick.py; bodies as the Statement names them) -/
namespace Jvm.Pilot.@@N@@
namespace StrChars
open Jvm Sem ClassFile Op Lib Jvm.Stand Jvm.Free.XT Jvm.Free.ALB Jvm.Free.JM Jvm.Free
open Jvm.Lib.Cold (StaticIs)
/-- a char array whose places are chars -/
def Ch (a : Addr) (A : Cell) (U : State) : Prop := Arr .char a A U ∧ Typed .char A
theorem Ch.mv {a : Addr} {A : Cell} {U U' : State} (h : Ch a A U) (hal : U.vm.Alike U'.vm) (hh : U'.heap = U.heap) : Ch a A U' := ⟨h.1.mv hal hh, h.2⟩
theorem Ch.keep {a : Addr} {A : Cell} {U U' : State} (h : Ch a A U) (hal : U.vm.Alike U'.vm) (hk : U'.heap[a]? = some A) : Ch a A U' := ⟨h.1.keep hal hk, h.2⟩
/-- what place i of a char[]'s cell holds -/
def cv (A : Cell) (i : Nat) : Int32 := match A.slots[i]? with | some (.int x) => x | _ => 0
theorem Ch.get {a : Addr} {A : Cell} {U : State} (h : Ch a A U) {i : Nat} (hi : i < A.slots.size) : A.slots[i]? = some (.int (cv A i)) := by
  have e := Array.getElem?_eq_getElem hi
  have f := h.2 i _ e
  unfold cv; rw [e]
  generalize A.slots[i] = v at f
  cases v <;> simp [fits] at f ⊢
/-- the byte that i2b leaves of a char -/
def lo8 (x : Int32) : Int32 := x.toInt8.toInt32
theorem fits_lo8 (y : Int32) : fits .byte (.int (lo8 y)) = true := by
  have h1 := y.toInt8.le_toInt
  have h2 := y.toInt8.toInt_lt
  simp only [lo8, fits, Bool.and_eq_true, decide_eq_true_eq, Int32.le_iff_toInt_le, Int8.toInt_toInt32, show (-128 : Int32).toInt = -128 from by decide, show (127 : Int32).toInt = 127 from by decide]
  omega
/-- A' is A but that each place j of lo .. hi - 1 holds f j -/
def Laid (A A' : Cell) (lo hi : Nat) (f : Nat → Value) : Prop := A'.cls = A.cls ∧ A'.vm = A.vm ∧ A'.slots.size = A.slots.size ∧ ∀ i, A'.slots[i]? = if lo ≤ i ∧ i < hi then some (f i) else A.slots[i]?
theorem Laid.zero (A : Cell) (lo : Nat) (f : Nat → Value) : Laid A A lo (lo + 0) f := ⟨rfl, rfl, rfl, fun i => by rw [if_neg (by omega)]⟩
theorem Laid.step {A Ak : Cell} {lo k : Nat} {f : Nat → Value} {v : Value} (h : Laid A Ak lo k f) (hlo : lo ≤ k) (hk : k < Ak.slots.size) (hv : v = f k) : Laid A (Ak.setSlot k v) lo (k + 1) f := by
  refine ⟨h.1, h.2.1, by simpa [Cell.setSlot] using h.2.2.1, fun i => ?_⟩
  by_cases e : k = i
  · subst e; rw [Cell.slots_setSlot_self v hk, if_pos (by omega), hv]
  · rw [Cell.slots_setSlot_ne v e, h.2.2.2 i]
    by_cases q : lo ≤ i ∧ i < k
    · rw [if_pos q, if_pos (by omega)]
    · rw [if_neg q, if_neg (by omega)]
def U16 : String := "java/lang/StringUTF16"
namespace Cmp5
def yN : MethodName := ⟨"java/lang/StringUTF16", "compress", "([CI[BII)I"⟩
abbrev yB : ByteArray := jdk_52_method_21_code
theorem d0 : decode yB 0 = .ok (.iconst 0, 1) := by decide +kernel
theorem d1 : decode yB 1 = .ok (.istore 5, 2) := by decide +kernel
theorem d3 : decode yB 3 = .ok (.iload 5, 2) := by decide +kernel
theorem d5 : decode yB 5 = .ok (.iload 4, 2) := by decide +kernel
theorem d7 : decode yB 7 = .ok (.if_icmp (.ge) 37, 3) := by decide +kernel
theorem d10 : decode yB 10 = .ok (.aload_n 0, 1) := by decide +kernel
theorem d11 : decode yB 11 = .ok (.iload_n 1, 1) := by decide +kernel
theorem d12 : decode yB 12 = .ok (.caload, 1) := by decide +kernel
theorem d13 : decode yB 13 = .ok (.istore 6, 2) := by decide +kernel
theorem d15 : decode yB 15 = .ok (.iload 6, 2) := by decide +kernel
theorem d17 : decode yB 17 = .ok (.sipush 255, 3) := by decide +kernel
theorem d20 : decode yB 20 = .ok (.if_icmp (.le) 6, 3) := by decide +kernel
theorem d26 : decode yB 26 = .ok (.aload_n 2, 1) := by decide +kernel
theorem d27 : decode yB 27 = .ok (.iload_n 3, 1) := by decide +kernel
theorem d28 : decode yB 28 = .ok (.iload 6, 2) := by decide +kernel
theorem d30 : decode yB 30 = .ok (.i2b, 1) := by decide +kernel
theorem d31 : decode yB 31 = .ok (.bastore, 1) := by decide +kernel
theorem d32 : decode yB 32 = .ok (.iinc 1 1, 3) := by decide +kernel
theorem d35 : decode yB 35 = .ok (.iinc 3 1, 3) := by decide +kernel
theorem d38 : decode yB 38 = .ok (.iinc 5 1, 3) := by decide +kernel
theorem d41 : decode yB 41 = .ok (.goto (-38), 3) := by decide +kernel
theorem d44 : decode yB 44 = .ok (.iload 4, 2) := by decide +kernel
theorem d46 : decode yB 46 = .ok (.ireturn, 1) := by decide +kernel
def site : List Cond := []
def tab : Cond := tabOf yN yB 7 (some .int) site
def P (b : Addr) (A : Cell) (d : Addr) (B : Cell) (o q len : Nat) (args : Array Value) (s : State) : Prop := args = #[.ref b, .int (Int32.ofNat o), .ref d, .int (Int32.ofNat q), .int (Int32.ofNat len)] ∧ Ch b A s ∧ Arr .byte d B s ∧ b ≠ d ∧ o + len ≤ A.slots.size ∧ q + len ≤ B.slots.size ∧ ∀ i, i < len → ¬ 255 < cv A (o + i)
def E (b : Addr) (A : Cell) (d : Addr) (B : Cell) (o q len : Nat) (r : Option Value) (s u : State) : Prop := r = some (.int (Int32.ofNat len)) ∧ ∃ B', Put d B' s u ∧ Laid B B' q (q + len) (fun j => Value.int (lo8 (cv A (o + (j - q)))))
/-- no char of the range above 255: len; the places written hold each char's low byte -/
theorem law (l : Launch) (b : Addr) (A : Cell) (d : Addr) (B : Cell) (o q len : Nat) : Law l yN 5 5 0 0 yB 7 (some .int) site (P b A d B o q len) (E b A d B o q len) (copyLocs d q len) 0 0 := by
  refine Law.of_walk (plainFor_of_name (by decide +kernel)) (by decide +kernel) (by decide +kernel) (by decide) (fun _ _ h => by rw [h.1]; rfl) (fun _ U U' hal hh h => ⟨h.1, h.2.1.mv hal hh, h.2.2.1.mv hal hh, h.2.2.2⟩) (fun r U U' V V' h1 hal h2 h => ⟨h.1, h.2.elim fun B' q => ⟨B', q.1.mv h1 h2, q.2⟩⟩) ?_
  intro p e s m args below meth c s₁ X0 hexec hbytes hml hret hlk hnm hown hh0 W hP
  obtain ⟨rfl, hA, hB, hne, l1, l2, hp⟩ := hP
  have c1 : Steps p.tables e below (s₁.setTop (entryFrame m #[.ref b, .int (Int32.ofNat o), .ref d, .int (Int32.ofNat q), .int (Int32.ofNat len)] 7)) (s₁.setTop (mkF m 0 #[.val (.ref b), .val (.int (Int32.ofNat o)), .val (.ref d), .val (.int (Int32.ofNat q)), .val (.int (Int32.ofNat len)), .unset, .unset] [])) := entry rfl
  have hA0 := hA.1.mv X0.warmed.alike hh0
  have hB0 := hB.mv X0.warmed.alike hh0
  have a31 := hA.1.2.2.2
  have c2 : Steps p.tables e below (s₁.setTop (entryFrame m #[.ref b, .int (Int32.ofNat o), .ref d, .int (Int32.ofNat q), .int (Int32.ofNat len)] 7)) (s₁.setTop (mkF m 3 #[.val (.ref b), .val (.int (Int32.ofNat o)), .val (.ref d), .val (.int (Int32.ofNat q)), .val (.int (Int32.ofNat len)), .val (.int 0), .unset] [])) := c1.trans (by
    refine iconstV X0.here hexec rfl 0 (hb hbytes d0) (by decide) ?_
    refine XS.istore X0.here hexec rfl (hb hbytes d1) rfl rfl ?_
    exact Steps.refl _)
  have loop : ∀ (r i : Nat), i + r = len → ∀ (z : Slot), (z = .unset ∨ ∃ w, z = .val w ∧ w.category = 1) → ∀ (Tl : State) (Bk : Cell), Stand p l e { frames := 0, locals := 0, cells := 0, slots := 0 } s m #[.ref b, .int (Int32.ofNat o), .ref d, .int (Int32.ofNat q), .int (Int32.ofNat len)] below meth c Tl ([] ++ copyLocs d q i) 0 0 → Put d Bk s₁ Tl → Laid B Bk q (q + i) (fun j => Value.int (lo8 (cv A (o + (j - q))))) →
      Steps p.tables e below (s₁.setTop (entryFrame m #[.ref b, .int (Int32.ofNat o), .ref d, .int (Int32.ofNat q), .int (Int32.ofNat len)] 7)) (Tl.setTop (mkF m 3 #[.val (.ref b), .val (.int (Int32.ofNat (o + i))), .val (.ref d), .val (.int (Int32.ofNat (q + i))), .val (.int (Int32.ofNat len)), .val (.int (Int32.ofNat i)), z] [])) → ∃ (T' : State) (B' : Cell) (z' : Slot), Stand p l e { frames := 0, locals := 0, cells := 0, slots := 0 } s m #[.ref b, .int (Int32.ofNat o), .ref d, .int (Int32.ofNat q), .int (Int32.ofNat len)] below meth c T' ([] ++ copyLocs d q len) 0 0 ∧ Put d B' s₁ T' ∧ Laid B B' q (q + len) (fun j => Value.int (lo8 (cv A (o + (j - q))))) ∧
      Steps p.tables e below (s₁.setTop (entryFrame m #[.ref b, .int (Int32.ofNat o), .ref d, .int (Int32.ofNat q), .int (Int32.ofNat len)] 7)) (T'.setTop (mkF m 3 #[.val (.ref b), .val (.int (Int32.ofNat (o + len))), .val (.ref d), .val (.int (Int32.ofNat (q + len))), .val (.int (Int32.ofNat len)), .val (.int (Int32.ofNat len)), z'] [])) := by
    intro r
    induction r with
    | zero =>
      intro i hi z hz Tl Bk Xl pl fl cl
      have hil : i = len := by omega
      rw [hil] at Xl fl cl
      exact ⟨Tl, Bk, z, Xl, pl, fl, cl⟩
    | succ r ih =>
      intro i hi z hz Tl Bk Xl pl fl cl
      have all := X0.warmed.alike.symm.trans Xl.warmed.alike
      have hAl := hA0.keep all (pl.other hne hA0.1)
      have hBk := hB0.like all pl.1 fl.1 fl.2.1 fl.2.2.1
      have hlt : q + i < Bk.slots.size := by rw [fl.2.2.1]; omega
      have c3 : Steps p.tables e below (s₁.setTop (entryFrame m #[.ref b, .int (Int32.ofNat o), .ref d, .int (Int32.ofNat q), .int (Int32.ofNat len)] 7)) (Tl.setTop (mkF m 12 #[.val (.ref b), .val (.int (Int32.ofNat (o + i))), .val (.ref d), .val (.int (Int32.ofNat (q + i))), .val (.int (Int32.ofNat len)), .val (.int (Int32.ofNat i)), z] [.int (Int32.ofNat (o + i)), .ref b])) := cl.trans (by
        refine XS.iload Xl.here hexec rfl (hb hbytes d3) rfl ?_
        refine XS.iload Xl.here hexec rfl (hb hbytes d5) rfl ?_
        refine XS.icmpNo Xl.here hexec rfl (hb hbytes d7) rfl (ii_ge_f (lt32 (by omega) (by omega))) ?_
        refine XS.aloadN Xl.here hexec rfl (hb hbytes d10) rfl rfl ?_
        refine XS.iloadN Xl.here hexec rfl (hb hbytes d11) rfl ?_
        exact Steps.refl _)
      have c4 : Steps p.tables e below (s₁.setTop (entryFrame m #[.ref b, .int (Int32.ofNat o), .ref d, .int (Int32.ofNat q), .int (Int32.ofNat len)] 7)) (Tl.setTop (mkF m 13 #[.val (.ref b), .val (.int (Int32.ofNat (o + i))), .val (.ref d), .val (.int (Int32.ofNat (q + i))), .val (.int (Int32.ofNat len)), .val (.int (Int32.ofNat i)), z] [.int (cv A (o + i))])) := c3.trans (by
        refine Xl.aget hexec hAl rfl (hA.get (i := o + i) (by omega)) rfl rfl (hb hbytes d12) ?_
        exact Steps.refl _)
      have c5 : Steps p.tables e below (s₁.setTop (entryFrame m #[.ref b, .int (Int32.ofNat o), .ref d, .int (Int32.ofNat q), .int (Int32.ofNat len)] 7)) (Tl.setTop (mkF m 15 #[.val (.ref b), .val (.int (Int32.ofNat (o + i))), .val (.ref d), .val (.int (Int32.ofNat (q + i))), .val (.int (Int32.ofNat len)), .val (.int (Int32.ofNat i)), .val (.int (cv A (o + i)))] [])) := c4.trans (by
        refine XS.istoreS Xl.here hexec rfl (hb hbytes d13) rfl rfl hz ?_
        exact Steps.refl _)
      have c6 : Steps p.tables e below (s₁.setTop (entryFrame m #[.ref b, .int (Int32.ofNat o), .ref d, .int (Int32.ofNat q), .int (Int32.ofNat len)] 7)) (Tl.setTop (mkF m 31 #[.val (.ref b), .val (.int (Int32.ofNat (o + i))), .val (.ref d), .val (.int (Int32.ofNat (q + i))), .val (.int (Int32.ofNat len)), .val (.int (Int32.ofNat i)), .val (.int (cv A (o + i)))] [.int (lo8 (cv A (o + i))), .int (Int32.ofNat (q + i)), .ref d])) := c5.trans (by
        refine XS.iload Xl.here hexec rfl (hb hbytes d15) rfl ?_
        refine sipushV Xl.here hexec rfl 255 (hb hbytes d17) (by decide) ?_
        refine XS.icmpYes Xl.here hexec rfl (pc0 := 20) rfl (hb hbytes d20) rfl (ii_le_t (hp i (by omega))) (by decide) rfl ?_
        refine XS.aloadN Xl.here hexec rfl (hb hbytes d26) rfl rfl ?_
        refine XS.iloadN Xl.here hexec rfl (hb hbytes d27) rfl ?_
        refine XS.iload Xl.here hexec rfl (hb hbytes d28) rfl ?_
        refine i2b Xl.here hexec rfl (hb hbytes d30) rfl ?_
        exact Steps.refl _)
      obtain ⟨T7, X7, p7, st7⟩ := Xl.aput hexec hBk rfl hlt rfl (fits_lo8 (cv A (o + i))) (g := (mkF m 31 #[.val (.ref b), .val (.int (Int32.ofNat (o + i))), .val (.ref d), .val (.int (Int32.ofNat (q + i))), .val (.int (Int32.ofNat len)), .val (.int (Int32.ofNat i)), .val (.int (cv A (o + i)))] [.int (lo8 (cv A (o + i))), .int (Int32.ofNat (q + i)), .ref d])) rfl (rest := []) rfl (hb hbytes d31)
      have c8 : Steps p.tables e below (s₁.setTop (entryFrame m #[.ref b, .int (Int32.ofNat o), .ref d, .int (Int32.ofNat q), .int (Int32.ofNat len)] 7)) (T7.setTop (mkF m 32 #[.val (.ref b), .val (.int (Int32.ofNat (o + i))), .val (.ref d), .val (.int (Int32.ofNat (q + i))), .val (.int (Int32.ofNat len)), .val (.int (Int32.ofNat i)), .val (.int (cv A (o + i)))] [])) := c6.trans (st7 _ (Steps.refl _))
      have c9 : Steps p.tables e below (s₁.setTop (entryFrame m #[.ref b, .int (Int32.ofNat o), .ref d, .int (Int32.ofNat q), .int (Int32.ofNat len)] 7)) (T7.setTop (mkF m 3 #[.val (.ref b), .val (.int (Int32.ofNat (o + i) + 1)), .val (.ref d), .val (.int (Int32.ofNat (q + i) + 1)), .val (.int (Int32.ofNat len)), .val (.int (Int32.ofNat i + 1)), .val (.int (cv A (o + i)))] [])) := c8.trans (by
        refine iincV X7.here hexec rfl 1 (hb hbytes d32) (by decide) rfl rfl ?_
        refine iincV X7.here hexec rfl 1 (hb hbytes d35) (by decide) rfl rfl ?_
        refine iincV X7.here hexec rfl 1 (hb hbytes d38) (by decide) rfl rfl ?_
        refine XS.goto X7.here hexec rfl (pc0 := 41) rfl (hb hbytes d41) (by decide) rfl ?_
        exact Steps.refl _)
      have c10 : Steps p.tables e below (s₁.setTop (entryFrame m #[.ref b, .int (Int32.ofNat o), .ref d, .int (Int32.ofNat q), .int (Int32.ofNat len)] 7)) (T7.setTop (mkF m 3 #[.val (.ref b), .val (.int (Int32.ofNat (o + (i + 1)))), .val (.ref d), .val (.int (Int32.ofNat (q + (i + 1)))), .val (.int (Int32.ofNat len)), .val (.int (Int32.ofNat (i + 1))), .val (.int (cv A (o + i)))] [])) := by
        have := c9
        rw [succ32, succ32, succ32] at this
        exact this
      exact ih (i + 1) (by omega) _ (Or.inr ⟨_, rfl, rfl⟩) T7 _ (by rw [copyLocs_step, ← List.append_assoc]; exact X7) (pl.trans p7) (fl.step (by omega) hlt (by simp)) c10
  obtain ⟨T9, B9, z9, X9, p9, f9, g9⟩ := loop len 0 (by omega) .unset (Or.inl rfl) s₁ B (by simpa [copyLocs] using X0) ⟨hB0.1, fun _ _ => rfl, rfl⟩ (Laid.zero _ _ _) c2
  have c11 : Steps p.tables e below (s₁.setTop (entryFrame m #[.ref b, .int (Int32.ofNat o), .ref d, .int (Int32.ofNat q), .int (Int32.ofNat len)] 7)) (T9.setTop (mkF m 46 #[.val (.ref b), .val (.int (Int32.ofNat (o + len))), .val (.ref d), .val (.int (Int32.ofNat (q + len))), .val (.int (Int32.ofNat len)), .val (.int (Int32.ofNat len)), z9] [.int (Int32.ofNat len)])) := g9.trans (by
    refine XS.iload X9.here hexec rfl (hb hbytes d3) rfl ?_
    refine XS.iload X9.here hexec rfl (hb hbytes d5) rfl ?_
    refine XS.icmpYes X9.here hexec rfl (pc0 := 7) rfl (hb hbytes d7) rfl (ii_ge_t (nlt32 (by omega) (Nat.le_refl _))) (by decide) rfl ?_
    refine XS.iload X9.here hexec rfl (hb hbytes d44) rfl ?_
    exact Steps.refl _)
  exact ⟨T9, some (.int (Int32.ofNat len)), _, _, _, X9, by simp, rfl, rfl, (fun h => by cases h), ⟨rfl, B9, p9.from hh0, f9⟩, fun fs hl => c11.trans (X9.ireturnOut hexec hret rfl (Or.inl rfl) (hb hbytes d46) hl)⟩
end Cmp5
namespace Cmp3
def yN : MethodName := ⟨"java/lang/StringUTF16", "compress", "([CII)[B"⟩
abbrev yB : ByteArray := jdk_52_method_16_code
theorem d0 : decode yB 0 = .ok (.iload_n 2, 1) := by decide +kernel
theorem d1 : decode yB 1 = .ok (.newarray .byte, 2) := by decide +kernel
theorem d3 : decode yB 3 = .ok (.astore_n 3, 1) := by decide +kernel
theorem d4 : decode yB 4 = .ok (.aload_n 0, 1) := by decide +kernel
theorem d5 : decode yB 5 = .ok (.iload_n 1, 1) := by decide +kernel
theorem d6 : decode yB 6 = .ok (.aload_n 3, 1) := by decide +kernel
theorem d7 : decode yB 7 = .ok (.iconst 0, 1) := by decide +kernel
theorem d8 : decode yB 8 = .ok (.iload_n 2, 1) := by decide +kernel
theorem d9 : decode yB 9 = .ok (.invokestatic 115, 3) := by decide +kernel
theorem d12 : decode yB 12 = .ok (.istore 4, 2) := by decide +kernel
theorem d14 : decode yB 14 = .ok (.iload 4, 2) := by decide +kernel
theorem d16 : decode yB 16 = .ok (.iload_n 2, 1) := by decide +kernel
theorem d17 : decode yB 17 = .ok (.if_icmp (.eq) 40, 3) := by decide +kernel
theorem d57 : decode yB 57 = .ok (.aload_n 3, 1) := by decide +kernel
theorem d58 : decode yB 58 = .ok (.areturn, 1) := by decide +kernel
def site : List Cond := [.arrayClass .byte, Cmp5.tab] ++ staticW U16 115 Cmp5.yN
def tab : Cond := tabOf yN yB 6 (some (.array .byte)) site
def P (b : Addr) (A : Cell) (o len : Nat) (args : Array Value) (s : State) : Prop := args = #[.ref b, .int (Int32.ofNat o), .int (Int32.ofNat len)] ∧ Ch b A s ∧ o + len ≤ A.slots.size ∧ len ≤ 536870912 ∧ ∀ i, i < len → ¬ 255 < cv A (o + i)
def E (b : Addr) (A : Cell) (o len : Nat) (r : Option Value) (s u : State) : Prop := NewArr .byte "[B" len (fun j => .int (lo8 (cv A (o + j)))) r s u ∧ u.heap.size = s.heap.size + 1
/-- no char of the range above 255: a new byte[] of their low bytes -/
theorem law (l : Launch) (b : Addr) (A : Cell) (o len : Nat) : Law l yN 3 3 1 18 yB 6 (some (.array .byte)) site (P b A o len) (E b A o len) [] 1 len := by
  refine Law.of_walk (plainFor_of_name (by decide +kernel)) (by decide +kernel) (by decide +kernel) (by decide) (fun _ _ h => by rw [h.1]; rfl) (fun _ U U' hal hh h => ⟨h.1, h.2.1.mv hal hh, h.2.2⟩) (fun r U U' V V' h1 hal h2 h => ⟨NewArr.mv r U U' V V' h1 hal h2 h.1, by rw [h1, h2]; exact h.2⟩) ?_
  intro p e s m args below meth c s₁ X0 hexec hbytes hml hret hlk hnm hown hh0 W hP
  obtain ⟨rfl, hA, l1, l2, hp⟩ := hP
  have a31 := hA.1.2.2.2
  have c1 : Steps p.tables e below (s₁.setTop (entryFrame m #[.ref b, .int (Int32.ofNat o), .int (Int32.ofNat len)] 6)) (s₁.setTop (mkF m 0 #[.val (.ref b), .val (.int (Int32.ofNat o)), .val (.int (Int32.ofNat len)), .unset, .unset, .unset] [])) := entry rfl
  have c2 : Steps p.tables e below (s₁.setTop (entryFrame m #[.ref b, .int (Int32.ofNat o), .int (Int32.ofNat len)] 6)) (s₁.setTop (mkF m 1 #[.val (.ref b), .val (.int (Int32.ofNat o)), .val (.int (Int32.ofNat len)), .unset, .unset, .unset] [.int (Int32.ofNat len)])) := c1.trans (by
    refine XS.iloadN X0.here hexec rfl (hb hbytes d0) rfl ?_
    exact Steps.refl _)
  obtain ⟨T3, B3, X3, ba3, bs3, bv3, bh3, bf3, st3⟩ := X0.anew hexec (atype := .byte) (wk W (.arrayClass .byte)) rfl (by show len * 1 ≤ _; omega) (by omega) (g := (mkF m 1 #[.val (.ref b), .val (.int (Int32.ofNat o)), .val (.int (Int32.ofNat len)), .unset, .unset, .unset] [.int (Int32.ofNat len)])) rfl (hb hbytes d1) (rest := []) rfl (Nat.le_refl _) (by show 0 + len ≤ len; omega)
  rw [hh0] at ba3 st3
  have kp3 : XT.Kept s T3 := (XT.Kept.of_eq hh0).push bh3
  have hA3 := hA.keep X3.warmed.alike (kp3 _ _ hA.1.1)
  have hne : b ≠ s.heap.size := hA.1.ne
  have c4 : Steps p.tables e below (s₁.setTop (entryFrame m #[.ref b, .int (Int32.ofNat o), .int (Int32.ofNat len)] 6)) (T3.setTop (mkF m 3 #[.val (.ref b), .val (.int (Int32.ofNat o)), .val (.int (Int32.ofNat len)), .unset, .unset, .unset] [.ref s.heap.size])) := c2.trans (st3 _ (Steps.refl _))
  have c5 : Steps p.tables e below (s₁.setTop (entryFrame m #[.ref b, .int (Int32.ofNat o), .int (Int32.ofNat len)] 6)) (T3.setTop (mkF m 9 #[.val (.ref b), .val (.int (Int32.ofNat o)), .val (.int (Int32.ofNat len)), .val (.ref s.heap.size), .unset, .unset] [.int (Int32.ofNat len), .int 0, .ref s.heap.size, .int (Int32.ofNat o), .ref b])) := c4.trans (by
    refine XS.astoreN X3.here hexec rfl (hb hbytes d3) rfl rfl rfl ?_
    refine XS.aloadN X3.here hexec rfl (hb hbytes d4) rfl rfl ?_
    refine XS.iloadN X3.here hexec rfl (hb hbytes d5) rfl ?_
    refine XS.aloadN X3.here hexec rfl (hb hbytes d6) rfl rfl ?_
    refine iconstV X3.here hexec rfl 0 (hb hbytes d7) (by decide) ?_
    refine XS.iloadN X3.here hexec rfl (hb hbytes d8) rfl ?_
    exact Steps.refl _)
  obtain ⟨v6, T6, X6, E6, g6⟩ := X3.callS hexec (Cmp5.law l b A s.heap.size B3 o 0 len) hown (wks W (staticW U16 115 Cmp5.yN)) (wk W Cmp5.tab) (W := 0) (Nat.le_of_ble_eq_true rfl) (Nat.le_of_ble_eq_true rfl) (Nat.le_refl _) (by show 0 + len + 0 ≤ len; omega) (g := (mkF m 9 #[.val (.ref b), .val (.int (Int32.ofNat o)), .val (.int (Int32.ofNat len)), .val (.ref s.heap.size), .unset, .unset] [.int (Int32.ofNat len), .int (Int32.ofNat 0), .ref s.heap.size, .int (Int32.ofNat o), .ref b])) rfl (by rw [hml]; rfl) c5 (argsL := [.ref b, .int (Int32.ofNat o), .ref s.heap.size, .int (Int32.ofNat 0), .int (Int32.ofNat len)]) (rest := []) rfl rfl (by show 2 * 0 + 0 ≤ _; decide) (hb hbytes d9) (⟨rfl, hA3, ba3, hne, l1, by rw [bs3]; simp, hp⟩)
  obtain ⟨rfl, B6, p6, f6⟩ := E6
  have c7 : Steps p.tables e below (s₁.setTop (entryFrame m #[.ref b, .int (Int32.ofNat o), .int (Int32.ofNat len)] 6)) (T6.setTop (mkF m 12 #[.val (.ref b), .val (.int (Int32.ofNat o)), .val (.int (Int32.ofNat len)), .val (.ref s.heap.size), .unset, .unset] [.int (Int32.ofNat len)])) := g6
  have c8 : Steps p.tables e below (s₁.setTop (entryFrame m #[.ref b, .int (Int32.ofNat o), .int (Int32.ofNat len)] 6)) (T6.setTop (mkF m 58 #[.val (.ref b), .val (.int (Int32.ofNat o)), .val (.int (Int32.ofNat len)), .val (.ref s.heap.size), .val (.int (Int32.ofNat len)), .unset] [.ref s.heap.size])) := c7.trans (by
    refine XS.istore X6.here hexec rfl (hb hbytes d12) rfl rfl ?_
    refine XS.iload X6.here hexec rfl (hb hbytes d14) rfl ?_
    refine XS.iloadN X6.here hexec rfl (hb hbytes d16) rfl ?_
    refine XS.icmpYes X6.here hexec rfl (pc0 := 17) rfl (hb hbytes d17) rfl (ii_eq_t rfl) (by decide) rfl ?_
    refine XS.aloadN X6.here hexec rfl (hb hbytes d57) rfl rfl ?_
    exact Steps.refl _)
  have X8 := X6.wide (L' := []) (cells' := 1) (slots' := len) (fun x hx hlt => by
    simp only [List.nil_append, copyLocs, List.mem_map, List.mem_range] at hx
    obtain ⟨i, -, rfl⟩ := hx
    exact absurd hlt (Nat.lt_irrefl _)) (Nat.le_refl _) (by omega)
  exact ⟨T6, some (.ref s.heap.size), _, _, _, X8, rfl, rfl, rfl, (fun h => by cases h), ⟨⟨rfl, B6, ba3.like (X3.warmed.alike.symm.trans X6.warmed.alike) p6.1 f6.1 f6.2.1 f6.2.2.1, f6.2.1.trans bv3, by rw [X6.warmed.alike.findClass, f6.1]; exact bf3, by rw [f6.2.2.1, bs3]; simp, fun j hj => by rw [f6.2.2.2 j, if_pos (by omega)]; rfl, kp3.put p6 (Nat.le_refl _)⟩, by rw [p6.2.2, bh3, hh0]; simp⟩, fun fs hl => c8.trans (X8.areturnOut hexec rfl hret rfl (hb hbytes d58) hl)⟩
end Cmp3
namespace CodL
def yN : MethodName := ⟨"java/lang/StringUTF16", "coderFromArrayLen", "([BI)B"⟩
abbrev yB : ByteArray := jdk_52_method_15_code
theorem d0 : decode yB 0 = .ok (.iload_n 1, 1) := by decide +kernel
theorem d1 : decode yB 1 = .ok (.aload_n 0, 1) := by decide +kernel
theorem d2 : decode yB 2 = .ok (.arraylength, 1) := by decide +kernel
theorem d3 : decode yB 3 = .ok (.isub, 1) := by decide +kernel
theorem d4 : decode yB 4 = .ok (.bipush 31, 2) := by decide +kernel
theorem d6 : decode yB 6 = .ok (.iushr, 1) := by decide +kernel
theorem d7 : decode yB 7 = .ok (.i2b, 1) := by decide +kernel
theorem d8 : decode yB 8 = .ok (.ireturn, 1) := by decide +kernel
def site : List Cond := []
def tab : Cond := tabOf yN yB 2 (some .byte) site
def P (d : Addr) (B : Cell) (args : Array Value) (s : State) : Prop := args = #[.ref d, .int (Int32.ofNat B.slots.size)] ∧ Arr .byte d B s
def E (r : Option Value) (s u : State) : Prop := XT.PureE (some (.int 0)) r s u
/-- an array as long as the number of chars: LATIN1 -/
theorem law (l : Launch) (d : Addr) (B : Cell) : Law l yN 2 2 0 0 yB 2 (some .byte) site (P d B) E [] 0 0 := by
  refine Law.of_walk (plainFor_of_name (by decide +kernel)) (by decide +kernel) (by decide +kernel) (by decide) (fun _ _ h => by rw [h.1]; rfl) (fun _ U U' hal hh h => ⟨h.1, h.2.mv hal hh⟩) (fun r U U' V V' h1 hal h2 h => XT.PureE.mv r U U' V V' h1 hal h2 h) ?_
  intro p e s m args below meth c s₁ X0 hexec hbytes hml hret hlk hnm hown hh0 W hP
  obtain ⟨rfl, hB⟩ := hP
  have hB0 := hB.mv X0.warmed.alike hh0
  have c1 : Steps p.tables e below (s₁.setTop (entryFrame m #[.ref d, .int (Int32.ofNat B.slots.size)] 2)) (s₁.setTop (mkF m 0 #[.val (.ref d), .val (.int (Int32.ofNat B.slots.size))] [])) := entry rfl
  have c2 : Steps p.tables e below (s₁.setTop (entryFrame m #[.ref d, .int (Int32.ofNat B.slots.size)] 2)) (s₁.setTop (mkF m 2 #[.val (.ref d), .val (.int (Int32.ofNat B.slots.size))] [.ref d, .int (Int32.ofNat B.slots.size)])) := c1.trans (by
    refine XS.iloadN X0.here hexec rfl (hb hbytes d0) rfl ?_
    refine XS.aloadN X0.here hexec rfl (hb hbytes d1) rfl rfl ?_
    exact Steps.refl _)
  have c3 : Steps p.tables e below (s₁.setTop (entryFrame m #[.ref d, .int (Int32.ofNat B.slots.size)] 2)) (s₁.setTop (mkF m 8 #[.val (.ref d), .val (.int (Int32.ofNat B.slots.size))] [.int (lo8 (ushr (Int32.ofNat B.slots.size - Int32.ofNat B.slots.size) 31))])) := c2.trans (by
    refine X0.alen hexec hB0 rfl rfl (hb hbytes d2) ?_
    refine XS.isub X0.here hexec rfl (hb hbytes d3) rfl ?_
    refine bipushV X0.here hexec rfl 31 (hb hbytes d4) (by decide) ?_
    refine iushr X0.here hexec rfl (hb hbytes d6) rfl ?_
    refine i2b X0.here hexec rfl (hb hbytes d7) rfl ?_
    exact Steps.refl _)
  have e0 : lo8 (ushr (Int32.ofNat B.slots.size - Int32.ofNat B.slots.size) 31) = 0 := by rw [Int32.sub_self]; decide
  rw [e0] at c3
  exact ⟨s₁, some (.int 0), _, _, _, X0, rfl, rfl, rfl, (fun h => by cases h), ⟨rfl, hh0⟩, fun fs hl => c3.trans (X0.ireturnOut hexec hret rfl (Or.inr (Or.inr (Or.inl rfl))) (hb hbytes d8) hl)⟩
end CodL
/-- the String at a is Latin-1 over a new byte[] (the heap's one new cell): the low bytes of the len chars of A from o on; every cell but a is kept -/
def Got (a : Addr) (D : Cell) (fV fC : Field) (A : Cell) (o len : Nat) (r : Option Value) (s u : State) : Prop := r = none ∧ ∃ D' V : Cell, Blank "java/lang/String" a D' u ∧ Same D D' [fV.slot, fC.slot] ∧ D'.slots[fV.slot]? = some (.ref s.heap.size) ∧ D'.slots[fC.slot]? = some (.int 0) ∧ Arr .byte s.heap.size V u ∧ V.vm = .none ∧ u.vm.findClass "[B" = some V.cls ∧ V.slots.size = len ∧ (∀ j, j < len → V.slots[j]? = some (.int (lo8 (cv A (o + j))))) ∧ (∀ (y : Addr) (c : Cell), y ≠ a → s.heap[y]? = some c → u.heap[y]? = some c) ∧ u.heap.size = s.heap.size + 1
theorem Got.mv {a : Addr} {D A : Cell} {fV fC : Field} {o len : Nat} : ∀ r (U U' V V' : State), U'.heap = U.heap → V.vm.Alike V'.vm → V'.heap = V.heap → Got a D fV fC A o len r U V → Got a D fV fC A o len r U' V' :=
  fun r U U' V V' h1 hal h2 ⟨e0, D', X, a1, a2, a3, a4, a5, a6, a7, a8, a9, a10, a11⟩ => ⟨e0, D', X, a1.mv hal h2, a2, by rw [h1]; exact a3, a4, by rw [h1]; exact a5.mv hal h2, a6, by rw [hal.findClass]; exact a7, a8, a9, by rw [h1, h2]; exact a10, by rw [h1, h2]; exact a11⟩
namespace New4
def yN : MethodName := ⟨"java/lang/String", "<init>", "([CIILjava/lang/Void;)V"⟩
abbrev yB : ByteArray := jdk_42_method_149_code
theorem d0 : decode yB 0 = .ok (.aload_n 0, 1) := by decide +kernel
theorem d1 : decode yB 1 = .ok (.invokespecial 1, 3) := by decide +kernel
theorem d4 : decode yB 4 = .ok (.iload_n 3, 1) := by decide +kernel
theorem d5 : decode yB 5 = .ok (.ifCond (.ne) 22, 3) := by decide +kernel
theorem d27 : decode yB 27 = .ok (.getstatic 38, 3) := by decide +kernel
theorem d30 : decode yB 30 = .ok (.ifCond (.eq) 28, 3) := by decide +kernel
theorem d33 : decode yB 33 = .ok (.aload_n 1, 1) := by decide +kernel
theorem d34 : decode yB 34 = .ok (.iload_n 2, 1) := by decide +kernel
theorem d35 : decode yB 35 = .ok (.iload_n 3, 1) := by decide +kernel
theorem d36 : decode yB 36 = .ok (.invokestatic 177, 3) := by decide +kernel
theorem d39 : decode yB 39 = .ok (.astore 5, 2) := by decide +kernel
theorem d41 : decode yB 41 = .ok (.aload_n 0, 1) := by decide +kernel
theorem d42 : decode yB 42 = .ok (.aload 5, 2) := by decide +kernel
theorem d44 : decode yB 44 = .ok (.iload_n 3, 1) := by decide +kernel
theorem d45 : decode yB 45 = .ok (.invokestatic 47, 3) := by decide +kernel
theorem d48 : decode yB 48 = .ok (.putfield 15, 3) := by decide +kernel
theorem d51 : decode yB 51 = .ok (.aload_n 0, 1) := by decide +kernel
theorem d52 : decode yB 52 = .ok (.aload 5, 2) := by decide +kernel
theorem d54 : decode yB 54 = .ok (.putfield 9, 3) := by decide +kernel
theorem d57 : decode yB 57 = .ok (.return_, 1) := by decide +kernel
def site : List Cond := [.fieldLink "java/lang/String" 38 "java/lang/String" "COMPACT_STRINGS" "Z", Cmp3.tab, CodL.tab, .laysFinal "java/lang/String" "java/lang/String" "value" "[B", .fieldLink "java/lang/String" 9 "java/lang/String" "value" "[B", .laysFinal "java/lang/String" "java/lang/String" "coder" "B", .fieldLink "java/lang/String" 15 "java/lang/String" "coder" "B"] ++ objW "java/lang/String" 1 ++ staticW "java/lang/String" 177 Cmp3.yN ++ staticW "java/lang/String" 47 CodL.yN
def tab : Cond := tabOf yN yB 6 none site
def P (a : Addr) (D : Cell) (fV fC : Field) (b : Addr) (A : Cell) (z : Int32) (o len : Nat) (args : Array Value) (s : State) : Prop := args = #[.ref a, .ref b, .int (Int32.ofNat o), .int (Int32.ofNat len), .null] ∧ Blank "java/lang/String" a D s ∧ Found "java/lang/String" "value" "[B" fV s ∧ Found "java/lang/String" "coder" "B" fC s ∧ Ch b A s ∧ StaticIs s "java/lang/String" "COMPACT_STRINGS" "Z" (.int z) ∧ ¬ z = 0 ∧ 0 < len ∧ o + len ≤ A.slots.size ∧ len ≤ 536870912 ∧ ∀ i, i < len → ¬ 255 < cv A (o + i)
def E (a : Addr) (D : Cell) (fV fC : Field) (A : Cell) (o len : Nat) (r : Option Value) (s u : State) : Prop := Got a D fV fC A o len r s u
/-- len > 0, no char of the range above 255: a Latin-1 String of their low bytes -/
theorem law (l : Launch) (a : Addr) (D : Cell) (fV fC : Field) (b : Addr) (A : Cell) (z : Int32) (o len : Nat) : Law l yN 5 4 2 35 yB 6 none site (P a D fV fC b A z o len) (E a D fV fC A o len) [⟨a, fC.slot⟩, ⟨a, fV.slot⟩] 1 len := by
  refine Law.of_walk (plainFor_of_name (by decide +kernel)) (by decide +kernel) (by decide +kernel) (by decide) (fun _ _ h => by rw [h.1]; rfl) (fun _ U U' hal hh h => ⟨h.1, h.2.1.mv hal hh, h.2.2.1.al hal, h.2.2.2.1.al hal, h.2.2.2.2.1.mv hal hh, h.2.2.2.2.2.1.there hal hh, h.2.2.2.2.2.2⟩) (fun r U U' V V' h1 hal h2 h => Got.mv r U U' V V' h1 hal h2 h) ?_
  intro p e s m args below meth c s₁ X0 hexec hbytes hml hret hlk hnm hown hh0 W hP
  obtain ⟨rfl, hB, f1, f2, hA, s1, hz, l0, l1, l2, hp⟩ := hP
  have a31 := hA.1.2.2.2
  have c1 : Steps p.tables e below (s₁.setTop (entryFrame m #[.ref a, .ref b, .int (Int32.ofNat o), .int (Int32.ofNat len), .null] 6)) (s₁.setTop (mkF m 0 #[.val (.ref a), .val (.ref b), .val (.int (Int32.ofNat o)), .val (.int (Int32.ofNat len)), .val .null, .unset] [])) := entry rfl
  have c2 : Steps p.tables e below (s₁.setTop (entryFrame m #[.ref a, .ref b, .int (Int32.ofNat o), .int (Int32.ofNat len), .null] 6)) (s₁.setTop (mkF m 1 #[.val (.ref a), .val (.ref b), .val (.int (Int32.ofNat o)), .val (.int (Int32.ofNat len)), .val .null, .unset] [.ref a])) := c1.trans (by
    refine XS.aloadN X0.here hexec rfl (hb hbytes d0) rfl rfl ?_
    exact Steps.refl _)
  obtain ⟨T3, X3, q3, st3⟩ := X0.oinit hexec hown (wks W (objW "java/lang/String" 1)) (g := (mkF m 1 #[.val (.ref a), .val (.ref b), .val (.int (Int32.ofNat o)), .val (.int (Int32.ofNat len)), .val .null, .unset] [.ref a])) rfl (by rw [hml]; rfl) (rest := []) rfl (hb hbytes d1) (W := 0) (by show 2 * 0 + 0 ≤ _; decide) (Nat.le_of_ble_eq_true rfl) (Nat.le_of_ble_eq_true rfl)
  have hh3 := q3.trans hh0
  have c4 : Steps p.tables e below (s₁.setTop (entryFrame m #[.ref a, .ref b, .int (Int32.ofNat o), .int (Int32.ofNat len), .null] 6)) (T3.setTop (mkF m 27 #[.val (.ref a), .val (.ref b), .val (.int (Int32.ofNat o)), .val (.int (Int32.ofNat len)), .val .null, .unset] [])) := (c2.trans (st3 _ (Steps.refl _))).trans (by
    refine XS.iloadN X3.here hexec rfl (hb hbytes d4) rfl ?_
    refine XS.ifYes X3.here hexec rfl (pc0 := 5) rfl (hb hbytes d5) rfl (i0_ne_t (nz32 (by omega) l0)) (by decide) rfl ?_
    exact Steps.refl _)
  obtain ⟨T5, X5, q5, st5⟩ := X3.sget hexec hown (wk W (.fieldLink "java/lang/String" 38 "java/lang/String" "COMPACT_STRINGS" "Z")) s1 (fun _ _ h => by rw [hh3]; exact h) (g := (mkF m 27 #[.val (.ref a), .val (.ref b), .val (.int (Int32.ofNat o)), .val (.int (Int32.ofNat len)), .val .null, .unset] [])) rfl (hb hbytes d27)
  have hh5 := q5.trans hh3
  have c6 : Steps p.tables e below (s₁.setTop (entryFrame m #[.ref a, .ref b, .int (Int32.ofNat o), .int (Int32.ofNat len), .null] 6)) (T5.setTop (mkF m 30 #[.val (.ref a), .val (.ref b), .val (.int (Int32.ofNat o)), .val (.int (Int32.ofNat len)), .val .null, .unset] [.int z])) := c4.trans (st5 _ (Steps.refl _))
  have c7 : Steps p.tables e below (s₁.setTop (entryFrame m #[.ref a, .ref b, .int (Int32.ofNat o), .int (Int32.ofNat len), .null] 6)) (T5.setTop (mkF m 36 #[.val (.ref a), .val (.ref b), .val (.int (Int32.ofNat o)), .val (.int (Int32.ofNat len)), .val .null, .unset] [.int (Int32.ofNat len), .int (Int32.ofNat o), .ref b])) := c6.trans (by
    refine XS.ifNo X5.here hexec rfl (hb hbytes d30) rfl (i0_eq_f hz) ?_
    refine XS.aloadN X5.here hexec rfl (hb hbytes d33) rfl rfl ?_
    refine XS.iloadN X5.here hexec rfl (hb hbytes d34) rfl ?_
    refine XS.iloadN X5.here hexec rfl (hb hbytes d35) rfl ?_
    exact Steps.refl _)
  obtain ⟨v8, T8, X8, E8, g8⟩ := X5.callS hexec (Cmp3.law l b A o len) hown (wks W (staticW "java/lang/String" 177 Cmp3.yN)) (wk W Cmp3.tab) (W := 0) (Nat.le_of_ble_eq_true rfl) (Nat.le_of_ble_eq_true rfl) (Nat.le_refl _) (by show 0 + len ≤ len; omega) (g := (mkF m 36 #[.val (.ref a), .val (.ref b), .val (.int (Int32.ofNat o)), .val (.int (Int32.ofNat len)), .val .null, .unset] [.int (Int32.ofNat len), .int (Int32.ofNat o), .ref b])) rfl (by rw [hml]; rfl) c7 (argsL := [.ref b, .int (Int32.ofNat o), .int (Int32.ofNat len)]) (rest := []) rfl rfl (by show 2 * 0 + 0 ≤ _; decide) (hb hbytes d36) (⟨rfl, hA.mv X5.warmed.alike hh5, l1, l2, hp⟩)
  obtain ⟨e8, z8⟩ := E8
  obtain ⟨rfl, N, n1, n2, n3, n4, n5, n6⟩ := NewArr.mv _ T5 s _ _ hh5.symm (Vm.Alike.refl _) rfl e8
  rw [hh5] at z8
  have hB1 := hB.keep X8.warmed.alike (n6 _ _ hB.1)
  have hne : s.heap.size ≠ a := (Nat.ne_of_lt (Array.getElem?_eq_some_iff.mp hB.1).1).symm
  have c9 : Steps p.tables e below (s₁.setTop (entryFrame m #[.ref a, .ref b, .int (Int32.ofNat o), .int (Int32.ofNat len), .null] 6)) (T8.setTop (mkF m 39 #[.val (.ref a), .val (.ref b), .val (.int (Int32.ofNat o)), .val (.int (Int32.ofNat len)), .val .null, .unset] [.ref s.heap.size])) := g8
  have c10 : Steps p.tables e below (s₁.setTop (entryFrame m #[.ref a, .ref b, .int (Int32.ofNat o), .int (Int32.ofNat len), .null] 6)) (T8.setTop (mkF m 45 #[.val (.ref a), .val (.ref b), .val (.int (Int32.ofNat o)), .val (.int (Int32.ofNat len)), .val .null, .val (.ref s.heap.size)] [.int (Int32.ofNat N.slots.size), .ref s.heap.size, .ref a])) := by
    have hc : Steps p.tables e below (s₁.setTop (entryFrame m #[.ref a, .ref b, .int (Int32.ofNat o), .int (Int32.ofNat len), .null] 6)) (T8.setTop (mkF m 45 #[.val (.ref a), .val (.ref b), .val (.int (Int32.ofNat o)), .val (.int (Int32.ofNat len)), .val .null, .val (.ref s.heap.size)] [.int (Int32.ofNat len), .ref s.heap.size, .ref a])) := c9.trans (by
      refine XS.astore X8.here hexec rfl (hb hbytes d39) rfl rfl rfl ?_
      refine XS.aloadN X8.here hexec rfl (hb hbytes d41) rfl rfl ?_
      refine XS.aload X8.here hexec rfl (hb hbytes d42) rfl rfl ?_
      refine XS.iloadN X8.here hexec rfl (hb hbytes d44) rfl ?_
      exact Steps.refl _)
    rw [n4]; exact hc
  obtain ⟨v11, T11, X11, E11, g11⟩ := X8.callS hexec (CodL.law l s.heap.size N) hown (wks W (staticW "java/lang/String" 47 CodL.yN)) (wk W CodL.tab) (W := 1) (Nat.le_of_ble_eq_true rfl) (Nat.le_of_ble_eq_true rfl) (Nat.le_refl _) (by show 0 + len + 0 ≤ len; omega) (g := (mkF m 45 #[.val (.ref a), .val (.ref b), .val (.int (Int32.ofNat o)), .val (.int (Int32.ofNat len)), .val .null, .val (.ref s.heap.size)] [.int (Int32.ofNat N.slots.size), .ref s.heap.size, .ref a])) rfl (by rw [hml]; rfl) c10 (argsL := [.ref s.heap.size, .int (Int32.ofNat N.slots.size)]) (rest := [.ref a]) rfl rfl (by show 2 * 0 + (1 + 0) ≤ _; decide) (hb hbytes d45) (⟨rfl, n1⟩)
  obtain ⟨rfl, q11⟩ := E11
  have hB11 := hB1.mv (X8.warmed.alike.symm.trans X11.warmed.alike) q11
  have c12 : Steps p.tables e below (s₁.setTop (entryFrame m #[.ref a, .ref b, .int (Int32.ofNat o), .int (Int32.ofNat len), .null] 6)) (T11.setTop (mkF m 48 #[.val (.ref a), .val (.ref b), .val (.int (Int32.ofNat o)), .val (.int (Int32.ofNat len)), .val .null, .val (.ref s.heap.size)] [.int 0, .ref a])) := g11
  obtain ⟨T13, X13, p13, bl13, sl13, st13⟩ := X11.finit hexec hown (wk W (.fieldLink "java/lang/String" 15 "java/lang/String" "coder" "B")) (Or.inr ⟨_, (wk W (.laysFinal "java/lang/String" "java/lang/String" "coder" "B"))⟩) (Or.inl ⟨rfl, hnm⟩) f2 (Or.inl rfl) hB11 (t := .byte) (by decide +kernel) rfl (g := (mkF m 48 #[.val (.ref a), .val (.ref b), .val (.int (Int32.ofNat o)), .val (.int (Int32.ofNat len)), .val .null, .val (.ref s.heap.size)] [.int 0, .ref a])) rfl (rest := []) rfl (hb hbytes d48)
  have c14 : Steps p.tables e below (s₁.setTop (entryFrame m #[.ref a, .ref b, .int (Int32.ofNat o), .int (Int32.ofNat len), .null] 6)) (T13.setTop (mkF m 54 #[.val (.ref a), .val (.ref b), .val (.int (Int32.ofNat o)), .val (.int (Int32.ofNat len)), .val .null, .val (.ref s.heap.size)] [.ref s.heap.size, .ref a])) := (c12.trans (st13 _ (Steps.refl _))).trans (by
    refine XS.aloadN X13.here hexec rfl (hb hbytes d51) rfl rfl ?_
    refine XS.aload X13.here hexec rfl (hb hbytes d52) rfl rfl ?_
    exact Steps.refl _)
  obtain ⟨T15, X15, p15, bl15, sl15, st15⟩ := X13.finit hexec hown (wk W (.fieldLink "java/lang/String" 9 "java/lang/String" "value" "[B")) (Or.inr ⟨_, (wk W (.laysFinal "java/lang/String" "java/lang/String" "value" "[B"))⟩) (Or.inl ⟨rfl, hnm⟩) f1 (Or.inl rfl) bl13 (t := (.array .byte)) (by decide +kernel) rfl (g := (mkF m 54 #[.val (.ref a), .val (.ref b), .val (.int (Int32.ofNat o)), .val (.int (Int32.ofNat len)), .val .null, .val (.ref s.heap.size)] [.ref s.heap.size, .ref a])) rfl (rest := []) rfl (hb hbytes d54)
  have c16 : Steps p.tables e below (s₁.setTop (entryFrame m #[.ref a, .ref b, .int (Int32.ofNat o), .int (Int32.ofNat len), .null] 6)) (T15.setTop (mkF m 57 #[.val (.ref a), .val (.ref b), .val (.int (Int32.ofNat o)), .val (.int (Int32.ofNat len)), .val .null, .val (.ref s.heap.size)] [])) := c14.trans (st15 _ (Steps.refl _))
  have ap := apart (Or.inr ⟨_, (wk W (.laysFinal "java/lang/String" "java/lang/String" "value" "[B"))⟩) (Or.inr ⟨_, (wk W (.laysFinal "java/lang/String" "java/lang/String" "coder" "B"))⟩) f1 f2 (t₁ := .array .byte) (t₂ := .byte) (by decide +kernel) (by decide +kernel) (by decide)
  have al := X8.warmed.alike.symm.trans X15.warmed.alike
  have n7 : T11.heap[s.heap.size]? = some N := by rw [q11]; exact n1.1
  exact ⟨T15, none, _, _, _, X15, by simp, rfl, by omega, (fun _ => rfl), ⟨rfl, _, N, bl15, ((Same.refl D _).set _ (by simp)).set _ (by simp), sl15, (Cell.slots_setSlot_ne _ ap).trans sl13, n1.keep al (p15.other hne (p13.other hne n7)), n2, by rw [al.findClass]; exact n3, n4, n5, fun y c h1 h2 => p15.other h1 (p13.other h1 (by rw [q11]; exact n6 y c h2)), by rw [p15.2.2, p13.2.2, q11]; exact z8⟩, fun fs hl => c16.trans (X15.returnOut hexec hret (hb hbytes d57) hl)⟩
end New4
namespace New1
def yN : MethodName := ⟨"java/lang/String", "<init>", "([C)V"⟩
abbrev yB : ByteArray := jdk_42_method_3_code
theorem d0 : decode yB 0 = .ok (.aload_n 0, 1) := by decide +kernel
theorem d1 : decode yB 1 = .ok (.aload_n 1, 1) := by decide +kernel
theorem d2 : decode yB 2 = .ok (.iconst 0, 1) := by decide +kernel
theorem d3 : decode yB 3 = .ok (.aload_n 1, 1) := by decide +kernel
theorem d4 : decode yB 4 = .ok (.arraylength, 1) := by decide +kernel
theorem d5 : decode yB 5 = .ok (.aconst_null, 1) := by decide +kernel
theorem d6 : decode yB 6 = .ok (.invokespecial 27, 3) := by decide +kernel
theorem d9 : decode yB 9 = .ok (.return_, 1) := by decide +kernel
def site : List Cond := [New4.tab] ++ initW "java/lang/String" 27 New4.yN
def tab : Cond := tabOf yN yB 2 none site
def P (a : Addr) (D : Cell) (fV fC : Field) (b : Addr) (A : Cell) (z : Int32) (args : Array Value) (s : State) : Prop := args = #[.ref a, .ref b] ∧ Blank "java/lang/String" a D s ∧ Found "java/lang/String" "value" "[B" fV s ∧ Found "java/lang/String" "coder" "B" fC s ∧ Ch b A s ∧ StaticIs s "java/lang/String" "COMPACT_STRINGS" "Z" (.int z) ∧ ¬ z = 0 ∧ 0 < A.slots.size ∧ A.slots.size ≤ 536870912 ∧ ∀ i, i < A.slots.size → ¬ 255 < cv A i
def E (a : Addr) (D : Cell) (fV fC : Field) (A : Cell) (r : Option Value) (s u : State) : Prop := Got a D fV fC A 0 A.slots.size r s u
/-- new String(chars), not empty, no char above 255: a Latin-1 String of their low bytes -/
theorem law (l : Launch) (a : Addr) (D : Cell) (fV fC : Field) (b : Addr) (A : Cell) (z : Int32) : Law l yN 2 1 3 52 yB 2 none site (P a D fV fC b A z) (E a D fV fC A) [⟨a, fC.slot⟩, ⟨a, fV.slot⟩] 1 A.slots.size := by
  refine Law.of_walk (plainFor_of_name (by decide +kernel)) (by decide +kernel) (by decide +kernel) (by decide) (fun _ _ h => by rw [h.1]; rfl) (fun _ U U' hal hh h => ⟨h.1, h.2.1.mv hal hh, h.2.2.1.al hal, h.2.2.2.1.al hal, h.2.2.2.2.1.mv hal hh, h.2.2.2.2.2.1.there hal hh, h.2.2.2.2.2.2⟩) (fun r U U' V V' h1 hal h2 h => Got.mv r U U' V V' h1 hal h2 h) ?_
  intro p e s m args below meth c s₁ X0 hexec hbytes hml hret hlk hnm hown hh0 W hP
  obtain ⟨rfl, hB, f1, f2, hA, s1, hz, l0, l2, hp⟩ := hP
  have c1 : Steps p.tables e below (s₁.setTop (entryFrame m #[.ref a, .ref b] 2)) (s₁.setTop (mkF m 0 #[.val (.ref a), .val (.ref b)] [])) := entry rfl
  have c2 : Steps p.tables e below (s₁.setTop (entryFrame m #[.ref a, .ref b] 2)) (s₁.setTop (mkF m 6 #[.val (.ref a), .val (.ref b)] [.null, .int (Int32.ofNat A.slots.size), .int 0, .ref b, .ref a])) := c1.trans (by
    refine XS.aloadN X0.here hexec rfl (hb hbytes d0) rfl rfl ?_
    refine XS.aloadN X0.here hexec rfl (hb hbytes d1) rfl rfl ?_
    refine iconstV X0.here hexec rfl 0 (hb hbytes d2) (by decide) ?_
    refine XS.aloadN X0.here hexec rfl (hb hbytes d3) rfl rfl ?_
    refine X0.alen hexec (hA.1.mv X0.warmed.alike hh0) rfl rfl (hb hbytes d4) ?_
    refine XS.aconstNull X0.here hexec rfl (hb hbytes d5) ?_
    exact Steps.refl _)
  obtain ⟨v3, T3, X3, E3, g3⟩ := X0.callN hexec (New4.law l a D fV fC b A z 0 A.slots.size) rfl hown (wks W (initW "java/lang/String" 27 New4.yN)) (W New4.tab (by simp only [site, List.mem_cons, List.mem_append, true_or, or_true])) (W := 0) (Nat.le_of_ble_eq_true rfl) (Nat.le_of_ble_eq_true rfl) (Nat.le_refl _) (by show 0 + A.slots.size ≤ A.slots.size; omega) (g := (mkF m 6 #[.val (.ref a), .val (.ref b)] [.null, .int (Int32.ofNat A.slots.size), .int (Int32.ofNat 0), .ref b, .ref a])) rfl (by rw [hml]; rfl) c2 (argsL := [.ref b, .int (Int32.ofNat 0), .int (Int32.ofNat A.slots.size), .null]) (rest := []) rfl rfl (by show 2 * 0 + 0 ≤ _; decide) (hb hbytes d6) (⟨rfl, hB.mv X0.warmed.alike hh0, f1.al X0.warmed.alike, f2.al X0.warmed.alike, hA.mv X0.warmed.alike hh0, s1.there X0.warmed.alike hh0, hz, l0, by omega, l2, fun i hi => by rw [Nat.zero_add]; exact hp i hi⟩)
  have e0 := Got.mv _ s₁ s _ _ hh0.symm (Vm.Alike.refl _) rfl E3
  obtain rfl := e0.1
  have c4 : Steps p.tables e below (s₁.setTop (entryFrame m #[.ref a, .ref b] 2)) (T3.setTop (mkF m 9 #[.val (.ref a), .val (.ref b)] [])) := g3
  exact ⟨T3, none, _, _, _, X3, by simp, rfl, by omega, (fun _ => rfl), e0, fun fs hl => c4.trans (X3.returnOut hexec hret (hb hbytes d9) hl)⟩
theorem pays {l : Launch} {R : Room} {p : Program} {e : Env} {below : List Frame} {s : State} {sargs : Array Value} {len W : Nat} (a : Addr) (D : Cell) (fV fC : Field) (b : Addr) (A : Cell) (z : Int32) (htab : tab.before sargs s = true) (hfr : 4 ≤ R.frames) (hlo : W + 65 ≤ R.locals) :
    Back l R p e below s sargs yN len W (fun A₁ a₁ => A₁.cells + 1 ≤ R.cells ∧ A₁.slots + A.slots.size ≤ R.slots ∧ P a D fV fC b A z a₁ A₁.U) (fun A₁ _ v₁ B₁ => E a D fV fC A v₁ A₁.U B₁.U ∧ B₁.locs = A₁.locs ++ [⟨a, fC.slot⟩, ⟨a, fV.slot⟩] ∧ B₁.cells = A₁.cells + 1 ∧ B₁.slots = A₁.slots + A.slots.size) :=
  (law l a D fV fC b A z).pays htab hfr (by omega)
end New1
/-- the byte, read back as charAt reads it, is the char -/
theorem lo8_mask {x : Int32} (h0 : ¬ x < 0) (h1 : ¬ 255 < x) : lo8 x &&& 255 = x := by
  have t : ∀ k : Fin 256, lo8 (Int32.ofNat k.val) &&& 255 = Int32.ofNat k.val := by decide +kernel
  rw [Int32.lt_iff_toInt_lt] at h0 h1
  have e0 : (0 : Int32).toInt = 0 := rfl
  have e1 : (255 : Int32).toInt = 255 := rfl
  obtain ⟨k, hk⟩ : ∃ k : Nat, x.toInt = k := ⟨x.toInt.toNat, by omega⟩
  have hx : x = Int32.ofNat k := Int32.toInt_inj.mp (by rw [hk, Int32.toInt_ofNat_small (by omega)])
  rw [hx]
  exact t ⟨k, by omega⟩
end StrChars
namespace StrChars.Road
open Jvm Sem ClassFile Op Lib Jvm.Stand Jvm.Free Jvm.Free.XT
open Jvm.Lib.Cold (StaticIs)
abbrev ST : String := "java/lang/String"
/-- every table word that New1's law asks, flat -/
abbrev words : List Jvm.Cond := [.code New1.yN New1.yB 2 none, .initialized ST, .methodLink ST 27 New4.yN, .instanceMethod New4.yN,
  .code New4.yN New4.yB 6 none, .fieldLink ST 38 ST "COMPACT_STRINGS" "Z", .laysFinal ST ST "value" "[B", .fieldLink ST 9 ST "value" "[B", .laysFinal ST ST "coder" "B", .fieldLink ST 15 ST "coder" "B",
  .methodLink ST 1 Lib.objectInit, .instanceMethod Lib.objectInit, .code Lib.objectInit ⟨#[0xb1]⟩ 1 none, .methodLink ST 177 Cmp3.yN, .static Cmp3.yN, .methodLink ST 47 CodL.yN, .static CodL.yN,
  .code Cmp3.yN Cmp3.yB 6 (some (.array .byte)), .initialized U16, .arrayClass .byte, .methodLink U16 115 Cmp5.yN, .static Cmp5.yN, .code Cmp5.yN Cmp5.yB 7 (some .int), .code CodL.yN CodL.yB 2 (some .byte)]
theorem tab_of {a : Array Value} {s : State} (h : ∀ w ∈ words, w.before a s = true) : New1.tab.before a s = true := by
  have h5 : Cmp5.tab.before a s = true := unparts (wk h (.code Cmp5.yN Cmp5.yB 7 (some .int))) (wks h (.initialized Cmp5.yN.cls :: Cmp5.site))
  have hc : CodL.tab.before a s = true := unparts (wk h (.code CodL.yN CodL.yB 2 (some .byte))) (wks h (.initialized CodL.yN.cls :: CodL.site))
  have q5 : ∀ w ∈ Cmp5.tab :: words, w.before a s = true := fun w hw => (List.mem_cons.mp hw).elim (fun e => e ▸ h5) (h w)
  have h3 : Cmp3.tab.before a s = true := unparts (wk q5 (.code Cmp3.yN Cmp3.yB 6 (some (.array .byte)))) (wks q5 (.initialized Cmp3.yN.cls :: Cmp3.site))
  have q3 : ∀ w ∈ Cmp3.tab :: CodL.tab :: words, w.before a s = true := fun w hw => (List.mem_cons.mp hw).elim (fun e => e ▸ h3) fun hw => (List.mem_cons.mp hw).elim (fun e => e ▸ hc) (h w)
  have h4 : New4.tab.before a s = true := unparts (wk q3 (.code New4.yN New4.yB 6 none)) (wks q3 (.initialized New4.yN.cls :: New4.site))
  have q4 : ∀ w ∈ New4.tab :: words, w.before a s = true := fun w hw => (List.mem_cons.mp hw).elim (fun e => e ▸ h4) (h w)
  exact unparts (wk q4 (.code New1.yN New1.yB 2 none)) (wks q4 (.initialized New1.yN.cls :: New1.site))
/-- the words ride from the start Z to the walk's own state -/
theorem moved {Z s : State} {a0 args : Array Value} (hZ : Z.Warmed39 s.vm) (hw : ∀ d ∈ words, d.before a0 Z = true) : ∀ d ∈ words, d.before args s = true := fun d hd => by
  have q := hw d hd
  have t : ∀ d ∈ words, d = .arrayClass .byte ∨ (d.onTables && d.keepsFace) = true := by decide +kernel
  rcases t d hd with rfl | t
  · exact RoadKit.mvA hZ q
  · exact RoadKit.mv hZ q t
/-- WHAT COMES BACK, over the tables of the start Z: h the heap at the call, h' behind it -/
def Q (Z : State) (x : Addr) (A : Cell) (h : Heap) (v : Option Value) (h' : Heap) (L : List Loc) : Prop := v = none ∧ (∀ y ∈ L, y.base = x) ∧ RoadKit.Keep h h' [x] ∧ h'.size = h.size + 1 ∧ RoadKit.Exa Z h' x ST ∧ RoadKit.Fld Z h' x ST "value" "[B" (.ref h.size) ∧ RoadKit.Fld Z h' x ST "coder" "B" (.int 0) ∧
  (∃ V : Cell, RoadKit.Arr Z h' h.size V .byte ∧ V.vm = .none ∧ Z.vm.findClass "[B" = some V.cls ∧ V.slots.size = A.slots.size ∧ ∀ j, j < A.slots.size → V.slots[j]? = some (.int (lo8 (cv A j)))) ∧
  ∀ (O n d : String) (w : Value), RoadKit.Fld Z h x O n d w → RoadKit.slotOf Z O n d ≠ RoadKit.slotOf Z ST "value" "[B" → RoadKit.slotOf Z O n d ≠ RoadKit.slotOf Z ST "coder" "B" → RoadKit.Fld Z h' x O n d w
/-- **new String(chars) AT A CALL, IN THE ROAD'S FORM**: for specialBack behind newO: x the fresh String, b the char[] with the cell A -/
theorem back {p : Program} {l : Launch} {e : Env} {R : Room} {s : State} {args : Array Value} {below : List Frame} {len W : Nat} {Z : State} {a0 : Array Value} {h : Heap} (hZ : Z.Warmed39 s.vm) (hw : ∀ d ∈ words, d.before a0 Z = true) {kI : Nat} (wi : (Jvm.Cond.instantiable ST kI).before a0 Z = true)
    {x b : Addr} {A : Cell} {z : Int32} {v0 c0 : Value} (E : RoadKit.Exa Z h x ST) (V : RoadKit.Fld Z h x ST "value" "[B" v0) (C : RoadKit.Fld Z h x ST "coder" "B" c0) (K : RoadKit.Arr Z h b A .char) (hty : Typed .char A) (S : RoadKit.Sta Z h ST "COMPACT_STRINGS" "Z" (.int z)) (hz : ¬ z = 0)
    (l0 : 0 < A.slots.size) (l2 : A.slots.size ≤ 536870912) (hp : ∀ i, i < A.slots.size → ¬ 255 < cv A i) (hfr : 4 ≤ R.frames) (hlo : W + 65 ≤ R.locals) :
    Back l R p e below s args New1.yN len W (fun P a => a = #[.ref x, .ref b] ∧ P.U.heap = h ∧ P.cells + 1 ≤ R.cells ∧ P.slots + A.slots.size ≤ R.slots)
      (fun P _ v B => ∃ L, Q Z x A h v B.U.heap L ∧ B.locs = P.locs ++ L ∧ B.cells = P.cells + 1 ∧ B.slots = P.slots + A.slots.size) := by
  intro m meth c P g ig mk a X hg hsize hdg hW hn hp'
  obtain ⟨rfl, rfl, r1, r2⟩ := hp'
  have al : Z.vm.Alike P.U.vm := hZ.alike.trans X.warmed.alike
  obtain ⟨D, cfV, kV, iV, fV, hD, gV, stV, knV, obV, asV, slV⟩ := id V
  obtain ⟨D', cfC, kC, iC, fC, hD', gC, stC, -, -, asC, slC⟩ := id C
  cases hD.symm.trans hD'
  obtain ⟨D2, kD, e1, e2, e3, e4, e5⟩ := id E
  cases hD.symm.trans e1
  obtain ⟨c2, k2, i1, i2, i3, -⟩ := Cond.instantiable_spec wi
  cases e2.symm.trans i1
  cases e3.symm.trans i2
  obtain ⟨kU, u1, u2⟩ := al.2.2 _ _ e3
  have hB : Blank ST x D P.U := ⟨hD, ⟨knV, fun q hq => by rw [hq] at obV; cases obV⟩, by rw [al.findClass]; exact e2, kU, u1, by rw [u2]; exact i3, by rw [u2]; exact e5 i3⟩
  have F1 : Found ST "value" "[B" fV P.U := ⟨SBG.found_only al ⟨cfV, kV, iV, gV⟩, stV⟩
  have F2 : Found ST "coder" "B" fC P.U := ⟨SBG.found_only al ⟨cfC, kC, iC, gC⟩, stC⟩
  have hA : Ch b A P.U := ⟨⟨K.1, State.isArrayOf_alike al K.2.1, K.2.2, by omega⟩, hty⟩
  have hS : StaticIs P.U ST "COMPACT_STRINGS" "Z" (.int z) := by
    obtain ⟨cfS, iS, kS, fS, st, cS, t1, t2, t3, t4, t5, t6, t7⟩ := S
    exact StaticIs.there (s := { Z with heap := P.U.heap }) ⟨cfS, iS, kS, fS, st, cS, t1, t2, t3, t4, t5, (fun q => by rw [q] at t6; cases t6), t7⟩ al rfl
  obtain ⟨v, B, X', ⟨⟨hv, E', V', q1, q2, q3, q4, q5, q6, q7, q8, q9, q10, q11⟩, hl, hc, hs⟩, st⟩ := New1.pays x D fV fC b A z (tab_of (moved hZ hw)) hfr hlo m meth c P g ig mk _ X hg hsize hdg hW hn ⟨r1, r2, rfl, hB, F1, F2, hA, hS, hz, l0, l2, hp⟩
  have al' : Z.vm.Alike B.U.vm := hZ.alike.trans X'.warmed.alike
  have hsz : E'.slots.size = D.slots.size := by
    obtain ⟨-, -, -, kB, w1, w2, w3⟩ := q1
    obtain ⟨kB', y1, y2⟩ := al'.2.2 _ _ e3
    rw [q2.2.1] at w1
    cases w1.symm.trans y1
    rw [w3, e5 i3, y2]
  refine ⟨v, B, X', ⟨_, ⟨hv, ?_, ⟨by omega, fun y cy hy hn' => q10 y cy (by simpa using hn') hy, fun y cy hy => ?_⟩, q11, ⟨E', _, q1.1, by rw [q2.2.1]; exact e2, by rw [q2.2.1]; exact e3, by rw [q2.1]; exact obV, fun _ => by rw [hsz]; exact e5 i3⟩,
    ⟨E', cfV, kV, iV, fV, q1.1, gV, stV, by rw [q2.1]; exact knV, by rw [q2.1]; exact obV, by rw [q2.2.1]; exact asV, q3⟩, ⟨E', cfC, kC, iC, fC, q1.1, gC, stC, by rw [q2.1]; exact knV, by rw [q2.1]; exact obV, by rw [q2.2.1]; exact asC, q4⟩,
    ⟨V', ⟨q5.1, State.isArrayOf_alike al'.symm q5.2.1, q5.2.2.1⟩, q6, by rw [← al'.findClass]; exact q7, q8, fun j hj => by have := q9 j hj; rwa [Nat.zero_add] at this⟩, fun O n d w F n1 n2 => ?_⟩, hl, hc, hs⟩, st⟩
  · intro y hy
    simp only [List.mem_cons, List.not_mem_nil, or_false] at hy
    rcases hy with rfl | rfl <;> rfl
  · by_cases q : y = x
    · subst q
      cases hD.symm.trans hy
      exact ⟨E', q1.1, q2.2.1, q2.1, hsz⟩
    · exact ⟨cy, q10 y cy q hy, rfl, rfl, rfl⟩
  · obtain ⟨D3, cf, k, i, f, g1, g2, g3, g4, g5, g6, g7⟩ := F
    cases hD.symm.trans g1
    simp only [RoadKit.slotOf, g2, gV, gC, Option.map_some, Option.getD_some] at n1 n2
    exact ⟨E', cf, k, i, f, q1.1, g2, g3, by rw [q2.1]; exact g4, by rw [q2.1]; exact g5, by rw [q2.2.1]; exact g6, by rw [q2.2.2 f.slot (by simp [n1, n2])]; exact g7⟩
end StrChars.Road
namespace StrChars.Road
open Jvm Sem ClassFile Op Lib Jvm.Stand Jvm.Free Jvm.Free.XT
/-- WHAT COMES BACK, the byte[] as a list of values -/
def QA (Z : State) (x : Addr) (zn : Int32) (cs : List Int32) (h : Heap) (v : Option Value) (h' : Heap) (L : List Loc) : Prop := v = none ∧ (∀ y ∈ L, y.base = x) ∧ RoadKit.Keep h h' [x] ∧ h'.size = h.size + 1 ∧ RoadKit.Exa Z h' x ST ∧ RoadKit.Fld Z h' x ST "value" "[B" (.ref h.size) ∧ RoadKit.Fld Z h' x ST "coder" "B" (.int 0) ∧
  (∃ kb, Z.vm.findClass "[B" = some kb ∧ RoadKit.Arv Z h' h.size kb .byte zn (cs.map fun c => .int (lo8 c)) (.int 0)) ∧
  ∀ (O n d : String) (w : Value), RoadKit.Fld Z h x O n d w → RoadKit.slotOf Z O n d ≠ RoadKit.slotOf Z ST "value" "[B" → RoadKit.slotOf Z O n d ≠ RoadKit.slotOf Z ST "coder" "B" → RoadKit.Fld Z h' x O n d w
/-- **new String(chars) AT A CALL, THE ARRAYS AS LISTS**: the char[] at b holds cs, not empty, no char above 255 -/
theorem backArv {p : Program} {l : Launch} {e : Env} {R : Room} {s : State} {args : Array Value} {below : List Frame} {len W : Nat} {Z : State} {a0 : Array Value} {h : Heap} (hZ : Z.Warmed39 s.vm) (hw : ∀ d ∈ words, d.before a0 Z = true) {kI : Nat} (wi : (Jvm.Cond.instantiable ST kI).before a0 Z = true)
    {x b : Addr} {k : ClassId} {zn z : Int32} {cs : List Int32} {dv v0 c0 : Value} (E : RoadKit.Exa Z h x ST) (V : RoadKit.Fld Z h x ST "value" "[B" v0) (C : RoadKit.Fld Z h x ST "coder" "B" c0) (K : RoadKit.Arv Z h b k .char zn (cs.map Value.int) dv) (S : RoadKit.Sta Z h ST "COMPACT_STRINGS" "Z" (.int z)) (hz : ¬ z = 0)
    (hlen : zn.toNatClampNeg = cs.length) (h0 : 0 < cs.length) (hbig : cs.length ≤ 536870912) (hall : ∀ c ∈ cs, ¬ 255 < c) (hfr : 4 ≤ R.frames) (hlo : W + 65 ≤ R.locals) :
    Back l R p e below s args New1.yN len W (fun P a => a = #[.ref x, .ref b] ∧ P.U.heap = h ∧ P.cells + 1 ≤ R.cells ∧ P.slots + cs.length ≤ R.slots)
      (fun P _ v B => ∃ L, QA Z x zn cs h v B.U.heap L ∧ B.locs = P.locs ++ L ∧ B.cells = P.cells + 1 ∧ B.slots = P.slots + cs.length) := by
  obtain ⟨A, K1, K2, K3, K4, K5, K6⟩ := K
  have e : A.slots.size = cs.length := K3.trans hlen
  have hat : ∀ (i : Nat) (hi : i < cs.length), A.slots[i]? = some (.int cs[i]) := fun i hi => by rw [K5 i (by omega)]; simp [List.getD_eq_getElem?_getD, hi]
  have hcv : ∀ (i : Nat) (hi : i < cs.length), cv A i = cs[i] := fun i hi => by unfold cv; rw [hat i hi]
  have hty : Typed .char A := fun i v hv => by
    have hi : i < A.slots.size := (Array.getElem?_eq_some_iff.mp hv).1
    have q := K5 i hi
    rw [hv] at q
    rw [Option.some.inj q]
    exact K6 i hi
  refine Back.mono (back hZ hw wi E V C K1 hty S hz (by omega) (by omega) (fun i hi => by rw [hcv i (by omega)]; exact hall _ (List.getElem_mem _)) hfr hlo) (fun P a hp => ⟨hp.1, hp.2.1, hp.2.2.1, by rw [e]; exact hp.2.2.2⟩) (fun P a v B hp hq => ?_)
  obtain ⟨L, ⟨q1, q2, q3, q4, q5, q6, q7, ⟨V', v1, v2, v3, v4, v5⟩, q9⟩, hl, hc, hs⟩ := hq
  refine ⟨L, ⟨q1, q2, q3, q4, q5, q6, q7, ⟨V'.cls, v3, V', v1, rfl, by rw [v4, e, hlen], K4, fun i hi => ?_, fun i hi => ?_⟩, q9⟩, hl, hc, by rw [hs, e]⟩
  · have hi' : i < cs.length := by omega
    rw [v5 i (by omega), hcv i hi']; simp [List.getD_eq_getElem?_getD, hi']
  · have hi' : i < cs.length := by omega
    simp only [List.getD_eq_getElem?_getD, List.getElem?_map, List.getElem?_eq_getElem hi', Option.map_some, Option.getD_some]
    exact fits_lo8 _
end StrChars.Road
namespace StrChars.Road
open Jvm Sem ClassFile Op Lib Jvm.Stand Jvm.Free Jvm.Free.XT
/-- WHAT COMES BACK, in the writer's own shape -/
def QV (Z : State) (x : Addr) (N : Int32) (bs : List Int32) (h : Heap) (n0 : Nat) (v : Option Value) (h' : Heap) (L : List Loc) : Prop := v = none ∧ RoadKit.Fr n0 L ∧ RoadKit.Keep h h' [x] ∧ RoadKit.Exa Z h' x ST ∧ RoadKit.Fld Z h' x ST "coder" "B" (.int 0) ∧
  ∃ (t : Addr) (kb : ClassId), n0 ≤ t ∧ h.size ≤ t ∧ ¬ t = x ∧ RoadKit.Fld Z h' x ST "value" "[B" (.ref t) ∧ RoadKit.Arv Z h' t kb .byte N (bs.map Value.int) (.int 0)
/-- **new String(chars) AT A CALL, FOR THE WRITER**: a char[] of n known ints, each 0 to 255 -/
theorem backV {p : Program} {l : Launch} {e : Env} {R : Room} {s : State} {args : Array Value} {below : List Frame} {len W : Nat} {Z : State} {a0 : Array Value} {h : Heap} (hZ : Z.Warmed39 s.vm) (hw : ∀ d ∈ words, d.before a0 Z = true) {kI : Nat} (wi : (Jvm.Cond.instantiable ST kI).before a0 Z = true)
    {x b : Addr} {kC : ClassId} {cs bs : List Int32} {d v0 c0 : Value} {z N : Int32} {n n0 : Nat} (hx0 : n0 ≤ x) (hh0 : n0 ≤ h.size) (E : RoadKit.Exa Z h x ST) (V : RoadKit.Fld Z h x ST "value" "[B" v0) (C : RoadKit.Fld Z h x ST "coder" "B" c0) (K : RoadKit.Arv Z h b kC .char N (cs.map Value.int) d) (S : RoadKit.Sta Z h ST "COMPACT_STRINGS" "Z" (.int z)) (hz : ¬ z = 0)
    (hn : cs.length = n) (hN : N = Int32.ofNat n) (l0 : 0 < n) (l2 : n ≤ 4000) (hp : ∀ c ∈ cs, ¬ c < 0 ∧ ¬ (255 : Int32) < c) (hb : bs = cs.map (fun c => c.toInt8.toInt32)) (hfr : 4 ≤ R.frames) (hlo : W + 65 ≤ R.locals) :
    Back l R p e below s args (⟨"java/lang/String", "<init>", "([C)V"⟩ : MethodName) len W (fun P a => a = #[.ref x, .ref b] ∧ P.U.heap = h ∧ P.cells + 1 ≤ R.cells ∧ P.slots + n ≤ R.slots)
      (fun P _ v B => ∃ L, QV Z x N bs h n0 v B.U.heap L ∧ B.locs = P.locs ++ L ∧ B.cells = P.cells + 1 ∧ B.slots = P.slots + n) := by
  subst hn hN hb
  refine Back.mono (backArv hZ hw wi E V C K S hz (n32 (by omega)) l0 (by omega) (fun c hc => (hp c hc).2) hfr hlo) (fun P a hp => hp) (fun P a v B hp hq => ?_)
  obtain ⟨L, ⟨q1, q2, q3, q4, q5, q6, q7, ⟨kb, v1, v2⟩, q9⟩, hl, hc, hs⟩ := hq
  exact ⟨L, ⟨q1, fun y hy => by rw [q2 y hy]; exact hx0, q3, q5, q7, h.size, kb, hh0, Nat.le_refl _, Nat.ne_of_gt E.lt, q6, by rw [List.map_map]; exact v2⟩, hl, hc, hs⟩
end StrChars.Road
namespace StrChars
open Jvm Sem ClassFile Op Lib Jvm.Stand Jvm.Free.XT Jvm.Free.ALB Jvm.Free.JM Jvm.Free
open Jvm.Lib.Cold (StaticIs)
def hi8 (x : Int32) : Int32 := lo8 (x >>> ((8 : Int32) &&& 31))
/-- what StringUTF16.getChar makes of two bytes -/
def pairCh (u v : Int32) : Int32 := (((u &&& 255) <<< ((0 : Int32) &&& 31)) ||| ((v &&& 255) <<< ((8 : Int32) &&& 31))).toUInt32.toUInt16.toUInt32.toInt32
theorem lo8_and (x : Int32) : (lo8 x &&& 255).toBitVec.toNat = x.toBitVec.toNat % 256 := by
  have h : (lo8 x).toBitVec = (x.toBitVec.signExtend 8).signExtend 32 := by rw [lo8, Int8.toBitVec_toInt32, Int32.toBitVec_toInt8]
  rw [Int32.toBitVec_and, BitVec.toNat_and, h]
  have e : ((x.toBitVec.signExtend 8).signExtend 32).toNat % 256 = x.toBitVec.toNat % 256 := by
    rw [BitVec.toNat_signExtend]
    have hlt := x.toBitVec.isLt
    simp only [BitVec.toNat_setWidth, BitVec.toNat_signExtend]
    split <;> split <;> omega
  rw [← e]
  exact Nat.and_two_pow_sub_one_eq_mod _ 8
theorem pair_says {c : Int32} (h0 : ¬ c < 0) (h1 : ¬ 65535 < c) : pairCh (lo8 c) (hi8 c) = c := by
  rw [Int32.lt_iff_toInt_lt] at h0 h1
  have e0 : (0 : Int32).toInt = 0 := rfl
  have e1 : (65535 : Int32).toInt = 65535 := rfl
  have hc : c.toInt = c.toBitVec.toNat := by
    have := c.toBitVec.isLt
    have e : c.toInt = c.toBitVec.toInt := rfl
    rw [e] at h0 h1
    rw [e]
    rw [BitVec.toInt_eq_toNat_cond] at h0 h1 ⊢
    split at h0 <;> split <;> omega
  have hn : c.toBitVec.toNat < 65536 := by omega
  have a1 := lo8_and c
  have a2 : (hi8 c &&& 255).toBitVec.toNat = c.toBitVec.toNat / 256 := by
    rw [hi8, lo8_and]
    have e : ((8 : Int32) &&& 31) = 8 := by decide
    rw [e, Int32.toBitVec_shiftRight]
    have e2 : ((8 : Int32).toBitVec.smod 32) = 8#32 := by decide
    rw [e2, BitVec.sshiftRight_eq', BitVec.toNat_sshiftRight_of_msb_false (by rw [BitVec.msb_eq_false_iff_two_mul_lt]; omega)]
    show c.toBitVec.toNat >>> 8 % 256 = _
    rw [Nat.shiftRight_eq_div_pow]
    omega
  unfold pairCh
  apply Int32.toBitVec_inj.mp
  apply BitVec.eq_of_toNat_eq
  have f0 : ((0 : Int32) &&& 31) = 0 := by decide
  have f8 : ((8 : Int32) &&& 31) = 8 := by decide
  rw [f0, f8]
  have g : (((lo8 c &&& 255) <<< (0 : Int32)) ||| ((hi8 c &&& 255) <<< (8 : Int32))).toBitVec.toNat = c.toBitVec.toNat := by
    rw [Int32.toBitVec_or, Int32.toBitVec_shiftLeft, Int32.toBitVec_shiftLeft]
    have s0 : ((0 : Int32).toBitVec.smod 32) = 0#32 := by decide
    have s8 : ((8 : Int32).toBitVec.smod 32) = 8#32 := by decide
    rw [s0, s8, BitVec.toNat_or]
    simp only [BitVec.shiftLeft_eq', BitVec.toNat_shiftLeft, a1, a2]
    show (c.toBitVec.toNat % 256) <<< 0 % 2 ^ 32 ||| (c.toBitVec.toNat / 256) <<< 8 % 2 ^ 32 = _
    rw [Nat.shiftLeft_zero, Nat.mod_eq_of_lt (show c.toBitVec.toNat % 256 < 2 ^ 32 by omega), Nat.mod_eq_of_lt (show (c.toBitVec.toNat / 256) <<< 8 < 2 ^ 32 by rw [Nat.shiftLeft_eq]; omega), Nat.or_comm, ← Nat.shiftLeft_add_eq_or_of_lt (by omega), Nat.shiftLeft_eq]
    omega
  show BitVec.toNat (((((lo8 c &&& 255) <<< (0 : Int32)) ||| ((hi8 c &&& 255) <<< (8 : Int32))).toBitVec.setWidth 16).setWidth 32) = _
  rw [BitVec.toNat_setWidth, BitVec.toNat_setWidth, g]
  omega
end StrChars
namespace StrChars
open Jvm Sem ClassFile Op Lib Jvm.Stand Jvm.Free.XT Jvm.Free.ALB Jvm.Free.JM Jvm.Free
open Jvm.Lib.Cold (StaticIs)
theorem narrow_ch {c : Int32} (h0 : ¬ c < 0) (h1 : ¬ 65535 < c) : narrow .char (.int c) = .int c := by
  have q : narrow .char (.int (pairCh (lo8 c) (hi8 c))) = .int (pairCh (lo8 c) (hi8 c)) := narrow_c _
  rwa [pair_says h0 h1] at q
/-- the array's cell V codes the n chars f 0 .. f (n - 1) by the coder cd, as the JDK does: coder 1 just where some char is above 255 -/
def Cod (cd : Int32) (n : Nat) (f : Nat → Int32) (V : Cell) : Prop := (cd = 0 ∧ V.slots.size = n ∧ ∀ j, j < n → V.slots[j]? = some (.int (lo8 (f j))) ∧ ¬ 255 < f j) ∨ (cd = 1 ∧ V.slots.size = 2 * n ∧ (∀ j, j < n → V.slots[2 * j]? = some (.int (lo8 (f j))) ∧ V.slots[2 * j + 1]? = some (.int (hi8 (f j)))) ∧ ∃ j, j < n ∧ 255 < f j)
/-- **x is a String of the n chars f 0 .. f (n - 1)**, Latin-1 or UTF-16; its array at t has the cell V -/
def Txt (x t : Addr) (V : Cell) (cd : Int32) (n : Nat) (f : Nat → Int32) (U : State) : Prop := Exact "java/lang/String" x U ∧ Has x "java/lang/String" "value" "[B" (.ref t) U ∧ Has x "java/lang/String" "coder" "B" (.int cd) U ∧ XT.Arr .byte t V U ∧ Cod cd n f V ∧ ∀ j, j < n → ¬ f j < 0 ∧ ¬ 65535 < f j
theorem Txt.mv {x t : Addr} {V : Cell} {cd : Int32} {n : Nat} {f : Nat → Int32} {U U' : State} (h : Txt x t V cd n f U) (hal : U.vm.Alike U'.vm) (hh : U'.heap = U.heap) : Txt x t V cd n f U' := ⟨h.1.mv hal hh, h.2.1.mv hal hh, h.2.2.1.mv hal hh, h.2.2.2.1.mv hal hh, h.2.2.2.2⟩
end StrChars
namespace StrChars.Road
open Jvm Sem ClassFile Op Lib Jvm.Stand Jvm.Free Jvm.Free.XT
open Jvm.Lib.Cold (StaticIs)
theorem consq {a : Array Value} {s : State} {c : Jvm.Cond} {L : List Jvm.Cond} (h0 : c.before a s = true) (h : ∀ w ∈ L, w.before a s = true) : ∀ w ∈ c :: L, w.before a s = true := fun w hw => (List.mem_cons.mp hw).elim (fun e => e ▸ h0) (h w)
/-- the bytes of the chars cs, low before high -/
def wideBytes : List Int32 → List Value
  | [] => []
  | c :: cs => .int (lo8 c) :: .int (hi8 c) :: wideBytes cs
theorem wide_lo (d : Value) : ∀ (cs : List Int32) (j : Nat), j < cs.length → (wideBytes cs).getD (2 * j) d = .int (lo8 (cs.getD j 0))
  | [], j, h => absurd h (Nat.not_lt_zero j)
  | c :: cs, 0, _ => rfl
  | c :: cs, j + 1, h => by
    have q := wide_lo d cs j (by simpa using h)
    rw [show 2 * (j + 1) = 2 * j + 1 + 1 from by omega]
    simpa [wideBytes] using q
theorem wide_hi (d : Value) : ∀ (cs : List Int32) (j : Nat), j < cs.length → (wideBytes cs).getD (2 * j + 1) d = .int (hi8 (cs.getD j 0))
  | [], j, h => absurd h (Nat.not_lt_zero j)
  | c :: cs, 0, _ => rfl
  | c :: cs, j + 1, h => by
    have q := wide_hi d cs j (by simpa using h)
    rw [show 2 * (j + 1) + 1 = 2 * j + 1 + 1 + 1 from by omega]
    simpa [wideBytes] using q
theorem low_at (d : Value) (cs : List Int32) (j : Nat) (h : j < cs.length) : (cs.map fun c => Value.int (lo8 c)).getD j d = .int (lo8 (cs.getD j 0)) := by
  simp [List.getD_eq_getElem?_getD, h]
/-- an array of N2 bytes vs codes the chars cs by the coder cd -/
def CodA (cs : List Int32) (cd N2 : Int32) (vs : List Value) : Prop := (cd = 0 ∧ N2 = Int32.ofNat cs.length ∧ vs = (cs.map fun c => Value.int (lo8 c)) ∧ ∀ c ∈ cs, ¬ 255 < c) ∨ (cd = 1 ∧ N2 = Int32.ofNat (2 * cs.length) ∧ vs = wideBytes cs ∧ ∃ c ∈ cs, 255 < c)
theorem CodA.cod {cs : List Int32} {cd N2 : Int32} {vs : List Value} {V : Cell} (h : CodA cs cd N2 vs) (hn : 2 * cs.length < 2 ^ 31) (hs : V.slots.size = N2.toNatClampNeg) (hv : RoadKit.Has V vs (.int 0)) : Cod cd cs.length (fun j => cs.getD j 0) V := by
  rcases h with ⟨rfl, rfl, rfl, h⟩ | ⟨rfl, rfl, rfl, c, hc, hw⟩
  · rw [n32 (by omega)] at hs
    exact Or.inl ⟨rfl, hs, fun j hj => ⟨by rw [hv j (by omega), low_at _ _ _ hj], by
      have e : cs.getD j 0 = cs[j] := by simp [List.getD_eq_getElem?_getD, hj]
      show ¬ 255 < cs.getD j 0
      rw [e]; exact h _ (List.getElem_mem _)⟩⟩
  · rw [n32 (by omega)] at hs
    obtain ⟨j, hj, rfl⟩ := List.getElem_of_mem hc
    exact Or.inr ⟨rfl, hs, fun j hj => ⟨by rw [hv _ (by omega), wide_lo _ _ _ hj], by rw [hv _ (by omega), wide_hi _ _ _ hj]⟩, j, hj, by
      have e : cs.getD j 0 = cs[j] := by simp [List.getD_eq_getElem?_getD, hj]
      show 255 < cs.getD j 0
      rw [e]; exact hw⟩
/-- an object of exactly java/lang/String, its two fields found: as the laws ask it -/
theorem strObj {Z U : State} {a0 : Array Value} {kI : Nat} (wi : (Jvm.Cond.instantiable ST kI).before a0 Z = true) (al : Z.vm.Alike U.vm) {x : Addr} {v0 c0 : Value} (E : RoadKit.Exa Z U.heap x ST) (V : RoadKit.Fld Z U.heap x ST "value" "[B" v0) (C : RoadKit.Fld Z U.heap x ST "coder" "B" c0) :
    ∃ (D : Cell) (fV fC : Field), Blank ST x D U ∧ Found ST "value" "[B" fV U ∧ Found ST "coder" "B" fC U ∧ D.slots[fV.slot]? = some v0 ∧ D.slots[fC.slot]? = some c0 ∧ RoadKit.slotOf Z ST "value" "[B" = fV.slot ∧ RoadKit.slotOf Z ST "coder" "B" = fC.slot := by
  obtain ⟨D, cfV, kV, iV, fV, hD, gV, stV, knV, obV, asV, slV⟩ := V
  obtain ⟨D', cfC, kC, iC, fC, hD', gC, stC, -, -, asC, slC⟩ := C
  cases hD.symm.trans hD'
  obtain ⟨D2, kD, e1, e2, e3, e4, e5⟩ := E
  cases hD.symm.trans e1
  obtain ⟨c2, k2, i1, i2, i3, -⟩ := Cond.instantiable_spec wi
  cases e2.symm.trans i1
  cases e3.symm.trans i2
  obtain ⟨kU, u1, u2⟩ := al.2.2 _ _ e3
  exact ⟨D, fV, fC, ⟨hD, ⟨knV, fun q hq => by rw [hq] at obV; cases obV⟩, by rw [al.findClass]; exact e2, kU, u1, by rw [u2]; exact i3, by rw [u2]; exact e5 i3⟩, ⟨SBG.found_only al ⟨cfV, kV, iV, gV⟩, stV⟩, ⟨SBG.found_only al ⟨cfC, kC, iC, gC⟩, stC⟩, slV, slC, by simp [RoadKit.slotOf, gV], by simp [RoadKit.slotOf, gC]⟩
theorem sta_is {Z U : State} (al : Z.vm.Alike U.vm) {C n d : String} {v : Value} (S : RoadKit.Sta Z U.heap C n d v) : StaticIs U C n d v := by
  obtain ⟨cfS, iS, kS, fS, st, cS, t1, t2, t3, t4, t5, t6, t7⟩ := S
  exact StaticIs.there (s := { Z with heap := U.heap }) ⟨cfS, iS, kS, fS, st, cS, t1, t2, t3, t4, t5, (fun q => by rw [q] at t6; cases t6), t7⟩ al rfl
end StrChars.Road
namespace StrChars
open Jvm Sem ClassFile Op Lib Jvm.Stand Jvm.Free.XT Jvm.Free.ALB Jvm.Free.JM Jvm.Free
open Jvm.Lib.Cold (StaticIs)
/-- what place i of a byte[]'s cell holds -/
def yv (A : Cell) (i : Nat) : Int32 := match A.slots[i]? with | some (.int x) => x | _ => 0
theorem yv_get {a : Addr} {A : Cell} {U : State} (h : XT.Arr .byte a A U) (ht : Typed .byte A) {i : Nat} (hi : i < A.slots.size) : A.slots[i]? = some (.int (yv A i)) := by
  have e := Array.getElem?_eq_getElem hi
  have f := ht i _ e
  unfold yv; rw [e]
  generalize A.slots[i] = v at f
  cases v <;> simp [fits] at f ⊢
/-- the two arrays are equal, place for place -/
def EqC (A B : Cell) : Prop := A.slots.size = B.slots.size ∧ ∀ i, i < A.slots.size → yv A i = yv B i
/-- a boolean that says whether p -/
def Says01 (q : Prop) (r : Option Value) (s u : State) : Prop := ∃ v : Int32, r = some (.int v) ∧ u.heap = s.heap ∧ ((v = 1 ∧ q) ∨ (v = 0 ∧ ¬ q))
theorem Says01.mv {q : Prop} : ∀ r (U U' V V' : State), U'.heap = U.heap → V.vm.Alike V'.vm → V'.heap = V.heap → Says01 q r U V → Says01 q r U' V' :=
  fun r U U' V V' h1 _ h2 ⟨v, a, b, c⟩ => ⟨v, a, by rw [h1, h2]; exact b, c⟩
namespace LEq
def yN : MethodName := ⟨"java/lang/StringLatin1", "equals", "([B[B)Z"⟩
abbrev yB : ByteArray := jdk_43_method_13_code
theorem d0 : decode yB 0 = .ok (.aload_n 0, 1) := by decide +kernel
theorem d1 : decode yB 1 = .ok (.arraylength, 1) := by decide +kernel
theorem d2 : decode yB 2 = .ok (.aload_n 1, 1) := by decide +kernel
theorem d3 : decode yB 3 = .ok (.arraylength, 1) := by decide +kernel
theorem d4 : decode yB 4 = .ok (.if_icmp (.ne) 30, 3) := by decide +kernel
theorem d7 : decode yB 7 = .ok (.iconst 0, 1) := by decide +kernel
theorem d8 : decode yB 8 = .ok (.istore_n 2, 1) := by decide +kernel
theorem d9 : decode yB 9 = .ok (.iload_n 2, 1) := by decide +kernel
theorem d10 : decode yB 10 = .ok (.aload_n 0, 1) := by decide +kernel
theorem d11 : decode yB 11 = .ok (.arraylength, 1) := by decide +kernel
theorem d12 : decode yB 12 = .ok (.if_icmp (.ge) 20, 3) := by decide +kernel
theorem d15 : decode yB 15 = .ok (.aload_n 0, 1) := by decide +kernel
theorem d16 : decode yB 16 = .ok (.iload_n 2, 1) := by decide +kernel
theorem d17 : decode yB 17 = .ok (.baload, 1) := by decide +kernel
theorem d18 : decode yB 18 = .ok (.aload_n 1, 1) := by decide +kernel
theorem d19 : decode yB 19 = .ok (.iload_n 2, 1) := by decide +kernel
theorem d20 : decode yB 20 = .ok (.baload, 1) := by decide +kernel
theorem d21 : decode yB 21 = .ok (.if_icmp (.eq) 5, 3) := by decide +kernel
theorem d24 : decode yB 24 = .ok (.iconst 0, 1) := by decide +kernel
theorem d25 : decode yB 25 = .ok (.ireturn, 1) := by decide +kernel
theorem d26 : decode yB 26 = .ok (.iinc 2 1, 3) := by decide +kernel
theorem d29 : decode yB 29 = .ok (.goto (-20), 3) := by decide +kernel
theorem d32 : decode yB 32 = .ok (.iconst 1, 1) := by decide +kernel
theorem d33 : decode yB 33 = .ok (.ireturn, 1) := by decide +kernel
theorem d34 : decode yB 34 = .ok (.iconst 0, 1) := by decide +kernel
theorem d35 : decode yB 35 = .ok (.ireturn, 1) := by decide +kernel
def site : List Cond := []
def tab : Cond := tabOf yN yB 3 (some .boolean) site
def P (a : Addr) (A : Cell) (b : Addr) (B : Cell) (args : Array Value) (s : State) : Prop := args = #[.ref a, .ref b] ∧ XT.Arr .byte a A s ∧ Typed .byte A ∧ XT.Arr .byte b B s ∧ Typed .byte B
/-- whether two byte[] are equal, place for place -/
theorem law (l : Launch) (a : Addr) (A : Cell) (b : Addr) (B : Cell) : Law l yN 2 2 0 0 yB 3 (some .boolean) site (P a A b B) (Says01 (EqC A B)) [] 0 0 := by
  refine Law.of_walk (plainFor_of_name (by decide +kernel)) (by decide +kernel) (by decide +kernel) (by decide) (fun _ _ h => by rw [h.1]; rfl) (fun _ U U' hal hh h => ⟨h.1, h.2.1.mv hal hh, h.2.2.1, h.2.2.2.1.mv hal hh, h.2.2.2.2⟩) (fun r U U' V V' h1 hal h2 h => Says01.mv r U U' V V' h1 hal h2 h) ?_
  intro p e s m args below meth c s₁ X0 hexec hbytes hml hret hlk hnm hown hh0 W hP
  obtain ⟨rfl, hA, tA, hB, tB⟩ := hP
  have a31 := hA.2.2.2
  have b31 := hB.2.2.2
  have hA0 := hA.mv X0.warmed.alike hh0
  have hB0 := hB.mv X0.warmed.alike hh0
  have c1 : Steps p.tables e below (s₁.setTop (entryFrame m #[.ref a, .ref b] 3)) (s₁.setTop (mkF m 0 #[.val (.ref a), .val (.ref b), .unset] [])) := entry rfl
  have c2 : Steps p.tables e below (s₁.setTop (entryFrame m #[.ref a, .ref b] 3)) (s₁.setTop (mkF m 4 #[.val (.ref a), .val (.ref b), .unset] [.int (Int32.ofNat B.slots.size), .int (Int32.ofNat A.slots.size)])) := c1.trans (by
    refine XS.aloadN X0.here hexec rfl (hb hbytes d0) rfl rfl ?_
    refine X0.alen hexec hA0 rfl rfl (hb hbytes d1) ?_
    refine XS.aloadN X0.here hexec rfl (hb hbytes d2) rfl rfl ?_
    refine X0.alen hexec hB0 rfl rfl (hb hbytes d3) ?_
    exact Steps.refl _)
  by_cases hs : A.slots.size = B.slots.size
  · have c3 : Steps p.tables e below (s₁.setTop (entryFrame m #[.ref a, .ref b] 3)) (s₁.setTop (mkF m 9 #[.val (.ref a), .val (.ref b), .val (.int 0)] [])) := c2.trans (by
      refine XS.icmpNo X0.here hexec rfl (hb hbytes d4) rfl (ii_ne_f (by rw [hs])) ?_
      refine iconstV X0.here hexec rfl 0 (hb hbytes d7) (by decide) ?_
      refine XS.istoreN X0.here hexec rfl (hb hbytes d8) rfl rfl ?_
      exact Steps.refl _)
    have loop : ∀ (r i : Nat), i + r = A.slots.size → (∀ j, j < i → yv A j = yv B j) → Steps p.tables e below (s₁.setTop (entryFrame m #[.ref a, .ref b] 3)) (s₁.setTop (mkF m 9 #[.val (.ref a), .val (.ref b), .val (.int (Int32.ofNat i))] [])) → ∃ (pc : Nat) (Ls : Array Slot) (v : Int32), (pc = 25 ∨ pc = 33) ∧ ((v = 1 ∧ EqC A B) ∨ (v = 0 ∧ ¬ EqC A B)) ∧ Steps p.tables e below (s₁.setTop (entryFrame m #[.ref a, .ref b] 3)) (s₁.setTop (mkF m pc Ls [.int v])) := by
      intro r
      induction r with
      | zero =>
        intro i hi he cl
        exact ⟨33, _, 1, Or.inr rfl, Or.inl ⟨rfl, hs, fun j hj => he j (by omega)⟩, cl.trans (by
          refine XS.iloadN X0.here hexec rfl (hb hbytes d9) rfl ?_
          refine XS.aloadN X0.here hexec rfl (hb hbytes d10) rfl rfl ?_
          refine X0.alen hexec hA0 rfl rfl (hb hbytes d11) ?_
          refine XS.icmpYes X0.here hexec rfl (pc0 := 12) rfl (hb hbytes d12) rfl (ii_ge_t (nlt32 (by omega) (by omega))) (by decide) rfl ?_
          refine iconstV X0.here hexec rfl 1 (hb hbytes d32) (by decide) ?_
          exact Steps.refl _)⟩
      | succ r ih =>
        intro i hi he cl
        have c4 : Steps p.tables e below (s₁.setTop (entryFrame m #[.ref a, .ref b] 3)) (s₁.setTop (mkF m 21 #[.val (.ref a), .val (.ref b), .val (.int (Int32.ofNat i))] [.int (yv B i), .int (yv A i)])) := cl.trans (by
          refine XS.iloadN X0.here hexec rfl (hb hbytes d9) rfl ?_
          refine XS.aloadN X0.here hexec rfl (hb hbytes d10) rfl rfl ?_
          refine X0.alen hexec hA0 rfl rfl (hb hbytes d11) ?_
          refine XS.icmpNo X0.here hexec rfl (hb hbytes d12) rfl (ii_ge_f (lt32 (by omega) (by omega))) ?_
          refine XS.aloadN X0.here hexec rfl (hb hbytes d15) rfl rfl ?_
          refine XS.iloadN X0.here hexec rfl (hb hbytes d16) rfl ?_
          refine X0.aget hexec hA0 rfl (yv_get hA tA (i := i) (by omega)) rfl rfl (hb hbytes d17) ?_
          refine XS.aloadN X0.here hexec rfl (hb hbytes d18) rfl rfl ?_
          refine XS.iloadN X0.here hexec rfl (hb hbytes d19) rfl ?_
          refine X0.aget hexec hB0 rfl (yv_get hB tB (i := i) (by omega)) rfl rfl (hb hbytes d20) ?_
          exact Steps.refl _)
        by_cases hv : yv A i = yv B i
        · have c5 : Steps p.tables e below (s₁.setTop (entryFrame m #[.ref a, .ref b] 3)) (s₁.setTop (mkF m 9 #[.val (.ref a), .val (.ref b), .val (.int (Int32.ofNat i + 1))] [])) := c4.trans (by
            refine XS.icmpYes X0.here hexec rfl (pc0 := 21) rfl (hb hbytes d21) rfl (ii_eq_t hv) (by decide) rfl ?_
            refine iincV X0.here hexec rfl 1 (hb hbytes d26) (by decide) rfl rfl ?_
            refine XS.goto X0.here hexec rfl (pc0 := 29) rfl (hb hbytes d29) (by decide) rfl ?_
            exact Steps.refl _)
          rw [succ32] at c5
          exact ih (i + 1) (by omega) (fun j hj => by
            by_cases e : j = i
            · rw [e]; exact hv
            · exact he j (by omega)) c5
        · exact ⟨25, _, 0, Or.inl rfl, Or.inr ⟨rfl, fun q => hv (q.2 i (by omega))⟩, c4.trans (by
            refine XS.icmpNo X0.here hexec rfl (hb hbytes d21) rfl (ii_eq_f hv) ?_
            refine iconstV X0.here hexec rfl 0 (hb hbytes d24) (by decide) ?_
            exact Steps.refl _)⟩
    obtain ⟨pc, Ls, v, hpc, hv, cz⟩ := loop A.slots.size 0 (by omega) (fun j hj => absurd hj (Nat.not_lt_zero j)) c3
    have nv : narrow .boolean (.int v) = .int v := by rcases hv with ⟨rfl, -⟩ | ⟨rfl, -⟩ <;> rfl
    rcases hpc with rfl | rfl
    · exact ⟨s₁, some (.int v), _, _, _, X0, rfl, rfl, rfl, (fun h => by cases h), ⟨v, rfl, hh0, hv⟩, fun fs hl => cz.trans (X0.ireturnOut hexec hret nv (Or.inr (Or.inl rfl)) (hb hbytes d25) hl)⟩
    · exact ⟨s₁, some (.int v), _, _, _, X0, rfl, rfl, rfl, (fun h => by cases h), ⟨v, rfl, hh0, hv⟩, fun fs hl => cz.trans (X0.ireturnOut hexec hret nv (Or.inr (Or.inl rfl)) (hb hbytes d33) hl)⟩
  · have c3 : Steps p.tables e below (s₁.setTop (entryFrame m #[.ref a, .ref b] 3)) (s₁.setTop (mkF m 35 #[.val (.ref a), .val (.ref b), .unset] [.int 0])) := c2.trans (by
      refine XS.icmpYes X0.here hexec rfl (pc0 := 4) rfl (hb hbytes d4) rfl (ii_ne_t (ne32 a31 b31 hs)) (by decide) rfl ?_
      refine iconstV X0.here hexec rfl 0 (hb hbytes d34) (by decide) ?_
      exact Steps.refl _)
    exact ⟨s₁, some (.int 0), _, _, _, X0, rfl, rfl, rfl, (fun h => by cases h), ⟨0, rfl, hh0, Or.inr ⟨rfl, fun q => hs q.1⟩⟩, fun fs hl => c3.trans (X0.ireturnOut hexec hret rfl (Or.inr (Or.inl rfl)) (hb hbytes d35) hl)⟩
end LEq
theorem Cod.ty {cd : Int32} {n : Nat} {f : Nat → Int32} {V : Cell} (h : Cod cd n f V) : Typed .byte V := fun i v hv => by
  have hi : i < V.slots.size := (Array.getElem?_eq_some_iff.mp hv).1
  rcases h with ⟨-, k1, k2⟩ | ⟨-, k1, k2, -⟩
  · rw [(k2 i (by omega)).1] at hv; cases hv; exact fits_lo8 _
  · rcases Nat.mod_two_eq_zero_or_one i with e | e
    · obtain ⟨j, rfl⟩ : ∃ j, i = 2 * j := ⟨i / 2, by omega⟩
      rw [(k2 j (by omega)).1] at hv; cases hv; exact fits_lo8 _
    · obtain ⟨j, rfl⟩ : ∃ j, i = 2 * j + 1 := ⟨i / 2, by omega⟩
      rw [(k2 j (by omega)).2] at hv; cases hv; exact fits_lo8 _
/-- the same text -/
def SameT (n : Nat) (f : Nat → Int32) (k : Nat) (g : Nat → Int32) : Prop := n = k ∧ ∀ j, j < n → f j = g j
theorem lo8_inj {x y : Int32} (h0 : ¬ x < 0) (h1 : ¬ 255 < x) (k0 : ¬ y < 0) (k1 : ¬ 255 < y) (h : lo8 x = lo8 y) : x = y := by
  rw [← lo8_mask h0 h1, ← lo8_mask k0 k1, h]
/-- arrays coded by one coder are equal just where the texts are -/
theorem Cod.eqv {cd : Int32} {n k : Nat} {f g : Nat → Int32} {V V' : Cell} (h : Cod cd n f V) (h' : Cod cd k g V') (hf : ∀ j, j < n → ¬ f j < 0 ∧ ¬ 65535 < f j) (hg : ∀ j, j < k → ¬ g j < 0 ∧ ¬ 65535 < g j) : EqC V V' ↔ SameT n f k g := by
  have yvv : ∀ {W : Cell} {i : Nat} {x : Int32}, W.slots[i]? = some (.int x) → yv W i = x := fun q => by unfold yv; rw [q]
  rcases h with ⟨rfl, k1, k2⟩ | ⟨rfl, k1, k2, -⟩
  · rcases h' with ⟨-, m1, m2⟩ | ⟨e, -⟩
    · constructor
      · rintro ⟨e1, e2⟩
        refine ⟨by omega, fun j hj => ?_⟩
        have q := e2 j (by omega)
        rw [yvv (k2 j hj).1, yvv (m2 j (by omega)).1] at q
        exact lo8_inj (hf j hj).1 (k2 j hj).2 (hg j (by omega)).1 (m2 j (by omega)).2 q
      · rintro ⟨rfl, e2⟩
        refine ⟨by omega, fun j hj => ?_⟩
        rw [yvv (k2 j (by omega)).1, yvv (m2 j (by omega)).1, e2 j (by omega)]
    · exact absurd e (by decide)
  · rcases h' with ⟨e, -⟩ | ⟨-, m1, m2, -⟩
    · exact absurd e (by decide)
    · constructor
      · rintro ⟨e1, e2⟩
        refine ⟨by omega, fun j hj => ?_⟩
        have q1 := e2 (2 * j) (by omega)
        have q2 := e2 (2 * j + 1) (by omega)
        rw [yvv (k2 j hj).1, yvv (m2 j (by omega)).1] at q1
        rw [yvv (k2 j hj).2, yvv (m2 j (by omega)).2] at q2
        rw [← pair_says (hf j hj).1 (hf j hj).2, ← pair_says (hg j (by omega)).1 (hg j (by omega)).2, q1, q2]
      · rintro ⟨rfl, e2⟩
        refine ⟨by omega, fun i hi => ?_⟩
        rcases Nat.mod_two_eq_zero_or_one i with e | e
        · obtain ⟨j, rfl⟩ : ∃ j, i = 2 * j := ⟨i / 2, by omega⟩
          rw [yvv (k2 j (by omega)).1, yvv (m2 j (by omega)).1, e2 j (by omega)]
        · obtain ⟨j, rfl⟩ : ∃ j, i = 2 * j + 1 := ⟨i / 2, by omega⟩
          rw [yvv (k2 j (by omega)).2, yvv (m2 j (by omega)).2, e2 j (by omega)]
/-- two codings differ: so do the texts -/
theorem Cod.dif {cd cd' : Int32} {n k : Nat} {f g : Nat → Int32} {V V' : Cell} (h : Cod cd n f V) (h' : Cod cd' k g V') (hne : ¬ cd = cd') : ¬ SameT n f k g := by
  rintro ⟨rfl, e⟩
  rcases h with ⟨rfl, -, k2⟩ | ⟨rfl, -, -, j, hj, hw⟩
  · rcases h' with ⟨rfl, -⟩ | ⟨-, -, -, j, hj, hw⟩
    · exact hne rfl
    · exact (k2 j hj).2 (by rw [e j hj]; exact hw)
  · rcases h' with ⟨-, -, m2⟩ | ⟨rfl, -⟩
    · exact (m2 j hj).2 (by rw [← e j hj]; exact hw)
    · exact hne rfl
/-- an object of exactly C is an instance of C -/
theorem cinst {p : Program} {l : Launch} {e : Env} {R : Room} {s : State} {m : MethodId} {args : Array Value} {below : List Frame} {meth : Method} {c : Code} {T : State} {locs : List Loc} {cells slots : Nat} (X : Stand p l e R s m args below meth c T locs cells slots) (hexec : p.tables.exec = Jvm.exec) {own C : String} {index : Nat} (hown : s.vm.findClass own = some m.cls) (hlink : (Cond.classLink own index C).before args s = true) {a : Addr} (hE : Exact C a T)
    {g : JFrame} (hg : g.method = m) {rest : List Value} (hstack : g.stack = .ref a :: rest) (hdg : decode c.code g.pc = .ok (.instanceof index, 3)) :
    ∃ T', Stand p l e R s m args below meth c T' locs cells slots ∧ T'.heap = T.heap ∧ ∀ target, Steps p.tables e below (T'.setTop { g with pc := g.pc + 3, stack := .int 1 :: rest }) target → Steps p.tables e below (T.setTop g) target := by
  obtain ⟨cB, h1, D, h2, h3, h4⟩ := hE
  have h1' : s.vm.findClass C = some cB := by rw [← X.warmed.alike.findClass]; exact h1
  obtain ⟨vm', X', st⟩ := X.instanceofYes hexec hown hlink h2 h4 h1' (by rw [h3]; exact Jvm.Free.SB.assignable_self _ _) hg hstack hdg
  exact ⟨_, X', rfl, st⟩
theorem cself {p : Program} {l : Launch} {e : Env} {R : Room} {s : State} {m : MethodId} {args : Array Value} {below : List Frame} {meth : Method} {c : Code} {T : State} {locs : List Loc} {cells slots : Nat} (X : Stand p l e R s m args below meth c T locs cells slots) (hexec : p.tables.exec = Jvm.exec) {own C : String} {index : Nat} (hown : s.vm.findClass own = some m.cls) (hlink : (Cond.classLink own index C).before args s = true) {a : Addr} (hE : Exact C a T)
    {g : JFrame} (hg : g.method = m) {rest : List Value} (hstack : g.stack = .ref a :: rest) (hdg : decode c.code g.pc = .ok (.checkcast index, 3)) :
    ∃ T', Stand p l e R s m args below meth c T' locs cells slots ∧ T'.heap = T.heap ∧ ∀ target, Steps p.tables e below (T'.setTop { g with pc := g.pc + 3, stack := .ref a :: rest }) target → Steps p.tables e below (T.setTop g) target := by
  obtain ⟨cB, h1, D, h2, h3, h4⟩ := hE
  have h1' : s.vm.findClass C = some cB := by rw [← X.warmed.alike.findClass]; exact h1
  obtain ⟨vm', X', st⟩ := X.checkcastYes hexec hown hlink h2 h4 h1' (by rw [h3]; exact Jvm.Free.SB.assignable_self _ _) hg hstack hdg
  exact ⟨_, X', rfl, fun t h => st t (by rw [← hstack] at h; exact h)⟩
namespace SEq
def yN : MethodName := ⟨"java/lang/String", "equals", "(Ljava/lang/Object;)Z"⟩
abbrev yB : ByteArray := jdk_42_method_66_code
theorem d0 : decode yB 0 = .ok (.aload_n 0, 1) := by decide +kernel
theorem d1 : decode yB 1 = .ok (.aload_n 1, 1) := by decide +kernel
theorem d2 : decode yB 2 = .ok (.if_acmp (.ne) 5, 3) := by decide +kernel
theorem d5 : decode yB 5 = .ok (.iconst 1, 1) := by decide +kernel
theorem d6 : decode yB 6 = .ok (.ireturn, 1) := by decide +kernel
theorem d7 : decode yB 7 = .ok (.aload_n 1, 1) := by decide +kernel
theorem d8 : decode yB 8 = .ok (.instanceof 10, 3) := by decide +kernel
theorem d11 : decode yB 11 = .ok (.ifCond (.eq) 43, 3) := by decide +kernel
theorem d14 : decode yB 14 = .ok (.aload_n 1, 1) := by decide +kernel
theorem d15 : decode yB 15 = .ok (.checkcast 10, 3) := by decide +kernel
theorem d18 : decode yB 18 = .ok (.astore_n 2, 1) := by decide +kernel
theorem d19 : decode yB 19 = .ok (.getstatic 38, 3) := by decide +kernel
theorem d22 : decode yB 22 = .ok (.ifCond (.eq) 14, 3) := by decide +kernel
theorem d25 : decode yB 25 = .ok (.aload_n 0, 1) := by decide +kernel
theorem d26 : decode yB 26 = .ok (.getfield 15, 3) := by decide +kernel
theorem d29 : decode yB 29 = .ok (.aload_n 2, 1) := by decide +kernel
theorem d30 : decode yB 30 = .ok (.getfield 15, 3) := by decide +kernel
theorem d33 : decode yB 33 = .ok (.if_icmp (.ne) 21, 3) := by decide +kernel
theorem d36 : decode yB 36 = .ok (.aload_n 0, 1) := by decide +kernel
theorem d37 : decode yB 37 = .ok (.getfield 9, 3) := by decide +kernel
theorem d40 : decode yB 40 = .ok (.aload_n 2, 1) := by decide +kernel
theorem d41 : decode yB 41 = .ok (.getfield 9, 3) := by decide +kernel
theorem d44 : decode yB 44 = .ok (.invokestatic 541, 3) := by decide +kernel
theorem d47 : decode yB 47 = .ok (.ifCond (.eq) 7, 3) := by decide +kernel
theorem d50 : decode yB 50 = .ok (.iconst 1, 1) := by decide +kernel
theorem d51 : decode yB 51 = .ok (.goto 4, 3) := by decide +kernel
theorem d54 : decode yB 54 = .ok (.iconst 0, 1) := by decide +kernel
theorem d55 : decode yB 55 = .ok (.ireturn, 1) := by decide +kernel
def site : List Cond := [.classLink "java/lang/String" 10 "java/lang/String", .fieldLink "java/lang/String" 38 "java/lang/String" "COMPACT_STRINGS" "Z", .fieldLink "java/lang/String" 15 "java/lang/String" "coder" "B", .fieldLink "java/lang/String" 9 "java/lang/String" "value" "[B", LEq.tab] ++ staticW "java/lang/String" 541 LEq.yN
def tab : Cond := tabOf yN yB 3 (some .boolean) site
def P (x t : Addr) (V : Cell) (cd : Int32) (n : Nat) (f : Nat → Int32) (y t' : Addr) (V' : Cell) (cd' : Int32) (k : Nat) (g : Nat → Int32) (z : Int32) (args : Array Value) (s : State) : Prop := args = #[.ref x, .ref y] ∧ Txt x t V cd n f s ∧ Txt y t' V' cd' k g s ∧ StaticIs s "java/lang/String" "COMPACT_STRINGS" "Z" (.int z) ∧ ¬ z = 0
/-- equals(Object) of two Strings: whether the texts are the same -/
theorem law (l : Launch) (x t : Addr) (V : Cell) (cd : Int32) (n : Nat) (f : Nat → Int32) (y t' : Addr) (V' : Cell) (cd' : Int32) (k : Nat) (g : Nat → Int32) (z : Int32) : Law l yN 2 1 1 14 yB 3 (some .boolean) site (P x t V cd n f y t' V' cd' k g z) (Says01 (SameT n f k g)) [] 0 0 := by
  refine Law.of_walk (plainFor_of_name (by decide +kernel)) (by decide +kernel) (by decide +kernel) (by decide) (fun _ _ h => by rw [h.1]; rfl) (fun _ U U' hal hh h => ⟨h.1, h.2.1.mv hal hh, h.2.2.1.mv hal hh, h.2.2.2.1.there hal hh, h.2.2.2.2⟩) (fun r U U' V V' h1 hal h2 h => Says01.mv r U U' V V' h1 hal h2 h) ?_
  intro p e s m args below meth c s₁ X0 hexec hbytes hml hret hlk hnm hown hh0 W hP
  obtain ⟨rfl, hx, hy, s1, hz⟩ := hP
  have c1 : Steps p.tables e below (s₁.setTop (entryFrame m #[.ref x, .ref y] 3)) (s₁.setTop (mkF m 2 #[.val (.ref x), .val (.ref y), .unset] [.ref y, .ref x])) := Steps.trans (entry rfl) (by
    show Steps p.tables e below (s₁.setTop (mkF m 0 #[.val (.ref x), .val (.ref y), .unset] [])) _
    refine XS.aloadN X0.here hexec rfl (hb hbytes d0) rfl rfl ?_
    refine XS.aloadN X0.here hexec rfl (hb hbytes d1) rfl rfl ?_
    exact Steps.refl _)
  by_cases hxy : x = y
  · have c2 : Steps p.tables e below (s₁.setTop (entryFrame m #[.ref x, .ref y] 3)) (s₁.setTop (mkF m 6 #[.val (.ref x), .val (.ref y), .unset] [.int 1])) := c1.trans (by
      refine acmpNo X0.here hexec rfl (hb hbytes d2) rfl rfl rfl (by simp [acmp, hxy]) ?_
      refine iconstV X0.here hexec rfl 1 (hb hbytes d5) (by decide) ?_
      exact Steps.refl _)
    subst hxy
    have ec : cd = cd' := by
      obtain ⟨D, fd, a1, a2, a3⟩ := hx.2.2.1
      obtain ⟨D', fd', b1, b2, b3⟩ := hy.2.2.1
      cases a1.symm.trans b1
      obtain ⟨q1, q2, q3, q4⟩ := a2.1
      obtain ⟨r1, r2, r3, r4⟩ := b2.1
      cases q4.symm.trans r4
      cases a3.symm.trans b3; rfl
    have et : t = t' := by
      obtain ⟨D, fd, a1, a2, a3⟩ := hx.2.1
      obtain ⟨D', fd', b1, b2, b3⟩ := hy.2.1
      cases a1.symm.trans b1
      obtain ⟨q1, q2, q3, q4⟩ := a2.1
      obtain ⟨r1, r2, r3, r4⟩ := b2.1
      cases q4.symm.trans r4
      cases a3.symm.trans b3; rfl
    subst ec et
    have ev : V = V' := by cases hx.2.2.2.1.1.symm.trans hy.2.2.2.1.1; rfl
    subst ev
    have hs : SameT n f k g := (Cod.eqv hx.2.2.2.2.1 hy.2.2.2.2.1 hx.2.2.2.2.2 hy.2.2.2.2.2).mp ⟨rfl, fun _ _ => rfl⟩
    exact ⟨s₁, some (.int 1), _, _, _, X0, rfl, rfl, rfl, (fun h => by cases h), ⟨1, rfl, hh0, Or.inl ⟨rfl, hs⟩⟩, fun fs hl => c2.trans (X0.ireturnOut hexec hret rfl (Or.inr (Or.inl rfl)) (hb hbytes d6) hl)⟩
  · have c2 : Steps p.tables e below (s₁.setTop (entryFrame m #[.ref x, .ref y] 3)) (s₁.setTop (mkF m 8 #[.val (.ref x), .val (.ref y), .unset] [.ref y])) := c1.trans (by
      refine acmpYes X0.here hexec rfl (pc0 := 2) rfl (hb hbytes d2) rfl rfl rfl (by simp [acmp, hxy]) (by decide) rfl ?_
      refine XS.aloadN X0.here hexec rfl (hb hbytes d7) rfl rfl ?_
      exact Steps.refl _)
    obtain ⟨T3, X3, q3, st3⟩ := cinst X0 hexec hown (wk W (.classLink "java/lang/String" 10 "java/lang/String")) (hy.mv X0.warmed.alike hh0).1 (g := (mkF m 8 #[.val (.ref x), .val (.ref y), .unset] [.ref y])) rfl (rest := []) rfl (hb hbytes d8)
    have hh3 := q3.trans hh0
    have c4 : Steps p.tables e below (s₁.setTop (entryFrame m #[.ref x, .ref y] 3)) (T3.setTop (mkF m 15 #[.val (.ref x), .val (.ref y), .unset] [.ref y])) := (c2.trans (st3 _ (Steps.refl _))).trans (by
      refine XS.ifNo X3.here hexec rfl (hb hbytes d11) rfl (i0_eq_f (by decide)) ?_
      refine XS.aloadN X3.here hexec rfl (hb hbytes d14) rfl rfl ?_
      exact Steps.refl _)
    obtain ⟨T5, X5, q5, st5⟩ := cself X3 hexec hown (wk W (.classLink "java/lang/String" 10 "java/lang/String")) (hy.mv X3.warmed.alike hh3).1 (g := (mkF m 15 #[.val (.ref x), .val (.ref y), .unset] [.ref y])) rfl (rest := []) rfl (hb hbytes d15)
    have hh5 := q5.trans hh3
    have c6 : Steps p.tables e below (s₁.setTop (entryFrame m #[.ref x, .ref y] 3)) (T5.setTop (mkF m 19 #[.val (.ref x), .val (.ref y), .val (.ref y)] [])) := (c4.trans (st5 _ (Steps.refl _))).trans (by
      refine XS.astoreN X5.here hexec rfl (hb hbytes d18) rfl rfl rfl ?_
      exact Steps.refl _)
    obtain ⟨T7, X7, q7, st7⟩ := X5.sget hexec hown (wk W (.fieldLink "java/lang/String" 38 "java/lang/String" "COMPACT_STRINGS" "Z")) s1 (fun _ _ h => by rw [hh5]; exact h) (g := (mkF m 19 #[.val (.ref x), .val (.ref y), .val (.ref y)] [])) rfl (hb hbytes d19)
    have hh7 := q7.trans hh5
    have c8 : Steps p.tables e below (s₁.setTop (entryFrame m #[.ref x, .ref y] 3)) (T7.setTop (mkF m 26 #[.val (.ref x), .val (.ref y), .val (.ref y)] [.ref x])) := (c6.trans (st7 _ (Steps.refl _))).trans (by
      refine XS.ifNo X7.here hexec rfl (hb hbytes d22) rfl (i0_eq_f hz) ?_
      refine XS.aloadN X7.here hexec rfl (hb hbytes d25) rfl rfl ?_
      exact Steps.refl _)
    obtain ⟨T9, X9, q9, st9⟩ := X7.hget hexec hown (wk W (.fieldLink "java/lang/String" 15 "java/lang/String" "coder" "B")) (hx.mv X7.warmed.alike hh7).2.2.1 (g := (mkF m 26 #[.val (.ref x), .val (.ref y), .val (.ref y)] [.ref x])) rfl (rest := []) rfl (hb hbytes d26)
    have hh9 := q9.trans hh7
    have c10 : Steps p.tables e below (s₁.setTop (entryFrame m #[.ref x, .ref y] 3)) (T9.setTop (mkF m 30 #[.val (.ref x), .val (.ref y), .val (.ref y)] [.ref y, .int cd])) := (c8.trans (st9 _ (Steps.refl _))).trans (by
      refine XS.aloadN X9.here hexec rfl (hb hbytes d29) rfl rfl ?_
      exact Steps.refl _)
    obtain ⟨T11, X11, q11, st11⟩ := X9.hget hexec hown (wk W (.fieldLink "java/lang/String" 15 "java/lang/String" "coder" "B")) (hy.mv X9.warmed.alike hh9).2.2.1 (g := (mkF m 30 #[.val (.ref x), .val (.ref y), .val (.ref y)] [.ref y, .int cd])) rfl (rest := [.int cd]) rfl (hb hbytes d30)
    have hh11 := q11.trans hh9
    have c12 : Steps p.tables e below (s₁.setTop (entryFrame m #[.ref x, .ref y] 3)) (T11.setTop (mkF m 33 #[.val (.ref x), .val (.ref y), .val (.ref y)] [.int cd', .int cd])) := c10.trans (st11 _ (Steps.refl _))
    by_cases hcd : cd = cd'
    · subst hcd
      have c13 : Steps p.tables e below (s₁.setTop (entryFrame m #[.ref x, .ref y] 3)) (T11.setTop (mkF m 37 #[.val (.ref x), .val (.ref y), .val (.ref y)] [.ref x])) := c12.trans (by
        refine XS.icmpNo X11.here hexec rfl (hb hbytes d33) rfl (ii_ne_f rfl) ?_
        refine XS.aloadN X11.here hexec rfl (hb hbytes d36) rfl rfl ?_
        exact Steps.refl _)
      obtain ⟨T14, X14, q14, st14⟩ := X11.hget hexec hown (wk W (.fieldLink "java/lang/String" 9 "java/lang/String" "value" "[B")) (hx.mv X11.warmed.alike hh11).2.1 (g := (mkF m 37 #[.val (.ref x), .val (.ref y), .val (.ref y)] [.ref x])) rfl (rest := []) rfl (hb hbytes d37)
      have hh14 := q14.trans hh11
      have c15 : Steps p.tables e below (s₁.setTop (entryFrame m #[.ref x, .ref y] 3)) (T14.setTop (mkF m 41 #[.val (.ref x), .val (.ref y), .val (.ref y)] [.ref y, .ref t])) := (c13.trans (st14 _ (Steps.refl _))).trans (by
        refine XS.aloadN X14.here hexec rfl (hb hbytes d40) rfl rfl ?_
        exact Steps.refl _)
      obtain ⟨T16, X16, q16, st16⟩ := X14.hget hexec hown (wk W (.fieldLink "java/lang/String" 9 "java/lang/String" "value" "[B")) (hy.mv X14.warmed.alike hh14).2.1 (g := (mkF m 41 #[.val (.ref x), .val (.ref y), .val (.ref y)] [.ref y, .ref t])) rfl (rest := [.ref t]) rfl (hb hbytes d41)
      have hh16 := q16.trans hh14
      have c17 : Steps p.tables e below (s₁.setTop (entryFrame m #[.ref x, .ref y] 3)) (T16.setTop (mkF m 44 #[.val (.ref x), .val (.ref y), .val (.ref y)] [.ref t', .ref t])) := c15.trans (st16 _ (Steps.refl _))
      obtain ⟨v18, T18, X18, E18, g18⟩ := X16.callS hexec (LEq.law l t V t' V') hown (wks W (staticW "java/lang/String" 541 LEq.yN)) (wk W LEq.tab) (W := 0) (Nat.le_of_ble_eq_true rfl) (Nat.le_of_ble_eq_true rfl) (Nat.le_refl _) (Nat.le_refl _) (g := (mkF m 44 #[.val (.ref x), .val (.ref y), .val (.ref y)] [.ref t', .ref t])) rfl (by rw [hml]; rfl) c17 (argsL := [.ref t, .ref t']) (rest := []) rfl rfl (by show 2 * 0 + 0 ≤ _; decide) (hb hbytes d44) (⟨rfl, hx.2.2.2.1.mv X16.warmed.alike hh16, hx.2.2.2.2.1.ty, hy.2.2.2.1.mv X16.warmed.alike hh16, hy.2.2.2.2.1.ty⟩)
      obtain ⟨v, rfl, q18, hv⟩ := E18
      have iff := Cod.eqv hx.2.2.2.2.1 hy.2.2.2.2.1 hx.2.2.2.2.2 hy.2.2.2.2.2
      rcases hv with ⟨rfl, he⟩ | ⟨rfl, he⟩
      · have c19 : Steps p.tables e below (s₁.setTop (entryFrame m #[.ref x, .ref y] 3)) (T18.setTop (mkF m 55 #[.val (.ref x), .val (.ref y), .val (.ref y)] [.int 1])) := Steps.trans g18 (by
          refine XS.ifNo X18.here hexec rfl (hb hbytes d47) rfl (i0_eq_f (by decide)) ?_
          refine iconstV X18.here hexec rfl 1 (hb hbytes d50) (by decide) ?_
          refine XS.goto X18.here hexec rfl (pc0 := 51) rfl (hb hbytes d51) (by decide) rfl ?_
          exact Steps.refl _)
        exact ⟨T18, some (.int 1), _, _, _, X18, rfl, rfl, rfl, (fun h => by cases h), ⟨1, rfl, q18.trans hh16, Or.inl ⟨rfl, iff.mp he⟩⟩, fun fs hl => c19.trans (X18.ireturnOut hexec hret rfl (Or.inr (Or.inl rfl)) (hb hbytes d55) hl)⟩
      · have c19 : Steps p.tables e below (s₁.setTop (entryFrame m #[.ref x, .ref y] 3)) (T18.setTop (mkF m 55 #[.val (.ref x), .val (.ref y), .val (.ref y)] [.int 0])) := Steps.trans g18 (by
          refine XS.ifYes X18.here hexec rfl (pc0 := 47) rfl (hb hbytes d47) rfl (i0_eq_t rfl) (by decide) rfl ?_
          refine iconstV X18.here hexec rfl 0 (hb hbytes d54) (by decide) ?_
          exact Steps.refl _)
        exact ⟨T18, some (.int 0), _, _, _, X18, rfl, rfl, rfl, (fun h => by cases h), ⟨0, rfl, q18.trans hh16, Or.inr ⟨rfl, fun q => he (iff.mpr q)⟩⟩, fun fs hl => c19.trans (X18.ireturnOut hexec hret rfl (Or.inr (Or.inl rfl)) (hb hbytes d55) hl)⟩
    · have c13 : Steps p.tables e below (s₁.setTop (entryFrame m #[.ref x, .ref y] 3)) (T11.setTop (mkF m 55 #[.val (.ref x), .val (.ref y), .val (.ref y)] [.int 0])) := c12.trans (by
        refine XS.icmpYes X11.here hexec rfl (pc0 := 33) rfl (hb hbytes d33) rfl (ii_ne_t hcd) (by decide) rfl ?_
        refine iconstV X11.here hexec rfl 0 (hb hbytes d54) (by decide) ?_
        exact Steps.refl _)
      exact ⟨T11, some (.int 0), _, _, _, X11, rfl, rfl, rfl, (fun h => by cases h), ⟨0, rfl, hh11, Or.inr ⟨rfl, Cod.dif hx.2.2.2.2.1 hy.2.2.2.2.1 hcd⟩⟩, fun fs hl => c13.trans (X11.ireturnOut hexec hret rfl (Or.inr (Or.inl rfl)) (hb hbytes d55) hl)⟩
theorem pays {l : Launch} {R : Room} {p : Program} {e : Env} {below : List Frame} {s : State} {sargs : Array Value} {len W : Nat} (x t : Addr) (V : Cell) (cd : Int32) (n : Nat) (f : Nat → Int32) (y t' : Addr) (V' : Cell) (cd' : Int32) (k : Nat) (g : Nat → Int32) (z : Int32) (htab : tab.before sargs s = true) (hfr : 2 ≤ R.frames) (hlo : W + 28 ≤ R.locals) :
    Back l R p e below s sargs yN len W (fun A₁ a₁ => A₁.cells + 0 ≤ R.cells ∧ A₁.slots + 0 ≤ R.slots ∧ P x t V cd n f y t' V' cd' k g z a₁ A₁.U) (fun A₁ _ v₁ B₁ => Says01 (SameT n f k g) v₁ A₁.U B₁.U ∧ B₁.locs = A₁.locs ++ [] ∧ B₁.cells = A₁.cells + 0 ∧ B₁.slots = A₁.slots + 0) :=
  (law l x t V cd n f y t' V' cd' k g z).pays htab hfr (by omega)
end SEq
end StrChars
namespace StrChars.Road
open Jvm Sem ClassFile Op Lib Jvm.Stand Jvm.Free Jvm.Free.XT
open Jvm.Lib.Cold (StaticIs)
/-- the words of String.equals(Object) -/
abbrev wordsEq : List Jvm.Cond := [.code SEq.yN SEq.yB 3 (some .boolean), .initialized ST, .classLink ST 10 ST, .fieldLink ST 38 ST "COMPACT_STRINGS" "Z", .fieldLink ST 15 ST "coder" "B", .fieldLink ST 9 ST "value" "[B", .methodLink ST 541 LEq.yN, .static LEq.yN, .code LEq.yN LEq.yB 3 (some .boolean), .initialized "java/lang/StringLatin1"]
theorem tabEq_of {a : Array Value} {s : State} (h : ∀ w ∈ wordsEq, w.before a s = true) : SEq.tab.before a s = true := by
  have hl : LEq.tab.before a s = true := unparts (wk h (.code LEq.yN LEq.yB 3 (some .boolean))) (wks h (.initialized LEq.yN.cls :: LEq.site))
  have q := consq hl h
  exact unparts (wk q (.code SEq.yN SEq.yB 3 (some .boolean))) (wks q (.initialized SEq.yN.cls :: SEq.site))
theorem movedEq {Z s : State} {a0 args : Array Value} (hZ : Z.Warmed39 s.vm) (hw : ∀ d ∈ wordsEq, d.before a0 Z = true) : ∀ d ∈ wordsEq, d.before args s = true := fun d hd => by
  have t : ∀ d ∈ wordsEq, (d.onTables && d.keepsFace) = true := by decide +kernel
  exact RoadKit.mv hZ (hw d hd) (t d hd)
/-- the road's facts of a String, as the laws ask it -/
theorem txt_of {Z U : State} {a0 : Array Value} {kI : Nat} (wi : (Jvm.Cond.instantiable ST kI).before a0 Z = true) (al : Z.vm.Alike U.vm) {x t : Addr} {kb : ClassId} {cs : List Int32} {cd N2 : Int32} {vs : List Value} (E : RoadKit.Exa Z U.heap x ST) (V : RoadKit.Fld Z U.heap x ST "value" "[B" (.ref t)) (C : RoadKit.Fld Z U.heap x ST "coder" "B" (.int cd)) (K : RoadKit.Arv Z U.heap t kb .byte N2 vs (.int 0)) (hc : CodA cs cd N2 vs) (hb : ∀ c ∈ cs, ¬ c < 0 ∧ ¬ (65535 : Int32) < c) (l2 : cs.length ≤ 4000) :
    ∃ A, Txt x t A cd cs.length (fun j => cs.getD j 0) U := by
  obtain ⟨A, K1, K2, K3, K4, K5, K6⟩ := K
  have hcod := hc.cod (by omega) K3 K5
  obtain ⟨D, fV, fC, hB, F1, F2, g1, g2, -, -⟩ := strObj wi al E V C
  exact ⟨A, ⟨_, hB.2.2.1, D, hB.1, rfl, by cases q : D.vm <;> first | rfl | exact absurd q (hB.2.1.2 _)⟩, Has.of hB F1 g1, Has.of hB F2 g2, ⟨K1.1, State.isArrayOf_alike al K1.2.1, K1.2.2, by rcases hcod with ⟨-, q, -⟩ | ⟨-, q, -⟩ <;> omega⟩, hcod, fun j hj => by
    have e : cs.getD j 0 = cs[j] := by simp [List.getD_eq_getElem?_getD, hj]
    show ¬ cs.getD j 0 < 0 ∧ ¬ 65535 < cs.getD j 0
    rw [e]; exact hb _ (List.getElem_mem _)⟩
theorem same_list (cs ds : List Int32) : SameT cs.length (fun j => cs.getD j 0) ds.length (fun j => ds.getD j 0) ↔ cs = ds := by
  constructor
  · rintro ⟨e, q⟩
    refine List.ext_getElem e fun j h1 h2 => ?_
    have := q j h1
    simpa [List.getD_eq_getElem?_getD, h1, h2] using this
  · rintro rfl
    exact ⟨rfl, fun _ _ => rfl⟩
/-- **equals(Object) OF TWO SUCH STRINGS**: 1 just where the chars are the same -/
theorem eqW {p : Program} {l : Launch} {e : Env} {R : Room} {s : State} {args : Array Value} {below : List Frame} {len W : Nat} {Z : State} {a0 : Array Value} {h : Heap} (hZ : Z.Warmed39 s.vm) (hw : ∀ d ∈ wordsEq, d.before a0 Z = true) {kI : Nat} (wi : (Jvm.Cond.instantiable ST kI).before a0 Z = true)
    {x t : Addr} {kb : ClassId} {cs : List Int32} {cd N2 : Int32} {vs : List Value} (E : RoadKit.Exa Z h x ST) (V : RoadKit.Fld Z h x ST "value" "[B" (.ref t)) (C : RoadKit.Fld Z h x ST "coder" "B" (.int cd)) (K : RoadKit.Arv Z h t kb .byte N2 vs (.int 0)) (hc : CodA cs cd N2 vs) (hb : ∀ c ∈ cs, ¬ c < 0 ∧ ¬ (65535 : Int32) < c) (l2 : cs.length ≤ 4000)
    {y t' : Addr} {kb' : ClassId} {ds : List Int32} {cd' N2' : Int32} {vs' : List Value} (E' : RoadKit.Exa Z h y ST) (V' : RoadKit.Fld Z h y ST "value" "[B" (.ref t')) (C' : RoadKit.Fld Z h y ST "coder" "B" (.int cd')) (K' : RoadKit.Arv Z h t' kb' .byte N2' vs' (.int 0)) (hc' : CodA ds cd' N2' vs') (hb' : ∀ c ∈ ds, ¬ c < 0 ∧ ¬ (65535 : Int32) < c) (l2' : ds.length ≤ 4000)
    {z : Int32} (S : RoadKit.Sta Z h ST "COMPACT_STRINGS" "Z" (.int z)) (hz : ¬ z = 0) (hfr : 2 ≤ R.frames) (hlo : W + 28 ≤ R.locals) :
    Back l R p e below s args (⟨"java/lang/String", "equals", "(Ljava/lang/Object;)Z"⟩ : MethodName) len W (fun P a => a = #[.ref x, .ref y] ∧ P.U.heap = h ∧ P.cells + 0 ≤ R.cells ∧ P.slots + 0 ≤ R.slots)
      (fun P _ v B => ∃ L, (((v = some (.int 1) ∧ cs = ds) ∨ (v = some (.int 0) ∧ ¬ cs = ds)) ∧ L = [] ∧ B.U.heap = h) ∧ B.locs = P.locs ++ L ∧ B.cells = P.cells + 0 ∧ B.slots = P.slots + 0) := by
  intro m meth c P g ig mk a X hg hsize hdg hW hn hp'
  obtain ⟨rfl, rfl, r1, r2⟩ := hp'
  have al : Z.vm.Alike P.U.vm := hZ.alike.trans X.warmed.alike
  obtain ⟨A, hx⟩ := txt_of wi al E V C K hc hb l2
  obtain ⟨A', hy⟩ := txt_of wi al E' V' C' K' hc' hb' l2'
  obtain ⟨v, B, X', ⟨⟨w, hv, hh, hq⟩, hl, hk, hs⟩, st⟩ := SEq.pays x t A cd cs.length (fun j => cs.getD j 0) y t' A' cd' ds.length (fun j => ds.getD j 0) z (tabEq_of (movedEq hZ hw)) hfr hlo m meth c P g ig mk _ X hg hsize hdg hW hn ⟨r1, r2, rfl, hx, hy, sta_is al S, hz⟩
  refine ⟨v, B, X', ⟨[], ⟨?_, rfl, hh⟩, hl, hk, hs⟩, st⟩
  rcases hq with ⟨rfl, q⟩ | ⟨rfl, q⟩
  · exact Or.inl ⟨hv, (same_list cs ds).mp q⟩
  · exact Or.inr ⟨hv, fun e => q ((same_list cs ds).mpr e)⟩
end StrChars.Road
namespace StrChars.Road
open Jvm Sem ClassFile Op Lib Jvm.Stand Jvm.Free Jvm.Free.XT
open Jvm.Lib.Cold (StaticIs)
/-- what backV says of its String, as the contracts of this text ask it: cs's low bytes, coder 0 -/
theorem codOf {cs : List Int32} {n : Nat} (hn : cs.length = n) (hb : ∀ c ∈ cs, ¬ 255 < c) : CodA cs 0 (Int32.ofNat n) ((cs.map lo8).map Value.int) := Or.inl ⟨rfl, by rw [hn], by simp [List.map_map, Function.comp_def], hb⟩
end StrChars.Road
end Jvm.Pilot.@@N@@
namespace Jvm.Pilot.@@N@@
open Jvm Jvm.ClassFile Sem Op Lib Jvm.Free Jvm.Free.XT Jvm.Stand Jvm.LawKit Jvm.RoadKit Jvm.OwnKit Bundle Jvm.Pilot.@@N@@.Jvm.D
abbrev own_lo (c : Int32) : Int32 := StrChars.lo8 c
theorem own_sm {i n : Nat} (h : i < n) (hn : n ≤ 4000) : Int32.ofNat i < Int32.ofNat n := by
  rw [Int32.lt_iff_toInt_lt, Int32.toInt_ofNat_small (by omega), Int32.toInt_ofNat_small (by omega)]; omega
theorem own_nn (n : Nat) (hn : n ≤ 4000) : ¬ Int32.ofNat n < 0 := by
  rw [Int32.lt_iff_toInt_lt, Int32.toInt_ofNat_small (by omega)]
  have z : (0 : Int32).toInt = 0 := by decide
  omega
theorem own_irr (n : Nat) : ¬ Int32.ofNat n < Int32.ofNat n := by rw [Int32.lt_iff_toInt_lt]; omega
theorem own_in {i n : Nat} (h : i < n) (hn : n ≤ 4000) : ¬ Int32.ofNat i < 0 ∧ Int32.ofNat i < Int32.ofNat n := ⟨own_nn i (by omega), own_sm h hn⟩
theorem own_cl (n : Nat) (hn : n ≤ 4000) : (Int32.ofNat n).toNatClampNeg = n := by
  show (Int32.ofNat n).toInt.toNat = n
  rw [Int32.toInt_ofNat_small (by omega)]; rfl
theorem own_inc (i : Nat) : Int32.ofNat i + (1 : Int32) = Int32.ofNat (i + 1) := by rw [Int32.ofNat_add]; rfl
theorem own_inj {i n : Nat} (h : i < n) (hn : n ≤ 4000) : ¬ Int32.ofNat i = Int32.ofNat n := fun e => by
  have := congrArg Int32.toInt e
  rw [Int32.toInt_ofNat_small (by omega), Int32.toInt_ofNat_small (by omega)] at this; omega
theorem own_getD {cs : List Int32} {i : Nat} (h : i < cs.length) (hn : cs.length ≤ 4000) (d : Value) : (cs.map Value.int).getD (Int32.ofNat i).toNatClampNeg d = .int (cs.getD i 0) := by
  rw [own_cl i (by omega)]; simp [List.getD_eq_getElem?_getD, h]
theorem own_shl1 (n : Nat) (hn : n ≤ 8) : Int32.ofNat n <<< ((1 : Int32) &&& 31) = Int32.ofNat (2 * n) := (by decide : ∀ k : Fin 9, Int32.ofNat k.1 <<< ((1 : Int32) &&& 31) = Int32.ofNat (2 * k.1)) ⟨n, by omega⟩
theorem own_cod (n : Nat) (h0 : 0 < n) (hn : n ≤ 8) : ((Int32.ofNat n - Int32.ofNat (2 * n)).toUInt32 >>> ((31 : Int32) &&& 31).toUInt32).toInt32.toInt8.toInt32 = 1 := (by decide : ∀ k : Fin 8, ((Int32.ofNat (k.1 + 1) - Int32.ofNat (2 * (k.1 + 1))).toUInt32 >>> ((31 : Int32) &&& 31).toUInt32).toInt32.toInt8.toInt32 = 1) ⟨n - 1, by omega⟩ |> fun q => by
  have e : n - 1 + 1 = n := by omega
  simpa [e] using q
theorem own_shr0 (c : Int32) : c >>> ((0 : Int32) &&& 31) = c := by
  apply Int32.toInt_inj.mp
  rw [c_ishr c 0 0 (by decide)]; simp
theorem own_nb (y : Int32) : nar .byte (y.toInt8.toInt32) = StrChars.lo8 y := by
  show y.toInt8.toInt32.toInt8.toInt32 = y.toInt8.toInt32
  simp
theorem own_nb0 (c : Int32) : nar .byte ((c >>> ((0 : Int32) &&& 31)).toInt8.toInt32) = StrChars.lo8 c := by rw [own_shr0]; exact own_nb c
theorem own_chr {c : Int32} (h0 : ¬ c < 0) (h1 : ¬ (65535 : Int32) < c) : (((StrChars.lo8 c &&& (255 : Int32)) <<< ((0 : Int32) &&& 31)) ||| ((StrChars.hi8 c &&& (255 : Int32)) <<< ((8 : Int32) &&& 31))).toUInt32.toUInt16.toUInt32.toInt32 = c := by
  have z : (0 : Int32).toInt = 0 := by decide
  have m : (65535 : Int32).toInt = 65535 := by decide
  rw [Int32.lt_iff_toInt_lt] at h0 h1
  have a1 := c_mask (StrChars.lo8 c) 255 8 (by decide) (by decide)
  have a2 := c_mask (StrChars.hi8 c) 255 8 (by decide) (by decide)
  have b1 := c_i2b c
  have b2 := c_i2b (c >>> ((8 : Int32) &&& 31))
  have b3 := c_ishr c 8 8 (by decide)
  have s1 := c_ishl (StrChars.lo8 c &&& 255) 0 0 (by decide)
  have s2 := c_ishl (StrChars.hi8 c &&& 255) 8 8 (by decide)
  have r1 := rng32 ((StrChars.lo8 c &&& 255) <<< ((0 : Int32) &&& 31))
  have r2 := rng32 ((StrChars.hi8 c &&& 255) <<< ((8 : Int32) &&& 31))
  have e1 : (StrChars.lo8 c).toInt = c.toInt8.toInt32.toInt := rfl
  have e2 : (StrChars.hi8 c).toInt = (c >>> ((8 : Int32) &&& 31)).toInt8.toInt32.toInt := rfl
  generalize hA : (StrChars.lo8 c &&& (255 : Int32)) <<< ((0 : Int32) &&& 31) = A at s1 r1 ⊢
  generalize hB : (StrChars.hi8 c &&& (255 : Int32)) <<< ((8 : Int32) &&& 31) = Bb at s2 r2 ⊢
  have o := c_or' A Bb 8 (by decide) 256 (by decide)
  have i := c_i2c (A ||| Bb)
  have rr := rng32 (A ||| Bb)
  apply Int32.toInt_inj.mp
  omega
theorem own_wlen : ∀ cs : List Int32, (StrChars.Road.wideBytes cs).length = 2 * cs.length
  | [] => rfl
  | c :: cs => by simp only [StrChars.Road.wideBytes, List.length_cons, own_wlen cs]; omega
theorem own_wapp : ∀ (cs ds : List Int32), StrChars.Road.wideBytes (cs ++ ds) = StrChars.Road.wideBytes cs ++ StrChars.Road.wideBytes ds
  | [], _ => rfl
  | c :: cs, ds => by simp only [List.cons_append, StrChars.Road.wideBytes, own_wapp cs ds]
theorem own_set2 (vs : List Value) (a b u v : Value) : ((vs ++ [a, b]).set vs.length u).set (vs.length + 1) v = vs ++ [u, v] := by
  rw [List.set_append_right _ _ (Nat.le_refl _), List.set_append_right _ _ (by omega)]
  simp
theorem own_take {cs : List Int32} {i : Nat} (h : i < cs.length) : cs.take (i + 1) = cs.take i ++ [cs.getD i 0] := by
  rw [List.take_add_one]; simp [List.getD_eq_getElem?_getD, h]
def own_Str (Z : State) (a0 : Array Value) (h : Heap) (x t : Addr) (cs : List Int32) : Prop := ∃ (kb : ClassId) (cd N2 : Int32) (vs : List Value), Ob Z a0 h x "java/lang/String" [("java/lang/String", "value", "[B", (.ref t)), ("java/lang/String", "coder", "B", (.int cd))] ∧ Arv Z h t kb .byte N2 vs (.int 0) ∧ StrChars.Road.CodA cs cd N2 vs ∧ (∀ c ∈ cs, ¬ c < 0 ∧ ¬ (65535 : Int32) < c) ∧ cs.length ≤ 4000
theorem own_Str.ext {Z : State} {a0 : Array Value} {h h' : Heap} {x t : Addr} {cs : List Int32} (G : own_Str Z a0 h x t cs) (E : Ext h h') : own_Str Z a0 h' x t cs := by obtain ⟨kb, cd, N2, vs, O, V, r⟩ := G; exact ⟨kb, cd, N2, vs, O.ext E, V.ext E, r⟩
theorem own_Str.keep {Z : State} {a0 : Array Value} {h h' : Heap} {x t : Addr} {cs : List Int32} {ws : List Addr} (G : own_Str Z a0 h x t cs) (K : Keep h h' ws) (q : x ∉ ws) (r : t ∉ ws) : own_Str Z a0 h' x t cs := by obtain ⟨kb, cd, N2, vs, O, V, z⟩ := G; exact ⟨kb, cd, N2, vs, O.keep K q, V.keep K r, z⟩
theorem own_Str.lt {Z : State} {a0 : Array Value} {h : Heap} {x t : Addr} {cs : List Int32} (G : own_Str Z a0 h x t cs) : x < h.size ∧ t < h.size := by obtain ⟨kb, cd, N2, vs, O, V, z⟩ := G; exact ⟨O.lt, V.lt⟩
theorem e_n4_d0 : decode jdk_42_method_149_code 0 = .ok (.aload_n 0, 1) := by decide +kernel
theorem e_n4_d1 : decode jdk_42_method_149_code 1 = .ok (.invokespecial 1, 3) := by decide +kernel
theorem e_n4_d4 : decode jdk_42_method_149_code 4 = .ok (.iload_n 3, 1) := by decide +kernel
theorem e_n4_d5 : decode jdk_42_method_149_code 5 = .ok (.ifCond .ne 22, 3) := by decide +kernel
theorem e_n4_d8 : decode jdk_42_method_149_code 8 = .ok (.aload_n 0, 1) := by decide +kernel
theorem e_n4_d9 : decode jdk_42_method_149_code 9 = .ok (.ldc 7, 2) := by decide +kernel
theorem e_n4_d11 : decode jdk_42_method_149_code 11 = .ok (.getfield 9, 3) := by decide +kernel
theorem e_n4_d14 : decode jdk_42_method_149_code 14 = .ok (.putfield 9, 3) := by decide +kernel
theorem e_n4_d17 : decode jdk_42_method_149_code 17 = .ok (.aload_n 0, 1) := by decide +kernel
theorem e_n4_d18 : decode jdk_42_method_149_code 18 = .ok (.ldc 7, 2) := by decide +kernel
theorem e_n4_d20 : decode jdk_42_method_149_code 20 = .ok (.getfield 15, 3) := by decide +kernel
theorem e_n4_d23 : decode jdk_42_method_149_code 23 = .ok (.putfield 15, 3) := by decide +kernel
theorem e_n4_d26 : decode jdk_42_method_149_code 26 = .ok (.return_, 1) := by decide +kernel
theorem e_n4_ef (m : MethodId) (x b : Addr) : entryFrame m #[(.ref x), (.ref b), (.int 0), (.int 0), (.null)] 6 = mkF m 0 #[.val (.ref x), .val (.ref b), .val (.int 0), .val (.int 0), .val (.null), .unset] [] := by first | (simp [entryFrame, mkF, argsToLocals, Value.category]; done) | rfl
theorem e_n4_pn : plainFor (⟨"java/lang/String", "<init>", "([CIILjava/lang/Void;)V"⟩ : MethodName) = true := by first | exact plainFor_of_name (by first | (simp [plainName, overriddenIn]; done) | decide +kernel) | decide +kernel
set_option maxRecDepth 65536 in
set_option maxHeartbeats 40000000 in
theorem e_n4 (l : Launch) (Z : State) (a0 : Array Value) (EL : List (String × Nat)) (hw : ∀ d ∈ tables_1, d.before a0 Z = true) (hEW : EW Z a0 EL) (h : Heap) (hS : ∀ d ∈ Bundle.stringAtoms, d.before a0 Z = true) (hmem : ("java/lang/String", 7) ∈ EL) (x b : Addr) (v0 c0 : Value) (O : Ob Z a0 h x "java/lang/String" [("java/lang/String", "value", "[B", v0), ("java/lang/String", "coder", "B", c0)]) :
    Con l Z EL (⟨"java/lang/String", "<init>", "([CIILjava/lang/Void;)V"⟩ : MethodName) jdk_42_method_149_code 6 none ({ frames := 1, cells := 4, slots := 8, locals := 12 } : Room) #[(.ref x), (.ref b), (.int 0), (.int 0), (.null)] h [x] (fun v h' nw => v = none ∧ nw = [] ∧ Keep h h' [x] ∧ ∃ t kb, t ≠ x ∧ Ob Z a0 h' x "java/lang/String" [("java/lang/String", "value", "[B", (.ref t)), ("java/lang/String", "coder", "B", (.int 0))] ∧ Arv Z h' t kb .byte 0 [] (.int 0)) := by
  refine Con.of e_n4_pn hEW ?_
  intro p e s m below meth c T F B hF hby hml hr hlk hnm S
  rw [e_n4_ef]
  have KK := Keep.refl h [x]
  show F T (mkF m 0 #[.val (.ref x), .val (.ref b), .val (.int 0), .val (.int 0), .val (.null), .unset] [])
  refine B (fun t kt => XS.aloadN S.here S.hx rfl (hb hby e_n4_d0) rfl rfl kt) ?_
  show F T (mkF m 1 #[.val (.ref x), .val (.ref b), .val (.int 0), .val (.int 0), .val (.null), .unset] [(.ref x)])
  refine Sp.initO B S (hw _ (List.mem_of_getElem? (i := 16) rfl)) (hw _ (List.mem_of_getElem? (i := 17) rfl)) (hw _ (List.mem_of_getElem? (i := 18) rfl)) (by rw [hml]; rfl) (hb hby e_n4_d1) (by decide) (W := 0) (by decide) (by decide) fun T S => ?_
  show F T (mkF m 4 #[.val (.ref x), .val (.ref b), .val (.int 0), .val (.int 0), .val (.null), .unset] [])
  refine B (fun t kt => XS.iloadN S.here S.hx rfl (hb hby e_n4_d4) rfl kt) ?_
  show F T (mkF m 5 #[.val (.ref x), .val (.ref b), .val (.int 0), .val (.int 0), .val (.null), .unset] [(.int 0)])
  refine B (fun t kt => XS.ifNo S.here S.hx rfl (hb hby e_n4_d5) rfl (i0_ne_f rfl) kt) ?_
  show F T (mkF m 8 #[.val (.ref x), .val (.ref b), .val (.int 0), .val (.int 0), .val (.null), .unset] [])
  refine B (fun t kt => XS.aloadN S.here S.hx rfl (hb hby e_n4_d8) rfl rfl kt) ?_
  show F T (mkF m 9 #[.val (.ref x), .val (.ref b), .val (.int 0), .val (.int 0), .val (.null), .unset] [(.ref x)])
  refine Sp.ldc B S (hw _ (List.mem_of_getElem? (i := 72) rfl)) hS hmem (vs := []) (z := 0) (by decide) (by decide) (by decide) (hb hby e_n4_d9) (nn := 0) (by decide) (by decide) (by decide) (by decide) fun T h1 q qt kqt S E Xq Cq Wq Vqt Nq => ?_
  show F T (mkF m 11 #[.val (.ref x), .val (.ref b), .val (.int 0), .val (.int 0), .val (.null), .unset] [(.ref q), (.ref x)])
  have hq : @Ne Nat x q ∧ @Ne Nat x qt := Nq x (by simp)
  replace O := O.ext E
  replace KK := KK.ext E
  refine Sp.get B S (hw _ (List.mem_of_getElem? (i := 33) rfl)) Via.refl Wq (hb hby e_n4_d11) fun T S => ?_
  show F T (mkF m 14 #[.val (.ref x), .val (.ref b), .val (.int 0), .val (.int 0), .val (.null), .unset] [(.ref qt), (.ref x)])
  refine Sp.putO B S (hw _ (List.mem_of_getElem? (i := 33) rfl)) O (i := 0) rfl (ns := ["value", "coder"]) rfl (by decide) (Or.inr ⟨(hw _ (List.mem_of_getElem? (i := 34) rfl)), rfl, hnm⟩) (hw _ (List.mem_of_getElem? (i := 7) rfl)) (ty := (.array .byte)) (by decide) (v' := .ref qt) rfl rfl (by simp) (hb hby e_n4_d14) fun T h2 S K O => ?_
  replace O : Ob Z a0 h2 x "java/lang/String" [("java/lang/String", "value", "[B", (.ref qt)), ("java/lang/String", "coder", "B", c0)] := O
  show F T (mkF m 17 #[.val (.ref x), .val (.ref b), .val (.int 0), .val (.int 0), .val (.null), .unset] [])
  replace KK := KK.trans K (qk1 (by first | (refine Or.inl ?_; simp; done) | (refine Or.inr ?_; omega)))
  replace Vqt := Vqt.keep K (nin1 (by omega))
  refine B (fun t kt => XS.aloadN S.here S.hx rfl (hb hby e_n4_d17) rfl rfl kt) ?_
  show F T (mkF m 18 #[.val (.ref x), .val (.ref b), .val (.int 0), .val (.int 0), .val (.null), .unset] [(.ref x)])
  refine Sp.ldc B S (hw _ (List.mem_of_getElem? (i := 72) rfl)) hS hmem (vs := []) (z := 0) (by decide) (by decide) (by decide) (hb hby e_n4_d18) (nn := 0) (by decide) (by decide) (by decide) (by decide) fun T h3 q2 q2t kq2t S E Xq2 Cq2 Wq2 Vq2t Nq2 => ?_
  show F T (mkF m 20 #[.val (.ref x), .val (.ref b), .val (.int 0), .val (.int 0), .val (.null), .unset] [(.ref q2), (.ref x)])
  replace O := O.ext E
  replace KK := KK.ext E
  replace Vqt := Vqt.ext E
  refine Sp.get B S (hw _ (List.mem_of_getElem? (i := 31) rfl)) Via.refl Cq2 (hb hby e_n4_d20) fun T S => ?_
  show F T (mkF m 23 #[.val (.ref x), .val (.ref b), .val (.int 0), .val (.int 0), .val (.null), .unset] [(.int 0), (.ref x)])
  refine Sp.putO B S (hw _ (List.mem_of_getElem? (i := 31) rfl)) O (i := 1) rfl (ns := ["value", "coder"]) rfl (by decide) (Or.inr ⟨(hw _ (List.mem_of_getElem? (i := 32) rfl)), rfl, hnm⟩) (hw _ (List.mem_of_getElem? (i := 7) rfl)) (ty := .byte) (by decide) (v' := .int 0) rfl rfl (by simp) (hb hby e_n4_d23) fun T h4 S K O => ?_
  replace O : Ob Z a0 h4 x "java/lang/String" [("java/lang/String", "value", "[B", (.ref qt)), ("java/lang/String", "coder", "B", (.int 0))] := O
  show F T (mkF m 26 #[.val (.ref x), .val (.ref b), .val (.int 0), .val (.int 0), .val (.null), .unset] [])
  replace KK := KK.trans K (qk1 (by first | (refine Or.inl ?_; simp; done) | (refine Or.inr ?_; omega)))
  replace Vqt := Vqt.keep K (nin1 (by omega))
  exact hF (S.ret hr hlk (hb hby e_n4_d26) (nw := []) ⟨rfl, rfl, KK, qt, kqt, natne (by omega), O, Vqt⟩ (by simp))
theorem e_n1_d0 : decode jdk_42_method_3_code 0 = .ok (.aload_n 0, 1) := by decide +kernel
theorem e_n1_d1 : decode jdk_42_method_3_code 1 = .ok (.aload_n 1, 1) := by decide +kernel
theorem e_n1_d2 : decode jdk_42_method_3_code 2 = .ok (.iconst 0, 1) := by decide +kernel
theorem e_n1_d3 : decode jdk_42_method_3_code 3 = .ok (.aload_n 1, 1) := by decide +kernel
theorem e_n1_d4 : decode jdk_42_method_3_code 4 = .ok (.arraylength, 1) := by decide +kernel
theorem e_n1_d5 : decode jdk_42_method_3_code 5 = .ok (.aconst_null, 1) := by decide +kernel
theorem e_n1_d6 : decode jdk_42_method_3_code 6 = .ok (.invokespecial 27, 3) := by decide +kernel
theorem e_n1_d9 : decode jdk_42_method_3_code 9 = .ok (.return_, 1) := by decide +kernel
theorem e_n1_p27 : parseMethodDescriptor "([CIILjava/lang/Void;)V" = some ⟨[(.array .char), .int, .int, (.object "java/lang/Void")], none⟩ := by decide +kernel
theorem e_n1_ef (m : MethodId) (x b : Addr) : entryFrame m #[(.ref x), (.ref b)] 2 = mkF m 0 #[.val (.ref x), .val (.ref b)] [] := by first | (simp [entryFrame, mkF, argsToLocals, Value.category]; done) | rfl
theorem e_n1_pn : plainFor (⟨"java/lang/String", "<init>", "([C)V"⟩ : MethodName) = true := by first | exact plainFor_of_name (by first | (simp [plainName, overriddenIn]; done) | decide +kernel) | decide +kernel
set_option maxRecDepth 65536 in
set_option maxHeartbeats 40000000 in
theorem e_n1 (l : Launch) (Z : State) (a0 : Array Value) (EL : List (String × Nat)) (hw : ∀ d ∈ tables_1, d.before a0 Z = true) (hEW : EW Z a0 EL) (h : Heap) (hS : ∀ d ∈ Bundle.stringAtoms, d.before a0 Z = true) (hmem : ("java/lang/String", 7) ∈ EL) (x b : Addr) (v0 c0 : Value) (O : Ob Z a0 h x "java/lang/String" [("java/lang/String", "value", "[B", v0), ("java/lang/String", "coder", "B", c0)]) (kA : ClassId) (vs : List Value) (dv : Value) (V : Arv Z h b kA .char 0 vs dv) :
    Con l Z EL (⟨"java/lang/String", "<init>", "([C)V"⟩ : MethodName) jdk_42_method_3_code 2 none ({ frames := 2, cells := 4, slots := 8, locals := 29 } : Room) #[(.ref x), (.ref b)] h [x] (fun v h' nw => v = none ∧ nw = [] ∧ Keep h h' [x] ∧ ∃ t kb, t ≠ x ∧ Ob Z a0 h' x "java/lang/String" [("java/lang/String", "value", "[B", (.ref t)), ("java/lang/String", "coder", "B", (.int 0))] ∧ Arv Z h' t kb .byte 0 [] (.int 0)) := by
  refine Con.of e_n1_pn hEW ?_
  intro p e s m below meth c T F B hF hby hml hr hlk hnm S
  rw [e_n1_ef]
  show F T (mkF m 0 #[.val (.ref x), .val (.ref b)] [])
  refine B (fun t kt => XS.aloadN S.here S.hx rfl (hb hby e_n1_d0) rfl rfl kt) ?_
  show F T (mkF m 1 #[.val (.ref x), .val (.ref b)] [(.ref x)])
  refine B (fun t kt => XS.aloadN S.here S.hx rfl (hb hby e_n1_d1) rfl rfl kt) ?_
  show F T (mkF m 2 #[.val (.ref x), .val (.ref b)] [(.ref b), (.ref x)])
  refine B (fun t kt => XS.iconst S.here S.hx rfl (hb hby e_n1_d2) kt) ?_
  show F T (mkF m 3 #[.val (.ref x), .val (.ref b)] [(.int (0 : Int32)), (.ref b), (.ref x)])
  refine B (fun t kt => XS.aloadN S.here S.hx rfl (hb hby e_n1_d3) rfl rfl kt) ?_
  show F T (mkF m 4 #[.val (.ref x), .val (.ref b)] [(.ref b), (.int (0 : Int32)), (.ref b), (.ref x)])
  refine Sp.alen B S V (hb hby e_n1_d4) ?_
  show F T (mkF m 5 #[.val (.ref x), .val (.ref b)] [(.int 0), (.int (0 : Int32)), (.ref b), (.ref x)])
  refine B (fun t kt => XS.aconstNull S.here S.hx rfl (hb hby e_n1_d5) kt) ?_
  show F T (mkF m 6 #[.val (.ref x), .val (.ref b)] [(.null), (.int 0), (.int (0 : Int32)), (.ref b), (.ref x)])
  refine Sp.special B S (y := (⟨"java/lang/String", "<init>", "([CIILjava/lang/Void;)V"⟩ : MethodName)) (argsL := [(.ref b), (.int (0 : Int32)), (.int 0), (.null)]) (rest := []) rfl (hw _ (List.mem_of_getElem? (i := 12) rfl)) (hw _ (List.mem_of_getElem? (i := 13) rfl)) (hw _ (List.mem_of_getElem? (i := 15) rfl)) (by decide) (Call.con (W := 0) (e_n4 l Z a0 EL hw hEW h hS hmem x b v0 c0 O) (hw _ (List.mem_of_getElem? (i := 15) rfl)) (hw _ (List.mem_of_getElem? (i := 8) rfl)) (by decide) (by decide)) (by simp) (by decide) (by decide) (by rw [hml]; rfl) (lenOf e_n1_p27 rfl) rfl (Nat.le_of_eq rfl) (hb hby e_n1_d6) fun v T h1 nw S hQ => ?_
  obtain ⟨rfl, rfl, KK, t, kb, ne, O, Vt⟩ := hQ
  show F T (mkF m 9 #[.val (.ref x), .val (.ref b)] [])
  exact hF (S.ret hr hlk (hb hby e_n1_d9) (nw := []) ⟨rfl, rfl, KK, t, kb, ne, O, Vt⟩ (by simp))
theorem u_nbl_d0 : decode jdk_52_method_3_code 0 = .ok (.iload_n 0, 1) := by decide +kernel
theorem u_nbl_d1 : decode jdk_52_method_3_code 1 = .ok (.ifCond .ge 11, 3) := by decide +kernel
theorem u_nbl_d12 : decode jdk_52_method_3_code 12 = .ok (.iload_n 0, 1) := by decide +kernel
theorem u_nbl_d13 : decode jdk_52_method_3_code 13 = .ok (.ldc 20, 2) := by decide +kernel
theorem u_nbl_d15 : decode jdk_52_method_3_code 15 = .ok (.if_icmp .lt 40, 3) := by decide +kernel
theorem u_nbl_d55 : decode jdk_52_method_3_code 55 = .ok (.iload_n 0, 1) := by decide +kernel
theorem u_nbl_d56 : decode jdk_52_method_3_code 56 = .ok (.iconst 1, 1) := by decide +kernel
theorem u_nbl_d57 : decode jdk_52_method_3_code 57 = .ok (.ishl, 1) := by decide +kernel
theorem u_nbl_d58 : decode jdk_52_method_3_code 58 = .ok (.ireturn, 1) := by decide +kernel
theorem u_nbl_ef (m : MethodId) (n : Nat) : entryFrame m #[(.int (Int32.ofNat n))] 1 = mkF m 0 #[.val (.int (Int32.ofNat n))] [] := by first | (simp [entryFrame, mkF, argsToLocals, Value.category]; done) | rfl
theorem u_nbl_pn : plainFor (⟨"java/lang/StringUTF16", "newBytesLength", "(I)I"⟩ : MethodName) = true := by first | exact plainFor_of_name (by first | (simp [plainName, overriddenIn]; done) | decide +kernel) | decide +kernel
set_option maxRecDepth 65536 in
set_option maxHeartbeats 40000000 in
theorem u_nbl (l : Launch) (Z : State) (a0 : Array Value) (EL : List (String × Nat)) (hw : ∀ d ∈ tables_1, d.before a0 Z = true) (hEW : EW Z a0 EL) (h : Heap) (n : Nat) (hn : n ≤ 8) :
    Con l Z EL (⟨"java/lang/StringUTF16", "newBytesLength", "(I)I"⟩ : MethodName) jdk_52_method_3_code 1 (some .int) ({ frames := 0, cells := 0, slots := 0, locals := 0 } : Room) #[(.int (Int32.ofNat n))] h [] (fun v h' nw => v = some (.int (Int32.ofNat (2 * n))) ∧ nw = [] ∧ h = h') := by
  refine Con.of u_nbl_pn hEW ?_
  intro p e s m below meth c T F B hF hby hml hr hlk hnm S
  rw [u_nbl_ef]
  show F T (mkF m 0 #[.val (.int (Int32.ofNat n))] [])
  refine B (fun t kt => XS.iloadN S.here S.hx rfl (hb hby u_nbl_d0) rfl kt) ?_
  show F T (mkF m 1 #[.val (.int (Int32.ofNat n))] [(.int (Int32.ofNat n))])
  refine B (fun t kt => XS.ifYes S.here S.hx rfl (pc0 := 1) (pc' := 12) rfl (hb hby u_nbl_d1) rfl (i0_ge_t (own_nn n (by omega))) (by decide) (by decide) kt) ?_
  show F T (mkF m 12 #[.val (.int (Int32.ofNat n))] [])
  refine B (fun t kt => XS.iloadN S.here S.hx rfl (hb hby u_nbl_d12) rfl kt) ?_
  show F T (mkF m 13 #[.val (.int (Int32.ofNat n))] [(.int (Int32.ofNat n))])
  refine Sp.ldcI B S (hw _ (List.mem_of_getElem? (i := 62) rfl)) (hb hby u_nbl_d13) ?_
  show F T (mkF m 15 #[.val (.int (Int32.ofNat n))] [(.int (1073741823 : Int32)), (.int (Int32.ofNat n))])
  refine B (fun t kt => XS.icmpYes S.here S.hx rfl (pc0 := 15) (pc' := 55) rfl (hb hby u_nbl_d15) rfl (ii_lt_t (Int32.lt_trans (own_sm (n := 4000) (by omega) (by omega)) (by decide))) (by decide) (by decide) kt) ?_
  show F T (mkF m 55 #[.val (.int (Int32.ofNat n))] [])
  refine B (fun t kt => XS.iloadN S.here S.hx rfl (hb hby u_nbl_d55) rfl kt) ?_
  show F T (mkF m 56 #[.val (.int (Int32.ofNat n))] [(.int (Int32.ofNat n))])
  refine B (fun t kt => XS.iconst S.here S.hx rfl (hb hby u_nbl_d56) kt) ?_
  show F T (mkF m 57 #[.val (.int (Int32.ofNat n))] [(.int (1 : Int32)), (.int (Int32.ofNat n))])
  refine B (fun t kt => XT.ishl S.here S.hx rfl (hb hby u_nbl_d57) rfl kt) ?_
  show F T (mkF m 58 #[.val (.int (Int32.ofNat n))] [(.int ((Int32.ofNat n) <<< ((1 : Int32) &&& 31)))])
  rw [own_shl1 n hn]
  exact hF (S.retI hr hlk (by simp) rfl (hb hby u_nbl_d58) (nw := []) ⟨rfl, rfl, rfl⟩ (by simp))
theorem u_nbf_d0 : decode jdk_52_method_2_code 0 = .ok (.iload_n 0, 1) := by decide +kernel
theorem u_nbf_d1 : decode jdk_52_method_2_code 1 = .ok (.invokestatic 11, 3) := by decide +kernel
theorem u_nbf_d4 : decode jdk_52_method_2_code 4 = .ok (.newarray .byte, 2) := by decide +kernel
theorem u_nbf_d6 : decode jdk_52_method_2_code 6 = .ok (.areturn, 1) := by decide +kernel
theorem u_nbf_p11 : parseMethodDescriptor "(I)I" = some ⟨[.int], (some .int)⟩ := by decide +kernel
theorem u_nbf_ef (m : MethodId) (n : Nat) : entryFrame m #[(.int (Int32.ofNat n))] 1 = mkF m 0 #[.val (.int (Int32.ofNat n))] [] := by first | (simp [entryFrame, mkF, argsToLocals, Value.category]; done) | rfl
theorem u_nbf_pn : plainFor (⟨"java/lang/StringUTF16", "newBytesFor", "(I)[B"⟩ : MethodName) = true := by first | exact plainFor_of_name (by first | (simp [plainName, overriddenIn]; done) | decide +kernel) | decide +kernel
set_option maxRecDepth 65536 in
set_option maxHeartbeats 40000000 in
theorem u_nbf (l : Launch) (Z : State) (a0 : Array Value) (EL : List (String × Nat)) (hw : ∀ d ∈ tables_1, d.before a0 Z = true) (hEW : EW Z a0 EL) (h : Heap) (n : Nat) (hn : n ≤ 8) :
    Con l Z EL (⟨"java/lang/StringUTF16", "newBytesFor", "(I)[B"⟩ : MethodName) jdk_52_method_2_code 1 (some (.array .byte)) ({ frames := 1, cells := 1, slots := 16, locals := 12 } : Room) #[(.int (Int32.ofNat n))] h [] (fun v h' nw => ∃ d kd, v = some (.ref d) ∧ nw = [d] ∧ h.size ≤ d ∧ Ext h h' ∧ Arv Z h' d kd .byte (Int32.ofNat (2 * n)) [] (.int 0)) := by
  refine Con.of u_nbf_pn hEW ?_
  intro p e s m below meth c T F B hF hby hml hr hlk hnm S
  rw [u_nbf_ef]
  show F T (mkF m 0 #[.val (.int (Int32.ofNat n))] [])
  refine B (fun t kt => XS.iloadN S.here S.hx rfl (hb hby u_nbf_d0) rfl kt) ?_
  show F T (mkF m 1 #[.val (.int (Int32.ofNat n))] [(.int (Int32.ofNat n))])
  refine Sp.static B S (y := (⟨"java/lang/StringUTF16", "newBytesLength", "(I)I"⟩ : MethodName)) (argsL := [(.int (Int32.ofNat n))]) (rest := []) (hw _ (List.mem_of_getElem? (i := 59) rfl)) (hw _ (List.mem_of_getElem? (i := 60) rfl)) (hw _ (List.mem_of_getElem? (i := 22) rfl)) (hw _ (List.mem_of_getElem? (i := 61) rfl)) (by decide) (Call.con (W := 0) (u_nbl l Z a0 EL hw hEW h n hn) (hw _ (List.mem_of_getElem? (i := 61) rfl)) (hw _ (List.mem_of_getElem? (i := 22) rfl)) (by decide) (by decide)) (by simp) (by decide) (by decide) (by rw [hml]; rfl) (lenOf u_nbf_p11 rfl) rfl (Nat.le_of_eq rfl) (hb hby u_nbf_d1) fun v T h1 nw S hQ => ?_
  obtain ⟨rfl, rfl, rfl⟩ := hQ
  show F T (mkF m 4 #[.val (.int (Int32.ofNat n))] [(.int (Int32.ofNat (2 * n)))])
  refine Sp.newP B S (cap := 16) (hw _ (List.mem_of_getElem? (i := 24) rfl)) (hb hby u_nbf_d4) (own_nn _ (by omega)) (by rw [own_cl _ (by omega)]; omega) (by decide) (by decide) (by decide) (ad := "[B") (by decide) fun T h2 d kd S E gd Xd Vd => ?_
  show F T (mkF m 6 #[.val (.int (Int32.ofNat n))] [(.ref d)])
  exact hF (S.retA hr hlk rfl rfl (hb hby u_nbf_d6) (nw := [d]) ⟨d, kd, rfl, rfl, gd, E, Vd⟩ (by simp))
theorem u_put_d0 : decode jdk_52_method_4_code 0 = .ok (.getstatic 44, 3) := by decide +kernel
theorem u_put_d3 : decode jdk_52_method_4_code 3 = .ok (.ifCond .ne 25, 3) := by decide +kernel
theorem u_put_d28 : decode jdk_52_method_4_code 28 = .ok (.iload_n 1, 1) := by decide +kernel
theorem u_put_d29 : decode jdk_52_method_4_code 29 = .ok (.iconst 1, 1) := by decide +kernel
theorem u_put_d30 : decode jdk_52_method_4_code 30 = .ok (.ishl, 1) := by decide +kernel
theorem u_put_d31 : decode jdk_52_method_4_code 31 = .ok (.istore_n 1, 1) := by decide +kernel
theorem u_put_d32 : decode jdk_52_method_4_code 32 = .ok (.aload_n 0, 1) := by decide +kernel
theorem u_put_d33 : decode jdk_52_method_4_code 33 = .ok (.iload_n 1, 1) := by decide +kernel
theorem u_put_d34 : decode jdk_52_method_4_code 34 = .ok (.iinc 1 1, 3) := by decide +kernel
theorem u_put_d37 : decode jdk_52_method_4_code 37 = .ok (.iload_n 2, 1) := by decide +kernel
theorem u_put_d38 : decode jdk_52_method_4_code 38 = .ok (.getstatic 59, 3) := by decide +kernel
theorem u_put_d41 : decode jdk_52_method_4_code 41 = .ok (.ishr, 1) := by decide +kernel
theorem u_put_d42 : decode jdk_52_method_4_code 42 = .ok (.i2b, 1) := by decide +kernel
theorem u_put_d43 : decode jdk_52_method_4_code 43 = .ok (.bastore, 1) := by decide +kernel
theorem u_put_d44 : decode jdk_52_method_4_code 44 = .ok (.aload_n 0, 1) := by decide +kernel
theorem u_put_d45 : decode jdk_52_method_4_code 45 = .ok (.iload_n 1, 1) := by decide +kernel
theorem u_put_d46 : decode jdk_52_method_4_code 46 = .ok (.iload_n 2, 1) := by decide +kernel
theorem u_put_d47 : decode jdk_52_method_4_code 47 = .ok (.getstatic 63, 3) := by decide +kernel
theorem u_put_d50 : decode jdk_52_method_4_code 50 = .ok (.ishr, 1) := by decide +kernel
theorem u_put_d51 : decode jdk_52_method_4_code 51 = .ok (.i2b, 1) := by decide +kernel
theorem u_put_d52 : decode jdk_52_method_4_code 52 = .ok (.bastore, 1) := by decide +kernel
theorem u_put_d53 : decode jdk_52_method_4_code 53 = .ok (.return_, 1) := by decide +kernel
theorem u_put_ef (m : MethodId) (d : Addr) (i : Nat) (c0 : Int32) : entryFrame m #[(.ref d), (.int (Int32.ofNat i)), (.int c0)] 3 = mkF m 0 #[.val (.ref d), .val (.int (Int32.ofNat i)), .val (.int c0)] [] := by first | (simp [entryFrame, mkF, argsToLocals, Value.category]; done) | rfl
theorem u_put_pn : plainFor (⟨"java/lang/StringUTF16", "putChar", "([BII)V"⟩ : MethodName) = true := by first | exact plainFor_of_name (by first | (simp [plainName, overriddenIn]; done) | decide +kernel) | decide +kernel
set_option maxRecDepth 65536 in
set_option maxHeartbeats 40000000 in
theorem u_put (l : Launch) (Z : State) (a0 : Array Value) (EL : List (String × Nat)) (hw : ∀ d ∈ tables_1, d.before a0 Z = true) (hEW : EW Z a0 EL) (h : Heap) (AD : Sta Z Z.heap "java/lang/StringUTF16" "$assertionsDisabled" "Z" (.int 1)) (HI : Sta Z Z.heap "java/lang/StringUTF16" "HI_BYTE_SHIFT" "I" (.int 0)) (LO : Sta Z Z.heap "java/lang/StringUTF16" "LO_BYTE_SHIFT" "I" (.int 8)) (n i : Nat) (hn : n ≤ 8) (hi : i < n) (c0 : Int32) (d : Addr) (kd : ClassId) (vs : List Value) (hl : 2 * i + 1 < vs.length) (V : Arv Z h d kd .byte (Int32.ofNat (2 * n)) vs (.int 0)) :
    Con l Z EL (⟨"java/lang/StringUTF16", "putChar", "([BII)V"⟩ : MethodName) jdk_52_method_4_code 3 none ({ frames := 0, cells := 0, slots := 0, locals := 0 } : Room) #[(.ref d), (.int (Int32.ofNat i)), (.int c0)] h [d] (fun v h' nw => v = none ∧ nw = [] ∧ Keep h h' [d] ∧ Arv Z h' d kd .byte (Int32.ofNat (2 * n)) ((vs.set (2 * i) (.int (StrChars.lo8 c0))).set (2 * i + 1) (.int (StrChars.hi8 c0))) (.int 0)) := by
  refine Con.of u_put_pn hEW ?_
  intro p e s m below meth c T F B hF hby hml hr hlk hnm S
  rw [u_put_ef]
  have KK := Keep.refl h [d]
  show F T (mkF m 0 #[.val (.ref d), .val (.int (Int32.ofNat i)), .val (.int c0)] [])
  refine Sp.getS B S (hw _ (List.mem_of_getElem? (i := 66) rfl)) Via.refl AD (hb hby u_put_d0) fun T S => ?_
  show F T (mkF m 3 #[.val (.ref d), .val (.int (Int32.ofNat i)), .val (.int c0)] [(.int 1)])
  refine B (fun t kt => XS.ifYes S.here S.hx rfl (pc0 := 3) (pc' := 28) rfl (hb hby u_put_d3) rfl (i0_ne_t (by decide)) (by decide) (by decide) kt) ?_
  show F T (mkF m 28 #[.val (.ref d), .val (.int (Int32.ofNat i)), .val (.int c0)] [])
  refine B (fun t kt => XS.iloadN S.here S.hx rfl (hb hby u_put_d28) rfl kt) ?_
  show F T (mkF m 29 #[.val (.ref d), .val (.int (Int32.ofNat i)), .val (.int c0)] [(.int (Int32.ofNat i))])
  refine B (fun t kt => XS.iconst S.here S.hx rfl (hb hby u_put_d29) kt) ?_
  show F T (mkF m 30 #[.val (.ref d), .val (.int (Int32.ofNat i)), .val (.int c0)] [(.int (1 : Int32)), (.int (Int32.ofNat i))])
  refine B (fun t kt => XT.ishl S.here S.hx rfl (hb hby u_put_d30) rfl kt) ?_
  show F T (mkF m 31 #[.val (.ref d), .val (.int (Int32.ofNat i)), .val (.int c0)] [(.int ((Int32.ofNat i) <<< ((1 : Int32) &&& 31)))])
  rw [own_shl1 i (by omega)]
  show F T (mkF m 31 #[.val (.ref d), .val (.int (Int32.ofNat i)), .val (.int c0)] [(.int (Int32.ofNat (2 * i)))])
  refine B (fun t kt => XS.istoreN S.here S.hx rfl (hb hby u_put_d31) rfl (l' := #[.val (.ref d), .val (.int (Int32.ofNat (2 * i))), .val (.int c0)]) rfl kt) ?_
  show F T (mkF m 32 #[.val (.ref d), .val (.int (Int32.ofNat (2 * i))), .val (.int c0)] [])
  refine B (fun t kt => XS.aloadN S.here S.hx rfl (hb hby u_put_d32) rfl rfl kt) ?_
  show F T (mkF m 33 #[.val (.ref d), .val (.int (Int32.ofNat (2 * i))), .val (.int c0)] [(.ref d)])
  refine B (fun t kt => XS.iloadN S.here S.hx rfl (hb hby u_put_d33) rfl kt) ?_
  show F T (mkF m 34 #[.val (.ref d), .val (.int (Int32.ofNat (2 * i))), .val (.int c0)] [(.int (Int32.ofNat (2 * i))), (.ref d)])
  refine B (fun t kt => XS.iinc S.here S.hx rfl (hb hby u_put_d34) rfl (l' := #[.val (.ref d), .val (.int ((Int32.ofNat (2 * i)) + (1 : Int32))), .val (.int c0)]) rfl kt) ?_
  show F T (mkF m 37 #[.val (.ref d), .val (.int ((Int32.ofNat (2 * i)) + (1 : Int32))), .val (.int c0)] [(.int (Int32.ofNat (2 * i))), (.ref d)])
  rw [own_inc (2 * i)]
  show F T (mkF m 37 #[.val (.ref d), .val (.int (Int32.ofNat (2 * i + 1))), .val (.int c0)] [(.int (Int32.ofNat (2 * i))), (.ref d)])
  refine B (fun t kt => XS.iloadN S.here S.hx rfl (hb hby u_put_d37) rfl kt) ?_
  show F T (mkF m 38 #[.val (.ref d), .val (.int (Int32.ofNat (2 * i + 1))), .val (.int c0)] [(.int c0), (.int (Int32.ofNat (2 * i))), (.ref d)])
  refine Sp.getS B S (hw _ (List.mem_of_getElem? (i := 67) rfl)) Via.refl HI (hb hby u_put_d38) fun T S => ?_
  show F T (mkF m 41 #[.val (.ref d), .val (.int (Int32.ofNat (2 * i + 1))), .val (.int c0)] [(.int (0 : Int32)), (.int c0), (.int (Int32.ofNat (2 * i))), (.ref d)])
  refine B (fun t kt => XT.ishr S.here S.hx rfl (hb hby u_put_d41) rfl kt) ?_
  show F T (mkF m 42 #[.val (.ref d), .val (.int (Int32.ofNat (2 * i + 1))), .val (.int c0)] [(.int (c0 >>> ((0 : Int32) &&& 31))), (.int (Int32.ofNat (2 * i))), (.ref d)])
  refine B (fun t kt => XT.i2b S.here S.hx rfl (hb hby u_put_d42) rfl kt) ?_
  show F T (mkF m 43 #[.val (.ref d), .val (.int (Int32.ofNat (2 * i + 1))), .val (.int c0)] [(.int (c0 >>> ((0 : Int32) &&& 31)).toInt8.toInt32), (.int (Int32.ofNat (2 * i))), (.ref d)])
  refine Sp.stB B S V (i := 2 * i) (own_in (by omega) (by omega)) (own_cl _ (by omega)) (by omega) (own_nb0 c0) (by simp) (hb hby u_put_d43) fun T h1 S W V => ?_
  replace KK := KK.wr W (Or.inl (by simp))
  show F T (mkF m 44 #[.val (.ref d), .val (.int (Int32.ofNat (2 * i + 1))), .val (.int c0)] [])
  refine B (fun t kt => XS.aloadN S.here S.hx rfl (hb hby u_put_d44) rfl rfl kt) ?_
  show F T (mkF m 45 #[.val (.ref d), .val (.int (Int32.ofNat (2 * i + 1))), .val (.int c0)] [(.ref d)])
  refine B (fun t kt => XS.iloadN S.here S.hx rfl (hb hby u_put_d45) rfl kt) ?_
  show F T (mkF m 46 #[.val (.ref d), .val (.int (Int32.ofNat (2 * i + 1))), .val (.int c0)] [(.int (Int32.ofNat (2 * i + 1))), (.ref d)])
  refine B (fun t kt => XS.iloadN S.here S.hx rfl (hb hby u_put_d46) rfl kt) ?_
  show F T (mkF m 47 #[.val (.ref d), .val (.int (Int32.ofNat (2 * i + 1))), .val (.int c0)] [(.int c0), (.int (Int32.ofNat (2 * i + 1))), (.ref d)])
  refine Sp.getS B S (hw _ (List.mem_of_getElem? (i := 68) rfl)) Via.refl LO (hb hby u_put_d47) fun T S => ?_
  show F T (mkF m 50 #[.val (.ref d), .val (.int (Int32.ofNat (2 * i + 1))), .val (.int c0)] [(.int (8 : Int32)), (.int c0), (.int (Int32.ofNat (2 * i + 1))), (.ref d)])
  refine B (fun t kt => XT.ishr S.here S.hx rfl (hb hby u_put_d50) rfl kt) ?_
  show F T (mkF m 51 #[.val (.ref d), .val (.int (Int32.ofNat (2 * i + 1))), .val (.int c0)] [(.int (c0 >>> ((8 : Int32) &&& 31))), (.int (Int32.ofNat (2 * i + 1))), (.ref d)])
  refine B (fun t kt => XT.i2b S.here S.hx rfl (hb hby u_put_d51) rfl kt) ?_
  show F T (mkF m 52 #[.val (.ref d), .val (.int (Int32.ofNat (2 * i + 1))), .val (.int c0)] [(.int (c0 >>> ((8 : Int32) &&& 31)).toInt8.toInt32), (.int (Int32.ofNat (2 * i + 1))), (.ref d)])
  refine Sp.stB B S V (i := 2 * i + 1) (own_in (by omega) (by omega)) (own_cl _ (by omega)) (by rw [List.length_set]; omega) (x' := StrChars.hi8 c0) (own_nb _) (by simp) (hb hby u_put_d52) fun T h2 S W V => ?_
  replace KK := KK.wr W (Or.inl (by simp))
  show F T (mkF m 53 #[.val (.ref d), .val (.int (Int32.ofNat (2 * i + 1))), .val (.int c0)] [])
  exact hF (S.ret hr hlk (hb hby u_put_d53) (nw := []) ⟨rfl, rfl, KK, V⟩ (by simp))
theorem u_tb_d0 : decode jdk_52_method_14_code 0 = .ok (.iload_n 2, 1) := by decide +kernel
theorem u_tb_d1 : decode jdk_52_method_14_code 1 = .ok (.invokestatic 107, 3) := by decide +kernel
theorem u_tb_d4 : decode jdk_52_method_14_code 4 = .ok (.astore_n 3, 1) := by decide +kernel
theorem u_tb_d5 : decode jdk_52_method_14_code 5 = .ok (.iconst 0, 1) := by decide +kernel
theorem u_tb_d6 : decode jdk_52_method_14_code 6 = .ok (.istore 4, 2) := by decide +kernel
theorem u_tb_d8 : decode jdk_52_method_14_code 8 = .ok (.iload 4, 2) := by decide +kernel
theorem u_tb_d10 : decode jdk_52_method_14_code 10 = .ok (.iload_n 2, 1) := by decide +kernel
theorem u_tb_d11 : decode jdk_52_method_14_code 11 = .ok (.if_icmp .ge 21, 3) := by decide +kernel
theorem u_tb_d14 : decode jdk_52_method_14_code 14 = .ok (.aload_n 3, 1) := by decide +kernel
theorem u_tb_d15 : decode jdk_52_method_14_code 15 = .ok (.iload 4, 2) := by decide +kernel
theorem u_tb_d17 : decode jdk_52_method_14_code 17 = .ok (.aload_n 0, 1) := by decide +kernel
theorem u_tb_d18 : decode jdk_52_method_14_code 18 = .ok (.iload_n 1, 1) := by decide +kernel
theorem u_tb_d19 : decode jdk_52_method_14_code 19 = .ok (.caload, 1) := by decide +kernel
theorem u_tb_d20 : decode jdk_52_method_14_code 20 = .ok (.invokestatic 111, 3) := by decide +kernel
theorem u_tb_d23 : decode jdk_52_method_14_code 23 = .ok (.iinc 1 1, 3) := by decide +kernel
theorem u_tb_d26 : decode jdk_52_method_14_code 26 = .ok (.iinc 4 1, 3) := by decide +kernel
theorem u_tb_d29 : decode jdk_52_method_14_code 29 = .ok (.goto (-21), 3) := by decide +kernel
theorem u_tb_d32 : decode jdk_52_method_14_code 32 = .ok (.aload_n 3, 1) := by decide +kernel
theorem u_tb_d33 : decode jdk_52_method_14_code 33 = .ok (.areturn, 1) := by decide +kernel
theorem u_tb_p107 : parseMethodDescriptor "(I)[B" = some ⟨[.int], (some (.array .byte))⟩ := by decide +kernel
theorem u_tb_p111 : parseMethodDescriptor "([BII)V" = some ⟨[(.array .byte), .int, .int], none⟩ := by decide +kernel
set_option maxRecDepth 65536 in
set_option maxHeartbeats 40000000 in
theorem u_tbl {p : Program} {l : Launch} {e : Env} {s : State} {m : MethodId} {args : Array Value} {below : List Frame} {meth : Method} {c : Code} {Z : State} {a0 : Array Value} {EL : List (String × Nat)} {F : State → JFrame → Prop} {sf : List Addr} {lt : List (String × Nat × Addr)} {kq nq : Nat} (hw : ∀ q ∈ tables_1, q.before a0 Z = true) (hEW : EW Z a0 EL) (AD : Sta Z Z.heap "java/lang/StringUTF16" "$assertionsDisabled" "Z" (.int 1)) (HI : Sta Z Z.heap "java/lang/StringUTF16" "HI_BYTE_SHIFT" "I" (.int 0)) (LO : Sta Z Z.heap "java/lang/StringUTF16" "LO_BYTE_SHIFT" "I" (.int 8)) (B : Bw p e below F) (hby : c.code = jdk_52_method_14_code) (hml : c.maxLocals = 5) (cs : List Int32) (hn : cs.length ≤ 8) (b d : Addr) (kb kd : ClassId) (dv : Value) (hbd : b ≠ d) (hd : d ∈ sf) (hkq : kq + 0 ≤ 1) (hnq : nq + 0 ≤ 16) :
    ∀ (k i : Nat) (T : State) (h : Heap), i + k = cs.length → Sp p l e ({ frames := 2, cells := 1, slots := 16, locals := 24 } : Room) s m args below meth c Z a0 EL "java/lang/StringUTF16" T h sf lt kq nq → Arv Z h b kb .char (Int32.ofNat cs.length) (cs.map Value.int) dv → Arv Z h d kd .byte (Int32.ofNat (2 * cs.length)) (StrChars.Road.wideBytes (cs.take i)) (.int 0) →
      (∀ (T' : State) (h' : Heap), Sp p l e ({ frames := 2, cells := 1, slots := 16, locals := 24 } : Room) s m args below meth c Z a0 EL "java/lang/StringUTF16" T' h' sf lt kq nq → Keep h h' [d] → Arv Z h' d kd .byte (Int32.ofNat (2 * cs.length)) (StrChars.Road.wideBytes cs) (.int 0) → F T' (mkF m 32 #[.val (.ref b), .val (.int (Int32.ofNat cs.length)), .val (.int (Int32.ofNat cs.length)), .val (.ref d), .val (.int (Int32.ofNat cs.length))] [])) → F T (mkF m 8 #[.val (.ref b), .val (.int (Int32.ofNat i)), .val (.int (Int32.ofNat cs.length)), .val (.ref d), .val (.int (Int32.ofNat i))] []) := by
  intro k
  induction k with
  | zero =>
    intro i T h hik S Vb Vd K
    have hi : i = cs.length := by omega
    subst hi
    show F T (mkF m 8 #[.val (.ref b), .val (.int (Int32.ofNat cs.length)), .val (.int (Int32.ofNat cs.length)), .val (.ref d), .val (.int (Int32.ofNat cs.length))] [])
    refine B (fun t kt => XS.iload S.here S.hx rfl (hb hby u_tb_d8) rfl kt) ?_
    show F T (mkF m 10 #[.val (.ref b), .val (.int (Int32.ofNat cs.length)), .val (.int (Int32.ofNat cs.length)), .val (.ref d), .val (.int (Int32.ofNat cs.length))] [(.int (Int32.ofNat cs.length))])
    refine B (fun t kt => XS.iloadN S.here S.hx rfl (hb hby u_tb_d10) rfl kt) ?_
    show F T (mkF m 11 #[.val (.ref b), .val (.int (Int32.ofNat cs.length)), .val (.int (Int32.ofNat cs.length)), .val (.ref d), .val (.int (Int32.ofNat cs.length))] [(.int (Int32.ofNat cs.length)), (.int (Int32.ofNat cs.length))])
    refine B (fun t kt => XS.icmpYes S.here S.hx rfl (pc0 := 11) (pc' := 32) rfl (hb hby u_tb_d11) rfl (ii_ge_t (own_irr _)) (by decide) (by decide) kt) ?_
    show F T (mkF m 32 #[.val (.ref b), .val (.int (Int32.ofNat cs.length)), .val (.int (Int32.ofNat cs.length)), .val (.ref d), .val (.int (Int32.ofNat cs.length))] [])
    rw [List.take_length] at Vd
    exact K _ _ S (Keep.refl _ _) Vd
  | succ k ih =>
    intro i T h hik S Vb Vd K
    have hi : i < cs.length := by omega
    show F T (mkF m 8 #[.val (.ref b), .val (.int (Int32.ofNat i)), .val (.int (Int32.ofNat cs.length)), .val (.ref d), .val (.int (Int32.ofNat i))] [])
    refine B (fun t kt => XS.iload S.here S.hx rfl (hb hby u_tb_d8) rfl kt) ?_
    show F T (mkF m 10 #[.val (.ref b), .val (.int (Int32.ofNat i)), .val (.int (Int32.ofNat cs.length)), .val (.ref d), .val (.int (Int32.ofNat i))] [(.int (Int32.ofNat i))])
    refine B (fun t kt => XS.iloadN S.here S.hx rfl (hb hby u_tb_d10) rfl kt) ?_
    show F T (mkF m 11 #[.val (.ref b), .val (.int (Int32.ofNat i)), .val (.int (Int32.ofNat cs.length)), .val (.ref d), .val (.int (Int32.ofNat i))] [(.int (Int32.ofNat cs.length)), (.int (Int32.ofNat i))])
    refine B (fun t kt => XS.icmpNo S.here S.hx rfl (hb hby u_tb_d11) rfl (ii_ge_f (own_sm hi (by omega))) kt) ?_
    show F T (mkF m 14 #[.val (.ref b), .val (.int (Int32.ofNat i)), .val (.int (Int32.ofNat cs.length)), .val (.ref d), .val (.int (Int32.ofNat i))] [])
    refine B (fun t kt => XS.aloadN S.here S.hx rfl (hb hby u_tb_d14) rfl rfl kt) ?_
    show F T (mkF m 15 #[.val (.ref b), .val (.int (Int32.ofNat i)), .val (.int (Int32.ofNat cs.length)), .val (.ref d), .val (.int (Int32.ofNat i))] [(.ref d)])
    refine B (fun t kt => XS.iload S.here S.hx rfl (hb hby u_tb_d15) rfl kt) ?_
    show F T (mkF m 17 #[.val (.ref b), .val (.int (Int32.ofNat i)), .val (.int (Int32.ofNat cs.length)), .val (.ref d), .val (.int (Int32.ofNat i))] [(.int (Int32.ofNat i)), (.ref d)])
    refine B (fun t kt => XS.aloadN S.here S.hx rfl (hb hby u_tb_d17) rfl rfl kt) ?_
    show F T (mkF m 18 #[.val (.ref b), .val (.int (Int32.ofNat i)), .val (.int (Int32.ofNat cs.length)), .val (.ref d), .val (.int (Int32.ofNat i))] [(.ref b), (.int (Int32.ofNat i)), (.ref d)])
    refine B (fun t kt => XS.iloadN S.here S.hx rfl (hb hby u_tb_d18) rfl kt) ?_
    show F T (mkF m 19 #[.val (.ref b), .val (.int (Int32.ofNat i)), .val (.int (Int32.ofNat cs.length)), .val (.ref d), .val (.int (Int32.ofNat i))] [(.int (Int32.ofNat i)), (.ref b), (.int (Int32.ofNat i)), (.ref d)])
    refine Sp.cald B S Vb (own_in hi (by omega)) (own_getD hi (by omega) dv) (hb hby u_tb_d19) ?_
    show F T (mkF m 20 #[.val (.ref b), .val (.int (Int32.ofNat i)), .val (.int (Int32.ofNat cs.length)), .val (.ref d), .val (.int (Int32.ofNat i))] [(.int (cs.getD i 0)), (.int (Int32.ofNat i)), (.ref d)])
    replace Vd := Vd.pad (pad_rep (StrChars.Road.wideBytes (cs.take i)) (.int 0) 2)
    refine Sp.static B S (y := (⟨"java/lang/StringUTF16", "putChar", "([BII)V"⟩ : MethodName)) (argsL := [(.ref d), (.int (Int32.ofNat i)), (.int (cs.getD i 0))]) (rest := []) (hw _ (List.mem_of_getElem? (i := 63) rfl)) (hw _ (List.mem_of_getElem? (i := 64) rfl)) (hw _ (List.mem_of_getElem? (i := 22) rfl)) (hw _ (List.mem_of_getElem? (i := 65) rfl)) (by decide) (Call.con (W := 0) (u_put l Z a0 EL hw hEW h AD HI LO cs.length i hn hi (cs.getD i 0) d kd _ (by simp only [List.length_append, own_wlen, List.length_take, List.length_replicate]; omega) Vd) (hw _ (List.mem_of_getElem? (i := 65) rfl)) (hw _ (List.mem_of_getElem? (i := 22) rfl)) (by decide) (by decide)) (by simpa using hd) hkq hnq (by rw [hml]; rfl) (lenOf u_tb_p111 rfl) rfl (Nat.le_of_eq rfl) (hb hby u_tb_d20) fun v T h1 nw S hQ => ?_
    obtain ⟨rfl, rfl, K1, Vd⟩ := hQ
    show F T (mkF m 23 #[.val (.ref b), .val (.int (Int32.ofNat i)), .val (.int (Int32.ofNat cs.length)), .val (.ref d), .val (.int (Int32.ofNat i))] [])
    refine B (fun t kt => XS.iinc S.here S.hx rfl (hb hby u_tb_d23) rfl (l' := #[.val (.ref b), .val (.int ((Int32.ofNat i) + (1 : Int32))), .val (.int (Int32.ofNat cs.length)), .val (.ref d), .val (.int (Int32.ofNat i))]) rfl kt) ?_
    show F T (mkF m 26 #[.val (.ref b), .val (.int ((Int32.ofNat i) + (1 : Int32))), .val (.int (Int32.ofNat cs.length)), .val (.ref d), .val (.int (Int32.ofNat i))] [])
    refine B (fun t kt => XS.iinc S.here S.hx rfl (hb hby u_tb_d26) rfl (l' := #[.val (.ref b), .val (.int ((Int32.ofNat i) + (1 : Int32))), .val (.int (Int32.ofNat cs.length)), .val (.ref d), .val (.int ((Int32.ofNat i) + (1 : Int32)))]) rfl kt) ?_
    show F T (mkF m 29 #[.val (.ref b), .val (.int ((Int32.ofNat i) + (1 : Int32))), .val (.int (Int32.ofNat cs.length)), .val (.ref d), .val (.int ((Int32.ofNat i) + (1 : Int32)))] [])
    refine B (fun t kt => XS.goto S.here S.hx rfl (pc0 := 29) (pc' := 8) rfl (hb hby u_tb_d29) (by decide) (by decide) kt) ?_
    show F T (mkF m 8 #[.val (.ref b), .val (.int ((Int32.ofNat i) + (1 : Int32))), .val (.int (Int32.ofNat cs.length)), .val (.ref d), .val (.int ((Int32.ofNat i) + (1 : Int32)))] [])
    rw [own_inc i]
    show F T (mkF m 8 #[.val (.ref b), .val (.int (Int32.ofNat (i + 1))), .val (.int (Int32.ofNat cs.length)), .val (.ref d), .val (.int (Int32.ofNat (i + 1)))] [])
    refine ih (i + 1) _ _ (by omega) S (Vb.keep K1 (by simpa using hbd)) ?_ fun T' h' S' K2 V2 => K T' h' S' (K1.trans K2 (fun x hx => Or.inl hx)) V2
    have e : 2 * i = (StrChars.Road.wideBytes (cs.take i)).length := by rw [own_wlen, List.length_take]; omega
    rw [e] at Vd
    rw [own_take hi, own_wapp]
    exact own_set2 (StrChars.Road.wideBytes (cs.take i)) (.int 0) (.int 0) _ _ ▸ Vd
theorem u_tb_ef (m : MethodId) (b : Addr) (cs : List Int32) : entryFrame m #[(.ref b), (.int 0), (.int (Int32.ofNat cs.length))] 5 = mkF m 0 #[.val (.ref b), .val (.int 0), .val (.int (Int32.ofNat cs.length)), .unset, .unset] [] := by first | (simp [entryFrame, mkF, argsToLocals, Value.category]; done) | rfl
theorem u_tb_pn : plainFor (⟨"java/lang/StringUTF16", "toBytes", "([CII)[B"⟩ : MethodName) = true := by first | exact plainFor_of_name (by first | (simp [plainName, overriddenIn]; done) | decide +kernel) | decide +kernel
set_option maxRecDepth 65536 in
set_option maxHeartbeats 40000000 in
theorem u_tb (l : Launch) (Z : State) (a0 : Array Value) (EL : List (String × Nat)) (hw : ∀ d ∈ tables_1, d.before a0 Z = true) (hEW : EW Z a0 EL) (h : Heap) (AD : Sta Z Z.heap "java/lang/StringUTF16" "$assertionsDisabled" "Z" (.int 1)) (HI : Sta Z Z.heap "java/lang/StringUTF16" "HI_BYTE_SHIFT" "I" (.int 0)) (LO : Sta Z Z.heap "java/lang/StringUTF16" "LO_BYTE_SHIFT" "I" (.int 8)) (cs : List Int32) (hn : cs.length ≤ 8) (b : Addr) (kb : ClassId) (dv : Value) (V : Arv Z h b kb .char (Int32.ofNat cs.length) (cs.map Value.int) dv) :
    Con l Z EL (⟨"java/lang/StringUTF16", "toBytes", "([CII)[B"⟩ : MethodName) jdk_52_method_14_code 5 (some (.array .byte)) ({ frames := 2, cells := 1, slots := 16, locals := 24 } : Room) #[(.ref b), (.int 0), (.int (Int32.ofNat cs.length))] h [] (fun v h' nw => ∃ d kd, v = some (.ref d) ∧ nw = [d] ∧ h.size ≤ d ∧ Keep h h' [] ∧ Arv Z h' d kd .byte (Int32.ofNat (2 * cs.length)) (StrChars.Road.wideBytes cs) (.int 0)) := by
  refine Con.of u_tb_pn hEW ?_
  intro p e s m below meth c T F B hF hby hml hr hlk hnm S
  rw [u_tb_ef]
  have lb := natlt V.lt
  have KK := Keep.refl h []
  show F T (mkF m 0 #[.val (.ref b), .val (.int 0), .val (.int (Int32.ofNat cs.length)), .unset, .unset] [])
  refine B (fun t kt => XS.iloadN S.here S.hx rfl (hb hby u_tb_d0) rfl kt) ?_
  show F T (mkF m 1 #[.val (.ref b), .val (.int 0), .val (.int (Int32.ofNat cs.length)), .unset, .unset] [(.int (Int32.ofNat cs.length))])
  refine Sp.static B S (y := (⟨"java/lang/StringUTF16", "newBytesFor", "(I)[B"⟩ : MethodName)) (argsL := [(.int (Int32.ofNat cs.length))]) (rest := []) (hw _ (List.mem_of_getElem? (i := 56) rfl)) (hw _ (List.mem_of_getElem? (i := 57) rfl)) (hw _ (List.mem_of_getElem? (i := 22) rfl)) (hw _ (List.mem_of_getElem? (i := 58) rfl)) (by decide) (Call.con (W := 0) (u_nbf l Z a0 EL hw hEW h cs.length hn) (hw _ (List.mem_of_getElem? (i := 58) rfl)) (hw _ (List.mem_of_getElem? (i := 22) rfl)) (by decide) (by decide)) (by simp) (by decide) (by decide) (by rw [hml]; rfl) (lenOf u_tb_p107 rfl) rfl (Nat.le_of_eq rfl) (hb hby u_tb_d1) fun v T h1 nw S hQ => ?_
  obtain ⟨d, kd, rfl, rfl, gd, E, Vd⟩ := hQ
  replace V := V.ext E
  replace KK := KK.ext E
  show F T (mkF m 4 #[.val (.ref b), .val (.int 0), .val (.int (Int32.ofNat cs.length)), .unset, .unset] [(.ref d)])
  refine B (fun t kt => XS.astoreN S.here S.hx rfl (hb hby u_tb_d4) rfl rfl (l' := #[.val (.ref b), .val (.int 0), .val (.int (Int32.ofNat cs.length)), .val (.ref d), .unset]) rfl kt) ?_
  show F T (mkF m 5 #[.val (.ref b), .val (.int 0), .val (.int (Int32.ofNat cs.length)), .val (.ref d), .unset] [])
  refine B (fun t kt => XS.iconst S.here S.hx rfl (hb hby u_tb_d5) kt) ?_
  show F T (mkF m 6 #[.val (.ref b), .val (.int 0), .val (.int (Int32.ofNat cs.length)), .val (.ref d), .unset] [(.int (0 : Int32))])
  refine B (fun t kt => XS.istore S.here S.hx rfl (hb hby u_tb_d6) rfl (l' := #[.val (.ref b), .val (.int 0), .val (.int (Int32.ofNat cs.length)), .val (.ref d), .val (.int (0 : Int32))]) rfl kt) ?_
  show F T (mkF m 8 #[.val (.ref b), .val (.int 0), .val (.int (Int32.ofNat cs.length)), .val (.ref d), .val (.int (0 : Int32))] [])
  refine u_tbl hw hEW AD HI LO B hby hml cs hn b d kb kd dv (natne (by omega)) (by simp) (by decide) (by decide) cs.length 0 T _ (by omega) S V Vd fun T h2 S K V2 => ?_
  show F T (mkF m 32 #[.val (.ref b), .val (.int (Int32.ofNat cs.length)), .val (.int (Int32.ofNat cs.length)), .val (.ref d), .val (.int (Int32.ofNat cs.length))] [])
  replace KK := KK.trans K (qk1 (by first | (refine Or.inl ?_; simp; done) | (refine Or.inr ?_; omega)))
  refine B (fun t kt => XS.aloadN S.here S.hx rfl (hb hby u_tb_d32) rfl rfl kt) ?_
  show F T (mkF m 33 #[.val (.ref b), .val (.int (Int32.ofNat cs.length)), .val (.int (Int32.ofNat cs.length)), .val (.ref d), .val (.int (Int32.ofNat cs.length))] [(.ref d)])
  exact hF (S.retA hr hlk rfl rfl (hb hby u_tb_d33) (nw := [d]) ⟨d, kd, rfl, rfl, gd, KK, V2⟩ (by simp))
theorem u_gc_d0 : decode jdk_52_method_5_code 0 = .ok (.getstatic 44, 3) := by decide +kernel
theorem u_gc_d3 : decode jdk_52_method_5_code 3 = .ok (.ifCond .ne 25, 3) := by decide +kernel
theorem u_gc_d28 : decode jdk_52_method_5_code 28 = .ok (.iload_n 1, 1) := by decide +kernel
theorem u_gc_d29 : decode jdk_52_method_5_code 29 = .ok (.iconst 1, 1) := by decide +kernel
theorem u_gc_d30 : decode jdk_52_method_5_code 30 = .ok (.ishl, 1) := by decide +kernel
theorem u_gc_d31 : decode jdk_52_method_5_code 31 = .ok (.istore_n 1, 1) := by decide +kernel
theorem u_gc_d32 : decode jdk_52_method_5_code 32 = .ok (.aload_n 0, 1) := by decide +kernel
theorem u_gc_d33 : decode jdk_52_method_5_code 33 = .ok (.iload_n 1, 1) := by decide +kernel
theorem u_gc_d34 : decode jdk_52_method_5_code 34 = .ok (.iinc 1 1, 3) := by decide +kernel
theorem u_gc_d37 : decode jdk_52_method_5_code 37 = .ok (.baload, 1) := by decide +kernel
theorem u_gc_d38 : decode jdk_52_method_5_code 38 = .ok (.sipush 255, 3) := by decide +kernel
theorem u_gc_d41 : decode jdk_52_method_5_code 41 = .ok (.iand, 1) := by decide +kernel
theorem u_gc_d42 : decode jdk_52_method_5_code 42 = .ok (.getstatic 59, 3) := by decide +kernel
theorem u_gc_d45 : decode jdk_52_method_5_code 45 = .ok (.ishl, 1) := by decide +kernel
theorem u_gc_d46 : decode jdk_52_method_5_code 46 = .ok (.aload_n 0, 1) := by decide +kernel
theorem u_gc_d47 : decode jdk_52_method_5_code 47 = .ok (.iload_n 1, 1) := by decide +kernel
theorem u_gc_d48 : decode jdk_52_method_5_code 48 = .ok (.baload, 1) := by decide +kernel
theorem u_gc_d49 : decode jdk_52_method_5_code 49 = .ok (.sipush 255, 3) := by decide +kernel
theorem u_gc_d52 : decode jdk_52_method_5_code 52 = .ok (.iand, 1) := by decide +kernel
theorem u_gc_d53 : decode jdk_52_method_5_code 53 = .ok (.getstatic 63, 3) := by decide +kernel
theorem u_gc_d56 : decode jdk_52_method_5_code 56 = .ok (.ishl, 1) := by decide +kernel
theorem u_gc_d57 : decode jdk_52_method_5_code 57 = .ok (.ior, 1) := by decide +kernel
theorem u_gc_d58 : decode jdk_52_method_5_code 58 = .ok (.i2c, 1) := by decide +kernel
theorem u_gc_d59 : decode jdk_52_method_5_code 59 = .ok (.ireturn, 1) := by decide +kernel
theorem u_gc_ef (m : MethodId) (d : Addr) (i : Nat) : entryFrame m #[(.ref d), (.int (Int32.ofNat i))] 2 = mkF m 0 #[.val (.ref d), .val (.int (Int32.ofNat i))] [] := by first | (simp [entryFrame, mkF, argsToLocals, Value.category]; done) | rfl
theorem u_gc_pn : plainFor (⟨"java/lang/StringUTF16", "getChar", "([BI)C"⟩ : MethodName) = true := by first | exact plainFor_of_name (by first | (simp [plainName, overriddenIn]; done) | decide +kernel) | decide +kernel
set_option maxRecDepth 65536 in
set_option maxHeartbeats 40000000 in
theorem u_gc (l : Launch) (Z : State) (a0 : Array Value) (EL : List (String × Nat)) (hw : ∀ d ∈ tables_1, d.before a0 Z = true) (hEW : EW Z a0 EL) (h : Heap) (AD : Sta Z Z.heap "java/lang/StringUTF16" "$assertionsDisabled" "Z" (.int 1)) (HI : Sta Z Z.heap "java/lang/StringUTF16" "HI_BYTE_SHIFT" "I" (.int 0)) (LO : Sta Z Z.heap "java/lang/StringUTF16" "LO_BYTE_SHIFT" "I" (.int 8)) (cs : List Int32) (hn : cs.length ≤ 8) (i : Nat) (hi : i < cs.length) (hb0 : ¬ cs.getD i 0 < 0 ∧ ¬ (65535 : Int32) < cs.getD i 0) (d : Addr) (kd : ClassId) (V : Arv Z h d kd .byte (Int32.ofNat (2 * cs.length)) (StrChars.Road.wideBytes cs) (.int 0)) :
    Con l Z EL (⟨"java/lang/StringUTF16", "getChar", "([BI)C"⟩ : MethodName) jdk_52_method_5_code 2 (some .char) ({ frames := 0, cells := 0, slots := 0, locals := 0 } : Room) #[(.ref d), (.int (Int32.ofNat i))] h [] (fun v h' nw => v = some (.int (cs.getD i 0)) ∧ nw = [] ∧ h = h') := by
  refine Con.of u_gc_pn hEW ?_
  intro p e s m below meth c T F B hF hby hml hr hlk hnm S
  rw [u_gc_ef]
  show F T (mkF m 0 #[.val (.ref d), .val (.int (Int32.ofNat i))] [])
  refine Sp.getS B S (hw _ (List.mem_of_getElem? (i := 66) rfl)) Via.refl AD (hb hby u_gc_d0) fun T S => ?_
  show F T (mkF m 3 #[.val (.ref d), .val (.int (Int32.ofNat i))] [(.int 1)])
  refine B (fun t kt => XS.ifYes S.here S.hx rfl (pc0 := 3) (pc' := 28) rfl (hb hby u_gc_d3) rfl (i0_ne_t (by decide)) (by decide) (by decide) kt) ?_
  show F T (mkF m 28 #[.val (.ref d), .val (.int (Int32.ofNat i))] [])
  refine B (fun t kt => XS.iloadN S.here S.hx rfl (hb hby u_gc_d28) rfl kt) ?_
  show F T (mkF m 29 #[.val (.ref d), .val (.int (Int32.ofNat i))] [(.int (Int32.ofNat i))])
  refine B (fun t kt => XS.iconst S.here S.hx rfl (hb hby u_gc_d29) kt) ?_
  show F T (mkF m 30 #[.val (.ref d), .val (.int (Int32.ofNat i))] [(.int (1 : Int32)), (.int (Int32.ofNat i))])
  refine B (fun t kt => XT.ishl S.here S.hx rfl (hb hby u_gc_d30) rfl kt) ?_
  show F T (mkF m 31 #[.val (.ref d), .val (.int (Int32.ofNat i))] [(.int ((Int32.ofNat i) <<< ((1 : Int32) &&& 31)))])
  rw [own_shl1 i (by omega)]
  show F T (mkF m 31 #[.val (.ref d), .val (.int (Int32.ofNat i))] [(.int (Int32.ofNat (2 * i)))])
  refine B (fun t kt => XS.istoreN S.here S.hx rfl (hb hby u_gc_d31) rfl (l' := #[.val (.ref d), .val (.int (Int32.ofNat (2 * i)))]) rfl kt) ?_
  show F T (mkF m 32 #[.val (.ref d), .val (.int (Int32.ofNat (2 * i)))] [])
  refine B (fun t kt => XS.aloadN S.here S.hx rfl (hb hby u_gc_d32) rfl rfl kt) ?_
  show F T (mkF m 33 #[.val (.ref d), .val (.int (Int32.ofNat (2 * i)))] [(.ref d)])
  refine B (fun t kt => XS.iloadN S.here S.hx rfl (hb hby u_gc_d33) rfl kt) ?_
  show F T (mkF m 34 #[.val (.ref d), .val (.int (Int32.ofNat (2 * i)))] [(.int (Int32.ofNat (2 * i))), (.ref d)])
  refine B (fun t kt => XS.iinc S.here S.hx rfl (hb hby u_gc_d34) rfl (l' := #[.val (.ref d), .val (.int ((Int32.ofNat (2 * i)) + (1 : Int32)))]) rfl kt) ?_
  show F T (mkF m 37 #[.val (.ref d), .val (.int ((Int32.ofNat (2 * i)) + (1 : Int32)))] [(.int (Int32.ofNat (2 * i))), (.ref d)])
  rw [own_inc (2 * i)]
  show F T (mkF m 37 #[.val (.ref d), .val (.int (Int32.ofNat (2 * i + 1)))] [(.int (Int32.ofNat (2 * i))), (.ref d)])
  refine Sp.bald B S V (own_in (by omega) (by omega)) (by rw [own_cl _ (by omega)]; exact StrChars.Road.wide_lo _ cs i hi) (hb hby u_gc_d37) ?_
  show F T (mkF m 38 #[.val (.ref d), .val (.int (Int32.ofNat (2 * i + 1)))] [(.int (StrChars.lo8 (cs.getD i 0)))])
  refine B (fun t kt => XS.sipush S.here S.hx rfl (hb hby u_gc_d38) kt) ?_
  show F T (mkF m 41 #[.val (.ref d), .val (.int (Int32.ofNat (2 * i + 1)))] [(.int (255 : Int32)), (.int (StrChars.lo8 (cs.getD i 0)))])
  refine B (fun t kt => XS.iand S.here S.hx rfl (hb hby u_gc_d41) rfl kt) ?_
  show F T (mkF m 42 #[.val (.ref d), .val (.int (Int32.ofNat (2 * i + 1)))] [(.int ((StrChars.lo8 (cs.getD i 0)) &&& (255 : Int32)))])
  refine Sp.getS B S (hw _ (List.mem_of_getElem? (i := 67) rfl)) Via.refl HI (hb hby u_gc_d42) fun T S => ?_
  show F T (mkF m 45 #[.val (.ref d), .val (.int (Int32.ofNat (2 * i + 1)))] [(.int (0 : Int32)), (.int ((StrChars.lo8 (cs.getD i 0)) &&& (255 : Int32)))])
  refine B (fun t kt => XT.ishl S.here S.hx rfl (hb hby u_gc_d45) rfl kt) ?_
  show F T (mkF m 46 #[.val (.ref d), .val (.int (Int32.ofNat (2 * i + 1)))] [(.int (((StrChars.lo8 (cs.getD i 0)) &&& (255 : Int32)) <<< ((0 : Int32) &&& 31)))])
  refine B (fun t kt => XS.aloadN S.here S.hx rfl (hb hby u_gc_d46) rfl rfl kt) ?_
  show F T (mkF m 47 #[.val (.ref d), .val (.int (Int32.ofNat (2 * i + 1)))] [(.ref d), (.int (((StrChars.lo8 (cs.getD i 0)) &&& (255 : Int32)) <<< ((0 : Int32) &&& 31)))])
  refine B (fun t kt => XS.iloadN S.here S.hx rfl (hb hby u_gc_d47) rfl kt) ?_
  show F T (mkF m 48 #[.val (.ref d), .val (.int (Int32.ofNat (2 * i + 1)))] [(.int (Int32.ofNat (2 * i + 1))), (.ref d), (.int (((StrChars.lo8 (cs.getD i 0)) &&& (255 : Int32)) <<< ((0 : Int32) &&& 31)))])
  refine Sp.bald B S V (own_in (by omega) (by omega)) (by rw [own_cl _ (by omega)]; exact StrChars.Road.wide_hi _ cs i hi) (hb hby u_gc_d48) ?_
  show F T (mkF m 49 #[.val (.ref d), .val (.int (Int32.ofNat (2 * i + 1)))] [(.int (StrChars.hi8 (cs.getD i 0))), (.int (((StrChars.lo8 (cs.getD i 0)) &&& (255 : Int32)) <<< ((0 : Int32) &&& 31)))])
  refine B (fun t kt => XS.sipush S.here S.hx rfl (hb hby u_gc_d49) kt) ?_
  show F T (mkF m 52 #[.val (.ref d), .val (.int (Int32.ofNat (2 * i + 1)))] [(.int (255 : Int32)), (.int (StrChars.hi8 (cs.getD i 0))), (.int (((StrChars.lo8 (cs.getD i 0)) &&& (255 : Int32)) <<< ((0 : Int32) &&& 31)))])
  refine B (fun t kt => XS.iand S.here S.hx rfl (hb hby u_gc_d52) rfl kt) ?_
  show F T (mkF m 53 #[.val (.ref d), .val (.int (Int32.ofNat (2 * i + 1)))] [(.int ((StrChars.hi8 (cs.getD i 0)) &&& (255 : Int32))), (.int (((StrChars.lo8 (cs.getD i 0)) &&& (255 : Int32)) <<< ((0 : Int32) &&& 31)))])
  refine Sp.getS B S (hw _ (List.mem_of_getElem? (i := 68) rfl)) Via.refl LO (hb hby u_gc_d53) fun T S => ?_
  show F T (mkF m 56 #[.val (.ref d), .val (.int (Int32.ofNat (2 * i + 1)))] [(.int (8 : Int32)), (.int ((StrChars.hi8 (cs.getD i 0)) &&& (255 : Int32))), (.int (((StrChars.lo8 (cs.getD i 0)) &&& (255 : Int32)) <<< ((0 : Int32) &&& 31)))])
  refine B (fun t kt => XT.ishl S.here S.hx rfl (hb hby u_gc_d56) rfl kt) ?_
  show F T (mkF m 57 #[.val (.ref d), .val (.int (Int32.ofNat (2 * i + 1)))] [(.int (((StrChars.hi8 (cs.getD i 0)) &&& (255 : Int32)) <<< ((8 : Int32) &&& 31))), (.int (((StrChars.lo8 (cs.getD i 0)) &&& (255 : Int32)) <<< ((0 : Int32) &&& 31)))])
  refine B (fun t kt => XT.ior S.here S.hx rfl (hb hby u_gc_d57) rfl kt) ?_
  show F T (mkF m 58 #[.val (.ref d), .val (.int (Int32.ofNat (2 * i + 1)))] [(.int ((((StrChars.lo8 (cs.getD i 0)) &&& (255 : Int32)) <<< ((0 : Int32) &&& 31)) ||| (((StrChars.hi8 (cs.getD i 0)) &&& (255 : Int32)) <<< ((8 : Int32) &&& 31))))])
  refine B (fun t kt => XT.i2c S.here S.hx rfl (hb hby u_gc_d58) rfl kt) ?_
  show F T (mkF m 59 #[.val (.ref d), .val (.int (Int32.ofNat (2 * i + 1)))] [(.int ((((StrChars.lo8 (cs.getD i 0)) &&& (255 : Int32)) <<< ((0 : Int32) &&& 31)) ||| (((StrChars.hi8 (cs.getD i 0)) &&& (255 : Int32)) <<< ((8 : Int32) &&& 31))).toUInt32.toUInt16.toUInt32.toInt32)])
  rw [own_chr hb0.1 hb0.2]
  exact hF (S.retI hr hlk (by simp) (StrChars.narrow_ch hb0.1 hb0.2) (hb hby u_gc_d59) (nw := []) ⟨rfl, rfl, rfl⟩ (by simp))
theorem own_nbs (y : Int32) : nar .byte (y.toInt8.toInt32) = StrChars.lo8 y := own_nb y
theorem u_c5_d0 : decode jdk_52_method_21_code 0 = .ok (.iconst 0, 1) := by decide +kernel
theorem u_c5_d1 : decode jdk_52_method_21_code 1 = .ok (.istore 5, 2) := by decide +kernel
theorem u_c5_d3 : decode jdk_52_method_21_code 3 = .ok (.iload 5, 2) := by decide +kernel
theorem u_c5_d5 : decode jdk_52_method_21_code 5 = .ok (.iload 4, 2) := by decide +kernel
theorem u_c5_d7 : decode jdk_52_method_21_code 7 = .ok (.if_icmp .ge 37, 3) := by decide +kernel
theorem u_c5_d10 : decode jdk_52_method_21_code 10 = .ok (.aload_n 0, 1) := by decide +kernel
theorem u_c5_d11 : decode jdk_52_method_21_code 11 = .ok (.iload_n 1, 1) := by decide +kernel
theorem u_c5_d12 : decode jdk_52_method_21_code 12 = .ok (.caload, 1) := by decide +kernel
theorem u_c5_d13 : decode jdk_52_method_21_code 13 = .ok (.istore 6, 2) := by decide +kernel
theorem u_c5_d15 : decode jdk_52_method_21_code 15 = .ok (.iload 6, 2) := by decide +kernel
theorem u_c5_d17 : decode jdk_52_method_21_code 17 = .ok (.sipush 255, 3) := by decide +kernel
theorem u_c5_d20 : decode jdk_52_method_21_code 20 = .ok (.if_icmp .le 6, 3) := by decide +kernel
theorem u_c5_d23 : decode jdk_52_method_21_code 23 = .ok (.iload 5, 2) := by decide +kernel
theorem u_c5_d25 : decode jdk_52_method_21_code 25 = .ok (.ireturn, 1) := by decide +kernel
theorem u_c5_d26 : decode jdk_52_method_21_code 26 = .ok (.aload_n 2, 1) := by decide +kernel
theorem u_c5_d27 : decode jdk_52_method_21_code 27 = .ok (.iload_n 3, 1) := by decide +kernel
theorem u_c5_d28 : decode jdk_52_method_21_code 28 = .ok (.iload 6, 2) := by decide +kernel
theorem u_c5_d30 : decode jdk_52_method_21_code 30 = .ok (.i2b, 1) := by decide +kernel
theorem u_c5_d31 : decode jdk_52_method_21_code 31 = .ok (.bastore, 1) := by decide +kernel
theorem u_c5_d32 : decode jdk_52_method_21_code 32 = .ok (.iinc 1 1, 3) := by decide +kernel
theorem u_c5_d35 : decode jdk_52_method_21_code 35 = .ok (.iinc 3 1, 3) := by decide +kernel
theorem u_c5_d38 : decode jdk_52_method_21_code 38 = .ok (.iinc 5 1, 3) := by decide +kernel
theorem u_c5_d41 : decode jdk_52_method_21_code 41 = .ok (.goto (-38), 3) := by decide +kernel
theorem u_os {s0 s1 s2 s3 s4 s5 s6 : Slot} {v : Int32} (h : One s6) : storeLocals #[s0, s1, s2, s3, s4, s5, s6] 6 (.int v) = some #[s0, s1, s2, s3, s4, s5, .val (.int v)] := by
  rcases h with rfl | ⟨w, rfl, hw⟩
  · rfl
  · cases w <;> first | rfl | (simp [Value.category] at hw)
set_option maxRecDepth 65536 in
set_option maxHeartbeats 40000000 in
theorem u_c5l {p : Program} {l : Launch} {e : Env} {s : State} {m : MethodId} {args : Array Value} {below : List Frame} {meth : Method} {c : Code} {Z : State} {a0 : Array Value} {EL : List (String × Nat)} {F : State → JFrame → Prop} {sf : List Addr} {lt : List (String × Nat × Addr)} {kq nq : Nat} (B : Bw p e below F) (hby : c.code = jdk_52_method_21_code) (cs : List Int32) (hn : cs.length ≤ 8) (b d : Addr) (kb kd : ClassId) (dv : Value) (hbd : b ≠ d) (hd : d ∈ sf) :
    ∀ (k i : Nat) (s6 : Slot) (T : State) (h : Heap) (vs : List Value), i + k = cs.length → (∃ j, i ≤ j ∧ j < cs.length ∧ (255 : Int32) < cs.getD j 0) → One s6 → vs.length = cs.length → Sp p l e ({ frames := 0, cells := 0, slots := 0, locals := 0 } : Room) s m args below meth c Z a0 EL "java/lang/StringUTF16" T h sf lt kq nq → Arv Z h b kb .char (Int32.ofNat cs.length) (cs.map Value.int) dv → Arv Z h d kd .byte (Int32.ofNat cs.length) vs (.int 0) →
      (∀ (T' : State) (h' : Heap) (j : Nat) (L : Array Slot), Sp p l e ({ frames := 0, cells := 0, slots := 0, locals := 0 } : Room) s m args below meth c Z a0 EL "java/lang/StringUTF16" T' h' sf lt kq nq → Keep h h' [d] → j < cs.length → (255 : Int32) < cs.getD j 0 → F T' (mkF m 25 L [(.int (Int32.ofNat j))])) → F T (mkF m 3 #[.val (.ref b), .val (.int (Int32.ofNat i)), .val (.ref d), .val (.int (Int32.ofNat i)), .val (.int (Int32.ofNat cs.length)), .val (.int (Int32.ofNat i)), s6] []) := by
  intro k
  induction k with
  | zero => intro i s6 T h vs hik ⟨j, h1, h2, _⟩; omega
  | succ k ih =>
    intro i s6 T h vs hik hex ho hvl S Vb Vd K
    have hi : i < cs.length := by omega
    show F T (mkF m 3 #[.val (.ref b), .val (.int (Int32.ofNat i)), .val (.ref d), .val (.int (Int32.ofNat i)), .val (.int (Int32.ofNat cs.length)), .val (.int (Int32.ofNat i)), s6] [])
    refine B (fun t kt => XS.iload S.here S.hx rfl (hb hby u_c5_d3) rfl kt) ?_
    show F T (mkF m 5 #[.val (.ref b), .val (.int (Int32.ofNat i)), .val (.ref d), .val (.int (Int32.ofNat i)), .val (.int (Int32.ofNat cs.length)), .val (.int (Int32.ofNat i)), s6] [(.int (Int32.ofNat i))])
    refine B (fun t kt => XS.iload S.here S.hx rfl (hb hby u_c5_d5) rfl kt) ?_
    show F T (mkF m 7 #[.val (.ref b), .val (.int (Int32.ofNat i)), .val (.ref d), .val (.int (Int32.ofNat i)), .val (.int (Int32.ofNat cs.length)), .val (.int (Int32.ofNat i)), s6] [(.int (Int32.ofNat cs.length)), (.int (Int32.ofNat i))])
    refine B (fun t kt => XS.icmpNo S.here S.hx rfl (hb hby u_c5_d7) rfl (ii_ge_f (own_sm hi (by omega))) kt) ?_
    show F T (mkF m 10 #[.val (.ref b), .val (.int (Int32.ofNat i)), .val (.ref d), .val (.int (Int32.ofNat i)), .val (.int (Int32.ofNat cs.length)), .val (.int (Int32.ofNat i)), s6] [])
    refine B (fun t kt => XS.aloadN S.here S.hx rfl (hb hby u_c5_d10) rfl rfl kt) ?_
    show F T (mkF m 11 #[.val (.ref b), .val (.int (Int32.ofNat i)), .val (.ref d), .val (.int (Int32.ofNat i)), .val (.int (Int32.ofNat cs.length)), .val (.int (Int32.ofNat i)), s6] [(.ref b)])
    refine B (fun t kt => XS.iloadN S.here S.hx rfl (hb hby u_c5_d11) rfl kt) ?_
    show F T (mkF m 12 #[.val (.ref b), .val (.int (Int32.ofNat i)), .val (.ref d), .val (.int (Int32.ofNat i)), .val (.int (Int32.ofNat cs.length)), .val (.int (Int32.ofNat i)), s6] [(.int (Int32.ofNat i)), (.ref b)])
    refine Sp.cald B S Vb (own_in hi (by omega)) (own_getD hi (by omega) dv) (hb hby u_c5_d12) ?_
    show F T (mkF m 13 #[.val (.ref b), .val (.int (Int32.ofNat i)), .val (.ref d), .val (.int (Int32.ofNat i)), .val (.int (Int32.ofNat cs.length)), .val (.int (Int32.ofNat i)), s6] [(.int (cs.getD i 0))])
    refine B (fun t kt => XS.istore S.here S.hx rfl (hb hby u_c5_d13) rfl (l' := #[.val (.ref b), .val (.int (Int32.ofNat i)), .val (.ref d), .val (.int (Int32.ofNat i)), .val (.int (Int32.ofNat cs.length)), .val (.int (Int32.ofNat i)), .val (.int (cs.getD i 0))]) (u_os ho) kt) ?_
    show F T (mkF m 15 #[.val (.ref b), .val (.int (Int32.ofNat i)), .val (.ref d), .val (.int (Int32.ofNat i)), .val (.int (Int32.ofNat cs.length)), .val (.int (Int32.ofNat i)), .val (.int (cs.getD i 0))] [])
    refine B (fun t kt => XS.iload S.here S.hx rfl (hb hby u_c5_d15) rfl kt) ?_
    show F T (mkF m 17 #[.val (.ref b), .val (.int (Int32.ofNat i)), .val (.ref d), .val (.int (Int32.ofNat i)), .val (.int (Int32.ofNat cs.length)), .val (.int (Int32.ofNat i)), .val (.int (cs.getD i 0))] [(.int (cs.getD i 0))])
    refine B (fun t kt => XS.sipush S.here S.hx rfl (hb hby u_c5_d17) kt) ?_
    show F T (mkF m 20 #[.val (.ref b), .val (.int (Int32.ofNat i)), .val (.ref d), .val (.int (Int32.ofNat i)), .val (.int (Int32.ofNat cs.length)), .val (.int (Int32.ofNat i)), .val (.int (cs.getD i 0))] [(.int (255 : Int32)), (.int (cs.getD i 0))])
    by_cases hc : (255 : Int32) < cs.getD i 0
    ·
      refine B (fun t kt => XS.icmpNo S.here S.hx rfl (hb hby u_c5_d20) rfl (ii_le_f hc) kt) ?_
      show F T (mkF m 23 #[.val (.ref b), .val (.int (Int32.ofNat i)), .val (.ref d), .val (.int (Int32.ofNat i)), .val (.int (Int32.ofNat cs.length)), .val (.int (Int32.ofNat i)), .val (.int (cs.getD i 0))] [])
      refine B (fun t kt => XS.iload S.here S.hx rfl (hb hby u_c5_d23) rfl kt) ?_
      show F T (mkF m 25 #[.val (.ref b), .val (.int (Int32.ofNat i)), .val (.ref d), .val (.int (Int32.ofNat i)), .val (.int (Int32.ofNat cs.length)), .val (.int (Int32.ofNat i)), .val (.int (cs.getD i 0))] [(.int (Int32.ofNat i))])
      exact K _ _ i _ S (Keep.refl _ _) hi hc
    ·
      refine B (fun t kt => XS.icmpYes S.here S.hx rfl (pc0 := 20) (pc' := 26) rfl (hb hby u_c5_d20) rfl (ii_le_t hc) (by decide) (by decide) kt) ?_
      show F T (mkF m 26 #[.val (.ref b), .val (.int (Int32.ofNat i)), .val (.ref d), .val (.int (Int32.ofNat i)), .val (.int (Int32.ofNat cs.length)), .val (.int (Int32.ofNat i)), .val (.int (cs.getD i 0))] [])
      refine B (fun t kt => XS.aloadN S.here S.hx rfl (hb hby u_c5_d26) rfl rfl kt) ?_
      show F T (mkF m 27 #[.val (.ref b), .val (.int (Int32.ofNat i)), .val (.ref d), .val (.int (Int32.ofNat i)), .val (.int (Int32.ofNat cs.length)), .val (.int (Int32.ofNat i)), .val (.int (cs.getD i 0))] [(.ref d)])
      refine B (fun t kt => XS.iloadN S.here S.hx rfl (hb hby u_c5_d27) rfl kt) ?_
      show F T (mkF m 28 #[.val (.ref b), .val (.int (Int32.ofNat i)), .val (.ref d), .val (.int (Int32.ofNat i)), .val (.int (Int32.ofNat cs.length)), .val (.int (Int32.ofNat i)), .val (.int (cs.getD i 0))] [(.int (Int32.ofNat i)), (.ref d)])
      refine B (fun t kt => XS.iload S.here S.hx rfl (hb hby u_c5_d28) rfl kt) ?_
      show F T (mkF m 30 #[.val (.ref b), .val (.int (Int32.ofNat i)), .val (.ref d), .val (.int (Int32.ofNat i)), .val (.int (Int32.ofNat cs.length)), .val (.int (Int32.ofNat i)), .val (.int (cs.getD i 0))] [(.int (cs.getD i 0)), (.int (Int32.ofNat i)), (.ref d)])
      refine B (fun t kt => XT.i2b S.here S.hx rfl (hb hby u_c5_d30) rfl kt) ?_
      show F T (mkF m 31 #[.val (.ref b), .val (.int (Int32.ofNat i)), .val (.ref d), .val (.int (Int32.ofNat i)), .val (.int (Int32.ofNat cs.length)), .val (.int (Int32.ofNat i)), .val (.int (cs.getD i 0))] [(.int (cs.getD i 0).toInt8.toInt32), (.int (Int32.ofNat i)), (.ref d)])
      refine Sp.stB B S Vd (i := i) (own_in hi (by omega)) (own_cl _ (by omega)) (by omega) (own_nbs _) hd (hb hby u_c5_d31) fun T h1 S W Vd => ?_
      show F T (mkF m 32 #[.val (.ref b), .val (.int (Int32.ofNat i)), .val (.ref d), .val (.int (Int32.ofNat i)), .val (.int (Int32.ofNat cs.length)), .val (.int (Int32.ofNat i)), .val (.int (cs.getD i 0))] [])
      refine B (fun t kt => XS.iinc S.here S.hx rfl (hb hby u_c5_d32) rfl (l' := #[.val (.ref b), .val (.int ((Int32.ofNat i) + (1 : Int32))), .val (.ref d), .val (.int (Int32.ofNat i)), .val (.int (Int32.ofNat cs.length)), .val (.int (Int32.ofNat i)), .val (.int (cs.getD i 0))]) rfl kt) ?_
      show F T (mkF m 35 #[.val (.ref b), .val (.int ((Int32.ofNat i) + (1 : Int32))), .val (.ref d), .val (.int (Int32.ofNat i)), .val (.int (Int32.ofNat cs.length)), .val (.int (Int32.ofNat i)), .val (.int (cs.getD i 0))] [])
      refine B (fun t kt => XS.iinc S.here S.hx rfl (hb hby u_c5_d35) rfl (l' := #[.val (.ref b), .val (.int ((Int32.ofNat i) + (1 : Int32))), .val (.ref d), .val (.int ((Int32.ofNat i) + (1 : Int32))), .val (.int (Int32.ofNat cs.length)), .val (.int (Int32.ofNat i)), .val (.int (cs.getD i 0))]) rfl kt) ?_
      show F T (mkF m 38 #[.val (.ref b), .val (.int ((Int32.ofNat i) + (1 : Int32))), .val (.ref d), .val (.int ((Int32.ofNat i) + (1 : Int32))), .val (.int (Int32.ofNat cs.length)), .val (.int (Int32.ofNat i)), .val (.int (cs.getD i 0))] [])
      refine B (fun t kt => XS.iinc S.here S.hx rfl (hb hby u_c5_d38) rfl (l' := #[.val (.ref b), .val (.int ((Int32.ofNat i) + (1 : Int32))), .val (.ref d), .val (.int ((Int32.ofNat i) + (1 : Int32))), .val (.int (Int32.ofNat cs.length)), .val (.int ((Int32.ofNat i) + (1 : Int32))), .val (.int (cs.getD i 0))]) rfl kt) ?_
      show F T (mkF m 41 #[.val (.ref b), .val (.int ((Int32.ofNat i) + (1 : Int32))), .val (.ref d), .val (.int ((Int32.ofNat i) + (1 : Int32))), .val (.int (Int32.ofNat cs.length)), .val (.int ((Int32.ofNat i) + (1 : Int32))), .val (.int (cs.getD i 0))] [])
      refine B (fun t kt => XS.goto S.here S.hx rfl (pc0 := 41) (pc' := 3) rfl (hb hby u_c5_d41) (by decide) (by decide) kt) ?_
      show F T (mkF m 3 #[.val (.ref b), .val (.int ((Int32.ofNat i) + (1 : Int32))), .val (.ref d), .val (.int ((Int32.ofNat i) + (1 : Int32))), .val (.int (Int32.ofNat cs.length)), .val (.int ((Int32.ofNat i) + (1 : Int32))), .val (.int (cs.getD i 0))] [])
      rw [own_inc i]
      show F T (mkF m 3 #[.val (.ref b), .val (.int (Int32.ofNat (i + 1))), .val (.ref d), .val (.int (Int32.ofNat (i + 1))), .val (.int (Int32.ofNat cs.length)), .val (.int (Int32.ofNat (i + 1))), .val (.int (cs.getD i 0))] [])
      refine ih (i + 1) _ _ _ _ (by omega) ?_ (One.val rfl) (by rw [List.length_set]; exact hvl) S (Vb.other W hbd) Vd fun T' h' j L S' K2 g1 g2 => K T' h' j L S' ((Keep.of_wr W).trans K2 (fun x hx => Or.inl hx)) g1 g2
      obtain ⟨j, h1, h2, h3⟩ := hex
      exact ⟨j, Nat.lt_of_le_of_ne h1 (fun e => hc (e ▸ h3)), h2, h3⟩
theorem u_c5_ef (m : MethodId) (b d : Addr) (cs : List Int32) : entryFrame m #[(.ref b), (.int 0), (.ref d), (.int 0), (.int (Int32.ofNat cs.length))] 7 = mkF m 0 #[.val (.ref b), .val (.int 0), .val (.ref d), .val (.int 0), .val (.int (Int32.ofNat cs.length)), .unset, .unset] [] := by first | (simp [entryFrame, mkF, argsToLocals, Value.category]; done) | rfl
theorem u_c5_pn : plainFor (⟨"java/lang/StringUTF16", "compress", "([CI[BII)I"⟩ : MethodName) = true := by first | exact plainFor_of_name (by first | (simp [plainName, overriddenIn]; done) | decide +kernel) | decide +kernel
set_option maxRecDepth 65536 in
set_option maxHeartbeats 40000000 in
theorem u_c5 (l : Launch) (Z : State) (a0 : Array Value) (EL : List (String × Nat)) (hw : ∀ d ∈ tables_1, d.before a0 Z = true) (hEW : EW Z a0 EL) (h : Heap) (cs : List Int32) (hn : cs.length ≤ 8) (hex : ∃ j, 0 ≤ j ∧ j < cs.length ∧ (255 : Int32) < cs.getD j 0) (b d : Addr) (hbd : b ≠ d) (kb kd : ClassId) (dv : Value) (V : Arv Z h b kb .char (Int32.ofNat cs.length) (cs.map Value.int) dv) (vs : List Value) (hvl : vs.length = cs.length) (Vd : Arv Z h d kd .byte (Int32.ofNat cs.length) vs (.int 0)) :
    Con l Z EL (⟨"java/lang/StringUTF16", "compress", "([CI[BII)I"⟩ : MethodName) jdk_52_method_21_code 7 (some .int) ({ frames := 0, cells := 0, slots := 0, locals := 0 } : Room) #[(.ref b), (.int 0), (.ref d), (.int 0), (.int (Int32.ofNat cs.length))] h [d] (fun v h' nw => ∃ j, v = some (.int (Int32.ofNat j)) ∧ nw = [] ∧ Keep h h' [d] ∧ j < cs.length ∧ (255 : Int32) < cs.getD j 0) := by
  refine Con.of u_c5_pn hEW ?_
  intro p e s m below meth c T F B hF hby hml hr hlk hnm S
  rw [u_c5_ef]
  show F T (mkF m 0 #[.val (.ref b), .val (.int 0), .val (.ref d), .val (.int 0), .val (.int (Int32.ofNat cs.length)), .unset, .unset] [])
  refine B (fun t kt => XS.iconst S.here S.hx rfl (hb hby u_c5_d0) kt) ?_
  show F T (mkF m 1 #[.val (.ref b), .val (.int 0), .val (.ref d), .val (.int 0), .val (.int (Int32.ofNat cs.length)), .unset, .unset] [(.int (0 : Int32))])
  refine B (fun t kt => XS.istore S.here S.hx rfl (hb hby u_c5_d1) rfl (l' := #[.val (.ref b), .val (.int 0), .val (.ref d), .val (.int 0), .val (.int (Int32.ofNat cs.length)), .val (.int (0 : Int32)), .unset]) rfl kt) ?_
  show F T (mkF m 3 #[.val (.ref b), .val (.int 0), .val (.ref d), .val (.int 0), .val (.int (Int32.ofNat cs.length)), .val (.int (0 : Int32)), .unset] [])
  refine u_c5l B hby cs hn b d kb kd dv hbd (by simp) cs.length 0 .unset T _ vs (by omega) hex One.u hvl S V Vd fun T h2 j L S K g1 g2 => ?_
  exact hF (S.retI hr hlk (by simp) rfl (hb hby u_c5_d25) (nw := []) ⟨j, rfl, rfl, K, g1, g2⟩ (by simp))
theorem u_c3_d0 : decode jdk_52_method_16_code 0 = .ok (.iload_n 2, 1) := by decide +kernel
theorem u_c3_d1 : decode jdk_52_method_16_code 1 = .ok (.newarray .byte, 2) := by decide +kernel
theorem u_c3_d3 : decode jdk_52_method_16_code 3 = .ok (.astore_n 3, 1) := by decide +kernel
theorem u_c3_d4 : decode jdk_52_method_16_code 4 = .ok (.aload_n 0, 1) := by decide +kernel
theorem u_c3_d5 : decode jdk_52_method_16_code 5 = .ok (.iload_n 1, 1) := by decide +kernel
theorem u_c3_d6 : decode jdk_52_method_16_code 6 = .ok (.aload_n 3, 1) := by decide +kernel
theorem u_c3_d7 : decode jdk_52_method_16_code 7 = .ok (.iconst 0, 1) := by decide +kernel
theorem u_c3_d8 : decode jdk_52_method_16_code 8 = .ok (.iload_n 2, 1) := by decide +kernel
theorem u_c3_d9 : decode jdk_52_method_16_code 9 = .ok (.invokestatic 115, 3) := by decide +kernel
theorem u_c3_d12 : decode jdk_52_method_16_code 12 = .ok (.istore 4, 2) := by decide +kernel
theorem u_c3_d14 : decode jdk_52_method_16_code 14 = .ok (.iload 4, 2) := by decide +kernel
theorem u_c3_d16 : decode jdk_52_method_16_code 16 = .ok (.iload_n 2, 1) := by decide +kernel
theorem u_c3_d17 : decode jdk_52_method_16_code 17 = .ok (.if_icmp .eq 40, 3) := by decide +kernel
theorem u_c3_d20 : decode jdk_52_method_16_code 20 = .ok (.aload_n 0, 1) := by decide +kernel
theorem u_c3_d21 : decode jdk_52_method_16_code 21 = .ok (.iload_n 1, 1) := by decide +kernel
theorem u_c3_d22 : decode jdk_52_method_16_code 22 = .ok (.iload_n 2, 1) := by decide +kernel
theorem u_c3_d23 : decode jdk_52_method_16_code 23 = .ok (.invokestatic 119, 3) := by decide +kernel
theorem u_c3_d26 : decode jdk_52_method_16_code 26 = .ok (.astore 5, 2) := by decide +kernel
theorem u_c3_d28 : decode jdk_52_method_16_code 28 = .ok (.aload 5, 2) := by decide +kernel
theorem u_c3_d30 : decode jdk_52_method_16_code 30 = .ok (.iload 4, 2) := by decide +kernel
theorem u_c3_d32 : decode jdk_52_method_16_code 32 = .ok (.invokestatic 71, 3) := by decide +kernel
theorem u_c3_d35 : decode jdk_52_method_16_code 35 = .ok (.sipush 255, 3) := by decide +kernel
theorem u_c3_d38 : decode jdk_52_method_16_code 38 = .ok (.if_icmp .gt 16, 3) := by decide +kernel
theorem u_c3_d54 : decode jdk_52_method_16_code 54 = .ok (.aload 5, 2) := by decide +kernel
theorem u_c3_d56 : decode jdk_52_method_16_code 56 = .ok (.areturn, 1) := by decide +kernel
theorem u_c3_p71 : parseMethodDescriptor "([BI)C" = some ⟨[(.array .byte), .int], (some .char)⟩ := by decide +kernel
theorem u_c3_p115 : parseMethodDescriptor "([CI[BII)I" = some ⟨[(.array .char), .int, (.array .byte), .int, .int], (some .int)⟩ := by decide +kernel
theorem u_c3_p119 : parseMethodDescriptor "([CII)[B" = some ⟨[(.array .char), .int, .int], (some (.array .byte))⟩ := by decide +kernel
theorem u_c3_ef (m : MethodId) (b : Addr) (cs : List Int32) : entryFrame m #[(.ref b), (.int 0), (.int (Int32.ofNat cs.length))] 6 = mkF m 0 #[.val (.ref b), .val (.int 0), .val (.int (Int32.ofNat cs.length)), .unset, .unset, .unset] [] := by first | (simp [entryFrame, mkF, argsToLocals, Value.category]; done) | rfl
theorem u_c3_pn : plainFor (⟨"java/lang/StringUTF16", "compress", "([CII)[B"⟩ : MethodName) = true := by first | exact plainFor_of_name (by first | (simp [plainName, overriddenIn]; done) | decide +kernel) | decide +kernel
set_option maxRecDepth 65536 in
set_option maxHeartbeats 40000000 in
theorem u_c3 (l : Launch) (Z : State) (a0 : Array Value) (EL : List (String × Nat)) (hw : ∀ d ∈ tables_1, d.before a0 Z = true) (hEW : EW Z a0 EL) (h : Heap) (AD : Sta Z Z.heap "java/lang/StringUTF16" "$assertionsDisabled" "Z" (.int 1)) (HI : Sta Z Z.heap "java/lang/StringUTF16" "HI_BYTE_SHIFT" "I" (.int 0)) (LO : Sta Z Z.heap "java/lang/StringUTF16" "LO_BYTE_SHIFT" "I" (.int 8)) (cs : List Int32) (hn : cs.length ≤ 8) (hbd : ∀ c ∈ cs, ¬ c < 0 ∧ ¬ (65535 : Int32) < c) (hex : ∃ j, 0 ≤ j ∧ j < cs.length ∧ (255 : Int32) < cs.getD j 0) (b : Addr) (kb : ClassId) (dv : Value) (V : Arv Z h b kb .char (Int32.ofNat cs.length) (cs.map Value.int) dv) :
    Con l Z EL (⟨"java/lang/StringUTF16", "compress", "([CII)[B"⟩ : MethodName) jdk_52_method_16_code 6 (some (.array .byte)) ({ frames := 3, cells := 2, slots := 24, locals := 40 } : Room) #[(.ref b), (.int 0), (.int (Int32.ofNat cs.length))] h [] (fun v h' nw => ∃ u ku, v = some (.ref u) ∧ nw = [u] ∧ h.size ≤ u ∧ Keep h h' [] ∧ Arv Z h' u ku .byte (Int32.ofNat (2 * cs.length)) (StrChars.Road.wideBytes cs) (.int 0)) := by
  refine Con.of u_c3_pn hEW ?_
  intro p e s m below meth c T F B hF hby hml hr hlk hnm S
  rw [u_c3_ef]
  have lb := natlt V.lt
  have KK := Keep.refl h []
  show F T (mkF m 0 #[.val (.ref b), .val (.int 0), .val (.int (Int32.ofNat cs.length)), .unset, .unset, .unset] [])
  refine B (fun t kt => XS.iloadN S.here S.hx rfl (hb hby u_c3_d0) rfl kt) ?_
  show F T (mkF m 1 #[.val (.ref b), .val (.int 0), .val (.int (Int32.ofNat cs.length)), .unset, .unset, .unset] [(.int (Int32.ofNat cs.length))])
  refine Sp.newP B S (cap := 8) (hw _ (List.mem_of_getElem? (i := 24) rfl)) (hb hby u_c3_d1) (own_nn _ (by omega)) (by rw [own_cl _ (by omega)]; omega) (by decide) (by decide) (by decide) (ad := "[B") (by decide) fun T h1 d kd S E gd Xd Vd => ?_
  show F T (mkF m 3 #[.val (.ref b), .val (.int 0), .val (.int (Int32.ofNat cs.length)), .unset, .unset, .unset] [(.ref d)])
  replace V := V.ext E
  replace KK := KK.ext E
  replace Vd := Vd.pad (pad_rep [] (.int 0) cs.length)
  have ld := natlt Vd.lt
  refine B (fun t kt => XS.astoreN S.here S.hx rfl (hb hby u_c3_d3) rfl rfl (l' := #[.val (.ref b), .val (.int 0), .val (.int (Int32.ofNat cs.length)), .val (.ref d), .unset, .unset]) rfl kt) ?_
  show F T (mkF m 4 #[.val (.ref b), .val (.int 0), .val (.int (Int32.ofNat cs.length)), .val (.ref d), .unset, .unset] [])
  refine B (fun t kt => XS.aloadN S.here S.hx rfl (hb hby u_c3_d4) rfl rfl kt) ?_
  show F T (mkF m 5 #[.val (.ref b), .val (.int 0), .val (.int (Int32.ofNat cs.length)), .val (.ref d), .unset, .unset] [(.ref b)])
  refine B (fun t kt => XS.iloadN S.here S.hx rfl (hb hby u_c3_d5) rfl kt) ?_
  show F T (mkF m 6 #[.val (.ref b), .val (.int 0), .val (.int (Int32.ofNat cs.length)), .val (.ref d), .unset, .unset] [(.int 0), (.ref b)])
  refine B (fun t kt => XS.aloadN S.here S.hx rfl (hb hby u_c3_d6) rfl rfl kt) ?_
  show F T (mkF m 7 #[.val (.ref b), .val (.int 0), .val (.int (Int32.ofNat cs.length)), .val (.ref d), .unset, .unset] [(.ref d), (.int 0), (.ref b)])
  refine B (fun t kt => XS.iconst S.here S.hx rfl (hb hby u_c3_d7) kt) ?_
  show F T (mkF m 8 #[.val (.ref b), .val (.int 0), .val (.int (Int32.ofNat cs.length)), .val (.ref d), .unset, .unset] [(.int (0 : Int32)), (.ref d), (.int 0), (.ref b)])
  refine B (fun t kt => XS.iloadN S.here S.hx rfl (hb hby u_c3_d8) rfl kt) ?_
  show F T (mkF m 9 #[.val (.ref b), .val (.int 0), .val (.int (Int32.ofNat cs.length)), .val (.ref d), .unset, .unset] [(.int (Int32.ofNat cs.length)), (.int (0 : Int32)), (.ref d), (.int 0), (.ref b)])
  refine Sp.static B S (y := (⟨"java/lang/StringUTF16", "compress", "([CI[BII)I"⟩ : MethodName)) (argsL := [(.ref b), (.int 0), (.ref d), (.int (0 : Int32)), (.int (Int32.ofNat cs.length))]) (rest := []) (hw _ (List.mem_of_getElem? (i := 25) rfl)) (hw _ (List.mem_of_getElem? (i := 26) rfl)) (hw _ (List.mem_of_getElem? (i := 22) rfl)) (hw _ (List.mem_of_getElem? (i := 27) rfl)) (by decide) (Call.con (W := 0) (u_c5 l Z a0 EL hw hEW h1 cs hn hex b d (natne (by omega)) kb kd dv V _ (by simp) Vd) (hw _ (List.mem_of_getElem? (i := 27) rfl)) (hw _ (List.mem_of_getElem? (i := 22) rfl)) (by decide) (by decide)) (by simp) (by decide) (by decide) (by rw [hml]; rfl) (lenOf u_c3_p115 rfl) rfl (Nat.le_of_eq rfl) (hb hby u_c3_d9) fun v T h2 nw S hQ => ?_
  obtain ⟨j, rfl, rfl, K, hj, hjb⟩ := hQ
  replace V := V.keep K (nin1 (by omega))
  replace KK := KK.trans K (qk1 (by first | (refine Or.inl ?_; simp; done) | (refine Or.inr ?_; omega)))
  show F T (mkF m 12 #[.val (.ref b), .val (.int 0), .val (.int (Int32.ofNat cs.length)), .val (.ref d), .unset, .unset] [(.int (Int32.ofNat j))])
  refine B (fun t kt => XS.istore S.here S.hx rfl (hb hby u_c3_d12) rfl (l' := #[.val (.ref b), .val (.int 0), .val (.int (Int32.ofNat cs.length)), .val (.ref d), .val (.int (Int32.ofNat j)), .unset]) rfl kt) ?_
  show F T (mkF m 14 #[.val (.ref b), .val (.int 0), .val (.int (Int32.ofNat cs.length)), .val (.ref d), .val (.int (Int32.ofNat j)), .unset] [])
  refine B (fun t kt => XS.iload S.here S.hx rfl (hb hby u_c3_d14) rfl kt) ?_
  show F T (mkF m 16 #[.val (.ref b), .val (.int 0), .val (.int (Int32.ofNat cs.length)), .val (.ref d), .val (.int (Int32.ofNat j)), .unset] [(.int (Int32.ofNat j))])
  refine B (fun t kt => XS.iloadN S.here S.hx rfl (hb hby u_c3_d16) rfl kt) ?_
  show F T (mkF m 17 #[.val (.ref b), .val (.int 0), .val (.int (Int32.ofNat cs.length)), .val (.ref d), .val (.int (Int32.ofNat j)), .unset] [(.int (Int32.ofNat cs.length)), (.int (Int32.ofNat j))])
  refine B (fun t kt => XS.icmpNo S.here S.hx rfl (hb hby u_c3_d17) rfl (ii_eq_f (own_inj hj (by omega))) kt) ?_
  show F T (mkF m 20 #[.val (.ref b), .val (.int 0), .val (.int (Int32.ofNat cs.length)), .val (.ref d), .val (.int (Int32.ofNat j)), .unset] [])
  refine B (fun t kt => XS.aloadN S.here S.hx rfl (hb hby u_c3_d20) rfl rfl kt) ?_
  show F T (mkF m 21 #[.val (.ref b), .val (.int 0), .val (.int (Int32.ofNat cs.length)), .val (.ref d), .val (.int (Int32.ofNat j)), .unset] [(.ref b)])
  refine B (fun t kt => XS.iloadN S.here S.hx rfl (hb hby u_c3_d21) rfl kt) ?_
  show F T (mkF m 22 #[.val (.ref b), .val (.int 0), .val (.int (Int32.ofNat cs.length)), .val (.ref d), .val (.int (Int32.ofNat j)), .unset] [(.int 0), (.ref b)])
  refine B (fun t kt => XS.iloadN S.here S.hx rfl (hb hby u_c3_d22) rfl kt) ?_
  show F T (mkF m 23 #[.val (.ref b), .val (.int 0), .val (.int (Int32.ofNat cs.length)), .val (.ref d), .val (.int (Int32.ofNat j)), .unset] [(.int (Int32.ofNat cs.length)), (.int 0), (.ref b)])
  have gk := KK.1
  refine Sp.static B S (y := (⟨"java/lang/StringUTF16", "toBytes", "([CII)[B"⟩ : MethodName)) (argsL := [(.ref b), (.int 0), (.int (Int32.ofNat cs.length))]) (rest := []) (hw _ (List.mem_of_getElem? (i := 53) rfl)) (hw _ (List.mem_of_getElem? (i := 54) rfl)) (hw _ (List.mem_of_getElem? (i := 22) rfl)) (hw _ (List.mem_of_getElem? (i := 55) rfl)) (by decide) (Call.con (W := 0) (u_tb l Z a0 EL hw hEW h2 AD HI LO cs hn b kb dv V) (hw _ (List.mem_of_getElem? (i := 55) rfl)) (hw _ (List.mem_of_getElem? (i := 22) rfl)) (by decide) (by decide)) (by simp) (by decide) (by decide) (by rw [hml]; rfl) (lenOf u_c3_p119 rfl) rfl (Nat.le_of_eq rfl) (hb hby u_c3_d23) fun v T h3 nw S hQ => ?_
  obtain ⟨u, ku, rfl, rfl, gu, K, Vu⟩ := hQ
  replace KK := KK.trans K (fun x hx => nomatch hx)
  show F T (mkF m 26 #[.val (.ref b), .val (.int 0), .val (.int (Int32.ofNat cs.length)), .val (.ref d), .val (.int (Int32.ofNat j)), .unset] [(.ref u)])
  refine B (fun t kt => XS.astore S.here S.hx rfl (hb hby u_c3_d26) rfl rfl (l' := #[.val (.ref b), .val (.int 0), .val (.int (Int32.ofNat cs.length)), .val (.ref d), .val (.int (Int32.ofNat j)), .val (.ref u)]) rfl kt) ?_
  show F T (mkF m 28 #[.val (.ref b), .val (.int 0), .val (.int (Int32.ofNat cs.length)), .val (.ref d), .val (.int (Int32.ofNat j)), .val (.ref u)] [])
  refine B (fun t kt => XS.aload S.here S.hx rfl (hb hby u_c3_d28) rfl rfl kt) ?_
  show F T (mkF m 30 #[.val (.ref b), .val (.int 0), .val (.int (Int32.ofNat cs.length)), .val (.ref d), .val (.int (Int32.ofNat j)), .val (.ref u)] [(.ref u)])
  refine B (fun t kt => XS.iload S.here S.hx rfl (hb hby u_c3_d30) rfl kt) ?_
  show F T (mkF m 32 #[.val (.ref b), .val (.int 0), .val (.int (Int32.ofNat cs.length)), .val (.ref d), .val (.int (Int32.ofNat j)), .val (.ref u)] [(.int (Int32.ofNat j)), (.ref u)])
  have hg : cs.getD j 0 ∈ cs := by rw [List.getD_eq_getElem?_getD, List.getElem?_eq_getElem hj]; exact List.getElem_mem _
  refine Sp.static B S (y := (⟨"java/lang/StringUTF16", "getChar", "([BI)C"⟩ : MethodName)) (argsL := [(.ref u), (.int (Int32.ofNat j))]) (rest := []) (hw _ (List.mem_of_getElem? (i := 69) rfl)) (hw _ (List.mem_of_getElem? (i := 70) rfl)) (hw _ (List.mem_of_getElem? (i := 22) rfl)) (hw _ (List.mem_of_getElem? (i := 71) rfl)) (by decide) (Call.con (W := 0) (u_gc l Z a0 EL hw hEW h3 AD HI LO cs hn j hj (hbd _ hg) u ku Vu) (hw _ (List.mem_of_getElem? (i := 71) rfl)) (hw _ (List.mem_of_getElem? (i := 22) rfl)) (by decide) (by decide)) (by simp) (by decide) (by decide) (by rw [hml]; rfl) (lenOf u_c3_p71 rfl) rfl (Nat.le_of_eq rfl) (hb hby u_c3_d32) fun v T h4 nw S hQ => ?_
  obtain ⟨rfl, rfl, rfl⟩ := hQ
  show F T (mkF m 35 #[.val (.ref b), .val (.int 0), .val (.int (Int32.ofNat cs.length)), .val (.ref d), .val (.int (Int32.ofNat j)), .val (.ref u)] [(.int (cs.getD j 0))])
  refine B (fun t kt => XS.sipush S.here S.hx rfl (hb hby u_c3_d35) kt) ?_
  show F T (mkF m 38 #[.val (.ref b), .val (.int 0), .val (.int (Int32.ofNat cs.length)), .val (.ref d), .val (.int (Int32.ofNat j)), .val (.ref u)] [(.int (255 : Int32)), (.int (cs.getD j 0))])
  refine B (fun t kt => XS.icmpYes S.here S.hx rfl (pc0 := 38) (pc' := 54) rfl (hb hby u_c3_d38) rfl (ii_gt_t hjb) (by decide) (by decide) kt) ?_
  show F T (mkF m 54 #[.val (.ref b), .val (.int 0), .val (.int (Int32.ofNat cs.length)), .val (.ref d), .val (.int (Int32.ofNat j)), .val (.ref u)] [])
  refine B (fun t kt => XS.aload S.here S.hx rfl (hb hby u_c3_d54) rfl rfl kt) ?_
  show F T (mkF m 56 #[.val (.ref b), .val (.int 0), .val (.int (Int32.ofNat cs.length)), .val (.ref d), .val (.int (Int32.ofNat j)), .val (.ref u)] [(.ref u)])
  exact hF (S.retA hr hlk rfl rfl (hb hby u_c3_d56) (nw := [u]) ⟨u, ku, rfl, rfl, by omega, KK, Vu⟩ (by simp))
theorem u_cod_d0 : decode jdk_52_method_15_code 0 = .ok (.iload_n 1, 1) := by decide +kernel
theorem u_cod_d1 : decode jdk_52_method_15_code 1 = .ok (.aload_n 0, 1) := by decide +kernel
theorem u_cod_d2 : decode jdk_52_method_15_code 2 = .ok (.arraylength, 1) := by decide +kernel
theorem u_cod_d3 : decode jdk_52_method_15_code 3 = .ok (.isub, 1) := by decide +kernel
theorem u_cod_d4 : decode jdk_52_method_15_code 4 = .ok (.bipush 31, 2) := by decide +kernel
theorem u_cod_d6 : decode jdk_52_method_15_code 6 = .ok (.iushr, 1) := by decide +kernel
theorem u_cod_d7 : decode jdk_52_method_15_code 7 = .ok (.i2b, 1) := by decide +kernel
theorem u_cod_d8 : decode jdk_52_method_15_code 8 = .ok (.ireturn, 1) := by decide +kernel
theorem u_cod_ef (m : MethodId) (u : Addr) (n : Nat) : entryFrame m #[(.ref u), (.int (Int32.ofNat n))] 2 = mkF m 0 #[.val (.ref u), .val (.int (Int32.ofNat n))] [] := by first | (simp [entryFrame, mkF, argsToLocals, Value.category]; done) | rfl
theorem u_cod_pn : plainFor (⟨"java/lang/StringUTF16", "coderFromArrayLen", "([BI)B"⟩ : MethodName) = true := by first | exact plainFor_of_name (by first | (simp [plainName, overriddenIn]; done) | decide +kernel) | decide +kernel
set_option maxRecDepth 65536 in
set_option maxHeartbeats 40000000 in
theorem u_cod (l : Launch) (Z : State) (a0 : Array Value) (EL : List (String × Nat)) (hw : ∀ d ∈ tables_1, d.before a0 Z = true) (hEW : EW Z a0 EL) (h : Heap) (n : Nat) (h0 : 0 < n) (hn : n ≤ 8) (u : Addr) (ku : ClassId) (vs : List Value) (V : Arv Z h u ku .byte (Int32.ofNat (2 * n)) vs (.int 0)) :
    Con l Z EL (⟨"java/lang/StringUTF16", "coderFromArrayLen", "([BI)B"⟩ : MethodName) jdk_52_method_15_code 2 (some .byte) ({ frames := 0, cells := 0, slots := 0, locals := 0 } : Room) #[(.ref u), (.int (Int32.ofNat n))] h [] (fun v h' nw => v = some (.int 1) ∧ nw = [] ∧ h = h') := by
  refine Con.of u_cod_pn hEW ?_
  intro p e s m below meth c T F B hF hby hml hr hlk hnm S
  rw [u_cod_ef]
  show F T (mkF m 0 #[.val (.ref u), .val (.int (Int32.ofNat n))] [])
  refine B (fun t kt => XS.iloadN S.here S.hx rfl (hb hby u_cod_d0) rfl kt) ?_
  show F T (mkF m 1 #[.val (.ref u), .val (.int (Int32.ofNat n))] [(.int (Int32.ofNat n))])
  refine B (fun t kt => XS.aloadN S.here S.hx rfl (hb hby u_cod_d1) rfl rfl kt) ?_
  show F T (mkF m 2 #[.val (.ref u), .val (.int (Int32.ofNat n))] [(.ref u), (.int (Int32.ofNat n))])
  refine Sp.alen B S V (hb hby u_cod_d2) ?_
  show F T (mkF m 3 #[.val (.ref u), .val (.int (Int32.ofNat n))] [(.int (Int32.ofNat (2 * n))), (.int (Int32.ofNat n))])
  refine B (fun t kt => XS.isub S.here S.hx rfl (hb hby u_cod_d3) rfl kt) ?_
  show F T (mkF m 4 #[.val (.ref u), .val (.int (Int32.ofNat n))] [(.int ((Int32.ofNat n) - (Int32.ofNat (2 * n))))])
  refine B (fun t kt => XS.bipush S.here S.hx rfl (hb hby u_cod_d4) kt) ?_
  show F T (mkF m 6 #[.val (.ref u), .val (.int (Int32.ofNat n))] [(.int (31 : Int32)), (.int ((Int32.ofNat n) - (Int32.ofNat (2 * n))))])
  refine B (fun t kt => XT.iushr S.here S.hx rfl (hb hby u_cod_d6) rfl kt) ?_
  show F T (mkF m 7 #[.val (.ref u), .val (.int (Int32.ofNat n))] [(.int (((Int32.ofNat n) - (Int32.ofNat (2 * n))).toUInt32 >>> ((31 : Int32) &&& 31).toUInt32).toInt32)])
  refine B (fun t kt => XT.i2b S.here S.hx rfl (hb hby u_cod_d7) rfl kt) ?_
  show F T (mkF m 8 #[.val (.ref u), .val (.int (Int32.ofNat n))] [(.int (((Int32.ofNat n) - (Int32.ofNat (2 * n))).toUInt32 >>> ((31 : Int32) &&& 31).toUInt32).toInt32.toInt8.toInt32)])
  rw [own_cod n h0 hn]
  exact hF (S.retI hr hlk (by simp) (by decide) (hb hby u_cod_d8) (nw := []) ⟨rfl, rfl, rfl⟩ (by simp))
theorem u_n4_d0 : decode jdk_42_method_149_code 0 = .ok (.aload_n 0, 1) := by decide +kernel
theorem u_n4_d1 : decode jdk_42_method_149_code 1 = .ok (.invokespecial 1, 3) := by decide +kernel
theorem u_n4_d4 : decode jdk_42_method_149_code 4 = .ok (.iload_n 3, 1) := by decide +kernel
theorem u_n4_d5 : decode jdk_42_method_149_code 5 = .ok (.ifCond .ne 22, 3) := by decide +kernel
theorem u_n4_d27 : decode jdk_42_method_149_code 27 = .ok (.getstatic 38, 3) := by decide +kernel
theorem u_n4_d30 : decode jdk_42_method_149_code 30 = .ok (.ifCond .eq 28, 3) := by decide +kernel
theorem u_n4_d33 : decode jdk_42_method_149_code 33 = .ok (.aload_n 1, 1) := by decide +kernel
theorem u_n4_d34 : decode jdk_42_method_149_code 34 = .ok (.iload_n 2, 1) := by decide +kernel
theorem u_n4_d35 : decode jdk_42_method_149_code 35 = .ok (.iload_n 3, 1) := by decide +kernel
theorem u_n4_d36 : decode jdk_42_method_149_code 36 = .ok (.invokestatic 177, 3) := by decide +kernel
theorem u_n4_d39 : decode jdk_42_method_149_code 39 = .ok (.astore 5, 2) := by decide +kernel
theorem u_n4_d41 : decode jdk_42_method_149_code 41 = .ok (.aload_n 0, 1) := by decide +kernel
theorem u_n4_d42 : decode jdk_42_method_149_code 42 = .ok (.aload 5, 2) := by decide +kernel
theorem u_n4_d44 : decode jdk_42_method_149_code 44 = .ok (.iload_n 3, 1) := by decide +kernel
theorem u_n4_d45 : decode jdk_42_method_149_code 45 = .ok (.invokestatic 47, 3) := by decide +kernel
theorem u_n4_d48 : decode jdk_42_method_149_code 48 = .ok (.putfield 15, 3) := by decide +kernel
theorem u_n4_d51 : decode jdk_42_method_149_code 51 = .ok (.aload_n 0, 1) := by decide +kernel
theorem u_n4_d52 : decode jdk_42_method_149_code 52 = .ok (.aload 5, 2) := by decide +kernel
theorem u_n4_d54 : decode jdk_42_method_149_code 54 = .ok (.putfield 9, 3) := by decide +kernel
theorem u_n4_d57 : decode jdk_42_method_149_code 57 = .ok (.return_, 1) := by decide +kernel
theorem u_n4_p47 : parseMethodDescriptor "([BI)B" = some ⟨[(.array .byte), .int], (some .byte)⟩ := by decide +kernel
theorem u_n4_p177 : parseMethodDescriptor "([CII)[B" = some ⟨[(.array .char), .int, .int], (some (.array .byte))⟩ := by decide +kernel
theorem u_n4_ef (m : MethodId) (x b : Addr) (cs : List Int32) : entryFrame m #[(.ref x), (.ref b), (.int 0), (.int (Int32.ofNat cs.length)), (.null)] 6 = mkF m 0 #[.val (.ref x), .val (.ref b), .val (.int 0), .val (.int (Int32.ofNat cs.length)), .val (.null), .unset] [] := by first | (simp [entryFrame, mkF, argsToLocals, Value.category]; done) | rfl
theorem u_n4_pn : plainFor (⟨"java/lang/String", "<init>", "([CIILjava/lang/Void;)V"⟩ : MethodName) = true := by first | exact plainFor_of_name (by first | (simp [plainName, overriddenIn]; done) | decide +kernel) | decide +kernel
set_option maxRecDepth 65536 in
set_option maxHeartbeats 40000000 in
theorem u_n4 (l : Launch) (Z : State) (a0 : Array Value) (EL : List (String × Nat)) (hw : ∀ d ∈ tables_1, d.before a0 Z = true) (hEW : EW Z a0 EL) (h : Heap) (zc : Int32) (CS : Sta Z Z.heap "java/lang/String" "COMPACT_STRINGS" "Z" (.int zc)) (hzc : ¬ zc = 0) (AD : Sta Z Z.heap "java/lang/StringUTF16" "$assertionsDisabled" "Z" (.int 1)) (HI : Sta Z Z.heap "java/lang/StringUTF16" "HI_BYTE_SHIFT" "I" (.int 0)) (LO : Sta Z Z.heap "java/lang/StringUTF16" "LO_BYTE_SHIFT" "I" (.int 8)) (cs : List Int32) (hn : cs.length ≤ 8) (hbd : ∀ c ∈ cs, ¬ c < 0 ∧ ¬ (65535 : Int32) < c) (hex : ∃ j, 0 ≤ j ∧ j < cs.length ∧ (255 : Int32) < cs.getD j 0) (x b : Addr) (hxb : x ≠ b) (v0 c0 : Value) (O : Ob Z a0 h x "java/lang/String" [("java/lang/String", "value", "[B", v0), ("java/lang/String", "coder", "B", c0)]) (kb : ClassId) (dv : Value) (V : Arv Z h b kb .char (Int32.ofNat cs.length) (cs.map Value.int) dv) :
    Con l Z EL (⟨"java/lang/String", "<init>", "([CIILjava/lang/Void;)V"⟩ : MethodName) jdk_42_method_149_code 6 none ({ frames := 4, cells := 2, slots := 24, locals := 57 } : Room) #[(.ref x), (.ref b), (.int 0), (.int (Int32.ofNat cs.length)), (.null)] h [x] (fun v h' nw => v = none ∧ nw = [] ∧ Keep h h' [x] ∧ ∃ t kb, h.size ≤ t ∧ Ob Z a0 h' x "java/lang/String" [("java/lang/String", "value", "[B", (.ref t)), ("java/lang/String", "coder", "B", (.int 1))] ∧ Arv Z h' t kb .byte (Int32.ofNat (2 * cs.length)) (StrChars.Road.wideBytes cs) (.int 0)) := by
  refine Con.of u_n4_pn hEW ?_
  intro p e s m below meth c T F B hF hby hml hr hlk hnm S
  rw [u_n4_ef]
  have lx := natlt O.lt
  have h0 : 0 < cs.length := by obtain ⟨j, _, h2, _⟩ := hex; omega
  have KK := Keep.refl h [x]
  show F T (mkF m 0 #[.val (.ref x), .val (.ref b), .val (.int 0), .val (.int (Int32.ofNat cs.length)), .val (.null), .unset] [])
  refine B (fun t kt => XS.aloadN S.here S.hx rfl (hb hby u_n4_d0) rfl rfl kt) ?_
  show F T (mkF m 1 #[.val (.ref x), .val (.ref b), .val (.int 0), .val (.int (Int32.ofNat cs.length)), .val (.null), .unset] [(.ref x)])
  refine Sp.initO B S (hw _ (List.mem_of_getElem? (i := 16) rfl)) (hw _ (List.mem_of_getElem? (i := 17) rfl)) (hw _ (List.mem_of_getElem? (i := 18) rfl)) (by rw [hml]; rfl) (hb hby u_n4_d1) (by decide) (W := 0) (by decide) (by decide) fun T S => ?_
  show F T (mkF m 4 #[.val (.ref x), .val (.ref b), .val (.int 0), .val (.int (Int32.ofNat cs.length)), .val (.null), .unset] [])
  refine B (fun t kt => XS.iloadN S.here S.hx rfl (hb hby u_n4_d4) rfl kt) ?_
  show F T (mkF m 5 #[.val (.ref x), .val (.ref b), .val (.int 0), .val (.int (Int32.ofNat cs.length)), .val (.null), .unset] [(.int (Int32.ofNat cs.length))])
  refine B (fun t kt => XS.ifYes S.here S.hx rfl (pc0 := 5) (pc' := 27) rfl (hb hby u_n4_d5) rfl (i0_ne_t (fun e => own_inj h0 (by omega) e.symm)) (by decide) (by decide) kt) ?_
  show F T (mkF m 27 #[.val (.ref x), .val (.ref b), .val (.int 0), .val (.int (Int32.ofNat cs.length)), .val (.null), .unset] [])
  refine Sp.getS B S (hw _ (List.mem_of_getElem? (i := 19) rfl)) Via.refl CS (hb hby u_n4_d27) fun T S => ?_
  show F T (mkF m 30 #[.val (.ref x), .val (.ref b), .val (.int 0), .val (.int (Int32.ofNat cs.length)), .val (.null), .unset] [(.int zc)])
  refine B (fun t kt => XS.ifNo S.here S.hx rfl (hb hby u_n4_d30) rfl (i0_eq_f hzc) kt) ?_
  show F T (mkF m 33 #[.val (.ref x), .val (.ref b), .val (.int 0), .val (.int (Int32.ofNat cs.length)), .val (.null), .unset] [])
  refine B (fun t kt => XS.aloadN S.here S.hx rfl (hb hby u_n4_d33) rfl rfl kt) ?_
  show F T (mkF m 34 #[.val (.ref x), .val (.ref b), .val (.int 0), .val (.int (Int32.ofNat cs.length)), .val (.null), .unset] [(.ref b)])
  refine B (fun t kt => XS.iloadN S.here S.hx rfl (hb hby u_n4_d34) rfl kt) ?_
  show F T (mkF m 35 #[.val (.ref x), .val (.ref b), .val (.int 0), .val (.int (Int32.ofNat cs.length)), .val (.null), .unset] [(.int 0), (.ref b)])
  refine B (fun t kt => XS.iloadN S.here S.hx rfl (hb hby u_n4_d35) rfl kt) ?_
  show F T (mkF m 36 #[.val (.ref x), .val (.ref b), .val (.int 0), .val (.int (Int32.ofNat cs.length)), .val (.null), .unset] [(.int (Int32.ofNat cs.length)), (.int 0), (.ref b)])
  refine Sp.static B S (y := (⟨"java/lang/StringUTF16", "compress", "([CII)[B"⟩ : MethodName)) (argsL := [(.ref b), (.int 0), (.int (Int32.ofNat cs.length))]) (rest := []) (hw _ (List.mem_of_getElem? (i := 20) rfl)) (hw _ (List.mem_of_getElem? (i := 21) rfl)) (hw _ (List.mem_of_getElem? (i := 22) rfl)) (hw _ (List.mem_of_getElem? (i := 23) rfl)) (by decide) (Call.con (W := 0) (u_c3 l Z a0 EL hw hEW h AD HI LO cs hn hbd hex b kb dv V) (hw _ (List.mem_of_getElem? (i := 23) rfl)) (hw _ (List.mem_of_getElem? (i := 22) rfl)) (by decide) (by decide)) (by simp) (by decide) (by decide) (by rw [hml]; rfl) (lenOf u_n4_p177 rfl) rfl (Nat.le_of_eq rfl) (hb hby u_n4_d36) fun v T h1 nw S hQ => ?_
  obtain ⟨u, ku, rfl, rfl, gu, K, Vu⟩ := hQ
  replace O := O.keep K (by simp)
  replace KK := KK.trans K (fun x hx => nomatch hx)
  show F T (mkF m 39 #[.val (.ref x), .val (.ref b), .val (.int 0), .val (.int (Int32.ofNat cs.length)), .val (.null), .unset] [(.ref u)])
  refine B (fun t kt => XS.astore S.here S.hx rfl (hb hby u_n4_d39) rfl rfl (l' := #[.val (.ref x), .val (.ref b), .val (.int 0), .val (.int (Int32.ofNat cs.length)), .val (.null), .val (.ref u)]) rfl kt) ?_
  show F T (mkF m 41 #[.val (.ref x), .val (.ref b), .val (.int 0), .val (.int (Int32.ofNat cs.length)), .val (.null), .val (.ref u)] [])
  refine B (fun t kt => XS.aloadN S.here S.hx rfl (hb hby u_n4_d41) rfl rfl kt) ?_
  show F T (mkF m 42 #[.val (.ref x), .val (.ref b), .val (.int 0), .val (.int (Int32.ofNat cs.length)), .val (.null), .val (.ref u)] [(.ref x)])
  refine B (fun t kt => XS.aload S.here S.hx rfl (hb hby u_n4_d42) rfl rfl kt) ?_
  show F T (mkF m 44 #[.val (.ref x), .val (.ref b), .val (.int 0), .val (.int (Int32.ofNat cs.length)), .val (.null), .val (.ref u)] [(.ref u), (.ref x)])
  refine B (fun t kt => XS.iloadN S.here S.hx rfl (hb hby u_n4_d44) rfl kt) ?_
  show F T (mkF m 45 #[.val (.ref x), .val (.ref b), .val (.int 0), .val (.int (Int32.ofNat cs.length)), .val (.null), .val (.ref u)] [(.int (Int32.ofNat cs.length)), (.ref u), (.ref x)])
  refine Sp.static B S (y := (⟨"java/lang/StringUTF16", "coderFromArrayLen", "([BI)B"⟩ : MethodName)) (argsL := [(.ref u), (.int (Int32.ofNat cs.length))]) (rest := [(.ref x)]) (hw _ (List.mem_of_getElem? (i := 28) rfl)) (hw _ (List.mem_of_getElem? (i := 29) rfl)) (hw _ (List.mem_of_getElem? (i := 22) rfl)) (hw _ (List.mem_of_getElem? (i := 30) rfl)) (by decide) (Call.con (W := 1) (u_cod l Z a0 EL hw hEW h1 cs.length h0 hn u ku _ Vu) (hw _ (List.mem_of_getElem? (i := 30) rfl)) (hw _ (List.mem_of_getElem? (i := 22) rfl)) (by decide) (by decide)) (by simp) (by decide) (by decide) (by rw [hml]; rfl) (lenOf u_n4_p47 rfl) rfl (Nat.le_of_eq rfl) (hb hby u_n4_d45) fun v T h2 nw S hQ => ?_
  obtain ⟨rfl, rfl, rfl⟩ := hQ
  show F T (mkF m 48 #[.val (.ref x), .val (.ref b), .val (.int 0), .val (.int (Int32.ofNat cs.length)), .val (.null), .val (.ref u)] [(.int 1), (.ref x)])
  refine Sp.putO B S (hw _ (List.mem_of_getElem? (i := 31) rfl)) O (i := 1) rfl (ns := ["value", "coder"]) rfl (by decide) (Or.inr ⟨(hw _ (List.mem_of_getElem? (i := 32) rfl)), rfl, hnm⟩) (hw _ (List.mem_of_getElem? (i := 7) rfl)) (ty := .byte) (by decide) (v' := .int 1) rfl rfl (by simp) (hb hby u_n4_d48) fun T h3 S K O => ?_
  replace O : Ob Z a0 h3 x "java/lang/String" [("java/lang/String", "value", "[B", v0), ("java/lang/String", "coder", "B", (.int 1))] := O
  show F T (mkF m 51 #[.val (.ref x), .val (.ref b), .val (.int 0), .val (.int (Int32.ofNat cs.length)), .val (.null), .val (.ref u)] [])
  replace KK := KK.trans K (qk1 (by first | (refine Or.inl ?_; simp; done) | (refine Or.inr ?_; omega)))
  replace Vu := Vu.keep K (nin1 (by omega))
  refine B (fun t kt => XS.aloadN S.here S.hx rfl (hb hby u_n4_d51) rfl rfl kt) ?_
  show F T (mkF m 52 #[.val (.ref x), .val (.ref b), .val (.int 0), .val (.int (Int32.ofNat cs.length)), .val (.null), .val (.ref u)] [(.ref x)])
  refine B (fun t kt => XS.aload S.here S.hx rfl (hb hby u_n4_d52) rfl rfl kt) ?_
  show F T (mkF m 54 #[.val (.ref x), .val (.ref b), .val (.int 0), .val (.int (Int32.ofNat cs.length)), .val (.null), .val (.ref u)] [(.ref u), (.ref x)])
  refine Sp.putO B S (hw _ (List.mem_of_getElem? (i := 33) rfl)) O (i := 0) rfl (ns := ["value", "coder"]) rfl (by decide) (Or.inr ⟨(hw _ (List.mem_of_getElem? (i := 34) rfl)), rfl, hnm⟩) (hw _ (List.mem_of_getElem? (i := 7) rfl)) (ty := (.array .byte)) (by decide) (v' := .ref u) rfl rfl (by simp) (hb hby u_n4_d54) fun T h4 S K O => ?_
  replace O : Ob Z a0 h4 x "java/lang/String" [("java/lang/String", "value", "[B", (.ref u)), ("java/lang/String", "coder", "B", (.int 1))] := O
  show F T (mkF m 57 #[.val (.ref x), .val (.ref b), .val (.int 0), .val (.int (Int32.ofNat cs.length)), .val (.null), .val (.ref u)] [])
  replace KK := KK.trans K (qk1 (by first | (refine Or.inl ?_; simp; done) | (refine Or.inr ?_; omega)))
  replace Vu := Vu.keep K (nin1 (by omega))
  exact hF (S.ret hr hlk (hb hby u_n4_d57) (nw := []) ⟨rfl, rfl, KK, u, ku, gu, O, Vu⟩ (by simp))
theorem u_n1_d0 : decode jdk_42_method_3_code 0 = .ok (.aload_n 0, 1) := by decide +kernel
theorem u_n1_d1 : decode jdk_42_method_3_code 1 = .ok (.aload_n 1, 1) := by decide +kernel
theorem u_n1_d2 : decode jdk_42_method_3_code 2 = .ok (.iconst 0, 1) := by decide +kernel
theorem u_n1_d3 : decode jdk_42_method_3_code 3 = .ok (.aload_n 1, 1) := by decide +kernel
theorem u_n1_d4 : decode jdk_42_method_3_code 4 = .ok (.arraylength, 1) := by decide +kernel
theorem u_n1_d5 : decode jdk_42_method_3_code 5 = .ok (.aconst_null, 1) := by decide +kernel
theorem u_n1_d6 : decode jdk_42_method_3_code 6 = .ok (.invokespecial 27, 3) := by decide +kernel
theorem u_n1_d9 : decode jdk_42_method_3_code 9 = .ok (.return_, 1) := by decide +kernel
theorem u_n1_p27 : parseMethodDescriptor "([CIILjava/lang/Void;)V" = some ⟨[(.array .char), .int, .int, (.object "java/lang/Void")], none⟩ := by decide +kernel
theorem u_n1_ef (m : MethodId) (x b : Addr) : entryFrame m #[(.ref x), (.ref b)] 2 = mkF m 0 #[.val (.ref x), .val (.ref b)] [] := by first | (simp [entryFrame, mkF, argsToLocals, Value.category]; done) | rfl
theorem u_n1_pn : plainFor (⟨"java/lang/String", "<init>", "([C)V"⟩ : MethodName) = true := by first | exact plainFor_of_name (by first | (simp [plainName, overriddenIn]; done) | decide +kernel) | decide +kernel
set_option maxRecDepth 65536 in
set_option maxHeartbeats 40000000 in
theorem u_n1 (l : Launch) (Z : State) (a0 : Array Value) (EL : List (String × Nat)) (hw : ∀ d ∈ tables_1, d.before a0 Z = true) (hEW : EW Z a0 EL) (h : Heap) (zc : Int32) (CS : Sta Z Z.heap "java/lang/String" "COMPACT_STRINGS" "Z" (.int zc)) (hzc : ¬ zc = 0) (AD : Sta Z Z.heap "java/lang/StringUTF16" "$assertionsDisabled" "Z" (.int 1)) (HI : Sta Z Z.heap "java/lang/StringUTF16" "HI_BYTE_SHIFT" "I" (.int 0)) (LO : Sta Z Z.heap "java/lang/StringUTF16" "LO_BYTE_SHIFT" "I" (.int 8)) (cs : List Int32) (hn : cs.length ≤ 8) (hbd : ∀ c ∈ cs, ¬ c < 0 ∧ ¬ (65535 : Int32) < c) (hex : ∃ j, 0 ≤ j ∧ j < cs.length ∧ (255 : Int32) < cs.getD j 0) (x b : Addr) (hxb : x ≠ b) (v0 c0 : Value) (O : Ob Z a0 h x "java/lang/String" [("java/lang/String", "value", "[B", v0), ("java/lang/String", "coder", "B", c0)]) (kb : ClassId) (dv : Value) (V : Arv Z h b kb .char (Int32.ofNat cs.length) (cs.map Value.int) dv) :
    Con l Z EL (⟨"java/lang/String", "<init>", "([C)V"⟩ : MethodName) jdk_42_method_3_code 2 none ({ frames := 5, cells := 2, slots := 24, locals := 74 } : Room) #[(.ref x), (.ref b)] h [x] (fun v h' nw => v = none ∧ nw = [] ∧ Keep h h' [x] ∧ ∃ t kb, h.size ≤ t ∧ Ob Z a0 h' x "java/lang/String" [("java/lang/String", "value", "[B", (.ref t)), ("java/lang/String", "coder", "B", (.int 1))] ∧ Arv Z h' t kb .byte (Int32.ofNat (2 * cs.length)) (StrChars.Road.wideBytes cs) (.int 0)) := by
  refine Con.of u_n1_pn hEW ?_
  intro p e s m below meth c T F B hF hby hml hr hlk hnm S
  rw [u_n1_ef]
  show F T (mkF m 0 #[.val (.ref x), .val (.ref b)] [])
  refine B (fun t kt => XS.aloadN S.here S.hx rfl (hb hby u_n1_d0) rfl rfl kt) ?_
  show F T (mkF m 1 #[.val (.ref x), .val (.ref b)] [(.ref x)])
  refine B (fun t kt => XS.aloadN S.here S.hx rfl (hb hby u_n1_d1) rfl rfl kt) ?_
  show F T (mkF m 2 #[.val (.ref x), .val (.ref b)] [(.ref b), (.ref x)])
  refine B (fun t kt => XS.iconst S.here S.hx rfl (hb hby u_n1_d2) kt) ?_
  show F T (mkF m 3 #[.val (.ref x), .val (.ref b)] [(.int (0 : Int32)), (.ref b), (.ref x)])
  refine B (fun t kt => XS.aloadN S.here S.hx rfl (hb hby u_n1_d3) rfl rfl kt) ?_
  show F T (mkF m 4 #[.val (.ref x), .val (.ref b)] [(.ref b), (.int (0 : Int32)), (.ref b), (.ref x)])
  refine Sp.alen B S V (hb hby u_n1_d4) ?_
  show F T (mkF m 5 #[.val (.ref x), .val (.ref b)] [(.int (Int32.ofNat cs.length)), (.int (0 : Int32)), (.ref b), (.ref x)])
  refine B (fun t kt => XS.aconstNull S.here S.hx rfl (hb hby u_n1_d5) kt) ?_
  show F T (mkF m 6 #[.val (.ref x), .val (.ref b)] [(.null), (.int (Int32.ofNat cs.length)), (.int (0 : Int32)), (.ref b), (.ref x)])
  refine Sp.special B S (y := (⟨"java/lang/String", "<init>", "([CIILjava/lang/Void;)V"⟩ : MethodName)) (argsL := [(.ref b), (.int (0 : Int32)), (.int (Int32.ofNat cs.length)), (.null)]) (rest := []) rfl (hw _ (List.mem_of_getElem? (i := 12) rfl)) (hw _ (List.mem_of_getElem? (i := 13) rfl)) (hw _ (List.mem_of_getElem? (i := 15) rfl)) (by decide) (Call.con (W := 0) (u_n4 l Z a0 EL hw hEW h zc CS hzc AD HI LO cs hn hbd hex x b hxb v0 c0 O kb dv V) (hw _ (List.mem_of_getElem? (i := 15) rfl)) (hw _ (List.mem_of_getElem? (i := 8) rfl)) (by decide) (by decide)) (by simp) (by decide) (by decide) (by rw [hml]; rfl) (lenOf u_n1_p27 rfl) rfl (Nat.le_of_eq rfl) (hb hby u_n1_d6) fun v T h1 nw S hQ => ?_
  obtain ⟨rfl, rfl, KK, t, kt, gt, O, Vt⟩ := hQ
  show F T (mkF m 9 #[.val (.ref x), .val (.ref b)] [])
  exact hF (S.ret hr hlk (hb hby u_n1_d9) (nw := []) ⟨rfl, rfl, KK, t, kt, gt, O, Vt⟩ (by simp))
set_option maxRecDepth 65536 in
set_option maxHeartbeats 40000000 in
theorem own_new {p : Program} {l : Launch} {e : Env} {R : Room} {s : State} {args : Array Value} {below : List Frame} {W : Nat} (Z : State) (a0 : Array Value) (EL : List (String × Nat)) (hw : ∀ d ∈ tables_1, d.before a0 Z = true) (hEW : EW Z a0 EL) (h : Heap) (hS : ∀ d ∈ Bundle.stringAtoms, d.before a0 Z = true) (hmem : ("java/lang/String", 7) ∈ EL) (zc : Int32) (CS : Sta Z Z.heap "java/lang/String" "COMPACT_STRINGS" "Z" (.int zc)) (hzc : ¬ zc = 0) (AD : Sta Z Z.heap "java/lang/StringUTF16" "$assertionsDisabled" "Z" (.int 1)) (HI : Sta Z Z.heap "java/lang/StringUTF16" "HI_BYTE_SHIFT" "I" (.int 0)) (LO : Sta Z Z.heap "java/lang/StringUTF16" "LO_BYTE_SHIFT" "I" (.int 8)) (cs : List Int32) (hn : cs.length ≤ 8) (hbd : ∀ c ∈ cs, ¬ c < 0 ∧ ¬ (65535 : Int32) < c) (x b : Addr) (hxb : x ≠ b) (hx0 : Z.heap.size ≤ x) (hE : Ext Z.heap h) (v0 c0 : Value) (O : Ob Z a0 h x "java/lang/String" [("java/lang/String", "value", "[B", v0), ("java/lang/String", "coder", "B", c0)]) (kb : ClassId) (dv : Value) (V : Arv Z h b kb .char (Int32.ofNat cs.length) (cs.map Value.int) dv) (hfr : 6 ≤ R.frames) (hlo : W + 87 ≤ R.locals) :
    Call l R p e below s args Z a0 EL (⟨"java/lang/String", "<init>", "([C)V"⟩ : MethodName) 3 W #[.ref x, .ref b] h [x] 4 24 (fun v h' nw => v = none ∧ nw = [] ∧ Keep h h' [x] ∧ ∃ t, t ≠ x ∧ own_Str Z a0 h' x t cs) := by
  have hws : ∀ d ∈ StrChars.Road.words, d.before a0 Z = true := fun d hd => hw d ((by decide +kernel : ∀ d ∈ StrChars.Road.words, d ∈ tables_1) d hd)
  have lx := O.lt
  by_cases h0 : cs = []
  · subst h0
    refine Call.imp (Call.mono (Call.con (W := W) (e_n1 l Z a0 EL hw hEW h hS hmem x b v0 c0 O kb _ dv V) (hw _ (List.mem_of_getElem? (i := 11) rfl)) (hw _ (List.mem_of_getElem? (i := 8) rfl)) (by show 2 + 1 ≤ _; omega) (by show W + (2 + 11) + 29 ≤ _; omega)) (by decide) (by decide)) ?_
    rintro v h' nw ⟨rfl, rfl, K, t, kt, ne, O, Vt⟩
    exact ⟨rfl, rfl, K, t, ne, kt, 0, 0, [], O, Vt, Or.inl ⟨rfl, rfl, rfl, by simp⟩, by simp, by decide⟩
  have h1 : 0 < cs.length := List.length_pos_iff.mpr h0
  by_cases hlat : ∀ c ∈ cs, ¬ c < 0 ∧ ¬ (255 : Int32) < c
  · refine Call.imp (Call.mono (Call.back (ws := [x]) (kc := 1) (ks := cs.length) (by simp) (fun s' hZ => StrChars.Road.backArv (W := W) hZ hws (kI := 4) (hw _ (List.mem_of_getElem? (i := 7) rfl)) O.1 (O.f (i := 0) rfl) (O.f (i := 1) rfl) V (CS.ext hE) hzc (own_cl _ (by omega)) h1 (by omega) (fun c hc => (hlat c hc).2) (by omega) (by omega)) (Qb := fun v h' L => StrChars.Road.QA Z x (Int32.ofNat cs.length) cs h v h' L) (Q := fun v h' nw => (∃ L, StrChars.Road.QA Z x (Int32.ofNat cs.length) cs h v h' L) ∧ nw = []) (fun v h' L q => ⟨fun y hy => by rw [q.2.1 y hy]; exact hx0, q.2.2.1, [], ⟨⟨L, q⟩, rfl⟩, fun _ z => nomatch z⟩)) (by decide) (by omega)) ?_
    rintro v h' nw ⟨⟨L, q1, q2, q3, q4, q5, q6, q7, ⟨kt, -, Vt⟩, q9⟩, rfl⟩
    exact ⟨q1, rfl, q3, h.size, natne (by omega), kt, 0, _, _, ⟨q5, all_cons ⟨O.laid (i := 0) (x := ("java/lang/String", "value", "[B", v0)) rfl, ⟨_, (by decide : parseFieldDescriptor "[B" = some (.array .byte))⟩, q6⟩ (all_cons ⟨O.laid (i := 1) (x := ("java/lang/String", "coder", "B", c0)) rfl, ⟨_, (by decide : parseFieldDescriptor "B" = some .byte)⟩, q7⟩ all_nil)⟩, Vt, Or.inl ⟨rfl, rfl, rfl, fun c hc => (hlat c hc).2⟩, fun c hc => ⟨(hlat c hc).1, fun q => (hlat c hc).2 (Int32.lt_trans (by decide) q)⟩, by omega⟩
  have hex : ∃ j, 0 ≤ j ∧ j < cs.length ∧ (255 : Int32) < cs.getD j 0 := by
    refine Classical.byContradiction fun hno => hlat fun c hc => ⟨(hbd c hc).1, fun hb => hno ?_⟩
    obtain ⟨j, hj, rfl⟩ := List.getElem_of_mem hc
    exact ⟨j, Nat.zero_le _, hj, by rw [List.getD_eq_getElem?_getD, List.getElem?_eq_getElem hj]; exact hb⟩
  refine Call.imp (Call.mono (Call.con (W := W) (u_n1 l Z a0 EL hw hEW h zc CS hzc AD HI LO cs hn hbd hex x b hxb v0 c0 O kb dv V) (hw _ (List.mem_of_getElem? (i := 11) rfl)) (hw _ (List.mem_of_getElem? (i := 8) rfl)) (by show 5 + 1 ≤ _; omega) (by show W + (2 + 11) + 74 ≤ _; omega)) (by decide) (by decide)) ?_
  rintro v h' nw ⟨rfl, rfl, K, t, kt, gt, O, Vt⟩
  obtain ⟨j, -, hj, hjb⟩ := hex
  exact ⟨rfl, rfl, K, t, natne (by omega), kt, 1, _, _, O, Vt, Or.inr ⟨rfl, rfl, rfl, _, (by rw [List.getD_eq_getElem?_getD, List.getElem?_eq_getElem hj]; exact List.getElem_mem hj : cs.getD j 0 ∈ cs), hjb⟩, hbd, by omega⟩
theorem own_narc {c : Int32} (h : ¬ c < 0 ∧ ¬ (65535 : Int32) < c) : nar .char c = c := by
  have q := StrChars.narrow_ch h.1 h.2
  injection q
theorem mk0_d0 : decode method_3_code 0 = .ok (.iload_n 1, 1) := by decide +kernel
theorem mk0_d1 : decode method_3_code 1 = .ok (.ifCond .ne 14, 3) := by decide +kernel
theorem mk0_d4 : decode method_3_code 4 = .ok (.new 20, 3) := by decide +kernel
theorem mk0_d7 : decode method_3_code 7 = .ok (.dup, 1) := by decide +kernel
theorem mk0_d8 : decode method_3_code 8 = .ok (.iconst 0, 1) := by decide +kernel
theorem mk0_d9 : decode method_3_code 9 = .ok (.newarray .char, 2) := by decide +kernel
theorem mk0_d11 : decode method_3_code 11 = .ok (.invokespecial 22, 3) := by decide +kernel
theorem mk0_d14 : decode method_3_code 14 = .ok (.areturn, 1) := by decide +kernel
theorem mk0_p22 : parseMethodDescriptor "([C)V" = some ⟨[(.array .char)], none⟩ := by decide +kernel
theorem mk0_ef (m : MethodId) (b : Addr) : entryFrame m #[(.ref b), (.int 0)] 2 = mkF m 0 #[.val (.ref b), .val (.int 0)] [] := by first | (simp [entryFrame, mkF, argsToLocals, Value.category]; done) | rfl
theorem mk0_pn : plainFor (⟨"com/example/keywright/keywright/store/TokensReadsPinLaw", "make", "([CI)Ljava/lang/String;"⟩ : MethodName) = true := by first | exact plainFor_of_name (by first | (simp [plainName, overriddenIn]; done) | decide +kernel) | decide +kernel
set_option maxRecDepth 65536 in
set_option maxHeartbeats 40000000 in
theorem mk0 (l : Launch) (Z : State) (a0 : Array Value) (EL : List (String × Nat)) (hw : ∀ d ∈ tables_1, d.before a0 Z = true) (hEW : EW Z a0 EL) (h : Heap) (hS : ∀ d ∈ Bundle.stringAtoms, d.before a0 Z = true) (hmem : ("java/lang/String", 7) ∈ EL) (zc : Int32) (CS : Sta Z Z.heap "java/lang/String" "COMPACT_STRINGS" "Z" (.int zc)) (hzc : ¬ zc = 0) (AD : Sta Z Z.heap "java/lang/StringUTF16" "$assertionsDisabled" "Z" (.int 1)) (HI : Sta Z Z.heap "java/lang/StringUTF16" "HI_BYTE_SHIFT" "I" (.int 0)) (LO : Sta Z Z.heap "java/lang/StringUTF16" "LO_BYTE_SHIFT" "I" (.int 8)) (b : Addr) (kb : ClassId) (dv : Value) (c0 c1 c2 c3 c4 c5 c6 c7 : Int32) (hcs : ∀ q ∈ [c0, c1, c2, c3, c4, c5, c6, c7], ¬ q < 0 ∧ ¬ (65535 : Int32) < q) (V : Arv Z h b kb .char 8 [.int c0, .int c1, .int c2, .int c3, .int c4, .int c5, .int c6, .int c7] dv) :
    Con l Z EL (⟨"com/example/keywright/keywright/store/TokensReadsPinLaw", "make", "([CI)Ljava/lang/String;"⟩ : MethodName) method_3_code 2 (some (.object "java/lang/String")) ({ frames := 7, cells := 6, slots := 36, locals := 112 } : Room) #[(.ref b), (.int 0)] h [] (fun v h' nw => ∃ x t, v = some (.ref x) ∧ nw = [] ∧ Keep h h' [] ∧ own_Str Z a0 h' x t []) := by
  refine Con.of mk0_pn hEW ?_
  intro p e s m below meth c T F B hF hby hml hr hlk hnm S
  rw [mk0_ef]
  have lb := natlt V.lt
  have KK := Keep.refl h []
  show F T (mkF m 0 #[.val (.ref b), .val (.int 0)] [])
  refine B (fun t kt => XS.iloadN S.here S.hx rfl (hb hby mk0_d0) rfl kt) ?_
  show F T (mkF m 1 #[.val (.ref b), .val (.int 0)] [(.int 0)])
  refine B (fun t kt => XS.ifNo S.here S.hx rfl (hb hby mk0_d1) rfl (i0_ne_f rfl) kt) ?_
  show F T (mkF m 4 #[.val (.ref b), .val (.int 0)] [])
  refine Sp.newO B S (hw _ (List.mem_of_getElem? (i := 6) rfl)) (hw _ (List.mem_of_getElem? (i := 7) rfl)) (hw _ (List.mem_of_getElem? (i := 8) rfl)) (hb hby mk0_d4) (by decide) (by decide) fun T h1 x S E gx Ax D => ?_
  have O : Ob Z a0 h1 x "java/lang/String" [("java/lang/String", "value", "[B", .null), ("java/lang/String", "coder", "B", (.int 0))] := Ob.new Ax D [("java/lang/String", "value", "[B", (.array .byte)), ("java/lang/String", "coder", "B", .byte)] (all_cons ⟨(Or.inr (hw _ (List.mem_of_getElem? (i := 34) rfl))), by decide⟩ (all_cons ⟨(Or.inr (hw _ (List.mem_of_getElem? (i := 32) rfl))), by decide⟩ all_nil))
  show F T (mkF m 7 #[.val (.ref b), .val (.int 0)] [(.ref x)])
  replace V := V.ext E
  replace KK := KK.ext E
  have lx := natlt O.lt
  refine B (fun t kt => XS.dup S.here S.hx rfl (hb hby mk0_d7) rfl rfl kt) ?_
  show F T (mkF m 8 #[.val (.ref b), .val (.int 0)] [(.ref x), (.ref x)])
  refine B (fun t kt => XS.iconst S.here S.hx rfl (hb hby mk0_d8) kt) ?_
  show F T (mkF m 9 #[.val (.ref b), .val (.int 0)] [(.int (0 : Int32)), (.ref x), (.ref x)])
  refine Sp.newP B S (cap := 0) (hw _ (List.mem_of_getElem? (i := 0) rfl)) (hb hby mk0_d9) (by decide) (by decide) (by decide) (by decide) (by decide) (ad := "[C") (by decide) fun T h2 y ky S E gy Xy Vy => ?_
  show F T (mkF m 11 #[.val (.ref b), .val (.int 0)] [(.ref y), (.ref x), (.ref x)])
  replace V := V.ext E
  replace KK := KK.ext E
  replace O := O.ext E
  have ly := natlt Vy.lt
  refine Sp.special B S (y := (⟨"java/lang/String", "<init>", "([C)V"⟩ : MethodName)) (argsL := [(.ref y)]) (rest := [(.ref x)]) rfl (hw _ (List.mem_of_getElem? (i := 9) rfl)) (hw _ (List.mem_of_getElem? (i := 10) rfl)) (hw _ (List.mem_of_getElem? (i := 11) rfl)) (by decide) (own_new (W := 1) Z a0 EL hw hEW h2 hS hmem zc CS hzc AD HI LO [] (by show 0 ≤ 8; decide) (fun q hq => hcs q (List.mem_of_mem_take (i := 0) (l := [c0, c1, c2, c3, c4, c5, c6, c7]) hq)) x y (natne (by omega)) (S.isnew (by simp)) S.old _ _ O ky _ Vy (by decide) (by decide)) (by simp) (by decide) (by decide) (by rw [hml]; rfl) (lenOf mk0_p22 rfl) rfl (Nat.le_of_eq rfl) (hb hby mk0_d11) fun v T h3 nw S hQ => ?_
  obtain ⟨rfl, rfl, K, t, ne, G⟩ := hQ
  replace KK := KK.trans K (qk1 (by first | (refine Or.inl ?_; simp; done) | (refine Or.inr ?_; omega)))
  show F T (mkF m 14 #[.val (.ref b), .val (.int 0)] [(.ref x)])
  exact hF ((S.mono (by decide) (by decide)).retA hr hlk rfl rfl (hb hby mk0_d14) (nw := []) ⟨x, t, rfl, rfl, KK, G⟩ (by simp))
theorem mk1_d0 : decode method_3_code 0 = .ok (.iload_n 1, 1) := by decide +kernel
theorem mk1_d1 : decode method_3_code 1 = .ok (.ifCond .ne 14, 3) := by decide +kernel
theorem mk1_d15 : decode method_3_code 15 = .ok (.iload_n 1, 1) := by decide +kernel
theorem mk1_d16 : decode method_3_code 16 = .ok (.iconst 1, 1) := by decide +kernel
theorem mk1_d17 : decode method_3_code 17 = .ok (.if_icmp .ne 20, 3) := by decide +kernel
theorem mk1_d20 : decode method_3_code 20 = .ok (.new 20, 3) := by decide +kernel
theorem mk1_d23 : decode method_3_code 23 = .ok (.dup, 1) := by decide +kernel
theorem mk1_d24 : decode method_3_code 24 = .ok (.iconst 1, 1) := by decide +kernel
theorem mk1_d25 : decode method_3_code 25 = .ok (.newarray .char, 2) := by decide +kernel
theorem mk1_d27 : decode method_3_code 27 = .ok (.dup, 1) := by decide +kernel
theorem mk1_d28 : decode method_3_code 28 = .ok (.iconst 0, 1) := by decide +kernel
theorem mk1_d29 : decode method_3_code 29 = .ok (.aload_n 0, 1) := by decide +kernel
theorem mk1_d30 : decode method_3_code 30 = .ok (.iconst 0, 1) := by decide +kernel
theorem mk1_d31 : decode method_3_code 31 = .ok (.caload, 1) := by decide +kernel
theorem mk1_d32 : decode method_3_code 32 = .ok (.castore, 1) := by decide +kernel
theorem mk1_d33 : decode method_3_code 33 = .ok (.invokespecial 22, 3) := by decide +kernel
theorem mk1_d36 : decode method_3_code 36 = .ok (.areturn, 1) := by decide +kernel
theorem mk1_p22 : parseMethodDescriptor "([C)V" = some ⟨[(.array .char)], none⟩ := by decide +kernel
theorem mk1_ef (m : MethodId) (b : Addr) : entryFrame m #[(.ref b), (.int 1)] 2 = mkF m 0 #[.val (.ref b), .val (.int 1)] [] := by first | (simp [entryFrame, mkF, argsToLocals, Value.category]; done) | rfl
theorem mk1_pn : plainFor (⟨"com/example/keywright/keywright/store/TokensReadsPinLaw", "make", "([CI)Ljava/lang/String;"⟩ : MethodName) = true := by first | exact plainFor_of_name (by first | (simp [plainName, overriddenIn]; done) | decide +kernel) | decide +kernel
set_option maxRecDepth 65536 in
set_option maxHeartbeats 40000000 in
theorem mk1 (l : Launch) (Z : State) (a0 : Array Value) (EL : List (String × Nat)) (hw : ∀ d ∈ tables_1, d.before a0 Z = true) (hEW : EW Z a0 EL) (h : Heap) (hS : ∀ d ∈ Bundle.stringAtoms, d.before a0 Z = true) (hmem : ("java/lang/String", 7) ∈ EL) (zc : Int32) (CS : Sta Z Z.heap "java/lang/String" "COMPACT_STRINGS" "Z" (.int zc)) (hzc : ¬ zc = 0) (AD : Sta Z Z.heap "java/lang/StringUTF16" "$assertionsDisabled" "Z" (.int 1)) (HI : Sta Z Z.heap "java/lang/StringUTF16" "HI_BYTE_SHIFT" "I" (.int 0)) (LO : Sta Z Z.heap "java/lang/StringUTF16" "LO_BYTE_SHIFT" "I" (.int 8)) (b : Addr) (kb : ClassId) (dv : Value) (c0 c1 c2 c3 c4 c5 c6 c7 : Int32) (hcs : ∀ q ∈ [c0, c1, c2, c3, c4, c5, c6, c7], ¬ q < 0 ∧ ¬ (65535 : Int32) < q) (V : Arv Z h b kb .char 8 [.int c0, .int c1, .int c2, .int c3, .int c4, .int c5, .int c6, .int c7] dv) :
    Con l Z EL (⟨"com/example/keywright/keywright/store/TokensReadsPinLaw", "make", "([CI)Ljava/lang/String;"⟩ : MethodName) method_3_code 2 (some (.object "java/lang/String")) ({ frames := 7, cells := 6, slots := 36, locals := 112 } : Room) #[(.ref b), (.int 1)] h [] (fun v h' nw => ∃ x t, v = some (.ref x) ∧ nw = [] ∧ Keep h h' [] ∧ own_Str Z a0 h' x t [c0]) := by
  refine Con.of mk1_pn hEW ?_
  intro p e s m below meth c T F B hF hby hml hr hlk hnm S
  rw [mk1_ef]
  have lb := natlt V.lt
  have KK := Keep.refl h []
  show F T (mkF m 0 #[.val (.ref b), .val (.int 1)] [])
  refine B (fun t kt => XS.iloadN S.here S.hx rfl (hb hby mk1_d0) rfl kt) ?_
  show F T (mkF m 1 #[.val (.ref b), .val (.int 1)] [(.int 1)])
  refine B (fun t kt => XS.ifYes S.here S.hx rfl (pc0 := 1) (pc' := 15) rfl (hb hby mk1_d1) rfl (i0_ne_t (by decide)) (by decide) (by decide) kt) ?_
  show F T (mkF m 15 #[.val (.ref b), .val (.int 1)] [])
  refine B (fun t kt => XS.iloadN S.here S.hx rfl (hb hby mk1_d15) rfl kt) ?_
  show F T (mkF m 16 #[.val (.ref b), .val (.int 1)] [(.int 1)])
  refine B (fun t kt => XS.iconst S.here S.hx rfl (hb hby mk1_d16) kt) ?_
  show F T (mkF m 17 #[.val (.ref b), .val (.int 1)] [(.int (1 : Int32)), (.int 1)])
  refine B (fun t kt => XS.icmpNo S.here S.hx rfl (hb hby mk1_d17) rfl (ii_ne_f rfl) kt) ?_
  show F T (mkF m 20 #[.val (.ref b), .val (.int 1)] [])
  refine Sp.newO B S (hw _ (List.mem_of_getElem? (i := 6) rfl)) (hw _ (List.mem_of_getElem? (i := 7) rfl)) (hw _ (List.mem_of_getElem? (i := 8) rfl)) (hb hby mk1_d20) (by decide) (by decide) fun T h1 x S E gx Ax D => ?_
  have O : Ob Z a0 h1 x "java/lang/String" [("java/lang/String", "value", "[B", .null), ("java/lang/String", "coder", "B", (.int 0))] := Ob.new Ax D [("java/lang/String", "value", "[B", (.array .byte)), ("java/lang/String", "coder", "B", .byte)] (all_cons ⟨(Or.inr (hw _ (List.mem_of_getElem? (i := 34) rfl))), by decide⟩ (all_cons ⟨(Or.inr (hw _ (List.mem_of_getElem? (i := 32) rfl))), by decide⟩ all_nil))
  show F T (mkF m 23 #[.val (.ref b), .val (.int 1)] [(.ref x)])
  replace V := V.ext E
  replace KK := KK.ext E
  have lx := natlt O.lt
  refine B (fun t kt => XS.dup S.here S.hx rfl (hb hby mk1_d23) rfl rfl kt) ?_
  show F T (mkF m 24 #[.val (.ref b), .val (.int 1)] [(.ref x), (.ref x)])
  refine B (fun t kt => XS.iconst S.here S.hx rfl (hb hby mk1_d24) kt) ?_
  show F T (mkF m 25 #[.val (.ref b), .val (.int 1)] [(.int (1 : Int32)), (.ref x), (.ref x)])
  refine Sp.newP B S (cap := 1) (hw _ (List.mem_of_getElem? (i := 0) rfl)) (hb hby mk1_d25) (by decide) (by decide) (by decide) (by decide) (by decide) (ad := "[C") (by decide) fun T h2 y ky S E gy Xy Vy => ?_
  show F T (mkF m 27 #[.val (.ref b), .val (.int 1)] [(.ref y), (.ref x), (.ref x)])
  replace V := V.ext E
  replace KK := KK.ext E
  replace O := O.ext E
  have ly := natlt Vy.lt
  replace Vy : Arv Z h2 y ky .char 1 [.int 0] (.int 0) := Vy.pad (pad_rep [] (.int 0) 1)
  refine B (fun t kt => XS.dup S.here S.hx rfl (hb hby mk1_d27) rfl rfl kt) ?_
  show F T (mkF m 28 #[.val (.ref b), .val (.int 1)] [(.ref y), (.ref y), (.ref x), (.ref x)])
  refine B (fun t kt => XS.iconst S.here S.hx rfl (hb hby mk1_d28) kt) ?_
  show F T (mkF m 29 #[.val (.ref b), .val (.int 1)] [(.int (0 : Int32)), (.ref y), (.ref y), (.ref x), (.ref x)])
  refine B (fun t kt => XS.aloadN S.here S.hx rfl (hb hby mk1_d29) rfl rfl kt) ?_
  show F T (mkF m 30 #[.val (.ref b), .val (.int 1)] [(.ref b), (.int (0 : Int32)), (.ref y), (.ref y), (.ref x), (.ref x)])
  refine B (fun t kt => XS.iconst S.here S.hx rfl (hb hby mk1_d30) kt) ?_
  show F T (mkF m 31 #[.val (.ref b), .val (.int 1)] [(.int (0 : Int32)), (.ref b), (.int (0 : Int32)), (.ref y), (.ref y), (.ref x), (.ref x)])
  refine Sp.cald B S V (by decide) (by rfl) (hb hby mk1_d31) ?_
  show F T (mkF m 32 #[.val (.ref b), .val (.int 1)] [(.int c0), (.int (0 : Int32)), (.ref y), (.ref y), (.ref x), (.ref x)])
  refine Sp.stC B S Vy (i := 0) (by decide) (by decide) (by simp) (own_narc (hcs c0 (by simp))) (by simp) (hb hby mk1_d32) fun T h3 S W Vy => ?_
  replace Vy : Arv Z h3 y ky .char 1 [.int c0] (.int 0) := Vy
  replace KK := KK.wr W (Or.inr (by omega))
  replace V := V.other W (natne (by omega))
  replace O := O.other W (natne (by omega))
  show F T (mkF m 33 #[.val (.ref b), .val (.int 1)] [(.ref y), (.ref x), (.ref x)])
  refine Sp.special B S (y := (⟨"java/lang/String", "<init>", "([C)V"⟩ : MethodName)) (argsL := [(.ref y)]) (rest := [(.ref x)]) rfl (hw _ (List.mem_of_getElem? (i := 9) rfl)) (hw _ (List.mem_of_getElem? (i := 10) rfl)) (hw _ (List.mem_of_getElem? (i := 11) rfl)) (by decide) (own_new (W := 1) Z a0 EL hw hEW h3 hS hmem zc CS hzc AD HI LO [c0] (by show 1 ≤ 8; decide) (fun q hq => hcs q (List.mem_of_mem_take (i := 1) (l := [c0, c1, c2, c3, c4, c5, c6, c7]) hq)) x y (natne (by omega)) (S.isnew (by simp)) S.old _ _ O ky _ Vy (by decide) (by decide)) (by simp) (by decide) (by decide) (by rw [hml]; rfl) (lenOf mk1_p22 rfl) rfl (Nat.le_of_eq rfl) (hb hby mk1_d33) fun v T h4 nw S hQ => ?_
  obtain ⟨rfl, rfl, K, t, ne, G⟩ := hQ
  replace KK := KK.trans K (qk1 (by first | (refine Or.inl ?_; simp; done) | (refine Or.inr ?_; omega)))
  show F T (mkF m 36 #[.val (.ref b), .val (.int 1)] [(.ref x)])
  exact hF ((S.mono (by decide) (by decide)).retA hr hlk rfl rfl (hb hby mk1_d36) (nw := []) ⟨x, t, rfl, rfl, KK, G⟩ (by simp))
theorem mk2_d0 : decode method_3_code 0 = .ok (.iload_n 1, 1) := by decide +kernel
theorem mk2_d1 : decode method_3_code 1 = .ok (.ifCond .ne 14, 3) := by decide +kernel
theorem mk2_d15 : decode method_3_code 15 = .ok (.iload_n 1, 1) := by decide +kernel
theorem mk2_d16 : decode method_3_code 16 = .ok (.iconst 1, 1) := by decide +kernel
theorem mk2_d17 : decode method_3_code 17 = .ok (.if_icmp .ne 20, 3) := by decide +kernel
theorem mk2_d37 : decode method_3_code 37 = .ok (.iload_n 1, 1) := by decide +kernel
theorem mk2_d38 : decode method_3_code 38 = .ok (.iconst 2, 1) := by decide +kernel
theorem mk2_d39 : decode method_3_code 39 = .ok (.if_icmp .ne 26, 3) := by decide +kernel
theorem mk2_d42 : decode method_3_code 42 = .ok (.new 20, 3) := by decide +kernel
theorem mk2_d45 : decode method_3_code 45 = .ok (.dup, 1) := by decide +kernel
theorem mk2_d46 : decode method_3_code 46 = .ok (.iconst 2, 1) := by decide +kernel
theorem mk2_d47 : decode method_3_code 47 = .ok (.newarray .char, 2) := by decide +kernel
theorem mk2_d49 : decode method_3_code 49 = .ok (.dup, 1) := by decide +kernel
theorem mk2_d50 : decode method_3_code 50 = .ok (.iconst 0, 1) := by decide +kernel
theorem mk2_d51 : decode method_3_code 51 = .ok (.aload_n 0, 1) := by decide +kernel
theorem mk2_d52 : decode method_3_code 52 = .ok (.iconst 0, 1) := by decide +kernel
theorem mk2_d53 : decode method_3_code 53 = .ok (.caload, 1) := by decide +kernel
theorem mk2_d54 : decode method_3_code 54 = .ok (.castore, 1) := by decide +kernel
theorem mk2_d55 : decode method_3_code 55 = .ok (.dup, 1) := by decide +kernel
theorem mk2_d56 : decode method_3_code 56 = .ok (.iconst 1, 1) := by decide +kernel
theorem mk2_d57 : decode method_3_code 57 = .ok (.aload_n 0, 1) := by decide +kernel
theorem mk2_d58 : decode method_3_code 58 = .ok (.iconst 1, 1) := by decide +kernel
theorem mk2_d59 : decode method_3_code 59 = .ok (.caload, 1) := by decide +kernel
theorem mk2_d60 : decode method_3_code 60 = .ok (.castore, 1) := by decide +kernel
theorem mk2_d61 : decode method_3_code 61 = .ok (.invokespecial 22, 3) := by decide +kernel
theorem mk2_d64 : decode method_3_code 64 = .ok (.areturn, 1) := by decide +kernel
theorem mk2_p22 : parseMethodDescriptor "([C)V" = some ⟨[(.array .char)], none⟩ := by decide +kernel
theorem mk2_ef (m : MethodId) (b : Addr) : entryFrame m #[(.ref b), (.int 2)] 2 = mkF m 0 #[.val (.ref b), .val (.int 2)] [] := by first | (simp [entryFrame, mkF, argsToLocals, Value.category]; done) | rfl
theorem mk2_pn : plainFor (⟨"com/example/keywright/keywright/store/TokensReadsPinLaw", "make", "([CI)Ljava/lang/String;"⟩ : MethodName) = true := by first | exact plainFor_of_name (by first | (simp [plainName, overriddenIn]; done) | decide +kernel) | decide +kernel
set_option maxRecDepth 65536 in
set_option maxHeartbeats 40000000 in
theorem mk2 (l : Launch) (Z : State) (a0 : Array Value) (EL : List (String × Nat)) (hw : ∀ d ∈ tables_1, d.before a0 Z = true) (hEW : EW Z a0 EL) (h : Heap) (hS : ∀ d ∈ Bundle.stringAtoms, d.before a0 Z = true) (hmem : ("java/lang/String", 7) ∈ EL) (zc : Int32) (CS : Sta Z Z.heap "java/lang/String" "COMPACT_STRINGS" "Z" (.int zc)) (hzc : ¬ zc = 0) (AD : Sta Z Z.heap "java/lang/StringUTF16" "$assertionsDisabled" "Z" (.int 1)) (HI : Sta Z Z.heap "java/lang/StringUTF16" "HI_BYTE_SHIFT" "I" (.int 0)) (LO : Sta Z Z.heap "java/lang/StringUTF16" "LO_BYTE_SHIFT" "I" (.int 8)) (b : Addr) (kb : ClassId) (dv : Value) (c0 c1 c2 c3 c4 c5 c6 c7 : Int32) (hcs : ∀ q ∈ [c0, c1, c2, c3, c4, c5, c6, c7], ¬ q < 0 ∧ ¬ (65535 : Int32) < q) (V : Arv Z h b kb .char 8 [.int c0, .int c1, .int c2, .int c3, .int c4, .int c5, .int c6, .int c7] dv) :
    Con l Z EL (⟨"com/example/keywright/keywright/store/TokensReadsPinLaw", "make", "([CI)Ljava/lang/String;"⟩ : MethodName) method_3_code 2 (some (.object "java/lang/String")) ({ frames := 7, cells := 6, slots := 36, locals := 112 } : Room) #[(.ref b), (.int 2)] h [] (fun v h' nw => ∃ x t, v = some (.ref x) ∧ nw = [] ∧ Keep h h' [] ∧ own_Str Z a0 h' x t [c0, c1]) := by
  refine Con.of mk2_pn hEW ?_
  intro p e s m below meth c T F B hF hby hml hr hlk hnm S
  rw [mk2_ef]
  have lb := natlt V.lt
  have KK := Keep.refl h []
  show F T (mkF m 0 #[.val (.ref b), .val (.int 2)] [])
  refine B (fun t kt => XS.iloadN S.here S.hx rfl (hb hby mk2_d0) rfl kt) ?_
  show F T (mkF m 1 #[.val (.ref b), .val (.int 2)] [(.int 2)])
  refine B (fun t kt => XS.ifYes S.here S.hx rfl (pc0 := 1) (pc' := 15) rfl (hb hby mk2_d1) rfl (i0_ne_t (by decide)) (by decide) (by decide) kt) ?_
  show F T (mkF m 15 #[.val (.ref b), .val (.int 2)] [])
  refine B (fun t kt => XS.iloadN S.here S.hx rfl (hb hby mk2_d15) rfl kt) ?_
  show F T (mkF m 16 #[.val (.ref b), .val (.int 2)] [(.int 2)])
  refine B (fun t kt => XS.iconst S.here S.hx rfl (hb hby mk2_d16) kt) ?_
  show F T (mkF m 17 #[.val (.ref b), .val (.int 2)] [(.int (1 : Int32)), (.int 2)])
  refine B (fun t kt => XS.icmpYes S.here S.hx rfl (pc0 := 17) (pc' := 37) rfl (hb hby mk2_d17) rfl (ii_ne_t (by decide)) (by decide) (by decide) kt) ?_
  show F T (mkF m 37 #[.val (.ref b), .val (.int 2)] [])
  refine B (fun t kt => XS.iloadN S.here S.hx rfl (hb hby mk2_d37) rfl kt) ?_
  show F T (mkF m 38 #[.val (.ref b), .val (.int 2)] [(.int 2)])
  refine B (fun t kt => XS.iconst S.here S.hx rfl (hb hby mk2_d38) kt) ?_
  show F T (mkF m 39 #[.val (.ref b), .val (.int 2)] [(.int (2 : Int32)), (.int 2)])
  refine B (fun t kt => XS.icmpNo S.here S.hx rfl (hb hby mk2_d39) rfl (ii_ne_f rfl) kt) ?_
  show F T (mkF m 42 #[.val (.ref b), .val (.int 2)] [])
  refine Sp.newO B S (hw _ (List.mem_of_getElem? (i := 6) rfl)) (hw _ (List.mem_of_getElem? (i := 7) rfl)) (hw _ (List.mem_of_getElem? (i := 8) rfl)) (hb hby mk2_d42) (by decide) (by decide) fun T h1 x S E gx Ax D => ?_
  have O : Ob Z a0 h1 x "java/lang/String" [("java/lang/String", "value", "[B", .null), ("java/lang/String", "coder", "B", (.int 0))] := Ob.new Ax D [("java/lang/String", "value", "[B", (.array .byte)), ("java/lang/String", "coder", "B", .byte)] (all_cons ⟨(Or.inr (hw _ (List.mem_of_getElem? (i := 34) rfl))), by decide⟩ (all_cons ⟨(Or.inr (hw _ (List.mem_of_getElem? (i := 32) rfl))), by decide⟩ all_nil))
  show F T (mkF m 45 #[.val (.ref b), .val (.int 2)] [(.ref x)])
  replace V := V.ext E
  replace KK := KK.ext E
  have lx := natlt O.lt
  refine B (fun t kt => XS.dup S.here S.hx rfl (hb hby mk2_d45) rfl rfl kt) ?_
  show F T (mkF m 46 #[.val (.ref b), .val (.int 2)] [(.ref x), (.ref x)])
  refine B (fun t kt => XS.iconst S.here S.hx rfl (hb hby mk2_d46) kt) ?_
  show F T (mkF m 47 #[.val (.ref b), .val (.int 2)] [(.int (2 : Int32)), (.ref x), (.ref x)])
  refine Sp.newP B S (cap := 2) (hw _ (List.mem_of_getElem? (i := 0) rfl)) (hb hby mk2_d47) (by decide) (by decide) (by decide) (by decide) (by decide) (ad := "[C") (by decide) fun T h2 y ky S E gy Xy Vy => ?_
  show F T (mkF m 49 #[.val (.ref b), .val (.int 2)] [(.ref y), (.ref x), (.ref x)])
  replace V := V.ext E
  replace KK := KK.ext E
  replace O := O.ext E
  have ly := natlt Vy.lt
  replace Vy : Arv Z h2 y ky .char 2 [.int 0, .int 0] (.int 0) := Vy.pad (pad_rep [] (.int 0) 2)
  refine B (fun t kt => XS.dup S.here S.hx rfl (hb hby mk2_d49) rfl rfl kt) ?_
  show F T (mkF m 50 #[.val (.ref b), .val (.int 2)] [(.ref y), (.ref y), (.ref x), (.ref x)])
  refine B (fun t kt => XS.iconst S.here S.hx rfl (hb hby mk2_d50) kt) ?_
  show F T (mkF m 51 #[.val (.ref b), .val (.int 2)] [(.int (0 : Int32)), (.ref y), (.ref y), (.ref x), (.ref x)])
  refine B (fun t kt => XS.aloadN S.here S.hx rfl (hb hby mk2_d51) rfl rfl kt) ?_
  show F T (mkF m 52 #[.val (.ref b), .val (.int 2)] [(.ref b), (.int (0 : Int32)), (.ref y), (.ref y), (.ref x), (.ref x)])
  refine B (fun t kt => XS.iconst S.here S.hx rfl (hb hby mk2_d52) kt) ?_
  show F T (mkF m 53 #[.val (.ref b), .val (.int 2)] [(.int (0 : Int32)), (.ref b), (.int (0 : Int32)), (.ref y), (.ref y), (.ref x), (.ref x)])
  refine Sp.cald B S V (by decide) (by rfl) (hb hby mk2_d53) ?_
  show F T (mkF m 54 #[.val (.ref b), .val (.int 2)] [(.int c0), (.int (0 : Int32)), (.ref y), (.ref y), (.ref x), (.ref x)])
  refine Sp.stC B S Vy (i := 0) (by decide) (by decide) (by simp) (own_narc (hcs c0 (by simp))) (by simp) (hb hby mk2_d54) fun T h3 S W Vy => ?_
  replace Vy : Arv Z h3 y ky .char 2 [.int c0, .int 0] (.int 0) := Vy
  replace KK := KK.wr W (Or.inr (by omega))
  replace V := V.other W (natne (by omega))
  replace O := O.other W (natne (by omega))
  show F T (mkF m 55 #[.val (.ref b), .val (.int 2)] [(.ref y), (.ref x), (.ref x)])
  refine B (fun t kt => XS.dup S.here S.hx rfl (hb hby mk2_d55) rfl rfl kt) ?_
  show F T (mkF m 56 #[.val (.ref b), .val (.int 2)] [(.ref y), (.ref y), (.ref x), (.ref x)])
  refine B (fun t kt => XS.iconst S.here S.hx rfl (hb hby mk2_d56) kt) ?_
  show F T (mkF m 57 #[.val (.ref b), .val (.int 2)] [(.int (1 : Int32)), (.ref y), (.ref y), (.ref x), (.ref x)])
  refine B (fun t kt => XS.aloadN S.here S.hx rfl (hb hby mk2_d57) rfl rfl kt) ?_
  show F T (mkF m 58 #[.val (.ref b), .val (.int 2)] [(.ref b), (.int (1 : Int32)), (.ref y), (.ref y), (.ref x), (.ref x)])
  refine B (fun t kt => XS.iconst S.here S.hx rfl (hb hby mk2_d58) kt) ?_
  show F T (mkF m 59 #[.val (.ref b), .val (.int 2)] [(.int (1 : Int32)), (.ref b), (.int (1 : Int32)), (.ref y), (.ref y), (.ref x), (.ref x)])
  refine Sp.cald B S V (by decide) (by rfl) (hb hby mk2_d59) ?_
  show F T (mkF m 60 #[.val (.ref b), .val (.int 2)] [(.int c1), (.int (1 : Int32)), (.ref y), (.ref y), (.ref x), (.ref x)])
  refine Sp.stC B S Vy (i := 1) (by decide) (by decide) (by simp) (own_narc (hcs c1 (by simp))) (by simp) (hb hby mk2_d60) fun T h4 S W Vy => ?_
  replace Vy : Arv Z h4 y ky .char 2 [.int c0, .int c1] (.int 0) := Vy
  replace KK := KK.wr W (Or.inr (by omega))
  replace V := V.other W (natne (by omega))
  replace O := O.other W (natne (by omega))
  show F T (mkF m 61 #[.val (.ref b), .val (.int 2)] [(.ref y), (.ref x), (.ref x)])
  refine Sp.special B S (y := (⟨"java/lang/String", "<init>", "([C)V"⟩ : MethodName)) (argsL := [(.ref y)]) (rest := [(.ref x)]) rfl (hw _ (List.mem_of_getElem? (i := 9) rfl)) (hw _ (List.mem_of_getElem? (i := 10) rfl)) (hw _ (List.mem_of_getElem? (i := 11) rfl)) (by decide) (own_new (W := 1) Z a0 EL hw hEW h4 hS hmem zc CS hzc AD HI LO [c0, c1] (by show 2 ≤ 8; decide) (fun q hq => hcs q (List.mem_of_mem_take (i := 2) (l := [c0, c1, c2, c3, c4, c5, c6, c7]) hq)) x y (natne (by omega)) (S.isnew (by simp)) S.old _ _ O ky _ Vy (by decide) (by decide)) (by simp) (by decide) (by decide) (by rw [hml]; rfl) (lenOf mk2_p22 rfl) rfl (Nat.le_of_eq rfl) (hb hby mk2_d61) fun v T h5 nw S hQ => ?_
  obtain ⟨rfl, rfl, K, t, ne, G⟩ := hQ
  replace KK := KK.trans K (qk1 (by first | (refine Or.inl ?_; simp; done) | (refine Or.inr ?_; omega)))
  show F T (mkF m 64 #[.val (.ref b), .val (.int 2)] [(.ref x)])
  exact hF ((S.mono (by decide) (by decide)).retA hr hlk rfl rfl (hb hby mk2_d64) (nw := []) ⟨x, t, rfl, rfl, KK, G⟩ (by simp))
theorem mk3_d0 : decode method_3_code 0 = .ok (.iload_n 1, 1) := by decide +kernel
theorem mk3_d1 : decode method_3_code 1 = .ok (.ifCond .ne 14, 3) := by decide +kernel
theorem mk3_d15 : decode method_3_code 15 = .ok (.iload_n 1, 1) := by decide +kernel
theorem mk3_d16 : decode method_3_code 16 = .ok (.iconst 1, 1) := by decide +kernel
theorem mk3_d17 : decode method_3_code 17 = .ok (.if_icmp .ne 20, 3) := by decide +kernel
theorem mk3_d37 : decode method_3_code 37 = .ok (.iload_n 1, 1) := by decide +kernel
theorem mk3_d38 : decode method_3_code 38 = .ok (.iconst 2, 1) := by decide +kernel
theorem mk3_d39 : decode method_3_code 39 = .ok (.if_icmp .ne 26, 3) := by decide +kernel
theorem mk3_d65 : decode method_3_code 65 = .ok (.iload_n 1, 1) := by decide +kernel
theorem mk3_d66 : decode method_3_code 66 = .ok (.iconst 3, 1) := by decide +kernel
theorem mk3_d67 : decode method_3_code 67 = .ok (.if_icmp .ne 32, 3) := by decide +kernel
theorem mk3_d70 : decode method_3_code 70 = .ok (.new 20, 3) := by decide +kernel
theorem mk3_d73 : decode method_3_code 73 = .ok (.dup, 1) := by decide +kernel
theorem mk3_d74 : decode method_3_code 74 = .ok (.iconst 3, 1) := by decide +kernel
theorem mk3_d75 : decode method_3_code 75 = .ok (.newarray .char, 2) := by decide +kernel
theorem mk3_d77 : decode method_3_code 77 = .ok (.dup, 1) := by decide +kernel
theorem mk3_d78 : decode method_3_code 78 = .ok (.iconst 0, 1) := by decide +kernel
theorem mk3_d79 : decode method_3_code 79 = .ok (.aload_n 0, 1) := by decide +kernel
theorem mk3_d80 : decode method_3_code 80 = .ok (.iconst 0, 1) := by decide +kernel
theorem mk3_d81 : decode method_3_code 81 = .ok (.caload, 1) := by decide +kernel
theorem mk3_d82 : decode method_3_code 82 = .ok (.castore, 1) := by decide +kernel
theorem mk3_d83 : decode method_3_code 83 = .ok (.dup, 1) := by decide +kernel
theorem mk3_d84 : decode method_3_code 84 = .ok (.iconst 1, 1) := by decide +kernel
theorem mk3_d85 : decode method_3_code 85 = .ok (.aload_n 0, 1) := by decide +kernel
theorem mk3_d86 : decode method_3_code 86 = .ok (.iconst 1, 1) := by decide +kernel
theorem mk3_d87 : decode method_3_code 87 = .ok (.caload, 1) := by decide +kernel
theorem mk3_d88 : decode method_3_code 88 = .ok (.castore, 1) := by decide +kernel
theorem mk3_d89 : decode method_3_code 89 = .ok (.dup, 1) := by decide +kernel
theorem mk3_d90 : decode method_3_code 90 = .ok (.iconst 2, 1) := by decide +kernel
theorem mk3_d91 : decode method_3_code 91 = .ok (.aload_n 0, 1) := by decide +kernel
theorem mk3_d92 : decode method_3_code 92 = .ok (.iconst 2, 1) := by decide +kernel
theorem mk3_d93 : decode method_3_code 93 = .ok (.caload, 1) := by decide +kernel
theorem mk3_d94 : decode method_3_code 94 = .ok (.castore, 1) := by decide +kernel
theorem mk3_d95 : decode method_3_code 95 = .ok (.invokespecial 22, 3) := by decide +kernel
theorem mk3_d98 : decode method_3_code 98 = .ok (.areturn, 1) := by decide +kernel
theorem mk3_p22 : parseMethodDescriptor "([C)V" = some ⟨[(.array .char)], none⟩ := by decide +kernel
theorem mk3_ef (m : MethodId) (b : Addr) : entryFrame m #[(.ref b), (.int 3)] 2 = mkF m 0 #[.val (.ref b), .val (.int 3)] [] := by first | (simp [entryFrame, mkF, argsToLocals, Value.category]; done) | rfl
theorem mk3_pn : plainFor (⟨"com/example/keywright/keywright/store/TokensReadsPinLaw", "make", "([CI)Ljava/lang/String;"⟩ : MethodName) = true := by first | exact plainFor_of_name (by first | (simp [plainName, overriddenIn]; done) | decide +kernel) | decide +kernel
set_option maxRecDepth 65536 in
set_option maxHeartbeats 40000000 in
theorem mk3 (l : Launch) (Z : State) (a0 : Array Value) (EL : List (String × Nat)) (hw : ∀ d ∈ tables_1, d.before a0 Z = true) (hEW : EW Z a0 EL) (h : Heap) (hS : ∀ d ∈ Bundle.stringAtoms, d.before a0 Z = true) (hmem : ("java/lang/String", 7) ∈ EL) (zc : Int32) (CS : Sta Z Z.heap "java/lang/String" "COMPACT_STRINGS" "Z" (.int zc)) (hzc : ¬ zc = 0) (AD : Sta Z Z.heap "java/lang/StringUTF16" "$assertionsDisabled" "Z" (.int 1)) (HI : Sta Z Z.heap "java/lang/StringUTF16" "HI_BYTE_SHIFT" "I" (.int 0)) (LO : Sta Z Z.heap "java/lang/StringUTF16" "LO_BYTE_SHIFT" "I" (.int 8)) (b : Addr) (kb : ClassId) (dv : Value) (c0 c1 c2 c3 c4 c5 c6 c7 : Int32) (hcs : ∀ q ∈ [c0, c1, c2, c3, c4, c5, c6, c7], ¬ q < 0 ∧ ¬ (65535 : Int32) < q) (V : Arv Z h b kb .char 8 [.int c0, .int c1, .int c2, .int c3, .int c4, .int c5, .int c6, .int c7] dv) :
    Con l Z EL (⟨"com/example/keywright/keywright/store/TokensReadsPinLaw", "make", "([CI)Ljava/lang/String;"⟩ : MethodName) method_3_code 2 (some (.object "java/lang/String")) ({ frames := 7, cells := 6, slots := 36, locals := 112 } : Room) #[(.ref b), (.int 3)] h [] (fun v h' nw => ∃ x t, v = some (.ref x) ∧ nw = [] ∧ Keep h h' [] ∧ own_Str Z a0 h' x t [c0, c1, c2]) := by
  refine Con.of mk3_pn hEW ?_
  intro p e s m below meth c T F B hF hby hml hr hlk hnm S
  rw [mk3_ef]
  have lb := natlt V.lt
  have KK := Keep.refl h []
  show F T (mkF m 0 #[.val (.ref b), .val (.int 3)] [])
  refine B (fun t kt => XS.iloadN S.here S.hx rfl (hb hby mk3_d0) rfl kt) ?_
  show F T (mkF m 1 #[.val (.ref b), .val (.int 3)] [(.int 3)])
  refine B (fun t kt => XS.ifYes S.here S.hx rfl (pc0 := 1) (pc' := 15) rfl (hb hby mk3_d1) rfl (i0_ne_t (by decide)) (by decide) (by decide) kt) ?_
  show F T (mkF m 15 #[.val (.ref b), .val (.int 3)] [])
  refine B (fun t kt => XS.iloadN S.here S.hx rfl (hb hby mk3_d15) rfl kt) ?_
  show F T (mkF m 16 #[.val (.ref b), .val (.int 3)] [(.int 3)])
  refine B (fun t kt => XS.iconst S.here S.hx rfl (hb hby mk3_d16) kt) ?_
  show F T (mkF m 17 #[.val (.ref b), .val (.int 3)] [(.int (1 : Int32)), (.int 3)])
  refine B (fun t kt => XS.icmpYes S.here S.hx rfl (pc0 := 17) (pc' := 37) rfl (hb hby mk3_d17) rfl (ii_ne_t (by decide)) (by decide) (by decide) kt) ?_
  show F T (mkF m 37 #[.val (.ref b), .val (.int 3)] [])
  refine B (fun t kt => XS.iloadN S.here S.hx rfl (hb hby mk3_d37) rfl kt) ?_
  show F T (mkF m 38 #[.val (.ref b), .val (.int 3)] [(.int 3)])
  refine B (fun t kt => XS.iconst S.here S.hx rfl (hb hby mk3_d38) kt) ?_
  show F T (mkF m 39 #[.val (.ref b), .val (.int 3)] [(.int (2 : Int32)), (.int 3)])
  refine B (fun t kt => XS.icmpYes S.here S.hx rfl (pc0 := 39) (pc' := 65) rfl (hb hby mk3_d39) rfl (ii_ne_t (by decide)) (by decide) (by decide) kt) ?_
  show F T (mkF m 65 #[.val (.ref b), .val (.int 3)] [])
  refine B (fun t kt => XS.iloadN S.here S.hx rfl (hb hby mk3_d65) rfl kt) ?_
  show F T (mkF m 66 #[.val (.ref b), .val (.int 3)] [(.int 3)])
  refine B (fun t kt => XS.iconst S.here S.hx rfl (hb hby mk3_d66) kt) ?_
  show F T (mkF m 67 #[.val (.ref b), .val (.int 3)] [(.int (3 : Int32)), (.int 3)])
  refine B (fun t kt => XS.icmpNo S.here S.hx rfl (hb hby mk3_d67) rfl (ii_ne_f rfl) kt) ?_
  show F T (mkF m 70 #[.val (.ref b), .val (.int 3)] [])
  refine Sp.newO B S (hw _ (List.mem_of_getElem? (i := 6) rfl)) (hw _ (List.mem_of_getElem? (i := 7) rfl)) (hw _ (List.mem_of_getElem? (i := 8) rfl)) (hb hby mk3_d70) (by decide) (by decide) fun T h1 x S E gx Ax D => ?_
  have O : Ob Z a0 h1 x "java/lang/String" [("java/lang/String", "value", "[B", .null), ("java/lang/String", "coder", "B", (.int 0))] := Ob.new Ax D [("java/lang/String", "value", "[B", (.array .byte)), ("java/lang/String", "coder", "B", .byte)] (all_cons ⟨(Or.inr (hw _ (List.mem_of_getElem? (i := 34) rfl))), by decide⟩ (all_cons ⟨(Or.inr (hw _ (List.mem_of_getElem? (i := 32) rfl))), by decide⟩ all_nil))
  show F T (mkF m 73 #[.val (.ref b), .val (.int 3)] [(.ref x)])
  replace V := V.ext E
  replace KK := KK.ext E
  have lx := natlt O.lt
  refine B (fun t kt => XS.dup S.here S.hx rfl (hb hby mk3_d73) rfl rfl kt) ?_
  show F T (mkF m 74 #[.val (.ref b), .val (.int 3)] [(.ref x), (.ref x)])
  refine B (fun t kt => XS.iconst S.here S.hx rfl (hb hby mk3_d74) kt) ?_
  show F T (mkF m 75 #[.val (.ref b), .val (.int 3)] [(.int (3 : Int32)), (.ref x), (.ref x)])
  refine Sp.newP B S (cap := 3) (hw _ (List.mem_of_getElem? (i := 0) rfl)) (hb hby mk3_d75) (by decide) (by decide) (by decide) (by decide) (by decide) (ad := "[C") (by decide) fun T h2 y ky S E gy Xy Vy => ?_
  show F T (mkF m 77 #[.val (.ref b), .val (.int 3)] [(.ref y), (.ref x), (.ref x)])
  replace V := V.ext E
  replace KK := KK.ext E
  replace O := O.ext E
  have ly := natlt Vy.lt
  replace Vy : Arv Z h2 y ky .char 3 [.int 0, .int 0, .int 0] (.int 0) := Vy.pad (pad_rep [] (.int 0) 3)
  refine B (fun t kt => XS.dup S.here S.hx rfl (hb hby mk3_d77) rfl rfl kt) ?_
  show F T (mkF m 78 #[.val (.ref b), .val (.int 3)] [(.ref y), (.ref y), (.ref x), (.ref x)])
  refine B (fun t kt => XS.iconst S.here S.hx rfl (hb hby mk3_d78) kt) ?_
  show F T (mkF m 79 #[.val (.ref b), .val (.int 3)] [(.int (0 : Int32)), (.ref y), (.ref y), (.ref x), (.ref x)])
  refine B (fun t kt => XS.aloadN S.here S.hx rfl (hb hby mk3_d79) rfl rfl kt) ?_
  show F T (mkF m 80 #[.val (.ref b), .val (.int 3)] [(.ref b), (.int (0 : Int32)), (.ref y), (.ref y), (.ref x), (.ref x)])
  refine B (fun t kt => XS.iconst S.here S.hx rfl (hb hby mk3_d80) kt) ?_
  show F T (mkF m 81 #[.val (.ref b), .val (.int 3)] [(.int (0 : Int32)), (.ref b), (.int (0 : Int32)), (.ref y), (.ref y), (.ref x), (.ref x)])
  refine Sp.cald B S V (by decide) (by rfl) (hb hby mk3_d81) ?_
  show F T (mkF m 82 #[.val (.ref b), .val (.int 3)] [(.int c0), (.int (0 : Int32)), (.ref y), (.ref y), (.ref x), (.ref x)])
  refine Sp.stC B S Vy (i := 0) (by decide) (by decide) (by simp) (own_narc (hcs c0 (by simp))) (by simp) (hb hby mk3_d82) fun T h3 S W Vy => ?_
  replace Vy : Arv Z h3 y ky .char 3 [.int c0, .int 0, .int 0] (.int 0) := Vy
  replace KK := KK.wr W (Or.inr (by omega))
  replace V := V.other W (natne (by omega))
  replace O := O.other W (natne (by omega))
  show F T (mkF m 83 #[.val (.ref b), .val (.int 3)] [(.ref y), (.ref x), (.ref x)])
  refine B (fun t kt => XS.dup S.here S.hx rfl (hb hby mk3_d83) rfl rfl kt) ?_
  show F T (mkF m 84 #[.val (.ref b), .val (.int 3)] [(.ref y), (.ref y), (.ref x), (.ref x)])
  refine B (fun t kt => XS.iconst S.here S.hx rfl (hb hby mk3_d84) kt) ?_
  show F T (mkF m 85 #[.val (.ref b), .val (.int 3)] [(.int (1 : Int32)), (.ref y), (.ref y), (.ref x), (.ref x)])
  refine B (fun t kt => XS.aloadN S.here S.hx rfl (hb hby mk3_d85) rfl rfl kt) ?_
  show F T (mkF m 86 #[.val (.ref b), .val (.int 3)] [(.ref b), (.int (1 : Int32)), (.ref y), (.ref y), (.ref x), (.ref x)])
  refine B (fun t kt => XS.iconst S.here S.hx rfl (hb hby mk3_d86) kt) ?_
  show F T (mkF m 87 #[.val (.ref b), .val (.int 3)] [(.int (1 : Int32)), (.ref b), (.int (1 : Int32)), (.ref y), (.ref y), (.ref x), (.ref x)])
  refine Sp.cald B S V (by decide) (by rfl) (hb hby mk3_d87) ?_
  show F T (mkF m 88 #[.val (.ref b), .val (.int 3)] [(.int c1), (.int (1 : Int32)), (.ref y), (.ref y), (.ref x), (.ref x)])
  refine Sp.stC B S Vy (i := 1) (by decide) (by decide) (by simp) (own_narc (hcs c1 (by simp))) (by simp) (hb hby mk3_d88) fun T h4 S W Vy => ?_
  replace Vy : Arv Z h4 y ky .char 3 [.int c0, .int c1, .int 0] (.int 0) := Vy
  replace KK := KK.wr W (Or.inr (by omega))
  replace V := V.other W (natne (by omega))
  replace O := O.other W (natne (by omega))
  show F T (mkF m 89 #[.val (.ref b), .val (.int 3)] [(.ref y), (.ref x), (.ref x)])
  refine B (fun t kt => XS.dup S.here S.hx rfl (hb hby mk3_d89) rfl rfl kt) ?_
  show F T (mkF m 90 #[.val (.ref b), .val (.int 3)] [(.ref y), (.ref y), (.ref x), (.ref x)])
  refine B (fun t kt => XS.iconst S.here S.hx rfl (hb hby mk3_d90) kt) ?_
  show F T (mkF m 91 #[.val (.ref b), .val (.int 3)] [(.int (2 : Int32)), (.ref y), (.ref y), (.ref x), (.ref x)])
  refine B (fun t kt => XS.aloadN S.here S.hx rfl (hb hby mk3_d91) rfl rfl kt) ?_
  show F T (mkF m 92 #[.val (.ref b), .val (.int 3)] [(.ref b), (.int (2 : Int32)), (.ref y), (.ref y), (.ref x), (.ref x)])
  refine B (fun t kt => XS.iconst S.here S.hx rfl (hb hby mk3_d92) kt) ?_
  show F T (mkF m 93 #[.val (.ref b), .val (.int 3)] [(.int (2 : Int32)), (.ref b), (.int (2 : Int32)), (.ref y), (.ref y), (.ref x), (.ref x)])
  refine Sp.cald B S V (by decide) (by rfl) (hb hby mk3_d93) ?_
  show F T (mkF m 94 #[.val (.ref b), .val (.int 3)] [(.int c2), (.int (2 : Int32)), (.ref y), (.ref y), (.ref x), (.ref x)])
  refine Sp.stC B S Vy (i := 2) (by decide) (by decide) (by simp) (own_narc (hcs c2 (by simp))) (by simp) (hb hby mk3_d94) fun T h5 S W Vy => ?_
  replace Vy : Arv Z h5 y ky .char 3 [.int c0, .int c1, .int c2] (.int 0) := Vy
  replace KK := KK.wr W (Or.inr (by omega))
  replace V := V.other W (natne (by omega))
  replace O := O.other W (natne (by omega))
  show F T (mkF m 95 #[.val (.ref b), .val (.int 3)] [(.ref y), (.ref x), (.ref x)])
  refine Sp.special B S (y := (⟨"java/lang/String", "<init>", "([C)V"⟩ : MethodName)) (argsL := [(.ref y)]) (rest := [(.ref x)]) rfl (hw _ (List.mem_of_getElem? (i := 9) rfl)) (hw _ (List.mem_of_getElem? (i := 10) rfl)) (hw _ (List.mem_of_getElem? (i := 11) rfl)) (by decide) (own_new (W := 1) Z a0 EL hw hEW h5 hS hmem zc CS hzc AD HI LO [c0, c1, c2] (by show 3 ≤ 8; decide) (fun q hq => hcs q (List.mem_of_mem_take (i := 3) (l := [c0, c1, c2, c3, c4, c5, c6, c7]) hq)) x y (natne (by omega)) (S.isnew (by simp)) S.old _ _ O ky _ Vy (by decide) (by decide)) (by simp) (by decide) (by decide) (by rw [hml]; rfl) (lenOf mk3_p22 rfl) rfl (Nat.le_of_eq rfl) (hb hby mk3_d95) fun v T h6 nw S hQ => ?_
  obtain ⟨rfl, rfl, K, t, ne, G⟩ := hQ
  replace KK := KK.trans K (qk1 (by first | (refine Or.inl ?_; simp; done) | (refine Or.inr ?_; omega)))
  show F T (mkF m 98 #[.val (.ref b), .val (.int 3)] [(.ref x)])
  exact hF ((S.mono (by decide) (by decide)).retA hr hlk rfl rfl (hb hby mk3_d98) (nw := []) ⟨x, t, rfl, rfl, KK, G⟩ (by simp))
theorem mk4_d0 : decode method_3_code 0 = .ok (.iload_n 1, 1) := by decide +kernel
theorem mk4_d1 : decode method_3_code 1 = .ok (.ifCond .ne 14, 3) := by decide +kernel
theorem mk4_d15 : decode method_3_code 15 = .ok (.iload_n 1, 1) := by decide +kernel
theorem mk4_d16 : decode method_3_code 16 = .ok (.iconst 1, 1) := by decide +kernel
theorem mk4_d17 : decode method_3_code 17 = .ok (.if_icmp .ne 20, 3) := by decide +kernel
theorem mk4_d37 : decode method_3_code 37 = .ok (.iload_n 1, 1) := by decide +kernel
theorem mk4_d38 : decode method_3_code 38 = .ok (.iconst 2, 1) := by decide +kernel
theorem mk4_d39 : decode method_3_code 39 = .ok (.if_icmp .ne 26, 3) := by decide +kernel
theorem mk4_d65 : decode method_3_code 65 = .ok (.iload_n 1, 1) := by decide +kernel
theorem mk4_d66 : decode method_3_code 66 = .ok (.iconst 3, 1) := by decide +kernel
theorem mk4_d67 : decode method_3_code 67 = .ok (.if_icmp .ne 32, 3) := by decide +kernel
theorem mk4_d99 : decode method_3_code 99 = .ok (.iload_n 1, 1) := by decide +kernel
theorem mk4_d100 : decode method_3_code 100 = .ok (.iconst 4, 1) := by decide +kernel
theorem mk4_d101 : decode method_3_code 101 = .ok (.if_icmp .ne 38, 3) := by decide +kernel
theorem mk4_d104 : decode method_3_code 104 = .ok (.new 20, 3) := by decide +kernel
theorem mk4_d107 : decode method_3_code 107 = .ok (.dup, 1) := by decide +kernel
theorem mk4_d108 : decode method_3_code 108 = .ok (.iconst 4, 1) := by decide +kernel
theorem mk4_d109 : decode method_3_code 109 = .ok (.newarray .char, 2) := by decide +kernel
theorem mk4_d111 : decode method_3_code 111 = .ok (.dup, 1) := by decide +kernel
theorem mk4_d112 : decode method_3_code 112 = .ok (.iconst 0, 1) := by decide +kernel
theorem mk4_d113 : decode method_3_code 113 = .ok (.aload_n 0, 1) := by decide +kernel
theorem mk4_d114 : decode method_3_code 114 = .ok (.iconst 0, 1) := by decide +kernel
theorem mk4_d115 : decode method_3_code 115 = .ok (.caload, 1) := by decide +kernel
theorem mk4_d116 : decode method_3_code 116 = .ok (.castore, 1) := by decide +kernel
theorem mk4_d117 : decode method_3_code 117 = .ok (.dup, 1) := by decide +kernel
theorem mk4_d118 : decode method_3_code 118 = .ok (.iconst 1, 1) := by decide +kernel
theorem mk4_d119 : decode method_3_code 119 = .ok (.aload_n 0, 1) := by decide +kernel
theorem mk4_d120 : decode method_3_code 120 = .ok (.iconst 1, 1) := by decide +kernel
theorem mk4_d121 : decode method_3_code 121 = .ok (.caload, 1) := by decide +kernel
theorem mk4_d122 : decode method_3_code 122 = .ok (.castore, 1) := by decide +kernel
theorem mk4_d123 : decode method_3_code 123 = .ok (.dup, 1) := by decide +kernel
theorem mk4_d124 : decode method_3_code 124 = .ok (.iconst 2, 1) := by decide +kernel
theorem mk4_d125 : decode method_3_code 125 = .ok (.aload_n 0, 1) := by decide +kernel
theorem mk4_d126 : decode method_3_code 126 = .ok (.iconst 2, 1) := by decide +kernel
theorem mk4_d127 : decode method_3_code 127 = .ok (.caload, 1) := by decide +kernel
theorem mk4_d128 : decode method_3_code 128 = .ok (.castore, 1) := by decide +kernel
theorem mk4_d129 : decode method_3_code 129 = .ok (.dup, 1) := by decide +kernel
theorem mk4_d130 : decode method_3_code 130 = .ok (.iconst 3, 1) := by decide +kernel
theorem mk4_d131 : decode method_3_code 131 = .ok (.aload_n 0, 1) := by decide +kernel
theorem mk4_d132 : decode method_3_code 132 = .ok (.iconst 3, 1) := by decide +kernel
theorem mk4_d133 : decode method_3_code 133 = .ok (.caload, 1) := by decide +kernel
theorem mk4_d134 : decode method_3_code 134 = .ok (.castore, 1) := by decide +kernel
theorem mk4_d135 : decode method_3_code 135 = .ok (.invokespecial 22, 3) := by decide +kernel
theorem mk4_d138 : decode method_3_code 138 = .ok (.areturn, 1) := by decide +kernel
theorem mk4_p22 : parseMethodDescriptor "([C)V" = some ⟨[(.array .char)], none⟩ := by decide +kernel
theorem mk4_ef (m : MethodId) (b : Addr) : entryFrame m #[(.ref b), (.int 4)] 2 = mkF m 0 #[.val (.ref b), .val (.int 4)] [] := by first | (simp [entryFrame, mkF, argsToLocals, Value.category]; done) | rfl
theorem mk4_pn : plainFor (⟨"com/example/keywright/keywright/store/TokensReadsPinLaw", "make", "([CI)Ljava/lang/String;"⟩ : MethodName) = true := by first | exact plainFor_of_name (by first | (simp [plainName, overriddenIn]; done) | decide +kernel) | decide +kernel
set_option maxRecDepth 65536 in
set_option maxHeartbeats 40000000 in
theorem mk4 (l : Launch) (Z : State) (a0 : Array Value) (EL : List (String × Nat)) (hw : ∀ d ∈ tables_1, d.before a0 Z = true) (hEW : EW Z a0 EL) (h : Heap) (hS : ∀ d ∈ Bundle.stringAtoms, d.before a0 Z = true) (hmem : ("java/lang/String", 7) ∈ EL) (zc : Int32) (CS : Sta Z Z.heap "java/lang/String" "COMPACT_STRINGS" "Z" (.int zc)) (hzc : ¬ zc = 0) (AD : Sta Z Z.heap "java/lang/StringUTF16" "$assertionsDisabled" "Z" (.int 1)) (HI : Sta Z Z.heap "java/lang/StringUTF16" "HI_BYTE_SHIFT" "I" (.int 0)) (LO : Sta Z Z.heap "java/lang/StringUTF16" "LO_BYTE_SHIFT" "I" (.int 8)) (b : Addr) (kb : ClassId) (dv : Value) (c0 c1 c2 c3 c4 c5 c6 c7 : Int32) (hcs : ∀ q ∈ [c0, c1, c2, c3, c4, c5, c6, c7], ¬ q < 0 ∧ ¬ (65535 : Int32) < q) (V : Arv Z h b kb .char 8 [.int c0, .int c1, .int c2, .int c3, .int c4, .int c5, .int c6, .int c7] dv) :
    Con l Z EL (⟨"com/example/keywright/keywright/store/TokensReadsPinLaw", "make", "([CI)Ljava/lang/String;"⟩ : MethodName) method_3_code 2 (some (.object "java/lang/String")) ({ frames := 7, cells := 6, slots := 36, locals := 112 } : Room) #[(.ref b), (.int 4)] h [] (fun v h' nw => ∃ x t, v = some (.ref x) ∧ nw = [] ∧ Keep h h' [] ∧ own_Str Z a0 h' x t [c0, c1, c2, c3]) := by
  refine Con.of mk4_pn hEW ?_
  intro p e s m below meth c T F B hF hby hml hr hlk hnm S
  rw [mk4_ef]
  have lb := natlt V.lt
  have KK := Keep.refl h []
  show F T (mkF m 0 #[.val (.ref b), .val (.int 4)] [])
  refine B (fun t kt => XS.iloadN S.here S.hx rfl (hb hby mk4_d0) rfl kt) ?_
  show F T (mkF m 1 #[.val (.ref b), .val (.int 4)] [(.int 4)])
  refine B (fun t kt => XS.ifYes S.here S.hx rfl (pc0 := 1) (pc' := 15) rfl (hb hby mk4_d1) rfl (i0_ne_t (by decide)) (by decide) (by decide) kt) ?_
  show F T (mkF m 15 #[.val (.ref b), .val (.int 4)] [])
  refine B (fun t kt => XS.iloadN S.here S.hx rfl (hb hby mk4_d15) rfl kt) ?_
  show F T (mkF m 16 #[.val (.ref b), .val (.int 4)] [(.int 4)])
  refine B (fun t kt => XS.iconst S.here S.hx rfl (hb hby mk4_d16) kt) ?_
  show F T (mkF m 17 #[.val (.ref b), .val (.int 4)] [(.int (1 : Int32)), (.int 4)])
  refine B (fun t kt => XS.icmpYes S.here S.hx rfl (pc0 := 17) (pc' := 37) rfl (hb hby mk4_d17) rfl (ii_ne_t (by decide)) (by decide) (by decide) kt) ?_
  show F T (mkF m 37 #[.val (.ref b), .val (.int 4)] [])
  refine B (fun t kt => XS.iloadN S.here S.hx rfl (hb hby mk4_d37) rfl kt) ?_
  show F T (mkF m 38 #[.val (.ref b), .val (.int 4)] [(.int 4)])
  refine B (fun t kt => XS.iconst S.here S.hx rfl (hb hby mk4_d38) kt) ?_
  show F T (mkF m 39 #[.val (.ref b), .val (.int 4)] [(.int (2 : Int32)), (.int 4)])
  refine B (fun t kt => XS.icmpYes S.here S.hx rfl (pc0 := 39) (pc' := 65) rfl (hb hby mk4_d39) rfl (ii_ne_t (by decide)) (by decide) (by decide) kt) ?_
  show F T (mkF m 65 #[.val (.ref b), .val (.int 4)] [])
  refine B (fun t kt => XS.iloadN S.here S.hx rfl (hb hby mk4_d65) rfl kt) ?_
  show F T (mkF m 66 #[.val (.ref b), .val (.int 4)] [(.int 4)])
  refine B (fun t kt => XS.iconst S.here S.hx rfl (hb hby mk4_d66) kt) ?_
  show F T (mkF m 67 #[.val (.ref b), .val (.int 4)] [(.int (3 : Int32)), (.int 4)])
  refine B (fun t kt => XS.icmpYes S.here S.hx rfl (pc0 := 67) (pc' := 99) rfl (hb hby mk4_d67) rfl (ii_ne_t (by decide)) (by decide) (by decide) kt) ?_
  show F T (mkF m 99 #[.val (.ref b), .val (.int 4)] [])
  refine B (fun t kt => XS.iloadN S.here S.hx rfl (hb hby mk4_d99) rfl kt) ?_
  show F T (mkF m 100 #[.val (.ref b), .val (.int 4)] [(.int 4)])
  refine B (fun t kt => XS.iconst S.here S.hx rfl (hb hby mk4_d100) kt) ?_
  show F T (mkF m 101 #[.val (.ref b), .val (.int 4)] [(.int (4 : Int32)), (.int 4)])
  refine B (fun t kt => XS.icmpNo S.here S.hx rfl (hb hby mk4_d101) rfl (ii_ne_f rfl) kt) ?_
  show F T (mkF m 104 #[.val (.ref b), .val (.int 4)] [])
  refine Sp.newO B S (hw _ (List.mem_of_getElem? (i := 6) rfl)) (hw _ (List.mem_of_getElem? (i := 7) rfl)) (hw _ (List.mem_of_getElem? (i := 8) rfl)) (hb hby mk4_d104) (by decide) (by decide) fun T h1 x S E gx Ax D => ?_
  have O : Ob Z a0 h1 x "java/lang/String" [("java/lang/String", "value", "[B", .null), ("java/lang/String", "coder", "B", (.int 0))] := Ob.new Ax D [("java/lang/String", "value", "[B", (.array .byte)), ("java/lang/String", "coder", "B", .byte)] (all_cons ⟨(Or.inr (hw _ (List.mem_of_getElem? (i := 34) rfl))), by decide⟩ (all_cons ⟨(Or.inr (hw _ (List.mem_of_getElem? (i := 32) rfl))), by decide⟩ all_nil))
  show F T (mkF m 107 #[.val (.ref b), .val (.int 4)] [(.ref x)])
  replace V := V.ext E
  replace KK := KK.ext E
  have lx := natlt O.lt
  refine B (fun t kt => XS.dup S.here S.hx rfl (hb hby mk4_d107) rfl rfl kt) ?_
  show F T (mkF m 108 #[.val (.ref b), .val (.int 4)] [(.ref x), (.ref x)])
  refine B (fun t kt => XS.iconst S.here S.hx rfl (hb hby mk4_d108) kt) ?_
  show F T (mkF m 109 #[.val (.ref b), .val (.int 4)] [(.int (4 : Int32)), (.ref x), (.ref x)])
  refine Sp.newP B S (cap := 4) (hw _ (List.mem_of_getElem? (i := 0) rfl)) (hb hby mk4_d109) (by decide) (by decide) (by decide) (by decide) (by decide) (ad := "[C") (by decide) fun T h2 y ky S E gy Xy Vy => ?_
  show F T (mkF m 111 #[.val (.ref b), .val (.int 4)] [(.ref y), (.ref x), (.ref x)])
  replace V := V.ext E
  replace KK := KK.ext E
  replace O := O.ext E
  have ly := natlt Vy.lt
  replace Vy : Arv Z h2 y ky .char 4 [.int 0, .int 0, .int 0, .int 0] (.int 0) := Vy.pad (pad_rep [] (.int 0) 4)
  refine B (fun t kt => XS.dup S.here S.hx rfl (hb hby mk4_d111) rfl rfl kt) ?_
  show F T (mkF m 112 #[.val (.ref b), .val (.int 4)] [(.ref y), (.ref y), (.ref x), (.ref x)])
  refine B (fun t kt => XS.iconst S.here S.hx rfl (hb hby mk4_d112) kt) ?_
  show F T (mkF m 113 #[.val (.ref b), .val (.int 4)] [(.int (0 : Int32)), (.ref y), (.ref y), (.ref x), (.ref x)])
  refine B (fun t kt => XS.aloadN S.here S.hx rfl (hb hby mk4_d113) rfl rfl kt) ?_
  show F T (mkF m 114 #[.val (.ref b), .val (.int 4)] [(.ref b), (.int (0 : Int32)), (.ref y), (.ref y), (.ref x), (.ref x)])
  refine B (fun t kt => XS.iconst S.here S.hx rfl (hb hby mk4_d114) kt) ?_
  show F T (mkF m 115 #[.val (.ref b), .val (.int 4)] [(.int (0 : Int32)), (.ref b), (.int (0 : Int32)), (.ref y), (.ref y), (.ref x), (.ref x)])
  refine Sp.cald B S V (by decide) (by rfl) (hb hby mk4_d115) ?_
  show F T (mkF m 116 #[.val (.ref b), .val (.int 4)] [(.int c0), (.int (0 : Int32)), (.ref y), (.ref y), (.ref x), (.ref x)])
  refine Sp.stC B S Vy (i := 0) (by decide) (by decide) (by simp) (own_narc (hcs c0 (by simp))) (by simp) (hb hby mk4_d116) fun T h3 S W Vy => ?_
  replace Vy : Arv Z h3 y ky .char 4 [.int c0, .int 0, .int 0, .int 0] (.int 0) := Vy
  replace KK := KK.wr W (Or.inr (by omega))
  replace V := V.other W (natne (by omega))
  replace O := O.other W (natne (by omega))
  show F T (mkF m 117 #[.val (.ref b), .val (.int 4)] [(.ref y), (.ref x), (.ref x)])
  refine B (fun t kt => XS.dup S.here S.hx rfl (hb hby mk4_d117) rfl rfl kt) ?_
  show F T (mkF m 118 #[.val (.ref b), .val (.int 4)] [(.ref y), (.ref y), (.ref x), (.ref x)])
  refine B (fun t kt => XS.iconst S.here S.hx rfl (hb hby mk4_d118) kt) ?_
  show F T (mkF m 119 #[.val (.ref b), .val (.int 4)] [(.int (1 : Int32)), (.ref y), (.ref y), (.ref x), (.ref x)])
  refine B (fun t kt => XS.aloadN S.here S.hx rfl (hb hby mk4_d119) rfl rfl kt) ?_
  show F T (mkF m 120 #[.val (.ref b), .val (.int 4)] [(.ref b), (.int (1 : Int32)), (.ref y), (.ref y), (.ref x), (.ref x)])
  refine B (fun t kt => XS.iconst S.here S.hx rfl (hb hby mk4_d120) kt) ?_
  show F T (mkF m 121 #[.val (.ref b), .val (.int 4)] [(.int (1 : Int32)), (.ref b), (.int (1 : Int32)), (.ref y), (.ref y), (.ref x), (.ref x)])
  refine Sp.cald B S V (by decide) (by rfl) (hb hby mk4_d121) ?_
  show F T (mkF m 122 #[.val (.ref b), .val (.int 4)] [(.int c1), (.int (1 : Int32)), (.ref y), (.ref y), (.ref x), (.ref x)])
  refine Sp.stC B S Vy (i := 1) (by decide) (by decide) (by simp) (own_narc (hcs c1 (by simp))) (by simp) (hb hby mk4_d122) fun T h4 S W Vy => ?_
  replace Vy : Arv Z h4 y ky .char 4 [.int c0, .int c1, .int 0, .int 0] (.int 0) := Vy
  replace KK := KK.wr W (Or.inr (by omega))
  replace V := V.other W (natne (by omega))
  replace O := O.other W (natne (by omega))
  show F T (mkF m 123 #[.val (.ref b), .val (.int 4)] [(.ref y), (.ref x), (.ref x)])
  refine B (fun t kt => XS.dup S.here S.hx rfl (hb hby mk4_d123) rfl rfl kt) ?_
  show F T (mkF m 124 #[.val (.ref b), .val (.int 4)] [(.ref y), (.ref y), (.ref x), (.ref x)])
  refine B (fun t kt => XS.iconst S.here S.hx rfl (hb hby mk4_d124) kt) ?_
  show F T (mkF m 125 #[.val (.ref b), .val (.int 4)] [(.int (2 : Int32)), (.ref y), (.ref y), (.ref x), (.ref x)])
  refine B (fun t kt => XS.aloadN S.here S.hx rfl (hb hby mk4_d125) rfl rfl kt) ?_
  show F T (mkF m 126 #[.val (.ref b), .val (.int 4)] [(.ref b), (.int (2 : Int32)), (.ref y), (.ref y), (.ref x), (.ref x)])
  refine B (fun t kt => XS.iconst S.here S.hx rfl (hb hby mk4_d126) kt) ?_
  show F T (mkF m 127 #[.val (.ref b), .val (.int 4)] [(.int (2 : Int32)), (.ref b), (.int (2 : Int32)), (.ref y), (.ref y), (.ref x), (.ref x)])
  refine Sp.cald B S V (by decide) (by rfl) (hb hby mk4_d127) ?_
  show F T (mkF m 128 #[.val (.ref b), .val (.int 4)] [(.int c2), (.int (2 : Int32)), (.ref y), (.ref y), (.ref x), (.ref x)])
  refine Sp.stC B S Vy (i := 2) (by decide) (by decide) (by simp) (own_narc (hcs c2 (by simp))) (by simp) (hb hby mk4_d128) fun T h5 S W Vy => ?_
  replace Vy : Arv Z h5 y ky .char 4 [.int c0, .int c1, .int c2, .int 0] (.int 0) := Vy
  replace KK := KK.wr W (Or.inr (by omega))
  replace V := V.other W (natne (by omega))
  replace O := O.other W (natne (by omega))
  show F T (mkF m 129 #[.val (.ref b), .val (.int 4)] [(.ref y), (.ref x), (.ref x)])
  refine B (fun t kt => XS.dup S.here S.hx rfl (hb hby mk4_d129) rfl rfl kt) ?_
  show F T (mkF m 130 #[.val (.ref b), .val (.int 4)] [(.ref y), (.ref y), (.ref x), (.ref x)])
  refine B (fun t kt => XS.iconst S.here S.hx rfl (hb hby mk4_d130) kt) ?_
  show F T (mkF m 131 #[.val (.ref b), .val (.int 4)] [(.int (3 : Int32)), (.ref y), (.ref y), (.ref x), (.ref x)])
  refine B (fun t kt => XS.aloadN S.here S.hx rfl (hb hby mk4_d131) rfl rfl kt) ?_
  show F T (mkF m 132 #[.val (.ref b), .val (.int 4)] [(.ref b), (.int (3 : Int32)), (.ref y), (.ref y), (.ref x), (.ref x)])
  refine B (fun t kt => XS.iconst S.here S.hx rfl (hb hby mk4_d132) kt) ?_
  show F T (mkF m 133 #[.val (.ref b), .val (.int 4)] [(.int (3 : Int32)), (.ref b), (.int (3 : Int32)), (.ref y), (.ref y), (.ref x), (.ref x)])
  refine Sp.cald B S V (by decide) (by rfl) (hb hby mk4_d133) ?_
  show F T (mkF m 134 #[.val (.ref b), .val (.int 4)] [(.int c3), (.int (3 : Int32)), (.ref y), (.ref y), (.ref x), (.ref x)])
  refine Sp.stC B S Vy (i := 3) (by decide) (by decide) (by simp) (own_narc (hcs c3 (by simp))) (by simp) (hb hby mk4_d134) fun T h6 S W Vy => ?_
  replace Vy : Arv Z h6 y ky .char 4 [.int c0, .int c1, .int c2, .int c3] (.int 0) := Vy
  replace KK := KK.wr W (Or.inr (by omega))
  replace V := V.other W (natne (by omega))
  replace O := O.other W (natne (by omega))
  show F T (mkF m 135 #[.val (.ref b), .val (.int 4)] [(.ref y), (.ref x), (.ref x)])
  refine Sp.special B S (y := (⟨"java/lang/String", "<init>", "([C)V"⟩ : MethodName)) (argsL := [(.ref y)]) (rest := [(.ref x)]) rfl (hw _ (List.mem_of_getElem? (i := 9) rfl)) (hw _ (List.mem_of_getElem? (i := 10) rfl)) (hw _ (List.mem_of_getElem? (i := 11) rfl)) (by decide) (own_new (W := 1) Z a0 EL hw hEW h6 hS hmem zc CS hzc AD HI LO [c0, c1, c2, c3] (by show 4 ≤ 8; decide) (fun q hq => hcs q (List.mem_of_mem_take (i := 4) (l := [c0, c1, c2, c3, c4, c5, c6, c7]) hq)) x y (natne (by omega)) (S.isnew (by simp)) S.old _ _ O ky _ Vy (by decide) (by decide)) (by simp) (by decide) (by decide) (by rw [hml]; rfl) (lenOf mk4_p22 rfl) rfl (Nat.le_of_eq rfl) (hb hby mk4_d135) fun v T h7 nw S hQ => ?_
  obtain ⟨rfl, rfl, K, t, ne, G⟩ := hQ
  replace KK := KK.trans K (qk1 (by first | (refine Or.inl ?_; simp; done) | (refine Or.inr ?_; omega)))
  show F T (mkF m 138 #[.val (.ref b), .val (.int 4)] [(.ref x)])
  exact hF ((S.mono (by decide) (by decide)).retA hr hlk rfl rfl (hb hby mk4_d138) (nw := []) ⟨x, t, rfl, rfl, KK, G⟩ (by simp))
theorem mk5_d0 : decode method_3_code 0 = .ok (.iload_n 1, 1) := by decide +kernel
theorem mk5_d1 : decode method_3_code 1 = .ok (.ifCond .ne 14, 3) := by decide +kernel
theorem mk5_d15 : decode method_3_code 15 = .ok (.iload_n 1, 1) := by decide +kernel
theorem mk5_d16 : decode method_3_code 16 = .ok (.iconst 1, 1) := by decide +kernel
theorem mk5_d17 : decode method_3_code 17 = .ok (.if_icmp .ne 20, 3) := by decide +kernel
theorem mk5_d37 : decode method_3_code 37 = .ok (.iload_n 1, 1) := by decide +kernel
theorem mk5_d38 : decode method_3_code 38 = .ok (.iconst 2, 1) := by decide +kernel
theorem mk5_d39 : decode method_3_code 39 = .ok (.if_icmp .ne 26, 3) := by decide +kernel
theorem mk5_d65 : decode method_3_code 65 = .ok (.iload_n 1, 1) := by decide +kernel
theorem mk5_d66 : decode method_3_code 66 = .ok (.iconst 3, 1) := by decide +kernel
theorem mk5_d67 : decode method_3_code 67 = .ok (.if_icmp .ne 32, 3) := by decide +kernel
theorem mk5_d99 : decode method_3_code 99 = .ok (.iload_n 1, 1) := by decide +kernel
theorem mk5_d100 : decode method_3_code 100 = .ok (.iconst 4, 1) := by decide +kernel
theorem mk5_d101 : decode method_3_code 101 = .ok (.if_icmp .ne 38, 3) := by decide +kernel
theorem mk5_d139 : decode method_3_code 139 = .ok (.iload_n 1, 1) := by decide +kernel
theorem mk5_d140 : decode method_3_code 140 = .ok (.iconst 5, 1) := by decide +kernel
theorem mk5_d141 : decode method_3_code 141 = .ok (.if_icmp .ne 44, 3) := by decide +kernel
theorem mk5_d144 : decode method_3_code 144 = .ok (.new 20, 3) := by decide +kernel
theorem mk5_d147 : decode method_3_code 147 = .ok (.dup, 1) := by decide +kernel
theorem mk5_d148 : decode method_3_code 148 = .ok (.iconst 5, 1) := by decide +kernel
theorem mk5_d149 : decode method_3_code 149 = .ok (.newarray .char, 2) := by decide +kernel
theorem mk5_d151 : decode method_3_code 151 = .ok (.dup, 1) := by decide +kernel
theorem mk5_d152 : decode method_3_code 152 = .ok (.iconst 0, 1) := by decide +kernel
theorem mk5_d153 : decode method_3_code 153 = .ok (.aload_n 0, 1) := by decide +kernel
theorem mk5_d154 : decode method_3_code 154 = .ok (.iconst 0, 1) := by decide +kernel
theorem mk5_d155 : decode method_3_code 155 = .ok (.caload, 1) := by decide +kernel
theorem mk5_d156 : decode method_3_code 156 = .ok (.castore, 1) := by decide +kernel
theorem mk5_d157 : decode method_3_code 157 = .ok (.dup, 1) := by decide +kernel
theorem mk5_d158 : decode method_3_code 158 = .ok (.iconst 1, 1) := by decide +kernel
theorem mk5_d159 : decode method_3_code 159 = .ok (.aload_n 0, 1) := by decide +kernel
theorem mk5_d160 : decode method_3_code 160 = .ok (.iconst 1, 1) := by decide +kernel
theorem mk5_d161 : decode method_3_code 161 = .ok (.caload, 1) := by decide +kernel
theorem mk5_d162 : decode method_3_code 162 = .ok (.castore, 1) := by decide +kernel
theorem mk5_d163 : decode method_3_code 163 = .ok (.dup, 1) := by decide +kernel
theorem mk5_d164 : decode method_3_code 164 = .ok (.iconst 2, 1) := by decide +kernel
theorem mk5_d165 : decode method_3_code 165 = .ok (.aload_n 0, 1) := by decide +kernel
theorem mk5_d166 : decode method_3_code 166 = .ok (.iconst 2, 1) := by decide +kernel
theorem mk5_d167 : decode method_3_code 167 = .ok (.caload, 1) := by decide +kernel
theorem mk5_d168 : decode method_3_code 168 = .ok (.castore, 1) := by decide +kernel
theorem mk5_d169 : decode method_3_code 169 = .ok (.dup, 1) := by decide +kernel
theorem mk5_d170 : decode method_3_code 170 = .ok (.iconst 3, 1) := by decide +kernel
theorem mk5_d171 : decode method_3_code 171 = .ok (.aload_n 0, 1) := by decide +kernel
theorem mk5_d172 : decode method_3_code 172 = .ok (.iconst 3, 1) := by decide +kernel
theorem mk5_d173 : decode method_3_code 173 = .ok (.caload, 1) := by decide +kernel
theorem mk5_d174 : decode method_3_code 174 = .ok (.castore, 1) := by decide +kernel
theorem mk5_d175 : decode method_3_code 175 = .ok (.dup, 1) := by decide +kernel
theorem mk5_d176 : decode method_3_code 176 = .ok (.iconst 4, 1) := by decide +kernel
theorem mk5_d177 : decode method_3_code 177 = .ok (.aload_n 0, 1) := by decide +kernel
theorem mk5_d178 : decode method_3_code 178 = .ok (.iconst 4, 1) := by decide +kernel
theorem mk5_d179 : decode method_3_code 179 = .ok (.caload, 1) := by decide +kernel
theorem mk5_d180 : decode method_3_code 180 = .ok (.castore, 1) := by decide +kernel
theorem mk5_d181 : decode method_3_code 181 = .ok (.invokespecial 22, 3) := by decide +kernel
theorem mk5_d184 : decode method_3_code 184 = .ok (.areturn, 1) := by decide +kernel
theorem mk5_p22 : parseMethodDescriptor "([C)V" = some ⟨[(.array .char)], none⟩ := by decide +kernel
theorem mk5_ef (m : MethodId) (b : Addr) : entryFrame m #[(.ref b), (.int 5)] 2 = mkF m 0 #[.val (.ref b), .val (.int 5)] [] := by first | (simp [entryFrame, mkF, argsToLocals, Value.category]; done) | rfl
theorem mk5_pn : plainFor (⟨"com/example/keywright/keywright/store/TokensReadsPinLaw", "make", "([CI)Ljava/lang/String;"⟩ : MethodName) = true := by first | exact plainFor_of_name (by first | (simp [plainName, overriddenIn]; done) | decide +kernel) | decide +kernel
set_option maxRecDepth 65536 in
set_option maxHeartbeats 40000000 in
theorem mk5 (l : Launch) (Z : State) (a0 : Array Value) (EL : List (String × Nat)) (hw : ∀ d ∈ tables_1, d.before a0 Z = true) (hEW : EW Z a0 EL) (h : Heap) (hS : ∀ d ∈ Bundle.stringAtoms, d.before a0 Z = true) (hmem : ("java/lang/String", 7) ∈ EL) (zc : Int32) (CS : Sta Z Z.heap "java/lang/String" "COMPACT_STRINGS" "Z" (.int zc)) (hzc : ¬ zc = 0) (AD : Sta Z Z.heap "java/lang/StringUTF16" "$assertionsDisabled" "Z" (.int 1)) (HI : Sta Z Z.heap "java/lang/StringUTF16" "HI_BYTE_SHIFT" "I" (.int 0)) (LO : Sta Z Z.heap "java/lang/StringUTF16" "LO_BYTE_SHIFT" "I" (.int 8)) (b : Addr) (kb : ClassId) (dv : Value) (c0 c1 c2 c3 c4 c5 c6 c7 : Int32) (hcs : ∀ q ∈ [c0, c1, c2, c3, c4, c5, c6, c7], ¬ q < 0 ∧ ¬ (65535 : Int32) < q) (V : Arv Z h b kb .char 8 [.int c0, .int c1, .int c2, .int c3, .int c4, .int c5, .int c6, .int c7] dv) :
    Con l Z EL (⟨"com/example/keywright/keywright/store/TokensReadsPinLaw", "make", "([CI)Ljava/lang/String;"⟩ : MethodName) method_3_code 2 (some (.object "java/lang/String")) ({ frames := 7, cells := 6, slots := 36, locals := 112 } : Room) #[(.ref b), (.int 5)] h [] (fun v h' nw => ∃ x t, v = some (.ref x) ∧ nw = [] ∧ Keep h h' [] ∧ own_Str Z a0 h' x t [c0, c1, c2, c3, c4]) := by
  refine Con.of mk5_pn hEW ?_
  intro p e s m below meth c T F B hF hby hml hr hlk hnm S
  rw [mk5_ef]
  have lb := natlt V.lt
  have KK := Keep.refl h []
  show F T (mkF m 0 #[.val (.ref b), .val (.int 5)] [])
  refine B (fun t kt => XS.iloadN S.here S.hx rfl (hb hby mk5_d0) rfl kt) ?_
  show F T (mkF m 1 #[.val (.ref b), .val (.int 5)] [(.int 5)])
  refine B (fun t kt => XS.ifYes S.here S.hx rfl (pc0 := 1) (pc' := 15) rfl (hb hby mk5_d1) rfl (i0_ne_t (by decide)) (by decide) (by decide) kt) ?_
  show F T (mkF m 15 #[.val (.ref b), .val (.int 5)] [])
  refine B (fun t kt => XS.iloadN S.here S.hx rfl (hb hby mk5_d15) rfl kt) ?_
  show F T (mkF m 16 #[.val (.ref b), .val (.int 5)] [(.int 5)])
  refine B (fun t kt => XS.iconst S.here S.hx rfl (hb hby mk5_d16) kt) ?_
  show F T (mkF m 17 #[.val (.ref b), .val (.int 5)] [(.int (1 : Int32)), (.int 5)])
  refine B (fun t kt => XS.icmpYes S.here S.hx rfl (pc0 := 17) (pc' := 37) rfl (hb hby mk5_d17) rfl (ii_ne_t (by decide)) (by decide) (by decide) kt) ?_
  show F T (mkF m 37 #[.val (.ref b), .val (.int 5)] [])
  refine B (fun t kt => XS.iloadN S.here S.hx rfl (hb hby mk5_d37) rfl kt) ?_
  show F T (mkF m 38 #[.val (.ref b), .val (.int 5)] [(.int 5)])
  refine B (fun t kt => XS.iconst S.here S.hx rfl (hb hby mk5_d38) kt) ?_
  show F T (mkF m 39 #[.val (.ref b), .val (.int 5)] [(.int (2 : Int32)), (.int 5)])
  refine B (fun t kt => XS.icmpYes S.here S.hx rfl (pc0 := 39) (pc' := 65) rfl (hb hby mk5_d39) rfl (ii_ne_t (by decide)) (by decide) (by decide) kt) ?_
  show F T (mkF m 65 #[.val (.ref b), .val (.int 5)] [])
  refine B (fun t kt => XS.iloadN S.here S.hx rfl (hb hby mk5_d65) rfl kt) ?_
  show F T (mkF m 66 #[.val (.ref b), .val (.int 5)] [(.int 5)])
  refine B (fun t kt => XS.iconst S.here S.hx rfl (hb hby mk5_d66) kt) ?_
  show F T (mkF m 67 #[.val (.ref b), .val (.int 5)] [(.int (3 : Int32)), (.int 5)])
  refine B (fun t kt => XS.icmpYes S.here S.hx rfl (pc0 := 67) (pc' := 99) rfl (hb hby mk5_d67) rfl (ii_ne_t (by decide)) (by decide) (by decide) kt) ?_
  show F T (mkF m 99 #[.val (.ref b), .val (.int 5)] [])
  refine B (fun t kt => XS.iloadN S.here S.hx rfl (hb hby mk5_d99) rfl kt) ?_
  show F T (mkF m 100 #[.val (.ref b), .val (.int 5)] [(.int 5)])
  refine B (fun t kt => XS.iconst S.here S.hx rfl (hb hby mk5_d100) kt) ?_
  show F T (mkF m 101 #[.val (.ref b), .val (.int 5)] [(.int (4 : Int32)), (.int 5)])
  refine B (fun t kt => XS.icmpYes S.here S.hx rfl (pc0 := 101) (pc' := 139) rfl (hb hby mk5_d101) rfl (ii_ne_t (by decide)) (by decide) (by decide) kt) ?_
  show F T (mkF m 139 #[.val (.ref b), .val (.int 5)] [])
  refine B (fun t kt => XS.iloadN S.here S.hx rfl (hb hby mk5_d139) rfl kt) ?_
  show F T (mkF m 140 #[.val (.ref b), .val (.int 5)] [(.int 5)])
  refine B (fun t kt => XS.iconst S.here S.hx rfl (hb hby mk5_d140) kt) ?_
  show F T (mkF m 141 #[.val (.ref b), .val (.int 5)] [(.int (5 : Int32)), (.int 5)])
  refine B (fun t kt => XS.icmpNo S.here S.hx rfl (hb hby mk5_d141) rfl (ii_ne_f rfl) kt) ?_
  show F T (mkF m 144 #[.val (.ref b), .val (.int 5)] [])
  refine Sp.newO B S (hw _ (List.mem_of_getElem? (i := 6) rfl)) (hw _ (List.mem_of_getElem? (i := 7) rfl)) (hw _ (List.mem_of_getElem? (i := 8) rfl)) (hb hby mk5_d144) (by decide) (by decide) fun T h1 x S E gx Ax D => ?_
  have O : Ob Z a0 h1 x "java/lang/String" [("java/lang/String", "value", "[B", .null), ("java/lang/String", "coder", "B", (.int 0))] := Ob.new Ax D [("java/lang/String", "value", "[B", (.array .byte)), ("java/lang/String", "coder", "B", .byte)] (all_cons ⟨(Or.inr (hw _ (List.mem_of_getElem? (i := 34) rfl))), by decide⟩ (all_cons ⟨(Or.inr (hw _ (List.mem_of_getElem? (i := 32) rfl))), by decide⟩ all_nil))
  show F T (mkF m 147 #[.val (.ref b), .val (.int 5)] [(.ref x)])
  replace V := V.ext E
  replace KK := KK.ext E
  have lx := natlt O.lt
  refine B (fun t kt => XS.dup S.here S.hx rfl (hb hby mk5_d147) rfl rfl kt) ?_
  show F T (mkF m 148 #[.val (.ref b), .val (.int 5)] [(.ref x), (.ref x)])
  refine B (fun t kt => XS.iconst S.here S.hx rfl (hb hby mk5_d148) kt) ?_
  show F T (mkF m 149 #[.val (.ref b), .val (.int 5)] [(.int (5 : Int32)), (.ref x), (.ref x)])
  refine Sp.newP B S (cap := 5) (hw _ (List.mem_of_getElem? (i := 0) rfl)) (hb hby mk5_d149) (by decide) (by decide) (by decide) (by decide) (by decide) (ad := "[C") (by decide) fun T h2 y ky S E gy Xy Vy => ?_
  show F T (mkF m 151 #[.val (.ref b), .val (.int 5)] [(.ref y), (.ref x), (.ref x)])
  replace V := V.ext E
  replace KK := KK.ext E
  replace O := O.ext E
  have ly := natlt Vy.lt
  replace Vy : Arv Z h2 y ky .char 5 [.int 0, .int 0, .int 0, .int 0, .int 0] (.int 0) := Vy.pad (pad_rep [] (.int 0) 5)
  refine B (fun t kt => XS.dup S.here S.hx rfl (hb hby mk5_d151) rfl rfl kt) ?_
  show F T (mkF m 152 #[.val (.ref b), .val (.int 5)] [(.ref y), (.ref y), (.ref x), (.ref x)])
  refine B (fun t kt => XS.iconst S.here S.hx rfl (hb hby mk5_d152) kt) ?_
  show F T (mkF m 153 #[.val (.ref b), .val (.int 5)] [(.int (0 : Int32)), (.ref y), (.ref y), (.ref x), (.ref x)])
  refine B (fun t kt => XS.aloadN S.here S.hx rfl (hb hby mk5_d153) rfl rfl kt) ?_
  show F T (mkF m 154 #[.val (.ref b), .val (.int 5)] [(.ref b), (.int (0 : Int32)), (.ref y), (.ref y), (.ref x), (.ref x)])
  refine B (fun t kt => XS.iconst S.here S.hx rfl (hb hby mk5_d154) kt) ?_
  show F T (mkF m 155 #[.val (.ref b), .val (.int 5)] [(.int (0 : Int32)), (.ref b), (.int (0 : Int32)), (.ref y), (.ref y), (.ref x), (.ref x)])
  refine Sp.cald B S V (by decide) (by rfl) (hb hby mk5_d155) ?_
  show F T (mkF m 156 #[.val (.ref b), .val (.int 5)] [(.int c0), (.int (0 : Int32)), (.ref y), (.ref y), (.ref x), (.ref x)])
  refine Sp.stC B S Vy (i := 0) (by decide) (by decide) (by simp) (own_narc (hcs c0 (by simp))) (by simp) (hb hby mk5_d156) fun T h3 S W Vy => ?_
  replace Vy : Arv Z h3 y ky .char 5 [.int c0, .int 0, .int 0, .int 0, .int 0] (.int 0) := Vy
  replace KK := KK.wr W (Or.inr (by omega))
  replace V := V.other W (natne (by omega))
  replace O := O.other W (natne (by omega))
  show F T (mkF m 157 #[.val (.ref b), .val (.int 5)] [(.ref y), (.ref x), (.ref x)])
  refine B (fun t kt => XS.dup S.here S.hx rfl (hb hby mk5_d157) rfl rfl kt) ?_
  show F T (mkF m 158 #[.val (.ref b), .val (.int 5)] [(.ref y), (.ref y), (.ref x), (.ref x)])
  refine B (fun t kt => XS.iconst S.here S.hx rfl (hb hby mk5_d158) kt) ?_
  show F T (mkF m 159 #[.val (.ref b), .val (.int 5)] [(.int (1 : Int32)), (.ref y), (.ref y), (.ref x), (.ref x)])
  refine B (fun t kt => XS.aloadN S.here S.hx rfl (hb hby mk5_d159) rfl rfl kt) ?_
  show F T (mkF m 160 #[.val (.ref b), .val (.int 5)] [(.ref b), (.int (1 : Int32)), (.ref y), (.ref y), (.ref x), (.ref x)])
  refine B (fun t kt => XS.iconst S.here S.hx rfl (hb hby mk5_d160) kt) ?_
  show F T (mkF m 161 #[.val (.ref b), .val (.int 5)] [(.int (1 : Int32)), (.ref b), (.int (1 : Int32)), (.ref y), (.ref y), (.ref x), (.ref x)])
  refine Sp.cald B S V (by decide) (by rfl) (hb hby mk5_d161) ?_
  show F T (mkF m 162 #[.val (.ref b), .val (.int 5)] [(.int c1), (.int (1 : Int32)), (.ref y), (.ref y), (.ref x), (.ref x)])
  refine Sp.stC B S Vy (i := 1) (by decide) (by decide) (by simp) (own_narc (hcs c1 (by simp))) (by simp) (hb hby mk5_d162) fun T h4 S W Vy => ?_
  replace Vy : Arv Z h4 y ky .char 5 [.int c0, .int c1, .int 0, .int 0, .int 0] (.int 0) := Vy
  replace KK := KK.wr W (Or.inr (by omega))
  replace V := V.other W (natne (by omega))
  replace O := O.other W (natne (by omega))
  show F T (mkF m 163 #[.val (.ref b), .val (.int 5)] [(.ref y), (.ref x), (.ref x)])
  refine B (fun t kt => XS.dup S.here S.hx rfl (hb hby mk5_d163) rfl rfl kt) ?_
  show F T (mkF m 164 #[.val (.ref b), .val (.int 5)] [(.ref y), (.ref y), (.ref x), (.ref x)])
  refine B (fun t kt => XS.iconst S.here S.hx rfl (hb hby mk5_d164) kt) ?_
  show F T (mkF m 165 #[.val (.ref b), .val (.int 5)] [(.int (2 : Int32)), (.ref y), (.ref y), (.ref x), (.ref x)])
  refine B (fun t kt => XS.aloadN S.here S.hx rfl (hb hby mk5_d165) rfl rfl kt) ?_
  show F T (mkF m 166 #[.val (.ref b), .val (.int 5)] [(.ref b), (.int (2 : Int32)), (.ref y), (.ref y), (.ref x), (.ref x)])
  refine B (fun t kt => XS.iconst S.here S.hx rfl (hb hby mk5_d166) kt) ?_
  show F T (mkF m 167 #[.val (.ref b), .val (.int 5)] [(.int (2 : Int32)), (.ref b), (.int (2 : Int32)), (.ref y), (.ref y), (.ref x), (.ref x)])
  refine Sp.cald B S V (by decide) (by rfl) (hb hby mk5_d167) ?_
  show F T (mkF m 168 #[.val (.ref b), .val (.int 5)] [(.int c2), (.int (2 : Int32)), (.ref y), (.ref y), (.ref x), (.ref x)])
  refine Sp.stC B S Vy (i := 2) (by decide) (by decide) (by simp) (own_narc (hcs c2 (by simp))) (by simp) (hb hby mk5_d168) fun T h5 S W Vy => ?_
  replace Vy : Arv Z h5 y ky .char 5 [.int c0, .int c1, .int c2, .int 0, .int 0] (.int 0) := Vy
  replace KK := KK.wr W (Or.inr (by omega))
  replace V := V.other W (natne (by omega))
  replace O := O.other W (natne (by omega))
  show F T (mkF m 169 #[.val (.ref b), .val (.int 5)] [(.ref y), (.ref x), (.ref x)])
  refine B (fun t kt => XS.dup S.here S.hx rfl (hb hby mk5_d169) rfl rfl kt) ?_
  show F T (mkF m 170 #[.val (.ref b), .val (.int 5)] [(.ref y), (.ref y), (.ref x), (.ref x)])
  refine B (fun t kt => XS.iconst S.here S.hx rfl (hb hby mk5_d170) kt) ?_
  show F T (mkF m 171 #[.val (.ref b), .val (.int 5)] [(.int (3 : Int32)), (.ref y), (.ref y), (.ref x), (.ref x)])
  refine B (fun t kt => XS.aloadN S.here S.hx rfl (hb hby mk5_d171) rfl rfl kt) ?_
  show F T (mkF m 172 #[.val (.ref b), .val (.int 5)] [(.ref b), (.int (3 : Int32)), (.ref y), (.ref y), (.ref x), (.ref x)])
  refine B (fun t kt => XS.iconst S.here S.hx rfl (hb hby mk5_d172) kt) ?_
  show F T (mkF m 173 #[.val (.ref b), .val (.int 5)] [(.int (3 : Int32)), (.ref b), (.int (3 : Int32)), (.ref y), (.ref y), (.ref x), (.ref x)])
  refine Sp.cald B S V (by decide) (by rfl) (hb hby mk5_d173) ?_
  show F T (mkF m 174 #[.val (.ref b), .val (.int 5)] [(.int c3), (.int (3 : Int32)), (.ref y), (.ref y), (.ref x), (.ref x)])
  refine Sp.stC B S Vy (i := 3) (by decide) (by decide) (by simp) (own_narc (hcs c3 (by simp))) (by simp) (hb hby mk5_d174) fun T h6 S W Vy => ?_
  replace Vy : Arv Z h6 y ky .char 5 [.int c0, .int c1, .int c2, .int c3, .int 0] (.int 0) := Vy
  replace KK := KK.wr W (Or.inr (by omega))
  replace V := V.other W (natne (by omega))
  replace O := O.other W (natne (by omega))
  show F T (mkF m 175 #[.val (.ref b), .val (.int 5)] [(.ref y), (.ref x), (.ref x)])
  refine B (fun t kt => XS.dup S.here S.hx rfl (hb hby mk5_d175) rfl rfl kt) ?_
  show F T (mkF m 176 #[.val (.ref b), .val (.int 5)] [(.ref y), (.ref y), (.ref x), (.ref x)])
  refine B (fun t kt => XS.iconst S.here S.hx rfl (hb hby mk5_d176) kt) ?_
  show F T (mkF m 177 #[.val (.ref b), .val (.int 5)] [(.int (4 : Int32)), (.ref y), (.ref y), (.ref x), (.ref x)])
  refine B (fun t kt => XS.aloadN S.here S.hx rfl (hb hby mk5_d177) rfl rfl kt) ?_
  show F T (mkF m 178 #[.val (.ref b), .val (.int 5)] [(.ref b), (.int (4 : Int32)), (.ref y), (.ref y), (.ref x), (.ref x)])
  refine B (fun t kt => XS.iconst S.here S.hx rfl (hb hby mk5_d178) kt) ?_
  show F T (mkF m 179 #[.val (.ref b), .val (.int 5)] [(.int (4 : Int32)), (.ref b), (.int (4 : Int32)), (.ref y), (.ref y), (.ref x), (.ref x)])
  refine Sp.cald B S V (by decide) (by rfl) (hb hby mk5_d179) ?_
  show F T (mkF m 180 #[.val (.ref b), .val (.int 5)] [(.int c4), (.int (4 : Int32)), (.ref y), (.ref y), (.ref x), (.ref x)])
  refine Sp.stC B S Vy (i := 4) (by decide) (by decide) (by simp) (own_narc (hcs c4 (by simp))) (by simp) (hb hby mk5_d180) fun T h7 S W Vy => ?_
  replace Vy : Arv Z h7 y ky .char 5 [.int c0, .int c1, .int c2, .int c3, .int c4] (.int 0) := Vy
  replace KK := KK.wr W (Or.inr (by omega))
  replace V := V.other W (natne (by omega))
  replace O := O.other W (natne (by omega))
  show F T (mkF m 181 #[.val (.ref b), .val (.int 5)] [(.ref y), (.ref x), (.ref x)])
  refine Sp.special B S (y := (⟨"java/lang/String", "<init>", "([C)V"⟩ : MethodName)) (argsL := [(.ref y)]) (rest := [(.ref x)]) rfl (hw _ (List.mem_of_getElem? (i := 9) rfl)) (hw _ (List.mem_of_getElem? (i := 10) rfl)) (hw _ (List.mem_of_getElem? (i := 11) rfl)) (by decide) (own_new (W := 1) Z a0 EL hw hEW h7 hS hmem zc CS hzc AD HI LO [c0, c1, c2, c3, c4] (by show 5 ≤ 8; decide) (fun q hq => hcs q (List.mem_of_mem_take (i := 5) (l := [c0, c1, c2, c3, c4, c5, c6, c7]) hq)) x y (natne (by omega)) (S.isnew (by simp)) S.old _ _ O ky _ Vy (by decide) (by decide)) (by simp) (by decide) (by decide) (by rw [hml]; rfl) (lenOf mk5_p22 rfl) rfl (Nat.le_of_eq rfl) (hb hby mk5_d181) fun v T h8 nw S hQ => ?_
  obtain ⟨rfl, rfl, K, t, ne, G⟩ := hQ
  replace KK := KK.trans K (qk1 (by first | (refine Or.inl ?_; simp; done) | (refine Or.inr ?_; omega)))
  show F T (mkF m 184 #[.val (.ref b), .val (.int 5)] [(.ref x)])
  exact hF ((S.mono (by decide) (by decide)).retA hr hlk rfl rfl (hb hby mk5_d184) (nw := []) ⟨x, t, rfl, rfl, KK, G⟩ (by simp))
theorem mk6_d0 : decode method_3_code 0 = .ok (.iload_n 1, 1) := by decide +kernel
theorem mk6_d1 : decode method_3_code 1 = .ok (.ifCond .ne 14, 3) := by decide +kernel
theorem mk6_d15 : decode method_3_code 15 = .ok (.iload_n 1, 1) := by decide +kernel
theorem mk6_d16 : decode method_3_code 16 = .ok (.iconst 1, 1) := by decide +kernel
theorem mk6_d17 : decode method_3_code 17 = .ok (.if_icmp .ne 20, 3) := by decide +kernel
theorem mk6_d37 : decode method_3_code 37 = .ok (.iload_n 1, 1) := by decide +kernel
theorem mk6_d38 : decode method_3_code 38 = .ok (.iconst 2, 1) := by decide +kernel
theorem mk6_d39 : decode method_3_code 39 = .ok (.if_icmp .ne 26, 3) := by decide +kernel
theorem mk6_d65 : decode method_3_code 65 = .ok (.iload_n 1, 1) := by decide +kernel
theorem mk6_d66 : decode method_3_code 66 = .ok (.iconst 3, 1) := by decide +kernel
theorem mk6_d67 : decode method_3_code 67 = .ok (.if_icmp .ne 32, 3) := by decide +kernel
theorem mk6_d99 : decode method_3_code 99 = .ok (.iload_n 1, 1) := by decide +kernel
theorem mk6_d100 : decode method_3_code 100 = .ok (.iconst 4, 1) := by decide +kernel
theorem mk6_d101 : decode method_3_code 101 = .ok (.if_icmp .ne 38, 3) := by decide +kernel
theorem mk6_d139 : decode method_3_code 139 = .ok (.iload_n 1, 1) := by decide +kernel
theorem mk6_d140 : decode method_3_code 140 = .ok (.iconst 5, 1) := by decide +kernel
theorem mk6_d141 : decode method_3_code 141 = .ok (.if_icmp .ne 44, 3) := by decide +kernel
theorem mk6_d185 : decode method_3_code 185 = .ok (.iload_n 1, 1) := by decide +kernel
theorem mk6_d186 : decode method_3_code 186 = .ok (.bipush 6, 2) := by decide +kernel
theorem mk6_d188 : decode method_3_code 188 = .ok (.if_icmp .ne 51, 3) := by decide +kernel
theorem mk6_d191 : decode method_3_code 191 = .ok (.new 20, 3) := by decide +kernel
theorem mk6_d194 : decode method_3_code 194 = .ok (.dup, 1) := by decide +kernel
theorem mk6_d195 : decode method_3_code 195 = .ok (.bipush 6, 2) := by decide +kernel
theorem mk6_d197 : decode method_3_code 197 = .ok (.newarray .char, 2) := by decide +kernel
theorem mk6_d199 : decode method_3_code 199 = .ok (.dup, 1) := by decide +kernel
theorem mk6_d200 : decode method_3_code 200 = .ok (.iconst 0, 1) := by decide +kernel
theorem mk6_d201 : decode method_3_code 201 = .ok (.aload_n 0, 1) := by decide +kernel
theorem mk6_d202 : decode method_3_code 202 = .ok (.iconst 0, 1) := by decide +kernel
theorem mk6_d203 : decode method_3_code 203 = .ok (.caload, 1) := by decide +kernel
theorem mk6_d204 : decode method_3_code 204 = .ok (.castore, 1) := by decide +kernel
theorem mk6_d205 : decode method_3_code 205 = .ok (.dup, 1) := by decide +kernel
theorem mk6_d206 : decode method_3_code 206 = .ok (.iconst 1, 1) := by decide +kernel
theorem mk6_d207 : decode method_3_code 207 = .ok (.aload_n 0, 1) := by decide +kernel
theorem mk6_d208 : decode method_3_code 208 = .ok (.iconst 1, 1) := by decide +kernel
theorem mk6_d209 : decode method_3_code 209 = .ok (.caload, 1) := by decide +kernel
theorem mk6_d210 : decode method_3_code 210 = .ok (.castore, 1) := by decide +kernel
theorem mk6_d211 : decode method_3_code 211 = .ok (.dup, 1) := by decide +kernel
theorem mk6_d212 : decode method_3_code 212 = .ok (.iconst 2, 1) := by decide +kernel
theorem mk6_d213 : decode method_3_code 213 = .ok (.aload_n 0, 1) := by decide +kernel
theorem mk6_d214 : decode method_3_code 214 = .ok (.iconst 2, 1) := by decide +kernel
theorem mk6_d215 : decode method_3_code 215 = .ok (.caload, 1) := by decide +kernel
theorem mk6_d216 : decode method_3_code 216 = .ok (.castore, 1) := by decide +kernel
theorem mk6_d217 : decode method_3_code 217 = .ok (.dup, 1) := by decide +kernel
theorem mk6_d218 : decode method_3_code 218 = .ok (.iconst 3, 1) := by decide +kernel
theorem mk6_d219 : decode method_3_code 219 = .ok (.aload_n 0, 1) := by decide +kernel
theorem mk6_d220 : decode method_3_code 220 = .ok (.iconst 3, 1) := by decide +kernel
theorem mk6_d221 : decode method_3_code 221 = .ok (.caload, 1) := by decide +kernel
theorem mk6_d222 : decode method_3_code 222 = .ok (.castore, 1) := by decide +kernel
theorem mk6_d223 : decode method_3_code 223 = .ok (.dup, 1) := by decide +kernel
theorem mk6_d224 : decode method_3_code 224 = .ok (.iconst 4, 1) := by decide +kernel
theorem mk6_d225 : decode method_3_code 225 = .ok (.aload_n 0, 1) := by decide +kernel
theorem mk6_d226 : decode method_3_code 226 = .ok (.iconst 4, 1) := by decide +kernel
theorem mk6_d227 : decode method_3_code 227 = .ok (.caload, 1) := by decide +kernel
theorem mk6_d228 : decode method_3_code 228 = .ok (.castore, 1) := by decide +kernel
theorem mk6_d229 : decode method_3_code 229 = .ok (.dup, 1) := by decide +kernel
theorem mk6_d230 : decode method_3_code 230 = .ok (.iconst 5, 1) := by decide +kernel
theorem mk6_d231 : decode method_3_code 231 = .ok (.aload_n 0, 1) := by decide +kernel
theorem mk6_d232 : decode method_3_code 232 = .ok (.iconst 5, 1) := by decide +kernel
theorem mk6_d233 : decode method_3_code 233 = .ok (.caload, 1) := by decide +kernel
theorem mk6_d234 : decode method_3_code 234 = .ok (.castore, 1) := by decide +kernel
theorem mk6_d235 : decode method_3_code 235 = .ok (.invokespecial 22, 3) := by decide +kernel
theorem mk6_d238 : decode method_3_code 238 = .ok (.areturn, 1) := by decide +kernel
theorem mk6_p22 : parseMethodDescriptor "([C)V" = some ⟨[(.array .char)], none⟩ := by decide +kernel
theorem mk6_ef (m : MethodId) (b : Addr) : entryFrame m #[(.ref b), (.int 6)] 2 = mkF m 0 #[.val (.ref b), .val (.int 6)] [] := by first | (simp [entryFrame, mkF, argsToLocals, Value.category]; done) | rfl
theorem mk6_pn : plainFor (⟨"com/example/keywright/keywright/store/TokensReadsPinLaw", "make", "([CI)Ljava/lang/String;"⟩ : MethodName) = true := by first | exact plainFor_of_name (by first | (simp [plainName, overriddenIn]; done) | decide +kernel) | decide +kernel
set_option maxRecDepth 65536 in
set_option maxHeartbeats 40000000 in
theorem mk6 (l : Launch) (Z : State) (a0 : Array Value) (EL : List (String × Nat)) (hw : ∀ d ∈ tables_1, d.before a0 Z = true) (hEW : EW Z a0 EL) (h : Heap) (hS : ∀ d ∈ Bundle.stringAtoms, d.before a0 Z = true) (hmem : ("java/lang/String", 7) ∈ EL) (zc : Int32) (CS : Sta Z Z.heap "java/lang/String" "COMPACT_STRINGS" "Z" (.int zc)) (hzc : ¬ zc = 0) (AD : Sta Z Z.heap "java/lang/StringUTF16" "$assertionsDisabled" "Z" (.int 1)) (HI : Sta Z Z.heap "java/lang/StringUTF16" "HI_BYTE_SHIFT" "I" (.int 0)) (LO : Sta Z Z.heap "java/lang/StringUTF16" "LO_BYTE_SHIFT" "I" (.int 8)) (b : Addr) (kb : ClassId) (dv : Value) (c0 c1 c2 c3 c4 c5 c6 c7 : Int32) (hcs : ∀ q ∈ [c0, c1, c2, c3, c4, c5, c6, c7], ¬ q < 0 ∧ ¬ (65535 : Int32) < q) (V : Arv Z h b kb .char 8 [.int c0, .int c1, .int c2, .int c3, .int c4, .int c5, .int c6, .int c7] dv) :
    Con l Z EL (⟨"com/example/keywright/keywright/store/TokensReadsPinLaw", "make", "([CI)Ljava/lang/String;"⟩ : MethodName) method_3_code 2 (some (.object "java/lang/String")) ({ frames := 7, cells := 6, slots := 36, locals := 112 } : Room) #[(.ref b), (.int 6)] h [] (fun v h' nw => ∃ x t, v = some (.ref x) ∧ nw = [] ∧ Keep h h' [] ∧ own_Str Z a0 h' x t [c0, c1, c2, c3, c4, c5]) := by
  refine Con.of mk6_pn hEW ?_
  intro p e s m below meth c T F B hF hby hml hr hlk hnm S
  rw [mk6_ef]
  have lb := natlt V.lt
  have KK := Keep.refl h []
  show F T (mkF m 0 #[.val (.ref b), .val (.int 6)] [])
  refine B (fun t kt => XS.iloadN S.here S.hx rfl (hb hby mk6_d0) rfl kt) ?_
  show F T (mkF m 1 #[.val (.ref b), .val (.int 6)] [(.int 6)])
  refine B (fun t kt => XS.ifYes S.here S.hx rfl (pc0 := 1) (pc' := 15) rfl (hb hby mk6_d1) rfl (i0_ne_t (by decide)) (by decide) (by decide) kt) ?_
  show F T (mkF m 15 #[.val (.ref b), .val (.int 6)] [])
  refine B (fun t kt => XS.iloadN S.here S.hx rfl (hb hby mk6_d15) rfl kt) ?_
  show F T (mkF m 16 #[.val (.ref b), .val (.int 6)] [(.int 6)])
  refine B (fun t kt => XS.iconst S.here S.hx rfl (hb hby mk6_d16) kt) ?_
  show F T (mkF m 17 #[.val (.ref b), .val (.int 6)] [(.int (1 : Int32)), (.int 6)])
  refine B (fun t kt => XS.icmpYes S.here S.hx rfl (pc0 := 17) (pc' := 37) rfl (hb hby mk6_d17) rfl (ii_ne_t (by decide)) (by decide) (by decide) kt) ?_
  show F T (mkF m 37 #[.val (.ref b), .val (.int 6)] [])
  refine B (fun t kt => XS.iloadN S.here S.hx rfl (hb hby mk6_d37) rfl kt) ?_
  show F T (mkF m 38 #[.val (.ref b), .val (.int 6)] [(.int 6)])
  refine B (fun t kt => XS.iconst S.here S.hx rfl (hb hby mk6_d38) kt) ?_
  show F T (mkF m 39 #[.val (.ref b), .val (.int 6)] [(.int (2 : Int32)), (.int 6)])
  refine B (fun t kt => XS.icmpYes S.here S.hx rfl (pc0 := 39) (pc' := 65) rfl (hb hby mk6_d39) rfl (ii_ne_t (by decide)) (by decide) (by decide) kt) ?_
  show F T (mkF m 65 #[.val (.ref b), .val (.int 6)] [])
  refine B (fun t kt => XS.iloadN S.here S.hx rfl (hb hby mk6_d65) rfl kt) ?_
  show F T (mkF m 66 #[.val (.ref b), .val (.int 6)] [(.int 6)])
  refine B (fun t kt => XS.iconst S.here S.hx rfl (hb hby mk6_d66) kt) ?_
  show F T (mkF m 67 #[.val (.ref b), .val (.int 6)] [(.int (3 : Int32)), (.int 6)])
  refine B (fun t kt => XS.icmpYes S.here S.hx rfl (pc0 := 67) (pc' := 99) rfl (hb hby mk6_d67) rfl (ii_ne_t (by decide)) (by decide) (by decide) kt) ?_
  show F T (mkF m 99 #[.val (.ref b), .val (.int 6)] [])
  refine B (fun t kt => XS.iloadN S.here S.hx rfl (hb hby mk6_d99) rfl kt) ?_
  show F T (mkF m 100 #[.val (.ref b), .val (.int 6)] [(.int 6)])
  refine B (fun t kt => XS.iconst S.here S.hx rfl (hb hby mk6_d100) kt) ?_
  show F T (mkF m 101 #[.val (.ref b), .val (.int 6)] [(.int (4 : Int32)), (.int 6)])
  refine B (fun t kt => XS.icmpYes S.here S.hx rfl (pc0 := 101) (pc' := 139) rfl (hb hby mk6_d101) rfl (ii_ne_t (by decide)) (by decide) (by decide) kt) ?_
  show F T (mkF m 139 #[.val (.ref b), .val (.int 6)] [])
  refine B (fun t kt => XS.iloadN S.here S.hx rfl (hb hby mk6_d139) rfl kt) ?_
  show F T (mkF m 140 #[.val (.ref b), .val (.int 6)] [(.int 6)])
  refine B (fun t kt => XS.iconst S.here S.hx rfl (hb hby mk6_d140) kt) ?_
  show F T (mkF m 141 #[.val (.ref b), .val (.int 6)] [(.int (5 : Int32)), (.int 6)])
  refine B (fun t kt => XS.icmpYes S.here S.hx rfl (pc0 := 141) (pc' := 185) rfl (hb hby mk6_d141) rfl (ii_ne_t (by decide)) (by decide) (by decide) kt) ?_
  show F T (mkF m 185 #[.val (.ref b), .val (.int 6)] [])
  refine B (fun t kt => XS.iloadN S.here S.hx rfl (hb hby mk6_d185) rfl kt) ?_
  show F T (mkF m 186 #[.val (.ref b), .val (.int 6)] [(.int 6)])
  refine B (fun t kt => XS.bipush S.here S.hx rfl (hb hby mk6_d186) kt) ?_
  show F T (mkF m 188 #[.val (.ref b), .val (.int 6)] [(.int (6 : Int32)), (.int 6)])
  refine B (fun t kt => XS.icmpNo S.here S.hx rfl (hb hby mk6_d188) rfl (ii_ne_f rfl) kt) ?_
  show F T (mkF m 191 #[.val (.ref b), .val (.int 6)] [])
  refine Sp.newO B S (hw _ (List.mem_of_getElem? (i := 6) rfl)) (hw _ (List.mem_of_getElem? (i := 7) rfl)) (hw _ (List.mem_of_getElem? (i := 8) rfl)) (hb hby mk6_d191) (by decide) (by decide) fun T h1 x S E gx Ax D => ?_
  have O : Ob Z a0 h1 x "java/lang/String" [("java/lang/String", "value", "[B", .null), ("java/lang/String", "coder", "B", (.int 0))] := Ob.new Ax D [("java/lang/String", "value", "[B", (.array .byte)), ("java/lang/String", "coder", "B", .byte)] (all_cons ⟨(Or.inr (hw _ (List.mem_of_getElem? (i := 34) rfl))), by decide⟩ (all_cons ⟨(Or.inr (hw _ (List.mem_of_getElem? (i := 32) rfl))), by decide⟩ all_nil))
  show F T (mkF m 194 #[.val (.ref b), .val (.int 6)] [(.ref x)])
  replace V := V.ext E
  replace KK := KK.ext E
  have lx := natlt O.lt
  refine B (fun t kt => XS.dup S.here S.hx rfl (hb hby mk6_d194) rfl rfl kt) ?_
  show F T (mkF m 195 #[.val (.ref b), .val (.int 6)] [(.ref x), (.ref x)])
  refine B (fun t kt => XS.bipush S.here S.hx rfl (hb hby mk6_d195) kt) ?_
  show F T (mkF m 197 #[.val (.ref b), .val (.int 6)] [(.int (6 : Int32)), (.ref x), (.ref x)])
  refine Sp.newP B S (cap := 6) (hw _ (List.mem_of_getElem? (i := 0) rfl)) (hb hby mk6_d197) (by decide) (by decide) (by decide) (by decide) (by decide) (ad := "[C") (by decide) fun T h2 y ky S E gy Xy Vy => ?_
  show F T (mkF m 199 #[.val (.ref b), .val (.int 6)] [(.ref y), (.ref x), (.ref x)])
  replace V := V.ext E
  replace KK := KK.ext E
  replace O := O.ext E
  have ly := natlt Vy.lt
  replace Vy : Arv Z h2 y ky .char 6 [.int 0, .int 0, .int 0, .int 0, .int 0, .int 0] (.int 0) := Vy.pad (pad_rep [] (.int 0) 6)
  refine B (fun t kt => XS.dup S.here S.hx rfl (hb hby mk6_d199) rfl rfl kt) ?_
  show F T (mkF m 200 #[.val (.ref b), .val (.int 6)] [(.ref y), (.ref y), (.ref x), (.ref x)])
  refine B (fun t kt => XS.iconst S.here S.hx rfl (hb hby mk6_d200) kt) ?_
  show F T (mkF m 201 #[.val (.ref b), .val (.int 6)] [(.int (0 : Int32)), (.ref y), (.ref y), (.ref x), (.ref x)])
  refine B (fun t kt => XS.aloadN S.here S.hx rfl (hb hby mk6_d201) rfl rfl kt) ?_
  show F T (mkF m 202 #[.val (.ref b), .val (.int 6)] [(.ref b), (.int (0 : Int32)), (.ref y), (.ref y), (.ref x), (.ref x)])
  refine B (fun t kt => XS.iconst S.here S.hx rfl (hb hby mk6_d202) kt) ?_
  show F T (mkF m 203 #[.val (.ref b), .val (.int 6)] [(.int (0 : Int32)), (.ref b), (.int (0 : Int32)), (.ref y), (.ref y), (.ref x), (.ref x)])
  refine Sp.cald B S V (by decide) (by rfl) (hb hby mk6_d203) ?_
  show F T (mkF m 204 #[.val (.ref b), .val (.int 6)] [(.int c0), (.int (0 : Int32)), (.ref y), (.ref y), (.ref x), (.ref x)])
  refine Sp.stC B S Vy (i := 0) (by decide) (by decide) (by simp) (own_narc (hcs c0 (by simp))) (by simp) (hb hby mk6_d204) fun T h3 S W Vy => ?_
  replace Vy : Arv Z h3 y ky .char 6 [.int c0, .int 0, .int 0, .int 0, .int 0, .int 0] (.int 0) := Vy
  replace KK := KK.wr W (Or.inr (by omega))
  replace V := V.other W (natne (by omega))
  replace O := O.other W (natne (by omega))
  show F T (mkF m 205 #[.val (.ref b), .val (.int 6)] [(.ref y), (.ref x), (.ref x)])
  refine B (fun t kt => XS.dup S.here S.hx rfl (hb hby mk6_d205) rfl rfl kt) ?_
  show F T (mkF m 206 #[.val (.ref b), .val (.int 6)] [(.ref y), (.ref y), (.ref x), (.ref x)])
  refine B (fun t kt => XS.iconst S.here S.hx rfl (hb hby mk6_d206) kt) ?_
  show F T (mkF m 207 #[.val (.ref b), .val (.int 6)] [(.int (1 : Int32)), (.ref y), (.ref y), (.ref x), (.ref x)])
  refine B (fun t kt => XS.aloadN S.here S.hx rfl (hb hby mk6_d207) rfl rfl kt) ?_
  show F T (mkF m 208 #[.val (.ref b), .val (.int 6)] [(.ref b), (.int (1 : Int32)), (.ref y), (.ref y), (.ref x), (.ref x)])
  refine B (fun t kt => XS.iconst S.here S.hx rfl (hb hby mk6_d208) kt) ?_
  show F T (mkF m 209 #[.val (.ref b), .val (.int 6)] [(.int (1 : Int32)), (.ref b), (.int (1 : Int32)), (.ref y), (.ref y), (.ref x), (.ref x)])
  refine Sp.cald B S V (by decide) (by rfl) (hb hby mk6_d209) ?_
  show F T (mkF m 210 #[.val (.ref b), .val (.int 6)] [(.int c1), (.int (1 : Int32)), (.ref y), (.ref y), (.ref x), (.ref x)])
  refine Sp.stC B S Vy (i := 1) (by decide) (by decide) (by simp) (own_narc (hcs c1 (by simp))) (by simp) (hb hby mk6_d210) fun T h4 S W Vy => ?_
  replace Vy : Arv Z h4 y ky .char 6 [.int c0, .int c1, .int 0, .int 0, .int 0, .int 0] (.int 0) := Vy
  replace KK := KK.wr W (Or.inr (by omega))
  replace V := V.other W (natne (by omega))
  replace O := O.other W (natne (by omega))
  show F T (mkF m 211 #[.val (.ref b), .val (.int 6)] [(.ref y), (.ref x), (.ref x)])
  refine B (fun t kt => XS.dup S.here S.hx rfl (hb hby mk6_d211) rfl rfl kt) ?_
  show F T (mkF m 212 #[.val (.ref b), .val (.int 6)] [(.ref y), (.ref y), (.ref x), (.ref x)])
  refine B (fun t kt => XS.iconst S.here S.hx rfl (hb hby mk6_d212) kt) ?_
  show F T (mkF m 213 #[.val (.ref b), .val (.int 6)] [(.int (2 : Int32)), (.ref y), (.ref y), (.ref x), (.ref x)])
  refine B (fun t kt => XS.aloadN S.here S.hx rfl (hb hby mk6_d213) rfl rfl kt) ?_
  show F T (mkF m 214 #[.val (.ref b), .val (.int 6)] [(.ref b), (.int (2 : Int32)), (.ref y), (.ref y), (.ref x), (.ref x)])
  refine B (fun t kt => XS.iconst S.here S.hx rfl (hb hby mk6_d214) kt) ?_
  show F T (mkF m 215 #[.val (.ref b), .val (.int 6)] [(.int (2 : Int32)), (.ref b), (.int (2 : Int32)), (.ref y), (.ref y), (.ref x), (.ref x)])
  refine Sp.cald B S V (by decide) (by rfl) (hb hby mk6_d215) ?_
  show F T (mkF m 216 #[.val (.ref b), .val (.int 6)] [(.int c2), (.int (2 : Int32)), (.ref y), (.ref y), (.ref x), (.ref x)])
  refine Sp.stC B S Vy (i := 2) (by decide) (by decide) (by simp) (own_narc (hcs c2 (by simp))) (by simp) (hb hby mk6_d216) fun T h5 S W Vy => ?_
  replace Vy : Arv Z h5 y ky .char 6 [.int c0, .int c1, .int c2, .int 0, .int 0, .int 0] (.int 0) := Vy
  replace KK := KK.wr W (Or.inr (by omega))
  replace V := V.other W (natne (by omega))
  replace O := O.other W (natne (by omega))
  show F T (mkF m 217 #[.val (.ref b), .val (.int 6)] [(.ref y), (.ref x), (.ref x)])
  refine B (fun t kt => XS.dup S.here S.hx rfl (hb hby mk6_d217) rfl rfl kt) ?_
  show F T (mkF m 218 #[.val (.ref b), .val (.int 6)] [(.ref y), (.ref y), (.ref x), (.ref x)])
  refine B (fun t kt => XS.iconst S.here S.hx rfl (hb hby mk6_d218) kt) ?_
  show F T (mkF m 219 #[.val (.ref b), .val (.int 6)] [(.int (3 : Int32)), (.ref y), (.ref y), (.ref x), (.ref x)])
  refine B (fun t kt => XS.aloadN S.here S.hx rfl (hb hby mk6_d219) rfl rfl kt) ?_
  show F T (mkF m 220 #[.val (.ref b), .val (.int 6)] [(.ref b), (.int (3 : Int32)), (.ref y), (.ref y), (.ref x), (.ref x)])
  refine B (fun t kt => XS.iconst S.here S.hx rfl (hb hby mk6_d220) kt) ?_
  show F T (mkF m 221 #[.val (.ref b), .val (.int 6)] [(.int (3 : Int32)), (.ref b), (.int (3 : Int32)), (.ref y), (.ref y), (.ref x), (.ref x)])
  refine Sp.cald B S V (by decide) (by rfl) (hb hby mk6_d221) ?_
  show F T (mkF m 222 #[.val (.ref b), .val (.int 6)] [(.int c3), (.int (3 : Int32)), (.ref y), (.ref y), (.ref x), (.ref x)])
  refine Sp.stC B S Vy (i := 3) (by decide) (by decide) (by simp) (own_narc (hcs c3 (by simp))) (by simp) (hb hby mk6_d222) fun T h6 S W Vy => ?_
  replace Vy : Arv Z h6 y ky .char 6 [.int c0, .int c1, .int c2, .int c3, .int 0, .int 0] (.int 0) := Vy
  replace KK := KK.wr W (Or.inr (by omega))
  replace V := V.other W (natne (by omega))
  replace O := O.other W (natne (by omega))
  show F T (mkF m 223 #[.val (.ref b), .val (.int 6)] [(.ref y), (.ref x), (.ref x)])
  refine B (fun t kt => XS.dup S.here S.hx rfl (hb hby mk6_d223) rfl rfl kt) ?_
  show F T (mkF m 224 #[.val (.ref b), .val (.int 6)] [(.ref y), (.ref y), (.ref x), (.ref x)])
  refine B (fun t kt => XS.iconst S.here S.hx rfl (hb hby mk6_d224) kt) ?_
  show F T (mkF m 225 #[.val (.ref b), .val (.int 6)] [(.int (4 : Int32)), (.ref y), (.ref y), (.ref x), (.ref x)])
  refine B (fun t kt => XS.aloadN S.here S.hx rfl (hb hby mk6_d225) rfl rfl kt) ?_
  show F T (mkF m 226 #[.val (.ref b), .val (.int 6)] [(.ref b), (.int (4 : Int32)), (.ref y), (.ref y), (.ref x), (.ref x)])
  refine B (fun t kt => XS.iconst S.here S.hx rfl (hb hby mk6_d226) kt) ?_
  show F T (mkF m 227 #[.val (.ref b), .val (.int 6)] [(.int (4 : Int32)), (.ref b), (.int (4 : Int32)), (.ref y), (.ref y), (.ref x), (.ref x)])
  refine Sp.cald B S V (by decide) (by rfl) (hb hby mk6_d227) ?_
  show F T (mkF m 228 #[.val (.ref b), .val (.int 6)] [(.int c4), (.int (4 : Int32)), (.ref y), (.ref y), (.ref x), (.ref x)])
  refine Sp.stC B S Vy (i := 4) (by decide) (by decide) (by simp) (own_narc (hcs c4 (by simp))) (by simp) (hb hby mk6_d228) fun T h7 S W Vy => ?_
  replace Vy : Arv Z h7 y ky .char 6 [.int c0, .int c1, .int c2, .int c3, .int c4, .int 0] (.int 0) := Vy
  replace KK := KK.wr W (Or.inr (by omega))
  replace V := V.other W (natne (by omega))
  replace O := O.other W (natne (by omega))
  show F T (mkF m 229 #[.val (.ref b), .val (.int 6)] [(.ref y), (.ref x), (.ref x)])
  refine B (fun t kt => XS.dup S.here S.hx rfl (hb hby mk6_d229) rfl rfl kt) ?_
  show F T (mkF m 230 #[.val (.ref b), .val (.int 6)] [(.ref y), (.ref y), (.ref x), (.ref x)])
  refine B (fun t kt => XS.iconst S.here S.hx rfl (hb hby mk6_d230) kt) ?_
  show F T (mkF m 231 #[.val (.ref b), .val (.int 6)] [(.int (5 : Int32)), (.ref y), (.ref y), (.ref x), (.ref x)])
  refine B (fun t kt => XS.aloadN S.here S.hx rfl (hb hby mk6_d231) rfl rfl kt) ?_
  show F T (mkF m 232 #[.val (.ref b), .val (.int 6)] [(.ref b), (.int (5 : Int32)), (.ref y), (.ref y), (.ref x), (.ref x)])
  refine B (fun t kt => XS.iconst S.here S.hx rfl (hb hby mk6_d232) kt) ?_
  show F T (mkF m 233 #[.val (.ref b), .val (.int 6)] [(.int (5 : Int32)), (.ref b), (.int (5 : Int32)), (.ref y), (.ref y), (.ref x), (.ref x)])
  refine Sp.cald B S V (by decide) (by rfl) (hb hby mk6_d233) ?_
  show F T (mkF m 234 #[.val (.ref b), .val (.int 6)] [(.int c5), (.int (5 : Int32)), (.ref y), (.ref y), (.ref x), (.ref x)])
  refine Sp.stC B S Vy (i := 5) (by decide) (by decide) (by simp) (own_narc (hcs c5 (by simp))) (by simp) (hb hby mk6_d234) fun T h8 S W Vy => ?_
  replace Vy : Arv Z h8 y ky .char 6 [.int c0, .int c1, .int c2, .int c3, .int c4, .int c5] (.int 0) := Vy
  replace KK := KK.wr W (Or.inr (by omega))
  replace V := V.other W (natne (by omega))
  replace O := O.other W (natne (by omega))
  show F T (mkF m 235 #[.val (.ref b), .val (.int 6)] [(.ref y), (.ref x), (.ref x)])
  refine Sp.special B S (y := (⟨"java/lang/String", "<init>", "([C)V"⟩ : MethodName)) (argsL := [(.ref y)]) (rest := [(.ref x)]) rfl (hw _ (List.mem_of_getElem? (i := 9) rfl)) (hw _ (List.mem_of_getElem? (i := 10) rfl)) (hw _ (List.mem_of_getElem? (i := 11) rfl)) (by decide) (own_new (W := 1) Z a0 EL hw hEW h8 hS hmem zc CS hzc AD HI LO [c0, c1, c2, c3, c4, c5] (by show 6 ≤ 8; decide) (fun q hq => hcs q (List.mem_of_mem_take (i := 6) (l := [c0, c1, c2, c3, c4, c5, c6, c7]) hq)) x y (natne (by omega)) (S.isnew (by simp)) S.old _ _ O ky _ Vy (by decide) (by decide)) (by simp) (by decide) (by decide) (by rw [hml]; rfl) (lenOf mk6_p22 rfl) rfl (Nat.le_of_eq rfl) (hb hby mk6_d235) fun v T h9 nw S hQ => ?_
  obtain ⟨rfl, rfl, K, t, ne, G⟩ := hQ
  replace KK := KK.trans K (qk1 (by first | (refine Or.inl ?_; simp; done) | (refine Or.inr ?_; omega)))
  show F T (mkF m 238 #[.val (.ref b), .val (.int 6)] [(.ref x)])
  exact hF ((S.mono (by decide) (by decide)).retA hr hlk rfl rfl (hb hby mk6_d238) (nw := []) ⟨x, t, rfl, rfl, KK, G⟩ (by simp))
theorem mk7_d0 : decode method_3_code 0 = .ok (.iload_n 1, 1) := by decide +kernel
theorem mk7_d1 : decode method_3_code 1 = .ok (.ifCond .ne 14, 3) := by decide +kernel
theorem mk7_d15 : decode method_3_code 15 = .ok (.iload_n 1, 1) := by decide +kernel
theorem mk7_d16 : decode method_3_code 16 = .ok (.iconst 1, 1) := by decide +kernel
theorem mk7_d17 : decode method_3_code 17 = .ok (.if_icmp .ne 20, 3) := by decide +kernel
theorem mk7_d37 : decode method_3_code 37 = .ok (.iload_n 1, 1) := by decide +kernel
theorem mk7_d38 : decode method_3_code 38 = .ok (.iconst 2, 1) := by decide +kernel
theorem mk7_d39 : decode method_3_code 39 = .ok (.if_icmp .ne 26, 3) := by decide +kernel
theorem mk7_d65 : decode method_3_code 65 = .ok (.iload_n 1, 1) := by decide +kernel
theorem mk7_d66 : decode method_3_code 66 = .ok (.iconst 3, 1) := by decide +kernel
theorem mk7_d67 : decode method_3_code 67 = .ok (.if_icmp .ne 32, 3) := by decide +kernel
theorem mk7_d99 : decode method_3_code 99 = .ok (.iload_n 1, 1) := by decide +kernel
theorem mk7_d100 : decode method_3_code 100 = .ok (.iconst 4, 1) := by decide +kernel
theorem mk7_d101 : decode method_3_code 101 = .ok (.if_icmp .ne 38, 3) := by decide +kernel
theorem mk7_d139 : decode method_3_code 139 = .ok (.iload_n 1, 1) := by decide +kernel
theorem mk7_d140 : decode method_3_code 140 = .ok (.iconst 5, 1) := by decide +kernel
theorem mk7_d141 : decode method_3_code 141 = .ok (.if_icmp .ne 44, 3) := by decide +kernel
theorem mk7_d185 : decode method_3_code 185 = .ok (.iload_n 1, 1) := by decide +kernel
theorem mk7_d186 : decode method_3_code 186 = .ok (.bipush 6, 2) := by decide +kernel
theorem mk7_d188 : decode method_3_code 188 = .ok (.if_icmp .ne 51, 3) := by decide +kernel
theorem mk7_d239 : decode method_3_code 239 = .ok (.iload_n 1, 1) := by decide +kernel
theorem mk7_d240 : decode method_3_code 240 = .ok (.bipush 7, 2) := by decide +kernel
theorem mk7_d242 : decode method_3_code 242 = .ok (.if_icmp .ne 59, 3) := by decide +kernel
theorem mk7_d245 : decode method_3_code 245 = .ok (.new 20, 3) := by decide +kernel
theorem mk7_d248 : decode method_3_code 248 = .ok (.dup, 1) := by decide +kernel
theorem mk7_d249 : decode method_3_code 249 = .ok (.bipush 7, 2) := by decide +kernel
theorem mk7_d251 : decode method_3_code 251 = .ok (.newarray .char, 2) := by decide +kernel
theorem mk7_d253 : decode method_3_code 253 = .ok (.dup, 1) := by decide +kernel
theorem mk7_d254 : decode method_3_code 254 = .ok (.iconst 0, 1) := by decide +kernel
theorem mk7_d255 : decode method_3_code 255 = .ok (.aload_n 0, 1) := by decide +kernel
theorem mk7_d256 : decode method_3_code 256 = .ok (.iconst 0, 1) := by decide +kernel
theorem mk7_d257 : decode method_3_code 257 = .ok (.caload, 1) := by decide +kernel
theorem mk7_d258 : decode method_3_code 258 = .ok (.castore, 1) := by decide +kernel
theorem mk7_d259 : decode method_3_code 259 = .ok (.dup, 1) := by decide +kernel
theorem mk7_d260 : decode method_3_code 260 = .ok (.iconst 1, 1) := by decide +kernel
theorem mk7_d261 : decode method_3_code 261 = .ok (.aload_n 0, 1) := by decide +kernel
theorem mk7_d262 : decode method_3_code 262 = .ok (.iconst 1, 1) := by decide +kernel
theorem mk7_d263 : decode method_3_code 263 = .ok (.caload, 1) := by decide +kernel
theorem mk7_d264 : decode method_3_code 264 = .ok (.castore, 1) := by decide +kernel
theorem mk7_d265 : decode method_3_code 265 = .ok (.dup, 1) := by decide +kernel
theorem mk7_d266 : decode method_3_code 266 = .ok (.iconst 2, 1) := by decide +kernel
theorem mk7_d267 : decode method_3_code 267 = .ok (.aload_n 0, 1) := by decide +kernel
theorem mk7_d268 : decode method_3_code 268 = .ok (.iconst 2, 1) := by decide +kernel
theorem mk7_d269 : decode method_3_code 269 = .ok (.caload, 1) := by decide +kernel
theorem mk7_d270 : decode method_3_code 270 = .ok (.castore, 1) := by decide +kernel
theorem mk7_d271 : decode method_3_code 271 = .ok (.dup, 1) := by decide +kernel
theorem mk7_d272 : decode method_3_code 272 = .ok (.iconst 3, 1) := by decide +kernel
theorem mk7_d273 : decode method_3_code 273 = .ok (.aload_n 0, 1) := by decide +kernel
theorem mk7_d274 : decode method_3_code 274 = .ok (.iconst 3, 1) := by decide +kernel
theorem mk7_d275 : decode method_3_code 275 = .ok (.caload, 1) := by decide +kernel
theorem mk7_d276 : decode method_3_code 276 = .ok (.castore, 1) := by decide +kernel
theorem mk7_d277 : decode method_3_code 277 = .ok (.dup, 1) := by decide +kernel
theorem mk7_d278 : decode method_3_code 278 = .ok (.iconst 4, 1) := by decide +kernel
theorem mk7_d279 : decode method_3_code 279 = .ok (.aload_n 0, 1) := by decide +kernel
theorem mk7_d280 : decode method_3_code 280 = .ok (.iconst 4, 1) := by decide +kernel
theorem mk7_d281 : decode method_3_code 281 = .ok (.caload, 1) := by decide +kernel
theorem mk7_d282 : decode method_3_code 282 = .ok (.castore, 1) := by decide +kernel
theorem mk7_d283 : decode method_3_code 283 = .ok (.dup, 1) := by decide +kernel
theorem mk7_d284 : decode method_3_code 284 = .ok (.iconst 5, 1) := by decide +kernel
theorem mk7_d285 : decode method_3_code 285 = .ok (.aload_n 0, 1) := by decide +kernel
theorem mk7_d286 : decode method_3_code 286 = .ok (.iconst 5, 1) := by decide +kernel
theorem mk7_d287 : decode method_3_code 287 = .ok (.caload, 1) := by decide +kernel
theorem mk7_d288 : decode method_3_code 288 = .ok (.castore, 1) := by decide +kernel
theorem mk7_d289 : decode method_3_code 289 = .ok (.dup, 1) := by decide +kernel
theorem mk7_d290 : decode method_3_code 290 = .ok (.bipush 6, 2) := by decide +kernel
theorem mk7_d292 : decode method_3_code 292 = .ok (.aload_n 0, 1) := by decide +kernel
theorem mk7_d293 : decode method_3_code 293 = .ok (.bipush 6, 2) := by decide +kernel
theorem mk7_d295 : decode method_3_code 295 = .ok (.caload, 1) := by decide +kernel
theorem mk7_d296 : decode method_3_code 296 = .ok (.castore, 1) := by decide +kernel
theorem mk7_d297 : decode method_3_code 297 = .ok (.invokespecial 22, 3) := by decide +kernel
theorem mk7_d300 : decode method_3_code 300 = .ok (.areturn, 1) := by decide +kernel
theorem mk7_p22 : parseMethodDescriptor "([C)V" = some ⟨[(.array .char)], none⟩ := by decide +kernel
theorem mk7_ef (m : MethodId) (b : Addr) : entryFrame m #[(.ref b), (.int 7)] 2 = mkF m 0 #[.val (.ref b), .val (.int 7)] [] := by first | (simp [entryFrame, mkF, argsToLocals, Value.category]; done) | rfl
theorem mk7_pn : plainFor (⟨"com/example/keywright/keywright/store/TokensReadsPinLaw", "make", "([CI)Ljava/lang/String;"⟩ : MethodName) = true := by first | exact plainFor_of_name (by first | (simp [plainName, overriddenIn]; done) | decide +kernel) | decide +kernel
set_option maxRecDepth 65536 in
set_option maxHeartbeats 40000000 in
theorem mk7 (l : Launch) (Z : State) (a0 : Array Value) (EL : List (String × Nat)) (hw : ∀ d ∈ tables_1, d.before a0 Z = true) (hEW : EW Z a0 EL) (h : Heap) (hS : ∀ d ∈ Bundle.stringAtoms, d.before a0 Z = true) (hmem : ("java/lang/String", 7) ∈ EL) (zc : Int32) (CS : Sta Z Z.heap "java/lang/String" "COMPACT_STRINGS" "Z" (.int zc)) (hzc : ¬ zc = 0) (AD : Sta Z Z.heap "java/lang/StringUTF16" "$assertionsDisabled" "Z" (.int 1)) (HI : Sta Z Z.heap "java/lang/StringUTF16" "HI_BYTE_SHIFT" "I" (.int 0)) (LO : Sta Z Z.heap "java/lang/StringUTF16" "LO_BYTE_SHIFT" "I" (.int 8)) (b : Addr) (kb : ClassId) (dv : Value) (c0 c1 c2 c3 c4 c5 c6 c7 : Int32) (hcs : ∀ q ∈ [c0, c1, c2, c3, c4, c5, c6, c7], ¬ q < 0 ∧ ¬ (65535 : Int32) < q) (V : Arv Z h b kb .char 8 [.int c0, .int c1, .int c2, .int c3, .int c4, .int c5, .int c6, .int c7] dv) :
    Con l Z EL (⟨"com/example/keywright/keywright/store/TokensReadsPinLaw", "make", "([CI)Ljava/lang/String;"⟩ : MethodName) method_3_code 2 (some (.object "java/lang/String")) ({ frames := 7, cells := 6, slots := 36, locals := 112 } : Room) #[(.ref b), (.int 7)] h [] (fun v h' nw => ∃ x t, v = some (.ref x) ∧ nw = [] ∧ Keep h h' [] ∧ own_Str Z a0 h' x t [c0, c1, c2, c3, c4, c5, c6]) := by
  refine Con.of mk7_pn hEW ?_
  intro p e s m below meth c T F B hF hby hml hr hlk hnm S
  rw [mk7_ef]
  have lb := natlt V.lt
  have KK := Keep.refl h []
  show F T (mkF m 0 #[.val (.ref b), .val (.int 7)] [])
  refine B (fun t kt => XS.iloadN S.here S.hx rfl (hb hby mk7_d0) rfl kt) ?_
  show F T (mkF m 1 #[.val (.ref b), .val (.int 7)] [(.int 7)])
  refine B (fun t kt => XS.ifYes S.here S.hx rfl (pc0 := 1) (pc' := 15) rfl (hb hby mk7_d1) rfl (i0_ne_t (by decide)) (by decide) (by decide) kt) ?_
  show F T (mkF m 15 #[.val (.ref b), .val (.int 7)] [])
  refine B (fun t kt => XS.iloadN S.here S.hx rfl (hb hby mk7_d15) rfl kt) ?_
  show F T (mkF m 16 #[.val (.ref b), .val (.int 7)] [(.int 7)])
  refine B (fun t kt => XS.iconst S.here S.hx rfl (hb hby mk7_d16) kt) ?_
  show F T (mkF m 17 #[.val (.ref b), .val (.int 7)] [(.int (1 : Int32)), (.int 7)])
  refine B (fun t kt => XS.icmpYes S.here S.hx rfl (pc0 := 17) (pc' := 37) rfl (hb hby mk7_d17) rfl (ii_ne_t (by decide)) (by decide) (by decide) kt) ?_
  show F T (mkF m 37 #[.val (.ref b), .val (.int 7)] [])
  refine B (fun t kt => XS.iloadN S.here S.hx rfl (hb hby mk7_d37) rfl kt) ?_
  show F T (mkF m 38 #[.val (.ref b), .val (.int 7)] [(.int 7)])
  refine B (fun t kt => XS.iconst S.here S.hx rfl (hb hby mk7_d38) kt) ?_
  show F T (mkF m 39 #[.val (.ref b), .val (.int 7)] [(.int (2 : Int32)), (.int 7)])
  refine B (fun t kt => XS.icmpYes S.here S.hx rfl (pc0 := 39) (pc' := 65) rfl (hb hby mk7_d39) rfl (ii_ne_t (by decide)) (by decide) (by decide) kt) ?_
  show F T (mkF m 65 #[.val (.ref b), .val (.int 7)] [])
  refine B (fun t kt => XS.iloadN S.here S.hx rfl (hb hby mk7_d65) rfl kt) ?_
  show F T (mkF m 66 #[.val (.ref b), .val (.int 7)] [(.int 7)])
  refine B (fun t kt => XS.iconst S.here S.hx rfl (hb hby mk7_d66) kt) ?_
  show F T (mkF m 67 #[.val (.ref b), .val (.int 7)] [(.int (3 : Int32)), (.int 7)])
  refine B (fun t kt => XS.icmpYes S.here S.hx rfl (pc0 := 67) (pc' := 99) rfl (hb hby mk7_d67) rfl (ii_ne_t (by decide)) (by decide) (by decide) kt) ?_
  show F T (mkF m 99 #[.val (.ref b), .val (.int 7)] [])
  refine B (fun t kt => XS.iloadN S.here S.hx rfl (hb hby mk7_d99) rfl kt) ?_
  show F T (mkF m 100 #[.val (.ref b), .val (.int 7)] [(.int 7)])
  refine B (fun t kt => XS.iconst S.here S.hx rfl (hb hby mk7_d100) kt) ?_
  show F T (mkF m 101 #[.val (.ref b), .val (.int 7)] [(.int (4 : Int32)), (.int 7)])
  refine B (fun t kt => XS.icmpYes S.here S.hx rfl (pc0 := 101) (pc' := 139) rfl (hb hby mk7_d101) rfl (ii_ne_t (by decide)) (by decide) (by decide) kt) ?_
  show F T (mkF m 139 #[.val (.ref b), .val (.int 7)] [])
  refine B (fun t kt => XS.iloadN S.here S.hx rfl (hb hby mk7_d139) rfl kt) ?_
  show F T (mkF m 140 #[.val (.ref b), .val (.int 7)] [(.int 7)])
  refine B (fun t kt => XS.iconst S.here S.hx rfl (hb hby mk7_d140) kt) ?_
  show F T (mkF m 141 #[.val (.ref b), .val (.int 7)] [(.int (5 : Int32)), (.int 7)])
  refine B (fun t kt => XS.icmpYes S.here S.hx rfl (pc0 := 141) (pc' := 185) rfl (hb hby mk7_d141) rfl (ii_ne_t (by decide)) (by decide) (by decide) kt) ?_
  show F T (mkF m 185 #[.val (.ref b), .val (.int 7)] [])
  refine B (fun t kt => XS.iloadN S.here S.hx rfl (hb hby mk7_d185) rfl kt) ?_
  show F T (mkF m 186 #[.val (.ref b), .val (.int 7)] [(.int 7)])
  refine B (fun t kt => XS.bipush S.here S.hx rfl (hb hby mk7_d186) kt) ?_
  show F T (mkF m 188 #[.val (.ref b), .val (.int 7)] [(.int (6 : Int32)), (.int 7)])
  refine B (fun t kt => XS.icmpYes S.here S.hx rfl (pc0 := 188) (pc' := 239) rfl (hb hby mk7_d188) rfl (ii_ne_t (by decide)) (by decide) (by decide) kt) ?_
  show F T (mkF m 239 #[.val (.ref b), .val (.int 7)] [])
  refine B (fun t kt => XS.iloadN S.here S.hx rfl (hb hby mk7_d239) rfl kt) ?_
  show F T (mkF m 240 #[.val (.ref b), .val (.int 7)] [(.int 7)])
  refine B (fun t kt => XS.bipush S.here S.hx rfl (hb hby mk7_d240) kt) ?_
  show F T (mkF m 242 #[.val (.ref b), .val (.int 7)] [(.int (7 : Int32)), (.int 7)])
  refine B (fun t kt => XS.icmpNo S.here S.hx rfl (hb hby mk7_d242) rfl (ii_ne_f rfl) kt) ?_
  show F T (mkF m 245 #[.val (.ref b), .val (.int 7)] [])
  refine Sp.newO B S (hw _ (List.mem_of_getElem? (i := 6) rfl)) (hw _ (List.mem_of_getElem? (i := 7) rfl)) (hw _ (List.mem_of_getElem? (i := 8) rfl)) (hb hby mk7_d245) (by decide) (by decide) fun T h1 x S E gx Ax D => ?_
  have O : Ob Z a0 h1 x "java/lang/String" [("java/lang/String", "value", "[B", .null), ("java/lang/String", "coder", "B", (.int 0))] := Ob.new Ax D [("java/lang/String", "value", "[B", (.array .byte)), ("java/lang/String", "coder", "B", .byte)] (all_cons ⟨(Or.inr (hw _ (List.mem_of_getElem? (i := 34) rfl))), by decide⟩ (all_cons ⟨(Or.inr (hw _ (List.mem_of_getElem? (i := 32) rfl))), by decide⟩ all_nil))
  show F T (mkF m 248 #[.val (.ref b), .val (.int 7)] [(.ref x)])
  replace V := V.ext E
  replace KK := KK.ext E
  have lx := natlt O.lt
  refine B (fun t kt => XS.dup S.here S.hx rfl (hb hby mk7_d248) rfl rfl kt) ?_
  show F T (mkF m 249 #[.val (.ref b), .val (.int 7)] [(.ref x), (.ref x)])
  refine B (fun t kt => XS.bipush S.here S.hx rfl (hb hby mk7_d249) kt) ?_
  show F T (mkF m 251 #[.val (.ref b), .val (.int 7)] [(.int (7 : Int32)), (.ref x), (.ref x)])
  refine Sp.newP B S (cap := 7) (hw _ (List.mem_of_getElem? (i := 0) rfl)) (hb hby mk7_d251) (by decide) (by decide) (by decide) (by decide) (by decide) (ad := "[C") (by decide) fun T h2 y ky S E gy Xy Vy => ?_
  show F T (mkF m 253 #[.val (.ref b), .val (.int 7)] [(.ref y), (.ref x), (.ref x)])
  replace V := V.ext E
  replace KK := KK.ext E
  replace O := O.ext E
  have ly := natlt Vy.lt
  replace Vy : Arv Z h2 y ky .char 7 [.int 0, .int 0, .int 0, .int 0, .int 0, .int 0, .int 0] (.int 0) := Vy.pad (pad_rep [] (.int 0) 7)
  refine B (fun t kt => XS.dup S.here S.hx rfl (hb hby mk7_d253) rfl rfl kt) ?_
  show F T (mkF m 254 #[.val (.ref b), .val (.int 7)] [(.ref y), (.ref y), (.ref x), (.ref x)])
  refine B (fun t kt => XS.iconst S.here S.hx rfl (hb hby mk7_d254) kt) ?_
  show F T (mkF m 255 #[.val (.ref b), .val (.int 7)] [(.int (0 : Int32)), (.ref y), (.ref y), (.ref x), (.ref x)])
  refine B (fun t kt => XS.aloadN S.here S.hx rfl (hb hby mk7_d255) rfl rfl kt) ?_
  show F T (mkF m 256 #[.val (.ref b), .val (.int 7)] [(.ref b), (.int (0 : Int32)), (.ref y), (.ref y), (.ref x), (.ref x)])
  refine B (fun t kt => XS.iconst S.here S.hx rfl (hb hby mk7_d256) kt) ?_
  show F T (mkF m 257 #[.val (.ref b), .val (.int 7)] [(.int (0 : Int32)), (.ref b), (.int (0 : Int32)), (.ref y), (.ref y), (.ref x), (.ref x)])
  refine Sp.cald B S V (by decide) (by rfl) (hb hby mk7_d257) ?_
  show F T (mkF m 258 #[.val (.ref b), .val (.int 7)] [(.int c0), (.int (0 : Int32)), (.ref y), (.ref y), (.ref x), (.ref x)])
  refine Sp.stC B S Vy (i := 0) (by decide) (by decide) (by simp) (own_narc (hcs c0 (by simp))) (by simp) (hb hby mk7_d258) fun T h3 S W Vy => ?_
  replace Vy : Arv Z h3 y ky .char 7 [.int c0, .int 0, .int 0, .int 0, .int 0, .int 0, .int 0] (.int 0) := Vy
  replace KK := KK.wr W (Or.inr (by omega))
  replace V := V.other W (natne (by omega))
  replace O := O.other W (natne (by omega))
  show F T (mkF m 259 #[.val (.ref b), .val (.int 7)] [(.ref y), (.ref x), (.ref x)])
  refine B (fun t kt => XS.dup S.here S.hx rfl (hb hby mk7_d259) rfl rfl kt) ?_
  show F T (mkF m 260 #[.val (.ref b), .val (.int 7)] [(.ref y), (.ref y), (.ref x), (.ref x)])
  refine B (fun t kt => XS.iconst S.here S.hx rfl (hb hby mk7_d260) kt) ?_
  show F T (mkF m 261 #[.val (.ref b), .val (.int 7)] [(.int (1 : Int32)), (.ref y), (.ref y), (.ref x), (.ref x)])
  refine B (fun t kt => XS.aloadN S.here S.hx rfl (hb hby mk7_d261) rfl rfl kt) ?_
  show F T (mkF m 262 #[.val (.ref b), .val (.int 7)] [(.ref b), (.int (1 : Int32)), (.ref y), (.ref y), (.ref x), (.ref x)])
  refine B (fun t kt => XS.iconst S.here S.hx rfl (hb hby mk7_d262) kt) ?_
  show F T (mkF m 263 #[.val (.ref b), .val (.int 7)] [(.int (1 : Int32)), (.ref b), (.int (1 : Int32)), (.ref y), (.ref y), (.ref x), (.ref x)])
  refine Sp.cald B S V (by decide) (by rfl) (hb hby mk7_d263) ?_
  show F T (mkF m 264 #[.val (.ref b), .val (.int 7)] [(.int c1), (.int (1 : Int32)), (.ref y), (.ref y), (.ref x), (.ref x)])
  refine Sp.stC B S Vy (i := 1) (by decide) (by decide) (by simp) (own_narc (hcs c1 (by simp))) (by simp) (hb hby mk7_d264) fun T h4 S W Vy => ?_
  replace Vy : Arv Z h4 y ky .char 7 [.int c0, .int c1, .int 0, .int 0, .int 0, .int 0, .int 0] (.int 0) := Vy
  replace KK := KK.wr W (Or.inr (by omega))
  replace V := V.other W (natne (by omega))
  replace O := O.other W (natne (by omega))
  show F T (mkF m 265 #[.val (.ref b), .val (.int 7)] [(.ref y), (.ref x), (.ref x)])
  refine B (fun t kt => XS.dup S.here S.hx rfl (hb hby mk7_d265) rfl rfl kt) ?_
  show F T (mkF m 266 #[.val (.ref b), .val (.int 7)] [(.ref y), (.ref y), (.ref x), (.ref x)])
  refine B (fun t kt => XS.iconst S.here S.hx rfl (hb hby mk7_d266) kt) ?_
  show F T (mkF m 267 #[.val (.ref b), .val (.int 7)] [(.int (2 : Int32)), (.ref y), (.ref y), (.ref x), (.ref x)])
  refine B (fun t kt => XS.aloadN S.here S.hx rfl (hb hby mk7_d267) rfl rfl kt) ?_
  show F T (mkF m 268 #[.val (.ref b), .val (.int 7)] [(.ref b), (.int (2 : Int32)), (.ref y), (.ref y), (.ref x), (.ref x)])
  refine B (fun t kt => XS.iconst S.here S.hx rfl (hb hby mk7_d268) kt) ?_
  show F T (mkF m 269 #[.val (.ref b), .val (.int 7)] [(.int (2 : Int32)), (.ref b), (.int (2 : Int32)), (.ref y), (.ref y), (.ref x), (.ref x)])
  refine Sp.cald B S V (by decide) (by rfl) (hb hby mk7_d269) ?_
  show F T (mkF m 270 #[.val (.ref b), .val (.int 7)] [(.int c2), (.int (2 : Int32)), (.ref y), (.ref y), (.ref x), (.ref x)])
  refine Sp.stC B S Vy (i := 2) (by decide) (by decide) (by simp) (own_narc (hcs c2 (by simp))) (by simp) (hb hby mk7_d270) fun T h5 S W Vy => ?_
  replace Vy : Arv Z h5 y ky .char 7 [.int c0, .int c1, .int c2, .int 0, .int 0, .int 0, .int 0] (.int 0) := Vy
  replace KK := KK.wr W (Or.inr (by omega))
  replace V := V.other W (natne (by omega))
  replace O := O.other W (natne (by omega))
  show F T (mkF m 271 #[.val (.ref b), .val (.int 7)] [(.ref y), (.ref x), (.ref x)])
  refine B (fun t kt => XS.dup S.here S.hx rfl (hb hby mk7_d271) rfl rfl kt) ?_
  show F T (mkF m 272 #[.val (.ref b), .val (.int 7)] [(.ref y), (.ref y), (.ref x), (.ref x)])
  refine B (fun t kt => XS.iconst S.here S.hx rfl (hb hby mk7_d272) kt) ?_
  show F T (mkF m 273 #[.val (.ref b), .val (.int 7)] [(.int (3 : Int32)), (.ref y), (.ref y), (.ref x), (.ref x)])
  refine B (fun t kt => XS.aloadN S.here S.hx rfl (hb hby mk7_d273) rfl rfl kt) ?_
  show F T (mkF m 274 #[.val (.ref b), .val (.int 7)] [(.ref b), (.int (3 : Int32)), (.ref y), (.ref y), (.ref x), (.ref x)])
  refine B (fun t kt => XS.iconst S.here S.hx rfl (hb hby mk7_d274) kt) ?_
  show F T (mkF m 275 #[.val (.ref b), .val (.int 7)] [(.int (3 : Int32)), (.ref b), (.int (3 : Int32)), (.ref y), (.ref y), (.ref x), (.ref x)])
  refine Sp.cald B S V (by decide) (by rfl) (hb hby mk7_d275) ?_
  show F T (mkF m 276 #[.val (.ref b), .val (.int 7)] [(.int c3), (.int (3 : Int32)), (.ref y), (.ref y), (.ref x), (.ref x)])
  refine Sp.stC B S Vy (i := 3) (by decide) (by decide) (by simp) (own_narc (hcs c3 (by simp))) (by simp) (hb hby mk7_d276) fun T h6 S W Vy => ?_
  replace Vy : Arv Z h6 y ky .char 7 [.int c0, .int c1, .int c2, .int c3, .int 0, .int 0, .int 0] (.int 0) := Vy
  replace KK := KK.wr W (Or.inr (by omega))
  replace V := V.other W (natne (by omega))
  replace O := O.other W (natne (by omega))
  show F T (mkF m 277 #[.val (.ref b), .val (.int 7)] [(.ref y), (.ref x), (.ref x)])
  refine B (fun t kt => XS.dup S.here S.hx rfl (hb hby mk7_d277) rfl rfl kt) ?_
  show F T (mkF m 278 #[.val (.ref b), .val (.int 7)] [(.ref y), (.ref y), (.ref x), (.ref x)])
  refine B (fun t kt => XS.iconst S.here S.hx rfl (hb hby mk7_d278) kt) ?_
  show F T (mkF m 279 #[.val (.ref b), .val (.int 7)] [(.int (4 : Int32)), (.ref y), (.ref y), (.ref x), (.ref x)])
  refine B (fun t kt => XS.aloadN S.here S.hx rfl (hb hby mk7_d279) rfl rfl kt) ?_
  show F T (mkF m 280 #[.val (.ref b), .val (.int 7)] [(.ref b), (.int (4 : Int32)), (.ref y), (.ref y), (.ref x), (.ref x)])
  refine B (fun t kt => XS.iconst S.here S.hx rfl (hb hby mk7_d280) kt) ?_
  show F T (mkF m 281 #[.val (.ref b), .val (.int 7)] [(.int (4 : Int32)), (.ref b), (.int (4 : Int32)), (.ref y), (.ref y), (.ref x), (.ref x)])
  refine Sp.cald B S V (by decide) (by rfl) (hb hby mk7_d281) ?_
  show F T (mkF m 282 #[.val (.ref b), .val (.int 7)] [(.int c4), (.int (4 : Int32)), (.ref y), (.ref y), (.ref x), (.ref x)])
  refine Sp.stC B S Vy (i := 4) (by decide) (by decide) (by simp) (own_narc (hcs c4 (by simp))) (by simp) (hb hby mk7_d282) fun T h7 S W Vy => ?_
  replace Vy : Arv Z h7 y ky .char 7 [.int c0, .int c1, .int c2, .int c3, .int c4, .int 0, .int 0] (.int 0) := Vy
  replace KK := KK.wr W (Or.inr (by omega))
  replace V := V.other W (natne (by omega))
  replace O := O.other W (natne (by omega))
  show F T (mkF m 283 #[.val (.ref b), .val (.int 7)] [(.ref y), (.ref x), (.ref x)])
  refine B (fun t kt => XS.dup S.here S.hx rfl (hb hby mk7_d283) rfl rfl kt) ?_
  show F T (mkF m 284 #[.val (.ref b), .val (.int 7)] [(.ref y), (.ref y), (.ref x), (.ref x)])
  refine B (fun t kt => XS.iconst S.here S.hx rfl (hb hby mk7_d284) kt) ?_
  show F T (mkF m 285 #[.val (.ref b), .val (.int 7)] [(.int (5 : Int32)), (.ref y), (.ref y), (.ref x), (.ref x)])
  refine B (fun t kt => XS.aloadN S.here S.hx rfl (hb hby mk7_d285) rfl rfl kt) ?_
  show F T (mkF m 286 #[.val (.ref b), .val (.int 7)] [(.ref b), (.int (5 : Int32)), (.ref y), (.ref y), (.ref x), (.ref x)])
  refine B (fun t kt => XS.iconst S.here S.hx rfl (hb hby mk7_d286) kt) ?_
  show F T (mkF m 287 #[.val (.ref b), .val (.int 7)] [(.int (5 : Int32)), (.ref b), (.int (5 : Int32)), (.ref y), (.ref y), (.ref x), (.ref x)])
  refine Sp.cald B S V (by decide) (by rfl) (hb hby mk7_d287) ?_
  show F T (mkF m 288 #[.val (.ref b), .val (.int 7)] [(.int c5), (.int (5 : Int32)), (.ref y), (.ref y), (.ref x), (.ref x)])
  refine Sp.stC B S Vy (i := 5) (by decide) (by decide) (by simp) (own_narc (hcs c5 (by simp))) (by simp) (hb hby mk7_d288) fun T h8 S W Vy => ?_
  replace Vy : Arv Z h8 y ky .char 7 [.int c0, .int c1, .int c2, .int c3, .int c4, .int c5, .int 0] (.int 0) := Vy
  replace KK := KK.wr W (Or.inr (by omega))
  replace V := V.other W (natne (by omega))
  replace O := O.other W (natne (by omega))
  show F T (mkF m 289 #[.val (.ref b), .val (.int 7)] [(.ref y), (.ref x), (.ref x)])
  refine B (fun t kt => XS.dup S.here S.hx rfl (hb hby mk7_d289) rfl rfl kt) ?_
  show F T (mkF m 290 #[.val (.ref b), .val (.int 7)] [(.ref y), (.ref y), (.ref x), (.ref x)])
  refine B (fun t kt => XS.bipush S.here S.hx rfl (hb hby mk7_d290) kt) ?_
  show F T (mkF m 292 #[.val (.ref b), .val (.int 7)] [(.int (6 : Int32)), (.ref y), (.ref y), (.ref x), (.ref x)])
  refine B (fun t kt => XS.aloadN S.here S.hx rfl (hb hby mk7_d292) rfl rfl kt) ?_
  show F T (mkF m 293 #[.val (.ref b), .val (.int 7)] [(.ref b), (.int (6 : Int32)), (.ref y), (.ref y), (.ref x), (.ref x)])
  refine B (fun t kt => XS.bipush S.here S.hx rfl (hb hby mk7_d293) kt) ?_
  show F T (mkF m 295 #[.val (.ref b), .val (.int 7)] [(.int (6 : Int32)), (.ref b), (.int (6 : Int32)), (.ref y), (.ref y), (.ref x), (.ref x)])
  refine Sp.cald B S V (by decide) (by rfl) (hb hby mk7_d295) ?_
  show F T (mkF m 296 #[.val (.ref b), .val (.int 7)] [(.int c6), (.int (6 : Int32)), (.ref y), (.ref y), (.ref x), (.ref x)])
  refine Sp.stC B S Vy (i := 6) (by decide) (by decide) (by simp) (own_narc (hcs c6 (by simp))) (by simp) (hb hby mk7_d296) fun T h9 S W Vy => ?_
  replace Vy : Arv Z h9 y ky .char 7 [.int c0, .int c1, .int c2, .int c3, .int c4, .int c5, .int c6] (.int 0) := Vy
  replace KK := KK.wr W (Or.inr (by omega))
  replace V := V.other W (natne (by omega))
  replace O := O.other W (natne (by omega))
  show F T (mkF m 297 #[.val (.ref b), .val (.int 7)] [(.ref y), (.ref x), (.ref x)])
  refine Sp.special B S (y := (⟨"java/lang/String", "<init>", "([C)V"⟩ : MethodName)) (argsL := [(.ref y)]) (rest := [(.ref x)]) rfl (hw _ (List.mem_of_getElem? (i := 9) rfl)) (hw _ (List.mem_of_getElem? (i := 10) rfl)) (hw _ (List.mem_of_getElem? (i := 11) rfl)) (by decide) (own_new (W := 1) Z a0 EL hw hEW h9 hS hmem zc CS hzc AD HI LO [c0, c1, c2, c3, c4, c5, c6] (by show 7 ≤ 8; decide) (fun q hq => hcs q (List.mem_of_mem_take (i := 7) (l := [c0, c1, c2, c3, c4, c5, c6, c7]) hq)) x y (natne (by omega)) (S.isnew (by simp)) S.old _ _ O ky _ Vy (by decide) (by decide)) (by simp) (by decide) (by decide) (by rw [hml]; rfl) (lenOf mk7_p22 rfl) rfl (Nat.le_of_eq rfl) (hb hby mk7_d297) fun v T h10 nw S hQ => ?_
  obtain ⟨rfl, rfl, K, t, ne, G⟩ := hQ
  replace KK := KK.trans K (qk1 (by first | (refine Or.inl ?_; simp; done) | (refine Or.inr ?_; omega)))
  show F T (mkF m 300 #[.val (.ref b), .val (.int 7)] [(.ref x)])
  exact hF ((S.mono (by decide) (by decide)).retA hr hlk rfl rfl (hb hby mk7_d300) (nw := []) ⟨x, t, rfl, rfl, KK, G⟩ (by simp))
theorem mk8_d0 : decode method_3_code 0 = .ok (.iload_n 1, 1) := by decide +kernel
theorem mk8_d1 : decode method_3_code 1 = .ok (.ifCond .ne 14, 3) := by decide +kernel
theorem mk8_d15 : decode method_3_code 15 = .ok (.iload_n 1, 1) := by decide +kernel
theorem mk8_d16 : decode method_3_code 16 = .ok (.iconst 1, 1) := by decide +kernel
theorem mk8_d17 : decode method_3_code 17 = .ok (.if_icmp .ne 20, 3) := by decide +kernel
theorem mk8_d37 : decode method_3_code 37 = .ok (.iload_n 1, 1) := by decide +kernel
theorem mk8_d38 : decode method_3_code 38 = .ok (.iconst 2, 1) := by decide +kernel
theorem mk8_d39 : decode method_3_code 39 = .ok (.if_icmp .ne 26, 3) := by decide +kernel
theorem mk8_d65 : decode method_3_code 65 = .ok (.iload_n 1, 1) := by decide +kernel
theorem mk8_d66 : decode method_3_code 66 = .ok (.iconst 3, 1) := by decide +kernel
theorem mk8_d67 : decode method_3_code 67 = .ok (.if_icmp .ne 32, 3) := by decide +kernel
theorem mk8_d99 : decode method_3_code 99 = .ok (.iload_n 1, 1) := by decide +kernel
theorem mk8_d100 : decode method_3_code 100 = .ok (.iconst 4, 1) := by decide +kernel
theorem mk8_d101 : decode method_3_code 101 = .ok (.if_icmp .ne 38, 3) := by decide +kernel
theorem mk8_d139 : decode method_3_code 139 = .ok (.iload_n 1, 1) := by decide +kernel
theorem mk8_d140 : decode method_3_code 140 = .ok (.iconst 5, 1) := by decide +kernel
theorem mk8_d141 : decode method_3_code 141 = .ok (.if_icmp .ne 44, 3) := by decide +kernel
theorem mk8_d185 : decode method_3_code 185 = .ok (.iload_n 1, 1) := by decide +kernel
theorem mk8_d186 : decode method_3_code 186 = .ok (.bipush 6, 2) := by decide +kernel
theorem mk8_d188 : decode method_3_code 188 = .ok (.if_icmp .ne 51, 3) := by decide +kernel
theorem mk8_d239 : decode method_3_code 239 = .ok (.iload_n 1, 1) := by decide +kernel
theorem mk8_d240 : decode method_3_code 240 = .ok (.bipush 7, 2) := by decide +kernel
theorem mk8_d242 : decode method_3_code 242 = .ok (.if_icmp .ne 59, 3) := by decide +kernel
theorem mk8_d301 : decode method_3_code 301 = .ok (.new 20, 3) := by decide +kernel
theorem mk8_d304 : decode method_3_code 304 = .ok (.dup, 1) := by decide +kernel
theorem mk8_d305 : decode method_3_code 305 = .ok (.bipush 8, 2) := by decide +kernel
theorem mk8_d307 : decode method_3_code 307 = .ok (.newarray .char, 2) := by decide +kernel
theorem mk8_d309 : decode method_3_code 309 = .ok (.dup, 1) := by decide +kernel
theorem mk8_d310 : decode method_3_code 310 = .ok (.iconst 0, 1) := by decide +kernel
theorem mk8_d311 : decode method_3_code 311 = .ok (.aload_n 0, 1) := by decide +kernel
theorem mk8_d312 : decode method_3_code 312 = .ok (.iconst 0, 1) := by decide +kernel
theorem mk8_d313 : decode method_3_code 313 = .ok (.caload, 1) := by decide +kernel
theorem mk8_d314 : decode method_3_code 314 = .ok (.castore, 1) := by decide +kernel
theorem mk8_d315 : decode method_3_code 315 = .ok (.dup, 1) := by decide +kernel
theorem mk8_d316 : decode method_3_code 316 = .ok (.iconst 1, 1) := by decide +kernel
theorem mk8_d317 : decode method_3_code 317 = .ok (.aload_n 0, 1) := by decide +kernel
theorem mk8_d318 : decode method_3_code 318 = .ok (.iconst 1, 1) := by decide +kernel
theorem mk8_d319 : decode method_3_code 319 = .ok (.caload, 1) := by decide +kernel
theorem mk8_d320 : decode method_3_code 320 = .ok (.castore, 1) := by decide +kernel
theorem mk8_d321 : decode method_3_code 321 = .ok (.dup, 1) := by decide +kernel
theorem mk8_d322 : decode method_3_code 322 = .ok (.iconst 2, 1) := by decide +kernel
theorem mk8_d323 : decode method_3_code 323 = .ok (.aload_n 0, 1) := by decide +kernel
theorem mk8_d324 : decode method_3_code 324 = .ok (.iconst 2, 1) := by decide +kernel
theorem mk8_d325 : decode method_3_code 325 = .ok (.caload, 1) := by decide +kernel
theorem mk8_d326 : decode method_3_code 326 = .ok (.castore, 1) := by decide +kernel
theorem mk8_d327 : decode method_3_code 327 = .ok (.dup, 1) := by decide +kernel
theorem mk8_d328 : decode method_3_code 328 = .ok (.iconst 3, 1) := by decide +kernel
theorem mk8_d329 : decode method_3_code 329 = .ok (.aload_n 0, 1) := by decide +kernel
theorem mk8_d330 : decode method_3_code 330 = .ok (.iconst 3, 1) := by decide +kernel
theorem mk8_d331 : decode method_3_code 331 = .ok (.caload, 1) := by decide +kernel
theorem mk8_d332 : decode method_3_code 332 = .ok (.castore, 1) := by decide +kernel
theorem mk8_d333 : decode method_3_code 333 = .ok (.dup, 1) := by decide +kernel
theorem mk8_d334 : decode method_3_code 334 = .ok (.iconst 4, 1) := by decide +kernel
theorem mk8_d335 : decode method_3_code 335 = .ok (.aload_n 0, 1) := by decide +kernel
theorem mk8_d336 : decode method_3_code 336 = .ok (.iconst 4, 1) := by decide +kernel
theorem mk8_d337 : decode method_3_code 337 = .ok (.caload, 1) := by decide +kernel
theorem mk8_d338 : decode method_3_code 338 = .ok (.castore, 1) := by decide +kernel
theorem mk8_d339 : decode method_3_code 339 = .ok (.dup, 1) := by decide +kernel
theorem mk8_d340 : decode method_3_code 340 = .ok (.iconst 5, 1) := by decide +kernel
theorem mk8_d341 : decode method_3_code 341 = .ok (.aload_n 0, 1) := by decide +kernel
theorem mk8_d342 : decode method_3_code 342 = .ok (.iconst 5, 1) := by decide +kernel
theorem mk8_d343 : decode method_3_code 343 = .ok (.caload, 1) := by decide +kernel
theorem mk8_d344 : decode method_3_code 344 = .ok (.castore, 1) := by decide +kernel
theorem mk8_d345 : decode method_3_code 345 = .ok (.dup, 1) := by decide +kernel
theorem mk8_d346 : decode method_3_code 346 = .ok (.bipush 6, 2) := by decide +kernel
theorem mk8_d348 : decode method_3_code 348 = .ok (.aload_n 0, 1) := by decide +kernel
theorem mk8_d349 : decode method_3_code 349 = .ok (.bipush 6, 2) := by decide +kernel
theorem mk8_d351 : decode method_3_code 351 = .ok (.caload, 1) := by decide +kernel
theorem mk8_d352 : decode method_3_code 352 = .ok (.castore, 1) := by decide +kernel
theorem mk8_d353 : decode method_3_code 353 = .ok (.dup, 1) := by decide +kernel
theorem mk8_d354 : decode method_3_code 354 = .ok (.bipush 7, 2) := by decide +kernel
theorem mk8_d356 : decode method_3_code 356 = .ok (.aload_n 0, 1) := by decide +kernel
theorem mk8_d357 : decode method_3_code 357 = .ok (.bipush 7, 2) := by decide +kernel
theorem mk8_d359 : decode method_3_code 359 = .ok (.caload, 1) := by decide +kernel
theorem mk8_d360 : decode method_3_code 360 = .ok (.castore, 1) := by decide +kernel
theorem mk8_d361 : decode method_3_code 361 = .ok (.invokespecial 22, 3) := by decide +kernel
theorem mk8_d364 : decode method_3_code 364 = .ok (.areturn, 1) := by decide +kernel
theorem mk8_p22 : parseMethodDescriptor "([C)V" = some ⟨[(.array .char)], none⟩ := by decide +kernel
theorem mk8_ef (m : MethodId) (b : Addr) : entryFrame m #[(.ref b), (.int 8)] 2 = mkF m 0 #[.val (.ref b), .val (.int 8)] [] := by first | (simp [entryFrame, mkF, argsToLocals, Value.category]; done) | rfl
theorem mk8_pn : plainFor (⟨"com/example/keywright/keywright/store/TokensReadsPinLaw", "make", "([CI)Ljava/lang/String;"⟩ : MethodName) = true := by first | exact plainFor_of_name (by first | (simp [plainName, overriddenIn]; done) | decide +kernel) | decide +kernel
set_option maxRecDepth 65536 in
set_option maxHeartbeats 40000000 in
theorem mk8 (l : Launch) (Z : State) (a0 : Array Value) (EL : List (String × Nat)) (hw : ∀ d ∈ tables_1, d.before a0 Z = true) (hEW : EW Z a0 EL) (h : Heap) (hS : ∀ d ∈ Bundle.stringAtoms, d.before a0 Z = true) (hmem : ("java/lang/String", 7) ∈ EL) (zc : Int32) (CS : Sta Z Z.heap "java/lang/String" "COMPACT_STRINGS" "Z" (.int zc)) (hzc : ¬ zc = 0) (AD : Sta Z Z.heap "java/lang/StringUTF16" "$assertionsDisabled" "Z" (.int 1)) (HI : Sta Z Z.heap "java/lang/StringUTF16" "HI_BYTE_SHIFT" "I" (.int 0)) (LO : Sta Z Z.heap "java/lang/StringUTF16" "LO_BYTE_SHIFT" "I" (.int 8)) (b : Addr) (kb : ClassId) (dv : Value) (c0 c1 c2 c3 c4 c5 c6 c7 : Int32) (hcs : ∀ q ∈ [c0, c1, c2, c3, c4, c5, c6, c7], ¬ q < 0 ∧ ¬ (65535 : Int32) < q) (V : Arv Z h b kb .char 8 [.int c0, .int c1, .int c2, .int c3, .int c4, .int c5, .int c6, .int c7] dv) :
    Con l Z EL (⟨"com/example/keywright/keywright/store/TokensReadsPinLaw", "make", "([CI)Ljava/lang/String;"⟩ : MethodName) method_3_code 2 (some (.object "java/lang/String")) ({ frames := 7, cells := 6, slots := 36, locals := 112 } : Room) #[(.ref b), (.int 8)] h [] (fun v h' nw => ∃ x t, v = some (.ref x) ∧ nw = [] ∧ Keep h h' [] ∧ own_Str Z a0 h' x t [c0, c1, c2, c3, c4, c5, c6, c7]) := by
  refine Con.of mk8_pn hEW ?_
  intro p e s m below meth c T F B hF hby hml hr hlk hnm S
  rw [mk8_ef]
  have lb := natlt V.lt
  have KK := Keep.refl h []
  show F T (mkF m 0 #[.val (.ref b), .val (.int 8)] [])
  refine B (fun t kt => XS.iloadN S.here S.hx rfl (hb hby mk8_d0) rfl kt) ?_
  show F T (mkF m 1 #[.val (.ref b), .val (.int 8)] [(.int 8)])
  refine B (fun t kt => XS.ifYes S.here S.hx rfl (pc0 := 1) (pc' := 15) rfl (hb hby mk8_d1) rfl (i0_ne_t (by decide)) (by decide) (by decide) kt) ?_
  show F T (mkF m 15 #[.val (.ref b), .val (.int 8)] [])
  refine B (fun t kt => XS.iloadN S.here S.hx rfl (hb hby mk8_d15) rfl kt) ?_
  show F T (mkF m 16 #[.val (.ref b), .val (.int 8)] [(.int 8)])
  refine B (fun t kt => XS.iconst S.here S.hx rfl (hb hby mk8_d16) kt) ?_
  show F T (mkF m 17 #[.val (.ref b), .val (.int 8)] [(.int (1 : Int32)), (.int 8)])
  refine B (fun t kt => XS.icmpYes S.here S.hx rfl (pc0 := 17) (pc' := 37) rfl (hb hby mk8_d17) rfl (ii_ne_t (by decide)) (by decide) (by decide) kt) ?_
  show F T (mkF m 37 #[.val (.ref b), .val (.int 8)] [])
  refine B (fun t kt => XS.iloadN S.here S.hx rfl (hb hby mk8_d37) rfl kt) ?_
  show F T (mkF m 38 #[.val (.ref b), .val (.int 8)] [(.int 8)])
  refine B (fun t kt => XS.iconst S.here S.hx rfl (hb hby mk8_d38) kt) ?_
  show F T (mkF m 39 #[.val (.ref b), .val (.int 8)] [(.int (2 : Int32)), (.int 8)])
  refine B (fun t kt => XS.icmpYes S.here S.hx rfl (pc0 := 39) (pc' := 65) rfl (hb hby mk8_d39) rfl (ii_ne_t (by decide)) (by decide) (by decide) kt) ?_
  show F T (mkF m 65 #[.val (.ref b), .val (.int 8)] [])
  refine B (fun t kt => XS.iloadN S.here S.hx rfl (hb hby mk8_d65) rfl kt) ?_
  show F T (mkF m 66 #[.val (.ref b), .val (.int 8)] [(.int 8)])
  refine B (fun t kt => XS.iconst S.here S.hx rfl (hb hby mk8_d66) kt) ?_
  show F T (mkF m 67 #[.val (.ref b), .val (.int 8)] [(.int (3 : Int32)), (.int 8)])
  refine B (fun t kt => XS.icmpYes S.here S.hx rfl (pc0 := 67) (pc' := 99) rfl (hb hby mk8_d67) rfl (ii_ne_t (by decide)) (by decide) (by decide) kt) ?_
  show F T (mkF m 99 #[.val (.ref b), .val (.int 8)] [])
  refine B (fun t kt => XS.iloadN S.here S.hx rfl (hb hby mk8_d99) rfl kt) ?_
  show F T (mkF m 100 #[.val (.ref b), .val (.int 8)] [(.int 8)])
  refine B (fun t kt => XS.iconst S.here S.hx rfl (hb hby mk8_d100) kt) ?_
  show F T (mkF m 101 #[.val (.ref b), .val (.int 8)] [(.int (4 : Int32)), (.int 8)])
  refine B (fun t kt => XS.icmpYes S.here S.hx rfl (pc0 := 101) (pc' := 139) rfl (hb hby mk8_d101) rfl (ii_ne_t (by decide)) (by decide) (by decide) kt) ?_
  show F T (mkF m 139 #[.val (.ref b), .val (.int 8)] [])
  refine B (fun t kt => XS.iloadN S.here S.hx rfl (hb hby mk8_d139) rfl kt) ?_
  show F T (mkF m 140 #[.val (.ref b), .val (.int 8)] [(.int 8)])
  refine B (fun t kt => XS.iconst S.here S.hx rfl (hb hby mk8_d140) kt) ?_
  show F T (mkF m 141 #[.val (.ref b), .val (.int 8)] [(.int (5 : Int32)), (.int 8)])
  refine B (fun t kt => XS.icmpYes S.here S.hx rfl (pc0 := 141) (pc' := 185) rfl (hb hby mk8_d141) rfl (ii_ne_t (by decide)) (by decide) (by decide) kt) ?_
  show F T (mkF m 185 #[.val (.ref b), .val (.int 8)] [])
  refine B (fun t kt => XS.iloadN S.here S.hx rfl (hb hby mk8_d185) rfl kt) ?_
  show F T (mkF m 186 #[.val (.ref b), .val (.int 8)] [(.int 8)])
  refine B (fun t kt => XS.bipush S.here S.hx rfl (hb hby mk8_d186) kt) ?_
  show F T (mkF m 188 #[.val (.ref b), .val (.int 8)] [(.int (6 : Int32)), (.int 8)])
  refine B (fun t kt => XS.icmpYes S.here S.hx rfl (pc0 := 188) (pc' := 239) rfl (hb hby mk8_d188) rfl (ii_ne_t (by decide)) (by decide) (by decide) kt) ?_
  show F T (mkF m 239 #[.val (.ref b), .val (.int 8)] [])
  refine B (fun t kt => XS.iloadN S.here S.hx rfl (hb hby mk8_d239) rfl kt) ?_
  show F T (mkF m 240 #[.val (.ref b), .val (.int 8)] [(.int 8)])
  refine B (fun t kt => XS.bipush S.here S.hx rfl (hb hby mk8_d240) kt) ?_
  show F T (mkF m 242 #[.val (.ref b), .val (.int 8)] [(.int (7 : Int32)), (.int 8)])
  refine B (fun t kt => XS.icmpYes S.here S.hx rfl (pc0 := 242) (pc' := 301) rfl (hb hby mk8_d242) rfl (ii_ne_t (by decide)) (by decide) (by decide) kt) ?_
  show F T (mkF m 301 #[.val (.ref b), .val (.int 8)] [])
  refine Sp.newO B S (hw _ (List.mem_of_getElem? (i := 6) rfl)) (hw _ (List.mem_of_getElem? (i := 7) rfl)) (hw _ (List.mem_of_getElem? (i := 8) rfl)) (hb hby mk8_d301) (by decide) (by decide) fun T h1 x S E gx Ax D => ?_
  have O : Ob Z a0 h1 x "java/lang/String" [("java/lang/String", "value", "[B", .null), ("java/lang/String", "coder", "B", (.int 0))] := Ob.new Ax D [("java/lang/String", "value", "[B", (.array .byte)), ("java/lang/String", "coder", "B", .byte)] (all_cons ⟨(Or.inr (hw _ (List.mem_of_getElem? (i := 34) rfl))), by decide⟩ (all_cons ⟨(Or.inr (hw _ (List.mem_of_getElem? (i := 32) rfl))), by decide⟩ all_nil))
  show F T (mkF m 304 #[.val (.ref b), .val (.int 8)] [(.ref x)])
  replace V := V.ext E
  replace KK := KK.ext E
  have lx := natlt O.lt
  refine B (fun t kt => XS.dup S.here S.hx rfl (hb hby mk8_d304) rfl rfl kt) ?_
  show F T (mkF m 305 #[.val (.ref b), .val (.int 8)] [(.ref x), (.ref x)])
  refine B (fun t kt => XS.bipush S.here S.hx rfl (hb hby mk8_d305) kt) ?_
  show F T (mkF m 307 #[.val (.ref b), .val (.int 8)] [(.int (8 : Int32)), (.ref x), (.ref x)])
  refine Sp.newP B S (cap := 8) (hw _ (List.mem_of_getElem? (i := 0) rfl)) (hb hby mk8_d307) (by decide) (by decide) (by decide) (by decide) (by decide) (ad := "[C") (by decide) fun T h2 y ky S E gy Xy Vy => ?_
  show F T (mkF m 309 #[.val (.ref b), .val (.int 8)] [(.ref y), (.ref x), (.ref x)])
  replace V := V.ext E
  replace KK := KK.ext E
  replace O := O.ext E
  have ly := natlt Vy.lt
  replace Vy : Arv Z h2 y ky .char 8 [.int 0, .int 0, .int 0, .int 0, .int 0, .int 0, .int 0, .int 0] (.int 0) := Vy.pad (pad_rep [] (.int 0) 8)
  refine B (fun t kt => XS.dup S.here S.hx rfl (hb hby mk8_d309) rfl rfl kt) ?_
  show F T (mkF m 310 #[.val (.ref b), .val (.int 8)] [(.ref y), (.ref y), (.ref x), (.ref x)])
  refine B (fun t kt => XS.iconst S.here S.hx rfl (hb hby mk8_d310) kt) ?_
  show F T (mkF m 311 #[.val (.ref b), .val (.int 8)] [(.int (0 : Int32)), (.ref y), (.ref y), (.ref x), (.ref x)])
  refine B (fun t kt => XS.aloadN S.here S.hx rfl (hb hby mk8_d311) rfl rfl kt) ?_
  show F T (mkF m 312 #[.val (.ref b), .val (.int 8)] [(.ref b), (.int (0 : Int32)), (.ref y), (.ref y), (.ref x), (.ref x)])
  refine B (fun t kt => XS.iconst S.here S.hx rfl (hb hby mk8_d312) kt) ?_
  show F T (mkF m 313 #[.val (.ref b), .val (.int 8)] [(.int (0 : Int32)), (.ref b), (.int (0 : Int32)), (.ref y), (.ref y), (.ref x), (.ref x)])
  refine Sp.cald B S V (by decide) (by rfl) (hb hby mk8_d313) ?_
  show F T (mkF m 314 #[.val (.ref b), .val (.int 8)] [(.int c0), (.int (0 : Int32)), (.ref y), (.ref y), (.ref x), (.ref x)])
  refine Sp.stC B S Vy (i := 0) (by decide) (by decide) (by simp) (own_narc (hcs c0 (by simp))) (by simp) (hb hby mk8_d314) fun T h3 S W Vy => ?_
  replace Vy : Arv Z h3 y ky .char 8 [.int c0, .int 0, .int 0, .int 0, .int 0, .int 0, .int 0, .int 0] (.int 0) := Vy
  replace KK := KK.wr W (Or.inr (by omega))
  replace V := V.other W (natne (by omega))
  replace O := O.other W (natne (by omega))
  show F T (mkF m 315 #[.val (.ref b), .val (.int 8)] [(.ref y), (.ref x), (.ref x)])
  refine B (fun t kt => XS.dup S.here S.hx rfl (hb hby mk8_d315) rfl rfl kt) ?_
  show F T (mkF m 316 #[.val (.ref b), .val (.int 8)] [(.ref y), (.ref y), (.ref x), (.ref x)])
  refine B (fun t kt => XS.iconst S.here S.hx rfl (hb hby mk8_d316) kt) ?_
  show F T (mkF m 317 #[.val (.ref b), .val (.int 8)] [(.int (1 : Int32)), (.ref y), (.ref y), (.ref x), (.ref x)])
  refine B (fun t kt => XS.aloadN S.here S.hx rfl (hb hby mk8_d317) rfl rfl kt) ?_
  show F T (mkF m 318 #[.val (.ref b), .val (.int 8)] [(.ref b), (.int (1 : Int32)), (.ref y), (.ref y), (.ref x), (.ref x)])
  refine B (fun t kt => XS.iconst S.here S.hx rfl (hb hby mk8_d318) kt) ?_
  show F T (mkF m 319 #[.val (.ref b), .val (.int 8)] [(.int (1 : Int32)), (.ref b), (.int (1 : Int32)), (.ref y), (.ref y), (.ref x), (.ref x)])
  refine Sp.cald B S V (by decide) (by rfl) (hb hby mk8_d319) ?_
  show F T (mkF m 320 #[.val (.ref b), .val (.int 8)] [(.int c1), (.int (1 : Int32)), (.ref y), (.ref y), (.ref x), (.ref x)])
  refine Sp.stC B S Vy (i := 1) (by decide) (by decide) (by simp) (own_narc (hcs c1 (by simp))) (by simp) (hb hby mk8_d320) fun T h4 S W Vy => ?_
  replace Vy : Arv Z h4 y ky .char 8 [.int c0, .int c1, .int 0, .int 0, .int 0, .int 0, .int 0, .int 0] (.int 0) := Vy
  replace KK := KK.wr W (Or.inr (by omega))
  replace V := V.other W (natne (by omega))
  replace O := O.other W (natne (by omega))
  show F T (mkF m 321 #[.val (.ref b), .val (.int 8)] [(.ref y), (.ref x), (.ref x)])
  refine B (fun t kt => XS.dup S.here S.hx rfl (hb hby mk8_d321) rfl rfl kt) ?_
  show F T (mkF m 322 #[.val (.ref b), .val (.int 8)] [(.ref y), (.ref y), (.ref x), (.ref x)])
  refine B (fun t kt => XS.iconst S.here S.hx rfl (hb hby mk8_d322) kt) ?_
  show F T (mkF m 323 #[.val (.ref b), .val (.int 8)] [(.int (2 : Int32)), (.ref y), (.ref y), (.ref x), (.ref x)])
  refine B (fun t kt => XS.aloadN S.here S.hx rfl (hb hby mk8_d323) rfl rfl kt) ?_
  show F T (mkF m 324 #[.val (.ref b), .val (.int 8)] [(.ref b), (.int (2 : Int32)), (.ref y), (.ref y), (.ref x), (.ref x)])
  refine B (fun t kt => XS.iconst S.here S.hx rfl (hb hby mk8_d324) kt) ?_
  show F T (mkF m 325 #[.val (.ref b), .val (.int 8)] [(.int (2 : Int32)), (.ref b), (.int (2 : Int32)), (.ref y), (.ref y), (.ref x), (.ref x)])
  refine Sp.cald B S V (by decide) (by rfl) (hb hby mk8_d325) ?_
  show F T (mkF m 326 #[.val (.ref b), .val (.int 8)] [(.int c2), (.int (2 : Int32)), (.ref y), (.ref y), (.ref x), (.ref x)])
  refine Sp.stC B S Vy (i := 2) (by decide) (by decide) (by simp) (own_narc (hcs c2 (by simp))) (by simp) (hb hby mk8_d326) fun T h5 S W Vy => ?_
  replace Vy : Arv Z h5 y ky .char 8 [.int c0, .int c1, .int c2, .int 0, .int 0, .int 0, .int 0, .int 0] (.int 0) := Vy
  replace KK := KK.wr W (Or.inr (by omega))
  replace V := V.other W (natne (by omega))
  replace O := O.other W (natne (by omega))
  show F T (mkF m 327 #[.val (.ref b), .val (.int 8)] [(.ref y), (.ref x), (.ref x)])
  refine B (fun t kt => XS.dup S.here S.hx rfl (hb hby mk8_d327) rfl rfl kt) ?_
  show F T (mkF m 328 #[.val (.ref b), .val (.int 8)] [(.ref y), (.ref y), (.ref x), (.ref x)])
  refine B (fun t kt => XS.iconst S.here S.hx rfl (hb hby mk8_d328) kt) ?_
  show F T (mkF m 329 #[.val (.ref b), .val (.int 8)] [(.int (3 : Int32)), (.ref y), (.ref y), (.ref x), (.ref x)])
  refine B (fun t kt => XS.aloadN S.here S.hx rfl (hb hby mk8_d329) rfl rfl kt) ?_
  show F T (mkF m 330 #[.val (.ref b), .val (.int 8)] [(.ref b), (.int (3 : Int32)), (.ref y), (.ref y), (.ref x), (.ref x)])
  refine B (fun t kt => XS.iconst S.here S.hx rfl (hb hby mk8_d330) kt) ?_
  show F T (mkF m 331 #[.val (.ref b), .val (.int 8)] [(.int (3 : Int32)), (.ref b), (.int (3 : Int32)), (.ref y), (.ref y), (.ref x), (.ref x)])
  refine Sp.cald B S V (by decide) (by rfl) (hb hby mk8_d331) ?_
  show F T (mkF m 332 #[.val (.ref b), .val (.int 8)] [(.int c3), (.int (3 : Int32)), (.ref y), (.ref y), (.ref x), (.ref x)])
  refine Sp.stC B S Vy (i := 3) (by decide) (by decide) (by simp) (own_narc (hcs c3 (by simp))) (by simp) (hb hby mk8_d332) fun T h6 S W Vy => ?_
  replace Vy : Arv Z h6 y ky .char 8 [.int c0, .int c1, .int c2, .int c3, .int 0, .int 0, .int 0, .int 0] (.int 0) := Vy
  replace KK := KK.wr W (Or.inr (by omega))
  replace V := V.other W (natne (by omega))
  replace O := O.other W (natne (by omega))
  show F T (mkF m 333 #[.val (.ref b), .val (.int 8)] [(.ref y), (.ref x), (.ref x)])
  refine B (fun t kt => XS.dup S.here S.hx rfl (hb hby mk8_d333) rfl rfl kt) ?_
  show F T (mkF m 334 #[.val (.ref b), .val (.int 8)] [(.ref y), (.ref y), (.ref x), (.ref x)])
  refine B (fun t kt => XS.iconst S.here S.hx rfl (hb hby mk8_d334) kt) ?_
  show F T (mkF m 335 #[.val (.ref b), .val (.int 8)] [(.int (4 : Int32)), (.ref y), (.ref y), (.ref x), (.ref x)])
  refine B (fun t kt => XS.aloadN S.here S.hx rfl (hb hby mk8_d335) rfl rfl kt) ?_
  show F T (mkF m 336 #[.val (.ref b), .val (.int 8)] [(.ref b), (.int (4 : Int32)), (.ref y), (.ref y), (.ref x), (.ref x)])
  refine B (fun t kt => XS.iconst S.here S.hx rfl (hb hby mk8_d336) kt) ?_
  show F T (mkF m 337 #[.val (.ref b), .val (.int 8)] [(.int (4 : Int32)), (.ref b), (.int (4 : Int32)), (.ref y), (.ref y), (.ref x), (.ref x)])
  refine Sp.cald B S V (by decide) (by rfl) (hb hby mk8_d337) ?_
  show F T (mkF m 338 #[.val (.ref b), .val (.int 8)] [(.int c4), (.int (4 : Int32)), (.ref y), (.ref y), (.ref x), (.ref x)])
  refine Sp.stC B S Vy (i := 4) (by decide) (by decide) (by simp) (own_narc (hcs c4 (by simp))) (by simp) (hb hby mk8_d338) fun T h7 S W Vy => ?_
  replace Vy : Arv Z h7 y ky .char 8 [.int c0, .int c1, .int c2, .int c3, .int c4, .int 0, .int 0, .int 0] (.int 0) := Vy
  replace KK := KK.wr W (Or.inr (by omega))
  replace V := V.other W (natne (by omega))
  replace O := O.other W (natne (by omega))
  show F T (mkF m 339 #[.val (.ref b), .val (.int 8)] [(.ref y), (.ref x), (.ref x)])
  refine B (fun t kt => XS.dup S.here S.hx rfl (hb hby mk8_d339) rfl rfl kt) ?_
  show F T (mkF m 340 #[.val (.ref b), .val (.int 8)] [(.ref y), (.ref y), (.ref x), (.ref x)])
  refine B (fun t kt => XS.iconst S.here S.hx rfl (hb hby mk8_d340) kt) ?_
  show F T (mkF m 341 #[.val (.ref b), .val (.int 8)] [(.int (5 : Int32)), (.ref y), (.ref y), (.ref x), (.ref x)])
  refine B (fun t kt => XS.aloadN S.here S.hx rfl (hb hby mk8_d341) rfl rfl kt) ?_
  show F T (mkF m 342 #[.val (.ref b), .val (.int 8)] [(.ref b), (.int (5 : Int32)), (.ref y), (.ref y), (.ref x), (.ref x)])
  refine B (fun t kt => XS.iconst S.here S.hx rfl (hb hby mk8_d342) kt) ?_
  show F T (mkF m 343 #[.val (.ref b), .val (.int 8)] [(.int (5 : Int32)), (.ref b), (.int (5 : Int32)), (.ref y), (.ref y), (.ref x), (.ref x)])
  refine Sp.cald B S V (by decide) (by rfl) (hb hby mk8_d343) ?_
  show F T (mkF m 344 #[.val (.ref b), .val (.int 8)] [(.int c5), (.int (5 : Int32)), (.ref y), (.ref y), (.ref x), (.ref x)])
  refine Sp.stC B S Vy (i := 5) (by decide) (by decide) (by simp) (own_narc (hcs c5 (by simp))) (by simp) (hb hby mk8_d344) fun T h8 S W Vy => ?_
  replace Vy : Arv Z h8 y ky .char 8 [.int c0, .int c1, .int c2, .int c3, .int c4, .int c5, .int 0, .int 0] (.int 0) := Vy
  replace KK := KK.wr W (Or.inr (by omega))
  replace V := V.other W (natne (by omega))
  replace O := O.other W (natne (by omega))
  show F T (mkF m 345 #[.val (.ref b), .val (.int 8)] [(.ref y), (.ref x), (.ref x)])
  refine B (fun t kt => XS.dup S.here S.hx rfl (hb hby mk8_d345) rfl rfl kt) ?_
  show F T (mkF m 346 #[.val (.ref b), .val (.int 8)] [(.ref y), (.ref y), (.ref x), (.ref x)])
  refine B (fun t kt => XS.bipush S.here S.hx rfl (hb hby mk8_d346) kt) ?_
  show F T (mkF m 348 #[.val (.ref b), .val (.int 8)] [(.int (6 : Int32)), (.ref y), (.ref y), (.ref x), (.ref x)])
  refine B (fun t kt => XS.aloadN S.here S.hx rfl (hb hby mk8_d348) rfl rfl kt) ?_
  show F T (mkF m 349 #[.val (.ref b), .val (.int 8)] [(.ref b), (.int (6 : Int32)), (.ref y), (.ref y), (.ref x), (.ref x)])
  refine B (fun t kt => XS.bipush S.here S.hx rfl (hb hby mk8_d349) kt) ?_
  show F T (mkF m 351 #[.val (.ref b), .val (.int 8)] [(.int (6 : Int32)), (.ref b), (.int (6 : Int32)), (.ref y), (.ref y), (.ref x), (.ref x)])
  refine Sp.cald B S V (by decide) (by rfl) (hb hby mk8_d351) ?_
  show F T (mkF m 352 #[.val (.ref b), .val (.int 8)] [(.int c6), (.int (6 : Int32)), (.ref y), (.ref y), (.ref x), (.ref x)])
  refine Sp.stC B S Vy (i := 6) (by decide) (by decide) (by simp) (own_narc (hcs c6 (by simp))) (by simp) (hb hby mk8_d352) fun T h9 S W Vy => ?_
  replace Vy : Arv Z h9 y ky .char 8 [.int c0, .int c1, .int c2, .int c3, .int c4, .int c5, .int c6, .int 0] (.int 0) := Vy
  replace KK := KK.wr W (Or.inr (by omega))
  replace V := V.other W (natne (by omega))
  replace O := O.other W (natne (by omega))
  show F T (mkF m 353 #[.val (.ref b), .val (.int 8)] [(.ref y), (.ref x), (.ref x)])
  refine B (fun t kt => XS.dup S.here S.hx rfl (hb hby mk8_d353) rfl rfl kt) ?_
  show F T (mkF m 354 #[.val (.ref b), .val (.int 8)] [(.ref y), (.ref y), (.ref x), (.ref x)])
  refine B (fun t kt => XS.bipush S.here S.hx rfl (hb hby mk8_d354) kt) ?_
  show F T (mkF m 356 #[.val (.ref b), .val (.int 8)] [(.int (7 : Int32)), (.ref y), (.ref y), (.ref x), (.ref x)])
  refine B (fun t kt => XS.aloadN S.here S.hx rfl (hb hby mk8_d356) rfl rfl kt) ?_
  show F T (mkF m 357 #[.val (.ref b), .val (.int 8)] [(.ref b), (.int (7 : Int32)), (.ref y), (.ref y), (.ref x), (.ref x)])
  refine B (fun t kt => XS.bipush S.here S.hx rfl (hb hby mk8_d357) kt) ?_
  show F T (mkF m 359 #[.val (.ref b), .val (.int 8)] [(.int (7 : Int32)), (.ref b), (.int (7 : Int32)), (.ref y), (.ref y), (.ref x), (.ref x)])
  refine Sp.cald B S V (by decide) (by rfl) (hb hby mk8_d359) ?_
  show F T (mkF m 360 #[.val (.ref b), .val (.int 8)] [(.int c7), (.int (7 : Int32)), (.ref y), (.ref y), (.ref x), (.ref x)])
  refine Sp.stC B S Vy (i := 7) (by decide) (by decide) (by simp) (own_narc (hcs c7 (by simp))) (by simp) (hb hby mk8_d360) fun T h10 S W Vy => ?_
  replace Vy : Arv Z h10 y ky .char 8 [.int c0, .int c1, .int c2, .int c3, .int c4, .int c5, .int c6, .int c7] (.int 0) := Vy
  replace KK := KK.wr W (Or.inr (by omega))
  replace V := V.other W (natne (by omega))
  replace O := O.other W (natne (by omega))
  show F T (mkF m 361 #[.val (.ref b), .val (.int 8)] [(.ref y), (.ref x), (.ref x)])
  refine Sp.special B S (y := (⟨"java/lang/String", "<init>", "([C)V"⟩ : MethodName)) (argsL := [(.ref y)]) (rest := [(.ref x)]) rfl (hw _ (List.mem_of_getElem? (i := 9) rfl)) (hw _ (List.mem_of_getElem? (i := 10) rfl)) (hw _ (List.mem_of_getElem? (i := 11) rfl)) (by decide) (own_new (W := 1) Z a0 EL hw hEW h10 hS hmem zc CS hzc AD HI LO [c0, c1, c2, c3, c4, c5, c6, c7] (by show 8 ≤ 8; decide) (fun q hq => hcs q (List.mem_of_mem_take (i := 8) (l := [c0, c1, c2, c3, c4, c5, c6, c7]) hq)) x y (natne (by omega)) (S.isnew (by simp)) S.old _ _ O ky _ Vy (by decide) (by decide)) (by simp) (by decide) (by decide) (by rw [hml]; rfl) (lenOf mk8_p22 rfl) rfl (Nat.le_of_eq rfl) (hb hby mk8_d361) fun v T h11 nw S hQ => ?_
  obtain ⟨rfl, rfl, K, t, ne, G⟩ := hQ
  replace KK := KK.trans K (qk1 (by first | (refine Or.inl ?_; simp; done) | (refine Or.inr ?_; omega)))
  show F T (mkF m 364 #[.val (.ref b), .val (.int 8)] [(.ref x)])
  exact hF ((S.mono (by decide) (by decide)).retA hr hlk rfl rfl (hb hby mk8_d364) (nw := []) ⟨x, t, rfl, rfl, KK, G⟩ (by simp))
theorem own_make (l : Launch) (Z : State) (a0 : Array Value) (EL : List (String × Nat)) (hw : ∀ d ∈ tables_1, d.before a0 Z = true) (hEW : EW Z a0 EL) (h : Heap) (hS : ∀ d ∈ Bundle.stringAtoms, d.before a0 Z = true) (hmem : ("java/lang/String", 7) ∈ EL) (zc : Int32) (CS : Sta Z Z.heap "java/lang/String" "COMPACT_STRINGS" "Z" (.int zc)) (hzc : ¬ zc = 0) (AD : Sta Z Z.heap "java/lang/StringUTF16" "$assertionsDisabled" "Z" (.int 1)) (HI : Sta Z Z.heap "java/lang/StringUTF16" "HI_BYTE_SHIFT" "I" (.int 0)) (LO : Sta Z Z.heap "java/lang/StringUTF16" "LO_BYTE_SHIFT" "I" (.int 8)) (b : Addr) (kb : ClassId) (dv : Value) (c0 c1 c2 c3 c4 c5 c6 c7 : Int32) (hcs : ∀ q ∈ [c0, c1, c2, c3, c4, c5, c6, c7], ¬ q < 0 ∧ ¬ (65535 : Int32) < q) (V : Arv Z h b kb .char 8 [.int c0, .int c1, .int c2, .int c3, .int c4, .int c5, .int c6, .int c7] dv) (n : Nat) (hn : n ≤ 8) :
    Con l Z EL (⟨"com/example/keywright/keywright/store/TokensReadsPinLaw", "make", "([CI)Ljava/lang/String;"⟩ : MethodName) method_3_code 2 (some (.object "java/lang/String")) ({ frames := 7, cells := 6, slots := 36, locals := 112 } : Room) #[.ref b, .int (Int32.ofNat n)] h [] (fun v h' nw => ∃ x t, v = some (.ref x) ∧ nw = [] ∧ Keep h h' [] ∧ own_Str Z a0 h' x t ([c0, c1, c2, c3, c4, c5, c6, c7].take n)) := by
  match n, hn with
  | 0, _ => exact mk0 l Z a0 EL hw hEW h hS hmem zc CS hzc AD HI LO b kb dv c0 c1 c2 c3 c4 c5 c6 c7 hcs V
  | 1, _ => exact mk1 l Z a0 EL hw hEW h hS hmem zc CS hzc AD HI LO b kb dv c0 c1 c2 c3 c4 c5 c6 c7 hcs V
  | 2, _ => exact mk2 l Z a0 EL hw hEW h hS hmem zc CS hzc AD HI LO b kb dv c0 c1 c2 c3 c4 c5 c6 c7 hcs V
  | 3, _ => exact mk3 l Z a0 EL hw hEW h hS hmem zc CS hzc AD HI LO b kb dv c0 c1 c2 c3 c4 c5 c6 c7 hcs V
  | 4, _ => exact mk4 l Z a0 EL hw hEW h hS hmem zc CS hzc AD HI LO b kb dv c0 c1 c2 c3 c4 c5 c6 c7 hcs V
  | 5, _ => exact mk5 l Z a0 EL hw hEW h hS hmem zc CS hzc AD HI LO b kb dv c0 c1 c2 c3 c4 c5 c6 c7 hcs V
  | 6, _ => exact mk6 l Z a0 EL hw hEW h hS hmem zc CS hzc AD HI LO b kb dv c0 c1 c2 c3 c4 c5 c6 c7 hcs V
  | 7, _ => exact mk7 l Z a0 EL hw hEW h hS hmem zc CS hzc AD HI LO b kb dv c0 c1 c2 c3 c4 c5 c6 c7 hcs V
  | 8, _ => exact mk8 l Z a0 EL hw hEW h hS hmem zc CS hzc AD HI LO b kb dv c0 c1 c2 c3 c4 c5 c6 c7 hcs V
theorem rd_d0 : decode prog_17_method_2_code 0 = .ok (.aload_n 0, 1) := by decide +kernel
theorem rd_d1 : decode prog_17_method_2_code 1 = .ok (.ldc 16, 2) := by decide +kernel
theorem rd_d3 : decode prog_17_method_2_code 3 = .ok (.invokevirtual 18, 3) := by decide +kernel
theorem rd_d6 : decode prog_17_method_2_code 6 = .ok (.ifCond .ne 12, 3) := by decide +kernel
theorem rd_d9 : decode prog_17_method_2_code 9 = .ok (.aload_n 0, 1) := by decide +kernel
theorem rd_d10 : decode prog_17_method_2_code 10 = .ok (.ldc 24, 2) := by decide +kernel
theorem rd_d12 : decode prog_17_method_2_code 12 = .ok (.invokevirtual 18, 3) := by decide +kernel
theorem rd_d15 : decode prog_17_method_2_code 15 = .ok (.ifCond .eq 7, 3) := by decide +kernel
theorem rd_d18 : decode prog_17_method_2_code 18 = .ok (.iconst 1, 1) := by decide +kernel
theorem rd_d19 : decode prog_17_method_2_code 19 = .ok (.goto 4, 3) := by decide +kernel
theorem rd_d22 : decode prog_17_method_2_code 22 = .ok (.iconst 0, 1) := by decide +kernel
theorem rd_d23 : decode prog_17_method_2_code 23 = .ok (.ireturn, 1) := by decide +kernel
theorem rd_p18 : parseMethodDescriptor "(Ljava/lang/Object;)Z" = some ⟨[(.object "java/lang/Object")], (some .boolean)⟩ := by decide +kernel
theorem rd_ef (m : MethodId) (x : Addr) : entryFrame m #[(.ref x)] 1 = mkF m 0 #[.val (.ref x)] [] := by first | (simp [entryFrame, mkF, argsToLocals, Value.category]; done) | rfl
theorem rd_pn : plainFor (⟨"com/example/keywright/keywright/store/Tokens", "reads", "(Ljava/lang/String;)Z"⟩ : MethodName) = true := by first | exact plainFor_of_name (by first | (simp [plainName, overriddenIn]; done) | decide +kernel) | decide +kernel
set_option maxRecDepth 65536 in
set_option maxHeartbeats 40000000 in
theorem rd (l : Launch) (Z : State) (a0 : Array Value) (EL : List (String × Nat)) (hw : ∀ d ∈ tables_1, d.before a0 Z = true) (hEW : EW Z a0 EL) (h : Heap) (hS : ∀ d ∈ Bundle.stringAtoms, d.before a0 Z = true) (hm1 : ("com/example/keywright/keywright/store/Tokens", 16) ∈ EL) (hm2 : ("com/example/keywright/keywright/store/Tokens", 24) ∈ EL) (hev : ∀ d ∈ StrChars.Road.wordsEq, d.before a0 Z = true) (zc : Int32) (CS : Sta Z Z.heap "java/lang/String" "COMPACT_STRINGS" "Z" (.int zc)) (hzc : ¬ zc = 0) (x t : Addr) (cs : List Int32) (G : own_Str Z a0 h x t cs) :
    Con l Z EL (⟨"com/example/keywright/keywright/store/Tokens", "reads", "(Ljava/lang/String;)Z"⟩ : MethodName) prog_17_method_2_code 1 (some .boolean) ({ frames := 2, cells := 4, slots := 56, locals := 28 } : Room) #[(.ref x)] h [] (fun v h' nw => ∃ r : Int32, v = some (.int r) ∧ nw = [] ∧ ((r = 1 ∧ (cs = [116, 111, 107, 101, 110] ∨ cs = [99, 111, 117, 110, 116, 101, 114])) ∨ (r = 0 ∧ ¬ (cs = [116, 111, 107, 101, 110] ∨ cs = [99, 111, 117, 110, 116, 101, 114])))) := by
  refine Con.of rd_pn hEW ?_
  intro p e s m below meth c T F B hF hby hml hr hlk hnm S
  rw [rd_ef]
  show F T (mkF m 0 #[.val (.ref x)] [])
  refine B (fun t kt => XS.aloadN S.here S.hx rfl (hb hby rd_d0) rfl rfl kt) ?_
  show F T (mkF m 1 #[.val (.ref x)] [(.ref x)])
  refine Sp.ldc B S (hw _ (List.mem_of_getElem? (i := 39) rfl)) hS hm1 (vs := [.int 116, .int 111, .int 107, .int 101, .int 110]) (z := 5) (by decide) (by decide) (by decide) (hb hby rd_d1) (nn := 20) (by decide) (by decide) (by decide) (by decide) fun T h1 q qt kqt S E Xq Cq Wq Vqt Nq => ?_
  show F T (mkF m 3 #[.val (.ref x)] [(.ref q), (.ref x)])
  replace G := G.ext E
  obtain ⟨kb, cd, N2, vs, Ox, Vx, hcd, hbd, hle⟩ := id G
  refine Sp.virt B S (y := (⟨"java/lang/String", "equals", "(Ljava/lang/Object;)Z"⟩ : MethodName)) (C := "java/lang/String") (argsL := [(.ref q)]) (rest := []) (hw _ (List.mem_of_getElem? (i := 42) rfl)) (hw _ (List.mem_of_getElem? (i := 43) rfl)) (hw _ (List.mem_of_getElem? (i := 45) rfl)) (hw _ (List.mem_of_getElem? (i := 45) rfl)) (hw _ (List.mem_of_getElem? (i := 44) rfl)) (by decide) (Call.pure (fun s' hZ => StrChars.Road.eqW (W := 0) hZ hev (kI := 4) (hw _ (List.mem_of_getElem? (i := 7) rfl)) Ox.1 (Ox.f (i := 0) rfl) (Ox.f (i := 1) rfl) Vx hcd hbd hle Xq Wq Cq Vqt (StrChars.Road.codOf (cs := [116, 111, 107, 101, 110]) rfl (by decide)) (by decide) (by decide) (CS.ext S.old) hzc (by decide) (by decide)) (sf := [])) Ox.1 (by simp) (by decide) (by decide) (by rw [hml]; rfl) (lenOf rd_p18 rfl) rfl (Nat.le_of_eq rfl) (hb hby rd_d3) fun v T h2 nw S hQ => ?_
  obtain ⟨hv, rfl, rfl⟩ := hQ
  rcases hv with ⟨rfl, e1⟩ | ⟨rfl, e1⟩
  ·
    show F T (mkF m 6 #[.val (.ref x)] [(.int 1)])
    refine B (fun t kt => XS.ifYes S.here S.hx rfl (pc0 := 6) (pc' := 18) rfl (hb hby rd_d6) rfl (i0_ne_t (by decide)) (by decide) (by decide) kt) ?_
    show F T (mkF m 18 #[.val (.ref x)] [])
    refine B (fun t kt => XS.iconst S.here S.hx rfl (hb hby rd_d18) kt) ?_
    show F T (mkF m 19 #[.val (.ref x)] [(.int (1 : Int32))])
    refine B (fun t kt => XS.goto S.here S.hx rfl (pc0 := 19) (pc' := 23) rfl (hb hby rd_d19) (by decide) (by decide) kt) ?_
    show F T (mkF m 23 #[.val (.ref x)] [(.int (1 : Int32))])
    exact hF ((S.mono (by decide) (by decide)).retI hr hlk (by simp) (by decide) (hb hby rd_d23) (nw := []) ⟨1, rfl, rfl, Or.inl ⟨rfl, Or.inl e1⟩⟩ (by simp))
  ·
    show F T (mkF m 6 #[.val (.ref x)] [(.int 0)])
    refine B (fun t kt => XS.ifNo S.here S.hx rfl (hb hby rd_d6) rfl (i0_ne_f rfl) kt) ?_
    show F T (mkF m 9 #[.val (.ref x)] [])
    refine B (fun t kt => XS.aloadN S.here S.hx rfl (hb hby rd_d9) rfl rfl kt) ?_
    show F T (mkF m 10 #[.val (.ref x)] [(.ref x)])
    refine Sp.ldc B S (hw _ (List.mem_of_getElem? (i := 52) rfl)) hS hm2 (vs := [.int 99, .int 111, .int 117, .int 110, .int 116, .int 101, .int 114]) (z := 7) (by decide) (by decide) (by decide) (hb hby rd_d10) (nn := 28) (by decide) (by decide) (by decide) (by decide) fun T h3 u ut kut S E Xu Cu Wu Vut Nu => ?_
    show F T (mkF m 12 #[.val (.ref x)] [(.ref u), (.ref x)])
    replace G := G.ext E
    obtain ⟨kb, cd, N2, vs, Ox, Vx, hcd, hbd, hle⟩ := id G
    refine Sp.virt B S (y := (⟨"java/lang/String", "equals", "(Ljava/lang/Object;)Z"⟩ : MethodName)) (C := "java/lang/String") (argsL := [(.ref u)]) (rest := []) (hw _ (List.mem_of_getElem? (i := 42) rfl)) (hw _ (List.mem_of_getElem? (i := 43) rfl)) (hw _ (List.mem_of_getElem? (i := 45) rfl)) (hw _ (List.mem_of_getElem? (i := 45) rfl)) (hw _ (List.mem_of_getElem? (i := 44) rfl)) (by decide) (Call.pure (fun s' hZ => StrChars.Road.eqW (W := 0) hZ hev (kI := 4) (hw _ (List.mem_of_getElem? (i := 7) rfl)) Ox.1 (Ox.f (i := 0) rfl) (Ox.f (i := 1) rfl) Vx hcd hbd hle Xu Wu Cu Vut (StrChars.Road.codOf (cs := [99, 111, 117, 110, 116, 101, 114]) rfl (by decide)) (by decide) (by decide) (CS.ext S.old) hzc (by decide) (by decide)) (sf := [])) Ox.1 (by simp) (by decide) (by decide) (by rw [hml]; rfl) (lenOf rd_p18 rfl) rfl (Nat.le_of_eq rfl) (hb hby rd_d12) fun v T h4 nw S hQ => ?_
    obtain ⟨hv, rfl, rfl⟩ := hQ
    rcases hv with ⟨rfl, e2⟩ | ⟨rfl, e2⟩
    ·
      show F T (mkF m 15 #[.val (.ref x)] [(.int 1)])
      refine B (fun t kt => XS.ifNo S.here S.hx rfl (hb hby rd_d15) rfl (i0_eq_f (by decide)) kt) ?_
      show F T (mkF m 18 #[.val (.ref x)] [])
      refine B (fun t kt => XS.iconst S.here S.hx rfl (hb hby rd_d18) kt) ?_
      show F T (mkF m 19 #[.val (.ref x)] [(.int (1 : Int32))])
      refine B (fun t kt => XS.goto S.here S.hx rfl (pc0 := 19) (pc' := 23) rfl (hb hby rd_d19) (by decide) (by decide) kt) ?_
      show F T (mkF m 23 #[.val (.ref x)] [(.int (1 : Int32))])
      exact hF ((S.mono (by decide) (by decide)).retI hr hlk (by simp) (by decide) (hb hby rd_d23) (nw := []) ⟨1, rfl, rfl, Or.inl ⟨rfl, Or.inr e2⟩⟩ (by simp))
    ·
      show F T (mkF m 15 #[.val (.ref x)] [(.int 0)])
      refine B (fun t kt => XS.ifYes S.here S.hx rfl (pc0 := 15) (pc' := 22) rfl (hb hby rd_d15) rfl (i0_eq_t rfl) (by decide) (by decide) kt) ?_
      show F T (mkF m 22 #[.val (.ref x)] [])
      refine B (fun t kt => XS.iconst S.here S.hx rfl (hb hby rd_d22) kt) ?_
      show F T (mkF m 23 #[.val (.ref x)] [(.int (0 : Int32))])
      exact hF ((S.mono (by decide) (by decide)).retI hr hlk (by simp) (by decide) (hb hby rd_d23) (nw := []) ⟨0, rfl, rfl, Or.inr ⟨rfl, fun q => q.elim e1 e2⟩⟩ (by simp))
theorem own_tok (c0 c1 c2 c3 c4 c5 c6 c7 : Int32) (n : Nat) (hn : n ≤ 8) : [c0, c1, c2, c3, c4, c5, c6, c7].take n = [116, 111, 107, 101, 110] ↔ (Int32.ofNat n = 5 ∧ c0 = 116 ∧ c1 = 111 ∧ c2 = 107 ∧ c3 = 101 ∧ c4 = 110) := by
  match n, hn with
  | 0, _ => simp
  | 1, _ => simp
  | 2, _ => simp
  | 3, _ => simp
  | 4, _ => simp
  | 5, _ => simp
  | 6, _ => simp
  | 7, _ => simp
  | 8, _ => simp
theorem own_ctr (c0 c1 c2 c3 c4 c5 c6 c7 : Int32) (n : Nat) (hn : n ≤ 8) : [c0, c1, c2, c3, c4, c5, c6, c7].take n = [99, 111, 117, 110, 116, 101, 114] ↔ (Int32.ofNat n = 7 ∧ c0 = 99 ∧ c1 = 111 ∧ c2 = 117 ∧ c3 = 110 ∧ c4 = 116 ∧ c5 = 101 ∧ c6 = 114) := by
  match n, hn with
  | 0, _ => simp
  | 1, _ => simp
  | 2, _ => simp
  | 3, _ => simp
  | 4, _ => simp
  | 5, _ => simp
  | 6, _ => simp
  | 7, _ => simp
  | 8, _ => simp
theorem own_rem (x : Int32) (k : Nat) (h0 : 0 < k) (hk : k ≤ 4000) : ∃ n : Nat, n < k ∧ (x &&& (2147483647 : Int32)) % Int32.ofNat k = Int32.ofNat n := by
  have a := c_and x 2147483647 (by decide)
  have e : (Int32.ofNat k).toInt = (k : Int) := Int32.toInt_ofNat_small (by omega)
  have q := (c_iremV (x &&& 2147483647) (Int32.ofNat k)).1 a.1 (by rw [e]; omega)
  rw [e] at q
  refine ⟨((x &&& (2147483647 : Int32)) % Int32.ofNat k).toInt.toNat, by omega, ?_⟩
  apply Int32.toInt_inj.mp
  rw [Int32.toInt_ofNat_small (by omega)]; omega
theorem own_c16 (x : Int32) : ¬ (x.toUInt32.toUInt16.toUInt32.toInt32) < 0 ∧ ¬ (65535 : Int32) < x.toUInt32.toUInt16.toUInt32.toInt32 := by
  have q := c_i2c x
  have z : (0 : Int32).toInt = 0 := by decide
  have m : (65535 : Int32).toInt = 65535 := by decide
  constructor <;> (rw [Int32.lt_iff_toInt_lt]; omega)
theorem own_set8 (c0 c1 c2 c3 c4 c5 c6 c7 x : Int32) (hcs : ∀ q ∈ [c0, c1, c2, c3, c4, c5, c6, c7], ¬ q < 0 ∧ ¬ (65535 : Int32) < q) (hx : ¬ x < 0 ∧ ¬ (65535 : Int32) < x) (j : Nat) (hj : j < 8) : ∃ d0 d1 d2 d3 d4 d5 d6 d7 : Int32, ([.int c0, .int c1, .int c2, .int c3, .int c4, .int c5, .int c6, .int c7] : List Value).set j (.int x) = [.int d0, .int d1, .int d2, .int d3, .int d4, .int d5, .int d6, .int d7] ∧ ∀ q ∈ [d0, d1, d2, d3, d4, d5, d6, d7], ¬ q < 0 ∧ ¬ (65535 : Int32) < q := by
  have g0 := hcs c0 (by simp)
  have g1 := hcs c1 (by simp)
  have g2 := hcs c2 (by simp)
  have g3 := hcs c3 (by simp)
  have g4 := hcs c4 (by simp)
  have g5 := hcs c5 (by simp)
  have g6 := hcs c6 (by simp)
  have g7 := hcs c7 (by simp)
  match j, hj with
  | 0, _ => exact ⟨x, c1, c2, c3, c4, c5, c6, c7, rfl, all_cons hx (all_cons g1 (all_cons g2 (all_cons g3 (all_cons g4 (all_cons g5 (all_cons g6 (all_cons g7 (all_nil))))))))⟩
  | 1, _ => exact ⟨c0, x, c2, c3, c4, c5, c6, c7, rfl, all_cons g0 (all_cons hx (all_cons g2 (all_cons g3 (all_cons g4 (all_cons g5 (all_cons g6 (all_cons g7 (all_nil))))))))⟩
  | 2, _ => exact ⟨c0, c1, x, c3, c4, c5, c6, c7, rfl, all_cons g0 (all_cons g1 (all_cons hx (all_cons g3 (all_cons g4 (all_cons g5 (all_cons g6 (all_cons g7 (all_nil))))))))⟩
  | 3, _ => exact ⟨c0, c1, c2, x, c4, c5, c6, c7, rfl, all_cons g0 (all_cons g1 (all_cons g2 (all_cons hx (all_cons g4 (all_cons g5 (all_cons g6 (all_cons g7 (all_nil))))))))⟩
  | 4, _ => exact ⟨c0, c1, c2, c3, x, c5, c6, c7, rfl, all_cons g0 (all_cons g1 (all_cons g2 (all_cons g3 (all_cons hx (all_cons g5 (all_cons g6 (all_cons g7 (all_nil))))))))⟩
  | 5, _ => exact ⟨c0, c1, c2, c3, c4, x, c6, c7, rfl, all_cons g0 (all_cons g1 (all_cons g2 (all_cons g3 (all_cons g4 (all_cons hx (all_cons g6 (all_cons g7 (all_nil))))))))⟩
  | 6, _ => exact ⟨c0, c1, c2, c3, c4, c5, x, c7, rfl, all_cons g0 (all_cons g1 (all_cons g2 (all_cons g3 (all_cons g4 (all_cons g5 (all_cons hx (all_cons g7 (all_nil))))))))⟩
  | 7, _ => exact ⟨c0, c1, c2, c3, c4, c5, c6, x, rfl, all_cons g0 (all_cons g1 (all_cons g2 (all_cons g3 (all_cons g4 (all_cons g5 (all_cons g6 (all_cons hx (all_nil))))))))⟩
theorem lw_p8 : parseMethodDescriptor "([CI)Ljava/lang/String;" = some ⟨[(.array .char), .int], (some (.object "java/lang/String"))⟩ := by decide +kernel
theorem lw_p14 : parseMethodDescriptor "(Ljava/lang/String;)Z" = some ⟨[(.object "java/lang/String")], (some .boolean)⟩ := by decide +kernel
theorem own_lef (m : MethodId) (i0 i1 i2 i3 i4 : Int32) : entryFrame m #[.int i0, .int i1, .int i2, .int i3, .int i4] 11 = mkF m 0 #[.val (.int i0), .val (.int i1), .val (.int i2), .val (.int i3), .val (.int i4), .unset, .unset, .unset, .unset, .unset, .unset] [] := by first | (simp [entryFrame, mkF, argsToLocals, Value.category]; done) | rfl
theorem own_lpn : plainFor (⟨"com/example/keywright/keywright/store/TokensReadsPinLaw", "law", "(IIIII)Z"⟩ : MethodName) = true := by first | exact plainFor_of_name (by first | (simp [plainName, overriddenIn]; done) | decide +kernel) | decide +kernel
set_option maxRecDepth 65536 in
set_option maxHeartbeats 40000000 in
theorem own_law (l : Launch) (Z : State) (a0 : Array Value) (hw : ∀ d ∈ tables_1, d.before a0 Z = true) (hEW : EW Z a0 consts_1) (zc : Int32) (CS : Sta Z Z.heap "java/lang/String" "COMPACT_STRINGS" "Z" (.int zc)) (hzc : ¬ zc = 0) (AD : Sta Z Z.heap "java/lang/StringUTF16" "$assertionsDisabled" "Z" (.int 1)) (HI : Sta Z Z.heap "java/lang/StringUTF16" "HI_BYTE_SHIFT" "I" (.int 0)) (LO : Sta Z Z.heap "java/lang/StringUTF16" "LO_BYTE_SHIFT" "I" (.int 8)) (i0 i1 i2 i3 i4 : Int32) :
    Con l Z consts_1 (⟨"com/example/keywright/keywright/store/TokensReadsPinLaw", "law", "(IIIII)Z"⟩ : MethodName) code 11 (some .boolean) room_1 #[.int i0, .int i1, .int i2, .int i3, .int i4] Z.heap [] (fun v _ _ => v = some (.int 1)) := by
  have hS : ∀ d ∈ Bundle.stringAtoms, d.before a0 Z = true := fun d hd => hw d ((by decide +kernel : ∀ d ∈ Bundle.stringAtoms, d ∈ tables_1) d hd)
  have hev : ∀ d ∈ StrChars.Road.wordsEq, d.before a0 Z = true := fun d hd => hw d ((by decide +kernel : ∀ d ∈ StrChars.Road.wordsEq, d ∈ tables_1) d hd)
  have hmem : ("java/lang/String", 7) ∈ consts_1 := by decide
  refine Con.of own_lpn hEW ?_
  intro p e s m below meth c T F B hF hby hml hr hlk hnm S
  rw [own_lef]
  show F T (mkF m 0 #[.val (.int i0), .val (.int i1), .val (.int i2), .val (.int i3), .val (.int i4), .unset, .unset, .unset, .unset, .unset, .unset] [])
  refine B (fun t kt => XS.iload S.here S.hx rfl (hb hby at_0) rfl kt) ?_
  show F T (mkF m 2 #[.val (.int i0), .val (.int i1), .val (.int i2), .val (.int i3), .val (.int i4), .unset, .unset, .unset, .unset, .unset, .unset] [(.int i4)])
  refine B (fun t kt => XT.i2c S.here S.hx rfl (hb hby at_2) rfl kt) ?_
  show F T (mkF m 3 #[.val (.int i0), .val (.int i1), .val (.int i2), .val (.int i3), .val (.int i4), .unset, .unset, .unset, .unset, .unset, .unset] [(.int i4.toUInt32.toUInt16.toUInt32.toInt32)])
  obtain ⟨f, hf⟩ : ∃ f, f = i4.toUInt32.toUInt16.toUInt32.toInt32 := ⟨_, rfl⟩
  have hfb : ¬ f < 0 ∧ ¬ (65535 : Int32) < f := by rw [hf]; exact own_c16 i4
  rw [← hf]
  show F T (mkF m 3 #[.val (.int i0), .val (.int i1), .val (.int i2), .val (.int i3), .val (.int i4), .unset, .unset, .unset, .unset, .unset, .unset] [(.int f)])
  refine B (fun t kt => XS.istore S.here S.hx rfl (hb hby at_3) rfl (l' := #[.val (.int i0), .val (.int i1), .val (.int i2), .val (.int i3), .val (.int i4), .val (.int f), .unset, .unset, .unset, .unset, .unset]) rfl kt) ?_
  show F T (mkF m 5 #[.val (.int i0), .val (.int i1), .val (.int i2), .val (.int i3), .val (.int i4), .val (.int f), .unset, .unset, .unset, .unset, .unset] [])
  refine B (fun t kt => XS.bipush S.here S.hx rfl (hb hby at_5) kt) ?_
  show F T (mkF m 7 #[.val (.int i0), .val (.int i1), .val (.int i2), .val (.int i3), .val (.int i4), .val (.int f), .unset, .unset, .unset, .unset, .unset] [(.int (8 : Int32))])
  refine Sp.newP B S (cap := 8) (hw _ (List.mem_of_getElem? (i := 0) rfl)) (hb hby at_7) (by decide) (by decide) (by decide) (by decide) (by decide) (ad := "[C") (by decide) fun T h1 b kb S E gb Xb V => ?_
  show F T (mkF m 9 #[.val (.int i0), .val (.int i1), .val (.int i2), .val (.int i3), .val (.int i4), .val (.int f), .unset, .unset, .unset, .unset, .unset] [(.ref b)])
  replace V : Arv Z h1 b kb .char 8 [.int 0, .int 0, .int 0, .int 0, .int 0, .int 0, .int 0, .int 0] (.int 0) := V.pad (pad_rep [] (.int 0) 8)
  refine B (fun t kt => XS.astore S.here S.hx rfl (hb hby at_9) rfl rfl (l' := #[.val (.int i0), .val (.int i1), .val (.int i2), .val (.int i3), .val (.int i4), .val (.int f), .val (.ref b), .unset, .unset, .unset, .unset]) rfl kt) ?_
  show F T (mkF m 11 #[.val (.int i0), .val (.int i1), .val (.int i2), .val (.int i3), .val (.int i4), .val (.int f), .val (.ref b), .unset, .unset, .unset, .unset] [])
  refine B (fun t kt => XS.iloadN S.here S.hx rfl (hb hby at_11) rfl kt) ?_
  show F T (mkF m 12 #[.val (.int i0), .val (.int i1), .val (.int i2), .val (.int i3), .val (.int i4), .val (.int f), .val (.ref b), .unset, .unset, .unset, .unset] [(.int i0)])
  refine B (fun t kt => XS.iconst S.here S.hx rfl (hb hby at_12) kt) ?_
  show F T (mkF m 13 #[.val (.int i0), .val (.int i1), .val (.int i2), .val (.int i3), .val (.int i4), .val (.int f), .val (.ref b), .unset, .unset, .unset, .unset] [(.int (1 : Int32)), (.int i0)])
  refine B (fun t kt => XS.iand S.here S.hx rfl (hb hby at_13) rfl kt) ?_
  show F T (mkF m 14 #[.val (.int i0), .val (.int i1), .val (.int i2), .val (.int i3), .val (.int i4), .val (.int f), .val (.ref b), .unset, .unset, .unset, .unset] [(.int (i0 &&& (1 : Int32)))])
  suffices J : ∀ (T : State) (h : Heap) (c0 c1 c2 c3 c4 c5 c6 c7 : Int32), Sp p l e room_1 s m #[.int i0, .int i1, .int i2, .int i3, .int i4] below meth c Z a0 consts_1 "com/example/keywright/keywright/store/TokensReadsPinLaw" T h [b] [] 1 8 → (∀ q ∈ [c0, c1, c2, c3, c4, c5, c6, c7], ¬ q < 0 ∧ ¬ (65535 : Int32) < q) → Arv Z h b kb .char 8 [.int c0, .int c1, .int c2, .int c3, .int c4, .int c5, .int c6, .int c7] (.int 0) → F T (mkF m 120 #[.val (.int i0), .val (.int i1), .val (.int i2), .val (.int i3), .val (.int i4), .val (.int f), .val (.ref b), .unset, .unset, .unset, .unset] []) by
    by_cases hc : (i0 &&& (1 : Int32)) = 0
    ·
      refine B (fun t kt => XS.ifNo S.here S.hx rfl (hb hby at_14) rfl (i0_ne_f hc) kt) ?_
      show F T (mkF m 17 #[.val (.int i0), .val (.int i1), .val (.int i2), .val (.int i3), .val (.int i4), .val (.int f), .val (.ref b), .unset, .unset, .unset, .unset] [])
      refine B (fun t kt => XS.aload S.here S.hx rfl (hb hby at_17) rfl rfl kt) ?_
      show F T (mkF m 19 #[.val (.int i0), .val (.int i1), .val (.int i2), .val (.int i3), .val (.int i4), .val (.int f), .val (.ref b), .unset, .unset, .unset, .unset] [(.ref b)])
      refine B (fun t kt => XS.iconst S.here S.hx rfl (hb hby at_19) kt) ?_
      show F T (mkF m 20 #[.val (.int i0), .val (.int i1), .val (.int i2), .val (.int i3), .val (.int i4), .val (.int f), .val (.ref b), .unset, .unset, .unset, .unset] [(.int (0 : Int32)), (.ref b)])
      refine B (fun t kt => XS.bipush S.here S.hx rfl (hb hby at_20) kt) ?_
      show F T (mkF m 22 #[.val (.int i0), .val (.int i1), .val (.int i2), .val (.int i3), .val (.int i4), .val (.int f), .val (.ref b), .unset, .unset, .unset, .unset] [(.int (116 : Int32)), (.int (0 : Int32)), (.ref b)])
      refine Sp.stC B S V (i := 0) (by decide) (by decide) (by simp) (x' := (116 : Int32)) (by decide) (by simp) (hb hby at_22) fun T h2 S W V => ?_
      replace V : Arv Z h2 b kb .char 8 [.int (116 : Int32), .int 0, .int 0, .int 0, .int 0, .int 0, .int 0, .int 0] (.int 0) := V
      show F T (mkF m 23 #[.val (.int i0), .val (.int i1), .val (.int i2), .val (.int i3), .val (.int i4), .val (.int f), .val (.ref b), .unset, .unset, .unset, .unset] [])
      refine B (fun t kt => XS.aload S.here S.hx rfl (hb hby at_23) rfl rfl kt) ?_
      show F T (mkF m 25 #[.val (.int i0), .val (.int i1), .val (.int i2), .val (.int i3), .val (.int i4), .val (.int f), .val (.ref b), .unset, .unset, .unset, .unset] [(.ref b)])
      refine B (fun t kt => XS.iconst S.here S.hx rfl (hb hby at_25) kt) ?_
      show F T (mkF m 26 #[.val (.int i0), .val (.int i1), .val (.int i2), .val (.int i3), .val (.int i4), .val (.int f), .val (.ref b), .unset, .unset, .unset, .unset] [(.int (1 : Int32)), (.ref b)])
      refine B (fun t kt => XS.bipush S.here S.hx rfl (hb hby at_26) kt) ?_
      show F T (mkF m 28 #[.val (.int i0), .val (.int i1), .val (.int i2), .val (.int i3), .val (.int i4), .val (.int f), .val (.ref b), .unset, .unset, .unset, .unset] [(.int (111 : Int32)), (.int (1 : Int32)), (.ref b)])
      refine Sp.stC B S V (i := 1) (by decide) (by decide) (by simp) (x' := (111 : Int32)) (by decide) (by simp) (hb hby at_28) fun T h3 S W V => ?_
      replace V : Arv Z h3 b kb .char 8 [.int (116 : Int32), .int (111 : Int32), .int 0, .int 0, .int 0, .int 0, .int 0, .int 0] (.int 0) := V
      show F T (mkF m 29 #[.val (.int i0), .val (.int i1), .val (.int i2), .val (.int i3), .val (.int i4), .val (.int f), .val (.ref b), .unset, .unset, .unset, .unset] [])
      refine B (fun t kt => XS.aload S.here S.hx rfl (hb hby at_29) rfl rfl kt) ?_
      show F T (mkF m 31 #[.val (.int i0), .val (.int i1), .val (.int i2), .val (.int i3), .val (.int i4), .val (.int f), .val (.ref b), .unset, .unset, .unset, .unset] [(.ref b)])
      refine B (fun t kt => XS.iconst S.here S.hx rfl (hb hby at_31) kt) ?_
      show F T (mkF m 32 #[.val (.int i0), .val (.int i1), .val (.int i2), .val (.int i3), .val (.int i4), .val (.int f), .val (.ref b), .unset, .unset, .unset, .unset] [(.int (2 : Int32)), (.ref b)])
      refine B (fun t kt => XS.bipush S.here S.hx rfl (hb hby at_32) kt) ?_
      show F T (mkF m 34 #[.val (.int i0), .val (.int i1), .val (.int i2), .val (.int i3), .val (.int i4), .val (.int f), .val (.ref b), .unset, .unset, .unset, .unset] [(.int (107 : Int32)), (.int (2 : Int32)), (.ref b)])
      refine Sp.stC B S V (i := 2) (by decide) (by decide) (by simp) (x' := (107 : Int32)) (by decide) (by simp) (hb hby at_34) fun T h4 S W V => ?_
      replace V : Arv Z h4 b kb .char 8 [.int (116 : Int32), .int (111 : Int32), .int (107 : Int32), .int 0, .int 0, .int 0, .int 0, .int 0] (.int 0) := V
      show F T (mkF m 35 #[.val (.int i0), .val (.int i1), .val (.int i2), .val (.int i3), .val (.int i4), .val (.int f), .val (.ref b), .unset, .unset, .unset, .unset] [])
      refine B (fun t kt => XS.aload S.here S.hx rfl (hb hby at_35) rfl rfl kt) ?_
      show F T (mkF m 37 #[.val (.int i0), .val (.int i1), .val (.int i2), .val (.int i3), .val (.int i4), .val (.int f), .val (.ref b), .unset, .unset, .unset, .unset] [(.ref b)])
      refine B (fun t kt => XS.iconst S.here S.hx rfl (hb hby at_37) kt) ?_
      show F T (mkF m 38 #[.val (.int i0), .val (.int i1), .val (.int i2), .val (.int i3), .val (.int i4), .val (.int f), .val (.ref b), .unset, .unset, .unset, .unset] [(.int (3 : Int32)), (.ref b)])
      refine B (fun t kt => XS.bipush S.here S.hx rfl (hb hby at_38) kt) ?_
      show F T (mkF m 40 #[.val (.int i0), .val (.int i1), .val (.int i2), .val (.int i3), .val (.int i4), .val (.int f), .val (.ref b), .unset, .unset, .unset, .unset] [(.int (101 : Int32)), (.int (3 : Int32)), (.ref b)])
      refine Sp.stC B S V (i := 3) (by decide) (by decide) (by simp) (x' := (101 : Int32)) (by decide) (by simp) (hb hby at_40) fun T h5 S W V => ?_
      replace V : Arv Z h5 b kb .char 8 [.int (116 : Int32), .int (111 : Int32), .int (107 : Int32), .int (101 : Int32), .int 0, .int 0, .int 0, .int 0] (.int 0) := V
      show F T (mkF m 41 #[.val (.int i0), .val (.int i1), .val (.int i2), .val (.int i3), .val (.int i4), .val (.int f), .val (.ref b), .unset, .unset, .unset, .unset] [])
      refine B (fun t kt => XS.aload S.here S.hx rfl (hb hby at_41) rfl rfl kt) ?_
      show F T (mkF m 43 #[.val (.int i0), .val (.int i1), .val (.int i2), .val (.int i3), .val (.int i4), .val (.int f), .val (.ref b), .unset, .unset, .unset, .unset] [(.ref b)])
      refine B (fun t kt => XS.iconst S.here S.hx rfl (hb hby at_43) kt) ?_
      show F T (mkF m 44 #[.val (.int i0), .val (.int i1), .val (.int i2), .val (.int i3), .val (.int i4), .val (.int f), .val (.ref b), .unset, .unset, .unset, .unset] [(.int (4 : Int32)), (.ref b)])
      refine B (fun t kt => XS.bipush S.here S.hx rfl (hb hby at_44) kt) ?_
      show F T (mkF m 46 #[.val (.int i0), .val (.int i1), .val (.int i2), .val (.int i3), .val (.int i4), .val (.int f), .val (.ref b), .unset, .unset, .unset, .unset] [(.int (110 : Int32)), (.int (4 : Int32)), (.ref b)])
      refine Sp.stC B S V (i := 4) (by decide) (by decide) (by simp) (x' := (110 : Int32)) (by decide) (by simp) (hb hby at_46) fun T h6 S W V => ?_
      replace V : Arv Z h6 b kb .char 8 [.int (116 : Int32), .int (111 : Int32), .int (107 : Int32), .int (101 : Int32), .int (110 : Int32), .int 0, .int 0, .int 0] (.int 0) := V
      show F T (mkF m 47 #[.val (.int i0), .val (.int i1), .val (.int i2), .val (.int i3), .val (.int i4), .val (.int f), .val (.ref b), .unset, .unset, .unset, .unset] [])
      refine B (fun t kt => XS.aload S.here S.hx rfl (hb hby at_47) rfl rfl kt) ?_
      show F T (mkF m 49 #[.val (.int i0), .val (.int i1), .val (.int i2), .val (.int i3), .val (.int i4), .val (.int f), .val (.ref b), .unset, .unset, .unset, .unset] [(.ref b)])
      refine B (fun t kt => XS.iconst S.here S.hx rfl (hb hby at_49) kt) ?_
      show F T (mkF m 50 #[.val (.int i0), .val (.int i1), .val (.int i2), .val (.int i3), .val (.int i4), .val (.int f), .val (.ref b), .unset, .unset, .unset, .unset] [(.int (5 : Int32)), (.ref b)])
      refine B (fun t kt => XS.iload S.here S.hx rfl (hb hby at_50) rfl kt) ?_
      show F T (mkF m 52 #[.val (.int i0), .val (.int i1), .val (.int i2), .val (.int i3), .val (.int i4), .val (.int f), .val (.ref b), .unset, .unset, .unset, .unset] [(.int f), (.int (5 : Int32)), (.ref b)])
      refine Sp.stC B S V (i := 5) (by decide) (by decide) (by simp) (x' := f) (own_narc hfb) (by simp) (hb hby at_52) fun T h7 S W V => ?_
      replace V : Arv Z h7 b kb .char 8 [.int (116 : Int32), .int (111 : Int32), .int (107 : Int32), .int (101 : Int32), .int (110 : Int32), .int f, .int 0, .int 0] (.int 0) := V
      show F T (mkF m 53 #[.val (.int i0), .val (.int i1), .val (.int i2), .val (.int i3), .val (.int i4), .val (.int f), .val (.ref b), .unset, .unset, .unset, .unset] [])
      refine B (fun t kt => XS.aload S.here S.hx rfl (hb hby at_53) rfl rfl kt) ?_
      show F T (mkF m 55 #[.val (.int i0), .val (.int i1), .val (.int i2), .val (.int i3), .val (.int i4), .val (.int f), .val (.ref b), .unset, .unset, .unset, .unset] [(.ref b)])
      refine B (fun t kt => XS.bipush S.here S.hx rfl (hb hby at_55) kt) ?_
      show F T (mkF m 57 #[.val (.int i0), .val (.int i1), .val (.int i2), .val (.int i3), .val (.int i4), .val (.int f), .val (.ref b), .unset, .unset, .unset, .unset] [(.int (6 : Int32)), (.ref b)])
      refine B (fun t kt => XS.iload S.here S.hx rfl (hb hby at_57) rfl kt) ?_
      show F T (mkF m 59 #[.val (.int i0), .val (.int i1), .val (.int i2), .val (.int i3), .val (.int i4), .val (.int f), .val (.ref b), .unset, .unset, .unset, .unset] [(.int f), (.int (6 : Int32)), (.ref b)])
      refine Sp.stC B S V (i := 6) (by decide) (by decide) (by simp) (x' := f) (own_narc hfb) (by simp) (hb hby at_59) fun T h8 S W V => ?_
      replace V : Arv Z h8 b kb .char 8 [.int (116 : Int32), .int (111 : Int32), .int (107 : Int32), .int (101 : Int32), .int (110 : Int32), .int f, .int f, .int 0] (.int 0) := V
      show F T (mkF m 60 #[.val (.int i0), .val (.int i1), .val (.int i2), .val (.int i3), .val (.int i4), .val (.int f), .val (.ref b), .unset, .unset, .unset, .unset] [])
      refine B (fun t kt => XS.aload S.here S.hx rfl (hb hby at_60) rfl rfl kt) ?_
      show F T (mkF m 62 #[.val (.int i0), .val (.int i1), .val (.int i2), .val (.int i3), .val (.int i4), .val (.int f), .val (.ref b), .unset, .unset, .unset, .unset] [(.ref b)])
      refine B (fun t kt => XS.bipush S.here S.hx rfl (hb hby at_62) kt) ?_
      show F T (mkF m 64 #[.val (.int i0), .val (.int i1), .val (.int i2), .val (.int i3), .val (.int i4), .val (.int f), .val (.ref b), .unset, .unset, .unset, .unset] [(.int (7 : Int32)), (.ref b)])
      refine B (fun t kt => XS.iload S.here S.hx rfl (hb hby at_64) rfl kt) ?_
      show F T (mkF m 66 #[.val (.int i0), .val (.int i1), .val (.int i2), .val (.int i3), .val (.int i4), .val (.int f), .val (.ref b), .unset, .unset, .unset, .unset] [(.int f), (.int (7 : Int32)), (.ref b)])
      refine Sp.stC B S V (i := 7) (by decide) (by decide) (by simp) (x' := f) (own_narc hfb) (by simp) (hb hby at_66) fun T h9 S W V => ?_
      replace V : Arv Z h9 b kb .char 8 [.int (116 : Int32), .int (111 : Int32), .int (107 : Int32), .int (101 : Int32), .int (110 : Int32), .int f, .int f, .int f] (.int 0) := V
      show F T (mkF m 67 #[.val (.int i0), .val (.int i1), .val (.int i2), .val (.int i3), .val (.int i4), .val (.int f), .val (.ref b), .unset, .unset, .unset, .unset] [])
      refine B (fun t kt => XS.goto S.here S.hx rfl (pc0 := 67) (pc' := 120) rfl (hb hby at_67) (by decide) (by decide) kt) ?_
      show F T (mkF m 120 #[.val (.int i0), .val (.int i1), .val (.int i2), .val (.int i3), .val (.int i4), .val (.int f), .val (.ref b), .unset, .unset, .unset, .unset] [])
      exact J _ _ (116 : Int32) (111 : Int32) (107 : Int32) (101 : Int32) (110 : Int32) f f f S (all_cons (by decide) (all_cons (by decide) (all_cons (by decide) (all_cons (by decide) (all_cons (by decide) (all_cons hfb (all_cons hfb (all_cons hfb (all_nil))))))))) V
    ·
      refine B (fun t kt => XS.ifYes S.here S.hx rfl (pc0 := 14) (pc' := 70) rfl (hb hby at_14) rfl (i0_ne_t hc) (by decide) (by decide) kt) ?_
      show F T (mkF m 70 #[.val (.int i0), .val (.int i1), .val (.int i2), .val (.int i3), .val (.int i4), .val (.int f), .val (.ref b), .unset, .unset, .unset, .unset] [])
      refine B (fun t kt => XS.aload S.here S.hx rfl (hb hby at_70) rfl rfl kt) ?_
      show F T (mkF m 72 #[.val (.int i0), .val (.int i1), .val (.int i2), .val (.int i3), .val (.int i4), .val (.int f), .val (.ref b), .unset, .unset, .unset, .unset] [(.ref b)])
      refine B (fun t kt => XS.iconst S.here S.hx rfl (hb hby at_72) kt) ?_
      show F T (mkF m 73 #[.val (.int i0), .val (.int i1), .val (.int i2), .val (.int i3), .val (.int i4), .val (.int f), .val (.ref b), .unset, .unset, .unset, .unset] [(.int (0 : Int32)), (.ref b)])
      refine B (fun t kt => XS.bipush S.here S.hx rfl (hb hby at_73) kt) ?_
      show F T (mkF m 75 #[.val (.int i0), .val (.int i1), .val (.int i2), .val (.int i3), .val (.int i4), .val (.int f), .val (.ref b), .unset, .unset, .unset, .unset] [(.int (99 : Int32)), (.int (0 : Int32)), (.ref b)])
      refine Sp.stC B S V (i := 0) (by decide) (by decide) (by simp) (x' := (99 : Int32)) (by decide) (by simp) (hb hby at_75) fun T h2 S W V => ?_
      replace V : Arv Z h2 b kb .char 8 [.int (99 : Int32), .int 0, .int 0, .int 0, .int 0, .int 0, .int 0, .int 0] (.int 0) := V
      show F T (mkF m 76 #[.val (.int i0), .val (.int i1), .val (.int i2), .val (.int i3), .val (.int i4), .val (.int f), .val (.ref b), .unset, .unset, .unset, .unset] [])
      refine B (fun t kt => XS.aload S.here S.hx rfl (hb hby at_76) rfl rfl kt) ?_
      show F T (mkF m 78 #[.val (.int i0), .val (.int i1), .val (.int i2), .val (.int i3), .val (.int i4), .val (.int f), .val (.ref b), .unset, .unset, .unset, .unset] [(.ref b)])
      refine B (fun t kt => XS.iconst S.here S.hx rfl (hb hby at_78) kt) ?_
      show F T (mkF m 79 #[.val (.int i0), .val (.int i1), .val (.int i2), .val (.int i3), .val (.int i4), .val (.int f), .val (.ref b), .unset, .unset, .unset, .unset] [(.int (1 : Int32)), (.ref b)])
      refine B (fun t kt => XS.bipush S.here S.hx rfl (hb hby at_79) kt) ?_
      show F T (mkF m 81 #[.val (.int i0), .val (.int i1), .val (.int i2), .val (.int i3), .val (.int i4), .val (.int f), .val (.ref b), .unset, .unset, .unset, .unset] [(.int (111 : Int32)), (.int (1 : Int32)), (.ref b)])
      refine Sp.stC B S V (i := 1) (by decide) (by decide) (by simp) (x' := (111 : Int32)) (by decide) (by simp) (hb hby at_81) fun T h3 S W V => ?_
      replace V : Arv Z h3 b kb .char 8 [.int (99 : Int32), .int (111 : Int32), .int 0, .int 0, .int 0, .int 0, .int 0, .int 0] (.int 0) := V
      show F T (mkF m 82 #[.val (.int i0), .val (.int i1), .val (.int i2), .val (.int i3), .val (.int i4), .val (.int f), .val (.ref b), .unset, .unset, .unset, .unset] [])
      refine B (fun t kt => XS.aload S.here S.hx rfl (hb hby at_82) rfl rfl kt) ?_
      show F T (mkF m 84 #[.val (.int i0), .val (.int i1), .val (.int i2), .val (.int i3), .val (.int i4), .val (.int f), .val (.ref b), .unset, .unset, .unset, .unset] [(.ref b)])
      refine B (fun t kt => XS.iconst S.here S.hx rfl (hb hby at_84) kt) ?_
      show F T (mkF m 85 #[.val (.int i0), .val (.int i1), .val (.int i2), .val (.int i3), .val (.int i4), .val (.int f), .val (.ref b), .unset, .unset, .unset, .unset] [(.int (2 : Int32)), (.ref b)])
      refine B (fun t kt => XS.bipush S.here S.hx rfl (hb hby at_85) kt) ?_
      show F T (mkF m 87 #[.val (.int i0), .val (.int i1), .val (.int i2), .val (.int i3), .val (.int i4), .val (.int f), .val (.ref b), .unset, .unset, .unset, .unset] [(.int (117 : Int32)), (.int (2 : Int32)), (.ref b)])
      refine Sp.stC B S V (i := 2) (by decide) (by decide) (by simp) (x' := (117 : Int32)) (by decide) (by simp) (hb hby at_87) fun T h4 S W V => ?_
      replace V : Arv Z h4 b kb .char 8 [.int (99 : Int32), .int (111 : Int32), .int (117 : Int32), .int 0, .int 0, .int 0, .int 0, .int 0] (.int 0) := V
      show F T (mkF m 88 #[.val (.int i0), .val (.int i1), .val (.int i2), .val (.int i3), .val (.int i4), .val (.int f), .val (.ref b), .unset, .unset, .unset, .unset] [])
      refine B (fun t kt => XS.aload S.here S.hx rfl (hb hby at_88) rfl rfl kt) ?_
      show F T (mkF m 90 #[.val (.int i0), .val (.int i1), .val (.int i2), .val (.int i3), .val (.int i4), .val (.int f), .val (.ref b), .unset, .unset, .unset, .unset] [(.ref b)])
      refine B (fun t kt => XS.iconst S.here S.hx rfl (hb hby at_90) kt) ?_
      show F T (mkF m 91 #[.val (.int i0), .val (.int i1), .val (.int i2), .val (.int i3), .val (.int i4), .val (.int f), .val (.ref b), .unset, .unset, .unset, .unset] [(.int (3 : Int32)), (.ref b)])
      refine B (fun t kt => XS.bipush S.here S.hx rfl (hb hby at_91) kt) ?_
      show F T (mkF m 93 #[.val (.int i0), .val (.int i1), .val (.int i2), .val (.int i3), .val (.int i4), .val (.int f), .val (.ref b), .unset, .unset, .unset, .unset] [(.int (110 : Int32)), (.int (3 : Int32)), (.ref b)])
      refine Sp.stC B S V (i := 3) (by decide) (by decide) (by simp) (x' := (110 : Int32)) (by decide) (by simp) (hb hby at_93) fun T h5 S W V => ?_
      replace V : Arv Z h5 b kb .char 8 [.int (99 : Int32), .int (111 : Int32), .int (117 : Int32), .int (110 : Int32), .int 0, .int 0, .int 0, .int 0] (.int 0) := V
      show F T (mkF m 94 #[.val (.int i0), .val (.int i1), .val (.int i2), .val (.int i3), .val (.int i4), .val (.int f), .val (.ref b), .unset, .unset, .unset, .unset] [])
      refine B (fun t kt => XS.aload S.here S.hx rfl (hb hby at_94) rfl rfl kt) ?_
      show F T (mkF m 96 #[.val (.int i0), .val (.int i1), .val (.int i2), .val (.int i3), .val (.int i4), .val (.int f), .val (.ref b), .unset, .unset, .unset, .unset] [(.ref b)])
      refine B (fun t kt => XS.iconst S.here S.hx rfl (hb hby at_96) kt) ?_
      show F T (mkF m 97 #[.val (.int i0), .val (.int i1), .val (.int i2), .val (.int i3), .val (.int i4), .val (.int f), .val (.ref b), .unset, .unset, .unset, .unset] [(.int (4 : Int32)), (.ref b)])
      refine B (fun t kt => XS.bipush S.here S.hx rfl (hb hby at_97) kt) ?_
      show F T (mkF m 99 #[.val (.int i0), .val (.int i1), .val (.int i2), .val (.int i3), .val (.int i4), .val (.int f), .val (.ref b), .unset, .unset, .unset, .unset] [(.int (116 : Int32)), (.int (4 : Int32)), (.ref b)])
      refine Sp.stC B S V (i := 4) (by decide) (by decide) (by simp) (x' := (116 : Int32)) (by decide) (by simp) (hb hby at_99) fun T h6 S W V => ?_
      replace V : Arv Z h6 b kb .char 8 [.int (99 : Int32), .int (111 : Int32), .int (117 : Int32), .int (110 : Int32), .int (116 : Int32), .int 0, .int 0, .int 0] (.int 0) := V
      show F T (mkF m 100 #[.val (.int i0), .val (.int i1), .val (.int i2), .val (.int i3), .val (.int i4), .val (.int f), .val (.ref b), .unset, .unset, .unset, .unset] [])
      refine B (fun t kt => XS.aload S.here S.hx rfl (hb hby at_100) rfl rfl kt) ?_
      show F T (mkF m 102 #[.val (.int i0), .val (.int i1), .val (.int i2), .val (.int i3), .val (.int i4), .val (.int f), .val (.ref b), .unset, .unset, .unset, .unset] [(.ref b)])
      refine B (fun t kt => XS.iconst S.here S.hx rfl (hb hby at_102) kt) ?_
      show F T (mkF m 103 #[.val (.int i0), .val (.int i1), .val (.int i2), .val (.int i3), .val (.int i4), .val (.int f), .val (.ref b), .unset, .unset, .unset, .unset] [(.int (5 : Int32)), (.ref b)])
      refine B (fun t kt => XS.bipush S.here S.hx rfl (hb hby at_103) kt) ?_
      show F T (mkF m 105 #[.val (.int i0), .val (.int i1), .val (.int i2), .val (.int i3), .val (.int i4), .val (.int f), .val (.ref b), .unset, .unset, .unset, .unset] [(.int (101 : Int32)), (.int (5 : Int32)), (.ref b)])
      refine Sp.stC B S V (i := 5) (by decide) (by decide) (by simp) (x' := (101 : Int32)) (by decide) (by simp) (hb hby at_105) fun T h7 S W V => ?_
      replace V : Arv Z h7 b kb .char 8 [.int (99 : Int32), .int (111 : Int32), .int (117 : Int32), .int (110 : Int32), .int (116 : Int32), .int (101 : Int32), .int 0, .int 0] (.int 0) := V
      show F T (mkF m 106 #[.val (.int i0), .val (.int i1), .val (.int i2), .val (.int i3), .val (.int i4), .val (.int f), .val (.ref b), .unset, .unset, .unset, .unset] [])
      refine B (fun t kt => XS.aload S.here S.hx rfl (hb hby at_106) rfl rfl kt) ?_
      show F T (mkF m 108 #[.val (.int i0), .val (.int i1), .val (.int i2), .val (.int i3), .val (.int i4), .val (.int f), .val (.ref b), .unset, .unset, .unset, .unset] [(.ref b)])
      refine B (fun t kt => XS.bipush S.here S.hx rfl (hb hby at_108) kt) ?_
      show F T (mkF m 110 #[.val (.int i0), .val (.int i1), .val (.int i2), .val (.int i3), .val (.int i4), .val (.int f), .val (.ref b), .unset, .unset, .unset, .unset] [(.int (6 : Int32)), (.ref b)])
      refine B (fun t kt => XS.bipush S.here S.hx rfl (hb hby at_110) kt) ?_
      show F T (mkF m 112 #[.val (.int i0), .val (.int i1), .val (.int i2), .val (.int i3), .val (.int i4), .val (.int f), .val (.ref b), .unset, .unset, .unset, .unset] [(.int (114 : Int32)), (.int (6 : Int32)), (.ref b)])
      refine Sp.stC B S V (i := 6) (by decide) (by decide) (by simp) (x' := (114 : Int32)) (by decide) (by simp) (hb hby at_112) fun T h8 S W V => ?_
      replace V : Arv Z h8 b kb .char 8 [.int (99 : Int32), .int (111 : Int32), .int (117 : Int32), .int (110 : Int32), .int (116 : Int32), .int (101 : Int32), .int (114 : Int32), .int 0] (.int 0) := V
      show F T (mkF m 113 #[.val (.int i0), .val (.int i1), .val (.int i2), .val (.int i3), .val (.int i4), .val (.int f), .val (.ref b), .unset, .unset, .unset, .unset] [])
      refine B (fun t kt => XS.aload S.here S.hx rfl (hb hby at_113) rfl rfl kt) ?_
      show F T (mkF m 115 #[.val (.int i0), .val (.int i1), .val (.int i2), .val (.int i3), .val (.int i4), .val (.int f), .val (.ref b), .unset, .unset, .unset, .unset] [(.ref b)])
      refine B (fun t kt => XS.bipush S.here S.hx rfl (hb hby at_115) kt) ?_
      show F T (mkF m 117 #[.val (.int i0), .val (.int i1), .val (.int i2), .val (.int i3), .val (.int i4), .val (.int f), .val (.ref b), .unset, .unset, .unset, .unset] [(.int (7 : Int32)), (.ref b)])
      refine B (fun t kt => XS.iload S.here S.hx rfl (hb hby at_117) rfl kt) ?_
      show F T (mkF m 119 #[.val (.int i0), .val (.int i1), .val (.int i2), .val (.int i3), .val (.int i4), .val (.int f), .val (.ref b), .unset, .unset, .unset, .unset] [(.int f), (.int (7 : Int32)), (.ref b)])
      refine Sp.stC B S V (i := 7) (by decide) (by decide) (by simp) (x' := f) (own_narc hfb) (by simp) (hb hby at_119) fun T h9 S W V => ?_
      replace V : Arv Z h9 b kb .char 8 [.int (99 : Int32), .int (111 : Int32), .int (117 : Int32), .int (110 : Int32), .int (116 : Int32), .int (101 : Int32), .int (114 : Int32), .int f] (.int 0) := V
      show F T (mkF m 120 #[.val (.int i0), .val (.int i1), .val (.int i2), .val (.int i3), .val (.int i4), .val (.int f), .val (.ref b), .unset, .unset, .unset, .unset] [])
      exact J _ _ (99 : Int32) (111 : Int32) (117 : Int32) (110 : Int32) (116 : Int32) (101 : Int32) (114 : Int32) f S (all_cons (by decide) (all_cons (by decide) (all_cons (by decide) (all_cons (by decide) (all_cons (by decide) (all_cons (by decide) (all_cons (by decide) (all_cons hfb (all_nil))))))))) V
  intro T h c0 c1 c2 c3 c4 c5 c6 c7 S hcs V
  show F T (mkF m 120 #[.val (.int i0), .val (.int i1), .val (.int i2), .val (.int i3), .val (.int i4), .val (.int f), .val (.ref b), .unset, .unset, .unset, .unset] [])
  refine B (fun t kt => XS.iloadN S.here S.hx rfl (hb hby at_120) rfl kt) ?_
  show F T (mkF m 121 #[.val (.int i0), .val (.int i1), .val (.int i2), .val (.int i3), .val (.int i4), .val (.int f), .val (.ref b), .unset, .unset, .unset, .unset] [(.int i0)])
  refine B (fun t kt => XS.iconst S.here S.hx rfl (hb hby at_121) kt) ?_
  show F T (mkF m 122 #[.val (.int i0), .val (.int i1), .val (.int i2), .val (.int i3), .val (.int i4), .val (.int f), .val (.ref b), .unset, .unset, .unset, .unset] [(.int (2 : Int32)), (.int i0)])
  refine B (fun t kt => XS.iand S.here S.hx rfl (hb hby at_122) rfl kt) ?_
  show F T (mkF m 123 #[.val (.int i0), .val (.int i1), .val (.int i2), .val (.int i3), .val (.int i4), .val (.int f), .val (.ref b), .unset, .unset, .unset, .unset] [(.int (i0 &&& (2 : Int32)))])
  suffices J : ∀ (T : State) (h : Heap) (c0 c1 c2 c3 c4 c5 c6 c7 : Int32), Sp p l e room_1 s m #[.int i0, .int i1, .int i2, .int i3, .int i4] below meth c Z a0 consts_1 "com/example/keywright/keywright/store/TokensReadsPinLaw" T h [b] [] 1 8 → (∀ q ∈ [c0, c1, c2, c3, c4, c5, c6, c7], ¬ q < 0 ∧ ¬ (65535 : Int32) < q) → Arv Z h b kb .char 8 [.int c0, .int c1, .int c2, .int c3, .int c4, .int c5, .int c6, .int c7] (.int 0) → F T (mkF m 138 #[.val (.int i0), .val (.int i1), .val (.int i2), .val (.int i3), .val (.int i4), .val (.int f), .val (.ref b), .unset, .unset, .unset, .unset] []) by
    by_cases hc : (i0 &&& (2 : Int32)) = 0
    ·
      refine B (fun t kt => XS.ifYes S.here S.hx rfl (pc0 := 123) (pc' := 138) rfl (hb hby at_123) rfl (i0_eq_t hc) (by decide) (by decide) kt) ?_
      show F T (mkF m 138 #[.val (.int i0), .val (.int i1), .val (.int i2), .val (.int i3), .val (.int i4), .val (.int f), .val (.ref b), .unset, .unset, .unset, .unset] [])
      exact J _ _ _ _ _ _ _ _ _ _ S hcs V
    ·
      refine B (fun t kt => XS.ifNo S.here S.hx rfl (hb hby at_123) rfl (i0_eq_f hc) kt) ?_
      show F T (mkF m 126 #[.val (.int i0), .val (.int i1), .val (.int i2), .val (.int i3), .val (.int i4), .val (.int f), .val (.ref b), .unset, .unset, .unset, .unset] [])
      refine B (fun t kt => XS.aload S.here S.hx rfl (hb hby at_126) rfl rfl kt) ?_
      show F T (mkF m 128 #[.val (.int i0), .val (.int i1), .val (.int i2), .val (.int i3), .val (.int i4), .val (.int f), .val (.ref b), .unset, .unset, .unset, .unset] [(.ref b)])
      refine B (fun t kt => XS.iloadN S.here S.hx rfl (hb hby at_128) rfl kt) ?_
      show F T (mkF m 129 #[.val (.int i0), .val (.int i1), .val (.int i2), .val (.int i3), .val (.int i4), .val (.int f), .val (.ref b), .unset, .unset, .unset, .unset] [(.int i2), (.ref b)])
      refine Sp.ldcI B S (hw _ (List.mem_of_getElem? (i := 1) rfl)) (hb hby at_129) ?_
      show F T (mkF m 131 #[.val (.int i0), .val (.int i1), .val (.int i2), .val (.int i3), .val (.int i4), .val (.int f), .val (.ref b), .unset, .unset, .unset, .unset] [(.int (2147483647 : Int32)), (.int i2), (.ref b)])
      refine B (fun t kt => XS.iand S.here S.hx rfl (hb hby at_131) rfl kt) ?_
      show F T (mkF m 132 #[.val (.int i0), .val (.int i1), .val (.int i2), .val (.int i3), .val (.int i4), .val (.int f), .val (.ref b), .unset, .unset, .unset, .unset] [(.int (i2 &&& (2147483647 : Int32))), (.ref b)])
      refine B (fun t kt => XS.bipush S.here S.hx rfl (hb hby at_132) kt) ?_
      show F T (mkF m 134 #[.val (.int i0), .val (.int i1), .val (.int i2), .val (.int i3), .val (.int i4), .val (.int f), .val (.ref b), .unset, .unset, .unset, .unset] [(.int (8 : Int32)), (.int (i2 &&& (2147483647 : Int32))), (.ref b)])
      refine Sp.irem B S (by decide) (hb hby at_134) ?_
      show F T (mkF m 135 #[.val (.int i0), .val (.int i1), .val (.int i2), .val (.int i3), .val (.int i4), .val (.int f), .val (.ref b), .unset, .unset, .unset, .unset] [(.int ((i2 &&& (2147483647 : Int32)) % (8 : Int32))), (.ref b)])
      obtain ⟨j, hj, ej⟩ := own_rem i2 8 (by decide) (by decide)
      rw [show (8 : Int32) = Int32.ofNat 8 from rfl, ej]
      show F T (mkF m 135 #[.val (.int i0), .val (.int i1), .val (.int i2), .val (.int i3), .val (.int i4), .val (.int f), .val (.ref b), .unset, .unset, .unset, .unset] [(.int (Int32.ofNat j)), (.ref b)])
      refine B (fun t kt => XS.iloadN S.here S.hx rfl (hb hby at_135) rfl kt) ?_
      show F T (mkF m 136 #[.val (.int i0), .val (.int i1), .val (.int i2), .val (.int i3), .val (.int i4), .val (.int f), .val (.ref b), .unset, .unset, .unset, .unset] [(.int i3), (.int (Int32.ofNat j)), (.ref b)])
      refine B (fun t kt => XT.i2c S.here S.hx rfl (hb hby at_136) rfl kt) ?_
      show F T (mkF m 137 #[.val (.int i0), .val (.int i1), .val (.int i2), .val (.int i3), .val (.int i4), .val (.int f), .val (.ref b), .unset, .unset, .unset, .unset] [(.int i3.toUInt32.toUInt16.toUInt32.toInt32), (.int (Int32.ofNat j)), (.ref b)])
      refine Sp.stC B S V (i := j) (own_in (n := 8) hj (by decide)) (own_cl _ (by omega)) (by simpa using hj) (own_narc (own_c16 i3)) (by simp) (hb hby at_137) fun T h10 S W V => ?_
      show F T (mkF m 138 #[.val (.int i0), .val (.int i1), .val (.int i2), .val (.int i3), .val (.int i4), .val (.int f), .val (.ref b), .unset, .unset, .unset, .unset] [])
      obtain ⟨d0, d1, d2, d3, d4, d5, d6, d7, ed, hds⟩ := own_set8 c0 c1 c2 c3 c4 c5 c6 c7 _ hcs (own_c16 i3) j hj
      rw [ed] at V
      exact J _ _ d0 d1 d2 d3 d4 d5 d6 d7 S hds V
  intro T h c0 c1 c2 c3 c4 c5 c6 c7 S hcs V
  show F T (mkF m 138 #[.val (.int i0), .val (.int i1), .val (.int i2), .val (.int i3), .val (.int i4), .val (.int f), .val (.ref b), .unset, .unset, .unset, .unset] [])
  refine B (fun t kt => XS.iloadN S.here S.hx rfl (hb hby at_138) rfl kt) ?_
  show F T (mkF m 139 #[.val (.int i0), .val (.int i1), .val (.int i2), .val (.int i3), .val (.int i4), .val (.int f), .val (.ref b), .unset, .unset, .unset, .unset] [(.int i1)])
  refine Sp.ldcI B S (hw _ (List.mem_of_getElem? (i := 1) rfl)) (hb hby at_139) ?_
  show F T (mkF m 141 #[.val (.int i0), .val (.int i1), .val (.int i2), .val (.int i3), .val (.int i4), .val (.int f), .val (.ref b), .unset, .unset, .unset, .unset] [(.int (2147483647 : Int32)), (.int i1)])
  refine B (fun t kt => XS.iand S.here S.hx rfl (hb hby at_141) rfl kt) ?_
  show F T (mkF m 142 #[.val (.int i0), .val (.int i1), .val (.int i2), .val (.int i3), .val (.int i4), .val (.int f), .val (.ref b), .unset, .unset, .unset, .unset] [(.int (i1 &&& (2147483647 : Int32)))])
  refine B (fun t kt => XS.bipush S.here S.hx rfl (hb hby at_142) kt) ?_
  show F T (mkF m 144 #[.val (.int i0), .val (.int i1), .val (.int i2), .val (.int i3), .val (.int i4), .val (.int f), .val (.ref b), .unset, .unset, .unset, .unset] [(.int (9 : Int32)), (.int (i1 &&& (2147483647 : Int32)))])
  refine Sp.irem B S (by decide) (hb hby at_144) ?_
  show F T (mkF m 145 #[.val (.int i0), .val (.int i1), .val (.int i2), .val (.int i3), .val (.int i4), .val (.int f), .val (.ref b), .unset, .unset, .unset, .unset] [(.int ((i1 &&& (2147483647 : Int32)) % (9 : Int32)))])
  obtain ⟨n, hn, en⟩ := own_rem i1 9 (by decide) (by decide)
  rw [show (9 : Int32) = Int32.ofNat 9 from rfl, en]
  show F T (mkF m 145 #[.val (.int i0), .val (.int i1), .val (.int i2), .val (.int i3), .val (.int i4), .val (.int f), .val (.ref b), .unset, .unset, .unset, .unset] [(.int (Int32.ofNat n))])
  refine B (fun t kt => XS.istore S.here S.hx rfl (hb hby at_145) rfl (l' := #[.val (.int i0), .val (.int i1), .val (.int i2), .val (.int i3), .val (.int i4), .val (.int f), .val (.ref b), .val (.int (Int32.ofNat n)), .unset, .unset, .unset]) rfl kt) ?_
  show F T (mkF m 147 #[.val (.int i0), .val (.int i1), .val (.int i2), .val (.int i3), .val (.int i4), .val (.int f), .val (.ref b), .val (.int (Int32.ofNat n)), .unset, .unset, .unset] [])
  refine B (fun t kt => XS.aload S.here S.hx rfl (hb hby at_147) rfl rfl kt) ?_
  show F T (mkF m 149 #[.val (.int i0), .val (.int i1), .val (.int i2), .val (.int i3), .val (.int i4), .val (.int f), .val (.ref b), .val (.int (Int32.ofNat n)), .unset, .unset, .unset] [(.ref b)])
  refine B (fun t kt => XS.iload S.here S.hx rfl (hb hby at_149) rfl kt) ?_
  show F T (mkF m 151 #[.val (.int i0), .val (.int i1), .val (.int i2), .val (.int i3), .val (.int i4), .val (.int f), .val (.ref b), .val (.int (Int32.ofNat n)), .unset, .unset, .unset] [(.int (Int32.ofNat n)), (.ref b)])
  refine Sp.static B S (y := (⟨"com/example/keywright/keywright/store/TokensReadsPinLaw", "make", "([CI)Ljava/lang/String;"⟩ : MethodName)) (argsL := [(.ref b), (.int (Int32.ofNat n))]) (rest := []) (hw _ (List.mem_of_getElem? (i := 2) rfl)) (hw _ (List.mem_of_getElem? (i := 3) rfl)) (hw _ (List.mem_of_getElem? (i := 4) rfl)) (hw _ (List.mem_of_getElem? (i := 5) rfl)) (by decide) (Call.con (W := 0) (own_make l Z a0 consts_1 hw hEW h hS hmem zc CS hzc AD HI LO b kb (.int 0) c0 c1 c2 c3 c4 c5 c6 c7 hcs V n (by omega)) (hw _ (List.mem_of_getElem? (i := 5) rfl)) (hw _ (List.mem_of_getElem? (i := 4) rfl)) (by decide) (by decide)) (by simp) (by decide) (by decide) (by rw [hml]; rfl) (lenOf lw_p8 rfl) rfl (Nat.le_of_eq rfl) (hb hby at_151) fun v T h11 nw S hQ => ?_
  obtain ⟨x, t, rfl, rfl, K, G⟩ := hQ
  replace V := V.keep K (by simp)
  show F T (mkF m 154 #[.val (.int i0), .val (.int i1), .val (.int i2), .val (.int i3), .val (.int i4), .val (.int f), .val (.ref b), .val (.int (Int32.ofNat n)), .unset, .unset, .unset] [(.ref x)])
  refine B (fun t kt => XS.astore S.here S.hx rfl (hb hby at_154) rfl rfl (l' := #[.val (.int i0), .val (.int i1), .val (.int i2), .val (.int i3), .val (.int i4), .val (.int f), .val (.ref b), .val (.int (Int32.ofNat n)), .val (.ref x), .unset, .unset]) rfl kt) ?_
  show F T (mkF m 156 #[.val (.int i0), .val (.int i1), .val (.int i2), .val (.int i3), .val (.int i4), .val (.int f), .val (.ref b), .val (.int (Int32.ofNat n)), .val (.ref x), .unset, .unset] [])
  refine B (fun t kt => XS.iload S.here S.hx rfl (hb hby at_156) rfl kt) ?_
  show F T (mkF m 158 #[.val (.int i0), .val (.int i1), .val (.int i2), .val (.int i3), .val (.int i4), .val (.int f), .val (.ref b), .val (.int (Int32.ofNat n)), .val (.ref x), .unset, .unset] [(.int (Int32.ofNat n))])
  refine B (fun t kt => XS.iconst S.here S.hx rfl (hb hby at_158) kt) ?_
  show F T (mkF m 159 #[.val (.int i0), .val (.int i1), .val (.int i2), .val (.int i3), .val (.int i4), .val (.int f), .val (.ref b), .val (.int (Int32.ofNat n)), .val (.ref x), .unset, .unset] [(.int (5 : Int32)), (.int (Int32.ofNat n))])
  suffices J : ∀ b9 : Int32, ((b9 = 1 ∧ (Int32.ofNat n = 5 ∧ c0 = 116 ∧ c1 = 111 ∧ c2 = 107 ∧ c3 = 101 ∧ c4 = 110)) ∨ (b9 = 0 ∧ ¬ (Int32.ofNat n = 5 ∧ c0 = 116 ∧ c1 = 111 ∧ c2 = 107 ∧ c3 = 101 ∧ c4 = 110))) → F T (mkF m 214 #[.val (.int i0), .val (.int i1), .val (.int i2), .val (.int i3), .val (.int i4), .val (.int f), .val (.ref b), .val (.int (Int32.ofNat n)), .val (.ref x), .val (.int b9), .unset] []) by
    by_cases g0 : Int32.ofNat n = 5
    case neg =>
      refine B (fun t kt => XS.icmpYes S.here S.hx rfl (pc0 := 159) (pc' := 211) rfl (hb hby at_159) rfl (ii_ne_t g0) (by decide) (by decide) kt) ?_
      show F T (mkF m 211 #[.val (.int i0), .val (.int i1), .val (.int i2), .val (.int i3), .val (.int i4), .val (.int f), .val (.ref b), .val (.int (Int32.ofNat n)), .val (.ref x), .unset, .unset] [])
      refine B (fun t kt => XS.iconst S.here S.hx rfl (hb hby at_211) kt) ?_
      show F T (mkF m 212 #[.val (.int i0), .val (.int i1), .val (.int i2), .val (.int i3), .val (.int i4), .val (.int f), .val (.ref b), .val (.int (Int32.ofNat n)), .val (.ref x), .unset, .unset] [(.int (0 : Int32))])
      refine B (fun t kt => XS.istore S.here S.hx rfl (hb hby at_212) rfl (l' := #[.val (.int i0), .val (.int i1), .val (.int i2), .val (.int i3), .val (.int i4), .val (.int f), .val (.ref b), .val (.int (Int32.ofNat n)), .val (.ref x), .val (.int (0 : Int32)), .unset]) rfl kt) ?_
      show F T (mkF m 214 #[.val (.int i0), .val (.int i1), .val (.int i2), .val (.int i3), .val (.int i4), .val (.int f), .val (.ref b), .val (.int (Int32.ofNat n)), .val (.ref x), .val (.int (0 : Int32)), .unset] [])
      exact J 0 (Or.inr ⟨rfl, fun q => g0 q.1⟩)
    refine B (fun t kt => XS.icmpNo S.here S.hx rfl (hb hby at_159) rfl (ii_ne_f g0) kt) ?_
    show F T (mkF m 162 #[.val (.int i0), .val (.int i1), .val (.int i2), .val (.int i3), .val (.int i4), .val (.int f), .val (.ref b), .val (.int (Int32.ofNat n)), .val (.ref x), .unset, .unset] [])
    refine B (fun t kt => XS.aload S.here S.hx rfl (hb hby at_162) rfl rfl kt) ?_
    show F T (mkF m 164 #[.val (.int i0), .val (.int i1), .val (.int i2), .val (.int i3), .val (.int i4), .val (.int f), .val (.ref b), .val (.int (Int32.ofNat n)), .val (.ref x), .unset, .unset] [(.ref b)])
    refine B (fun t kt => XS.iconst S.here S.hx rfl (hb hby at_164) kt) ?_
    show F T (mkF m 165 #[.val (.int i0), .val (.int i1), .val (.int i2), .val (.int i3), .val (.int i4), .val (.int f), .val (.ref b), .val (.int (Int32.ofNat n)), .val (.ref x), .unset, .unset] [(.int (0 : Int32)), (.ref b)])
    refine Sp.cald B S V (by decide) (by rfl) (hb hby at_165) ?_
    show F T (mkF m 166 #[.val (.int i0), .val (.int i1), .val (.int i2), .val (.int i3), .val (.int i4), .val (.int f), .val (.ref b), .val (.int (Int32.ofNat n)), .val (.ref x), .unset, .unset] [(.int c0)])
    refine B (fun t kt => XS.bipush S.here S.hx rfl (hb hby at_166) kt) ?_
    show F T (mkF m 168 #[.val (.int i0), .val (.int i1), .val (.int i2), .val (.int i3), .val (.int i4), .val (.int f), .val (.ref b), .val (.int (Int32.ofNat n)), .val (.ref x), .unset, .unset] [(.int (116 : Int32)), (.int c0)])
    by_cases g1 : c0 = 116
    case neg =>
      refine B (fun t kt => XS.icmpYes S.here S.hx rfl (pc0 := 168) (pc' := 211) rfl (hb hby at_168) rfl (ii_ne_t g1) (by decide) (by decide) kt) ?_
      show F T (mkF m 211 #[.val (.int i0), .val (.int i1), .val (.int i2), .val (.int i3), .val (.int i4), .val (.int f), .val (.ref b), .val (.int (Int32.ofNat n)), .val (.ref x), .unset, .unset] [])
      refine B (fun t kt => XS.iconst S.here S.hx rfl (hb hby at_211) kt) ?_
      show F T (mkF m 212 #[.val (.int i0), .val (.int i1), .val (.int i2), .val (.int i3), .val (.int i4), .val (.int f), .val (.ref b), .val (.int (Int32.ofNat n)), .val (.ref x), .unset, .unset] [(.int (0 : Int32))])
      refine B (fun t kt => XS.istore S.here S.hx rfl (hb hby at_212) rfl (l' := #[.val (.int i0), .val (.int i1), .val (.int i2), .val (.int i3), .val (.int i4), .val (.int f), .val (.ref b), .val (.int (Int32.ofNat n)), .val (.ref x), .val (.int (0 : Int32)), .unset]) rfl kt) ?_
      show F T (mkF m 214 #[.val (.int i0), .val (.int i1), .val (.int i2), .val (.int i3), .val (.int i4), .val (.int f), .val (.ref b), .val (.int (Int32.ofNat n)), .val (.ref x), .val (.int (0 : Int32)), .unset] [])
      exact J 0 (Or.inr ⟨rfl, fun q => g1 q.2.1⟩)
    refine B (fun t kt => XS.icmpNo S.here S.hx rfl (hb hby at_168) rfl (ii_ne_f g1) kt) ?_
    show F T (mkF m 171 #[.val (.int i0), .val (.int i1), .val (.int i2), .val (.int i3), .val (.int i4), .val (.int f), .val (.ref b), .val (.int (Int32.ofNat n)), .val (.ref x), .unset, .unset] [])
    refine B (fun t kt => XS.aload S.here S.hx rfl (hb hby at_171) rfl rfl kt) ?_
    show F T (mkF m 173 #[.val (.int i0), .val (.int i1), .val (.int i2), .val (.int i3), .val (.int i4), .val (.int f), .val (.ref b), .val (.int (Int32.ofNat n)), .val (.ref x), .unset, .unset] [(.ref b)])
    refine B (fun t kt => XS.iconst S.here S.hx rfl (hb hby at_173) kt) ?_
    show F T (mkF m 174 #[.val (.int i0), .val (.int i1), .val (.int i2), .val (.int i3), .val (.int i4), .val (.int f), .val (.ref b), .val (.int (Int32.ofNat n)), .val (.ref x), .unset, .unset] [(.int (1 : Int32)), (.ref b)])
    refine Sp.cald B S V (by decide) (by rfl) (hb hby at_174) ?_
    show F T (mkF m 175 #[.val (.int i0), .val (.int i1), .val (.int i2), .val (.int i3), .val (.int i4), .val (.int f), .val (.ref b), .val (.int (Int32.ofNat n)), .val (.ref x), .unset, .unset] [(.int c1)])
    refine B (fun t kt => XS.bipush S.here S.hx rfl (hb hby at_175) kt) ?_
    show F T (mkF m 177 #[.val (.int i0), .val (.int i1), .val (.int i2), .val (.int i3), .val (.int i4), .val (.int f), .val (.ref b), .val (.int (Int32.ofNat n)), .val (.ref x), .unset, .unset] [(.int (111 : Int32)), (.int c1)])
    by_cases g2 : c1 = 111
    case neg =>
      refine B (fun t kt => XS.icmpYes S.here S.hx rfl (pc0 := 177) (pc' := 211) rfl (hb hby at_177) rfl (ii_ne_t g2) (by decide) (by decide) kt) ?_
      show F T (mkF m 211 #[.val (.int i0), .val (.int i1), .val (.int i2), .val (.int i3), .val (.int i4), .val (.int f), .val (.ref b), .val (.int (Int32.ofNat n)), .val (.ref x), .unset, .unset] [])
      refine B (fun t kt => XS.iconst S.here S.hx rfl (hb hby at_211) kt) ?_
      show F T (mkF m 212 #[.val (.int i0), .val (.int i1), .val (.int i2), .val (.int i3), .val (.int i4), .val (.int f), .val (.ref b), .val (.int (Int32.ofNat n)), .val (.ref x), .unset, .unset] [(.int (0 : Int32))])
      refine B (fun t kt => XS.istore S.here S.hx rfl (hb hby at_212) rfl (l' := #[.val (.int i0), .val (.int i1), .val (.int i2), .val (.int i3), .val (.int i4), .val (.int f), .val (.ref b), .val (.int (Int32.ofNat n)), .val (.ref x), .val (.int (0 : Int32)), .unset]) rfl kt) ?_
      show F T (mkF m 214 #[.val (.int i0), .val (.int i1), .val (.int i2), .val (.int i3), .val (.int i4), .val (.int f), .val (.ref b), .val (.int (Int32.ofNat n)), .val (.ref x), .val (.int (0 : Int32)), .unset] [])
      exact J 0 (Or.inr ⟨rfl, fun q => g2 q.2.2.1⟩)
    refine B (fun t kt => XS.icmpNo S.here S.hx rfl (hb hby at_177) rfl (ii_ne_f g2) kt) ?_
    show F T (mkF m 180 #[.val (.int i0), .val (.int i1), .val (.int i2), .val (.int i3), .val (.int i4), .val (.int f), .val (.ref b), .val (.int (Int32.ofNat n)), .val (.ref x), .unset, .unset] [])
    refine B (fun t kt => XS.aload S.here S.hx rfl (hb hby at_180) rfl rfl kt) ?_
    show F T (mkF m 182 #[.val (.int i0), .val (.int i1), .val (.int i2), .val (.int i3), .val (.int i4), .val (.int f), .val (.ref b), .val (.int (Int32.ofNat n)), .val (.ref x), .unset, .unset] [(.ref b)])
    refine B (fun t kt => XS.iconst S.here S.hx rfl (hb hby at_182) kt) ?_
    show F T (mkF m 183 #[.val (.int i0), .val (.int i1), .val (.int i2), .val (.int i3), .val (.int i4), .val (.int f), .val (.ref b), .val (.int (Int32.ofNat n)), .val (.ref x), .unset, .unset] [(.int (2 : Int32)), (.ref b)])
    refine Sp.cald B S V (by decide) (by rfl) (hb hby at_183) ?_
    show F T (mkF m 184 #[.val (.int i0), .val (.int i1), .val (.int i2), .val (.int i3), .val (.int i4), .val (.int f), .val (.ref b), .val (.int (Int32.ofNat n)), .val (.ref x), .unset, .unset] [(.int c2)])
    refine B (fun t kt => XS.bipush S.here S.hx rfl (hb hby at_184) kt) ?_
    show F T (mkF m 186 #[.val (.int i0), .val (.int i1), .val (.int i2), .val (.int i3), .val (.int i4), .val (.int f), .val (.ref b), .val (.int (Int32.ofNat n)), .val (.ref x), .unset, .unset] [(.int (107 : Int32)), (.int c2)])
    by_cases g3 : c2 = 107
    case neg =>
      refine B (fun t kt => XS.icmpYes S.here S.hx rfl (pc0 := 186) (pc' := 211) rfl (hb hby at_186) rfl (ii_ne_t g3) (by decide) (by decide) kt) ?_
      show F T (mkF m 211 #[.val (.int i0), .val (.int i1), .val (.int i2), .val (.int i3), .val (.int i4), .val (.int f), .val (.ref b), .val (.int (Int32.ofNat n)), .val (.ref x), .unset, .unset] [])
      refine B (fun t kt => XS.iconst S.here S.hx rfl (hb hby at_211) kt) ?_
      show F T (mkF m 212 #[.val (.int i0), .val (.int i1), .val (.int i2), .val (.int i3), .val (.int i4), .val (.int f), .val (.ref b), .val (.int (Int32.ofNat n)), .val (.ref x), .unset, .unset] [(.int (0 : Int32))])
      refine B (fun t kt => XS.istore S.here S.hx rfl (hb hby at_212) rfl (l' := #[.val (.int i0), .val (.int i1), .val (.int i2), .val (.int i3), .val (.int i4), .val (.int f), .val (.ref b), .val (.int (Int32.ofNat n)), .val (.ref x), .val (.int (0 : Int32)), .unset]) rfl kt) ?_
      show F T (mkF m 214 #[.val (.int i0), .val (.int i1), .val (.int i2), .val (.int i3), .val (.int i4), .val (.int f), .val (.ref b), .val (.int (Int32.ofNat n)), .val (.ref x), .val (.int (0 : Int32)), .unset] [])
      exact J 0 (Or.inr ⟨rfl, fun q => g3 q.2.2.2.1⟩)
    refine B (fun t kt => XS.icmpNo S.here S.hx rfl (hb hby at_186) rfl (ii_ne_f g3) kt) ?_
    show F T (mkF m 189 #[.val (.int i0), .val (.int i1), .val (.int i2), .val (.int i3), .val (.int i4), .val (.int f), .val (.ref b), .val (.int (Int32.ofNat n)), .val (.ref x), .unset, .unset] [])
    refine B (fun t kt => XS.aload S.here S.hx rfl (hb hby at_189) rfl rfl kt) ?_
    show F T (mkF m 191 #[.val (.int i0), .val (.int i1), .val (.int i2), .val (.int i3), .val (.int i4), .val (.int f), .val (.ref b), .val (.int (Int32.ofNat n)), .val (.ref x), .unset, .unset] [(.ref b)])
    refine B (fun t kt => XS.iconst S.here S.hx rfl (hb hby at_191) kt) ?_
    show F T (mkF m 192 #[.val (.int i0), .val (.int i1), .val (.int i2), .val (.int i3), .val (.int i4), .val (.int f), .val (.ref b), .val (.int (Int32.ofNat n)), .val (.ref x), .unset, .unset] [(.int (3 : Int32)), (.ref b)])
    refine Sp.cald B S V (by decide) (by rfl) (hb hby at_192) ?_
    show F T (mkF m 193 #[.val (.int i0), .val (.int i1), .val (.int i2), .val (.int i3), .val (.int i4), .val (.int f), .val (.ref b), .val (.int (Int32.ofNat n)), .val (.ref x), .unset, .unset] [(.int c3)])
    refine B (fun t kt => XS.bipush S.here S.hx rfl (hb hby at_193) kt) ?_
    show F T (mkF m 195 #[.val (.int i0), .val (.int i1), .val (.int i2), .val (.int i3), .val (.int i4), .val (.int f), .val (.ref b), .val (.int (Int32.ofNat n)), .val (.ref x), .unset, .unset] [(.int (101 : Int32)), (.int c3)])
    by_cases g4 : c3 = 101
    case neg =>
      refine B (fun t kt => XS.icmpYes S.here S.hx rfl (pc0 := 195) (pc' := 211) rfl (hb hby at_195) rfl (ii_ne_t g4) (by decide) (by decide) kt) ?_
      show F T (mkF m 211 #[.val (.int i0), .val (.int i1), .val (.int i2), .val (.int i3), .val (.int i4), .val (.int f), .val (.ref b), .val (.int (Int32.ofNat n)), .val (.ref x), .unset, .unset] [])
      refine B (fun t kt => XS.iconst S.here S.hx rfl (hb hby at_211) kt) ?_
      show F T (mkF m 212 #[.val (.int i0), .val (.int i1), .val (.int i2), .val (.int i3), .val (.int i4), .val (.int f), .val (.ref b), .val (.int (Int32.ofNat n)), .val (.ref x), .unset, .unset] [(.int (0 : Int32))])
      refine B (fun t kt => XS.istore S.here S.hx rfl (hb hby at_212) rfl (l' := #[.val (.int i0), .val (.int i1), .val (.int i2), .val (.int i3), .val (.int i4), .val (.int f), .val (.ref b), .val (.int (Int32.ofNat n)), .val (.ref x), .val (.int (0 : Int32)), .unset]) rfl kt) ?_
      show F T (mkF m 214 #[.val (.int i0), .val (.int i1), .val (.int i2), .val (.int i3), .val (.int i4), .val (.int f), .val (.ref b), .val (.int (Int32.ofNat n)), .val (.ref x), .val (.int (0 : Int32)), .unset] [])
      exact J 0 (Or.inr ⟨rfl, fun q => g4 q.2.2.2.2.1⟩)
    refine B (fun t kt => XS.icmpNo S.here S.hx rfl (hb hby at_195) rfl (ii_ne_f g4) kt) ?_
    show F T (mkF m 198 #[.val (.int i0), .val (.int i1), .val (.int i2), .val (.int i3), .val (.int i4), .val (.int f), .val (.ref b), .val (.int (Int32.ofNat n)), .val (.ref x), .unset, .unset] [])
    refine B (fun t kt => XS.aload S.here S.hx rfl (hb hby at_198) rfl rfl kt) ?_
    show F T (mkF m 200 #[.val (.int i0), .val (.int i1), .val (.int i2), .val (.int i3), .val (.int i4), .val (.int f), .val (.ref b), .val (.int (Int32.ofNat n)), .val (.ref x), .unset, .unset] [(.ref b)])
    refine B (fun t kt => XS.iconst S.here S.hx rfl (hb hby at_200) kt) ?_
    show F T (mkF m 201 #[.val (.int i0), .val (.int i1), .val (.int i2), .val (.int i3), .val (.int i4), .val (.int f), .val (.ref b), .val (.int (Int32.ofNat n)), .val (.ref x), .unset, .unset] [(.int (4 : Int32)), (.ref b)])
    refine Sp.cald B S V (by decide) (by rfl) (hb hby at_201) ?_
    show F T (mkF m 202 #[.val (.int i0), .val (.int i1), .val (.int i2), .val (.int i3), .val (.int i4), .val (.int f), .val (.ref b), .val (.int (Int32.ofNat n)), .val (.ref x), .unset, .unset] [(.int c4)])
    refine B (fun t kt => XS.bipush S.here S.hx rfl (hb hby at_202) kt) ?_
    show F T (mkF m 204 #[.val (.int i0), .val (.int i1), .val (.int i2), .val (.int i3), .val (.int i4), .val (.int f), .val (.ref b), .val (.int (Int32.ofNat n)), .val (.ref x), .unset, .unset] [(.int (110 : Int32)), (.int c4)])
    by_cases g5 : c4 = 110
    case neg =>
      refine B (fun t kt => XS.icmpYes S.here S.hx rfl (pc0 := 204) (pc' := 211) rfl (hb hby at_204) rfl (ii_ne_t g5) (by decide) (by decide) kt) ?_
      show F T (mkF m 211 #[.val (.int i0), .val (.int i1), .val (.int i2), .val (.int i3), .val (.int i4), .val (.int f), .val (.ref b), .val (.int (Int32.ofNat n)), .val (.ref x), .unset, .unset] [])
      refine B (fun t kt => XS.iconst S.here S.hx rfl (hb hby at_211) kt) ?_
      show F T (mkF m 212 #[.val (.int i0), .val (.int i1), .val (.int i2), .val (.int i3), .val (.int i4), .val (.int f), .val (.ref b), .val (.int (Int32.ofNat n)), .val (.ref x), .unset, .unset] [(.int (0 : Int32))])
      refine B (fun t kt => XS.istore S.here S.hx rfl (hb hby at_212) rfl (l' := #[.val (.int i0), .val (.int i1), .val (.int i2), .val (.int i3), .val (.int i4), .val (.int f), .val (.ref b), .val (.int (Int32.ofNat n)), .val (.ref x), .val (.int (0 : Int32)), .unset]) rfl kt) ?_
      show F T (mkF m 214 #[.val (.int i0), .val (.int i1), .val (.int i2), .val (.int i3), .val (.int i4), .val (.int f), .val (.ref b), .val (.int (Int32.ofNat n)), .val (.ref x), .val (.int (0 : Int32)), .unset] [])
      exact J 0 (Or.inr ⟨rfl, fun q => g5 q.2.2.2.2.2⟩)
    refine B (fun t kt => XS.icmpNo S.here S.hx rfl (hb hby at_204) rfl (ii_ne_f g5) kt) ?_
    show F T (mkF m 207 #[.val (.int i0), .val (.int i1), .val (.int i2), .val (.int i3), .val (.int i4), .val (.int f), .val (.ref b), .val (.int (Int32.ofNat n)), .val (.ref x), .unset, .unset] [])
    refine B (fun t kt => XS.iconst S.here S.hx rfl (hb hby at_207) kt) ?_
    show F T (mkF m 208 #[.val (.int i0), .val (.int i1), .val (.int i2), .val (.int i3), .val (.int i4), .val (.int f), .val (.ref b), .val (.int (Int32.ofNat n)), .val (.ref x), .unset, .unset] [(.int (1 : Int32))])
    refine B (fun t kt => XS.goto S.here S.hx rfl (pc0 := 208) (pc' := 212) rfl (hb hby at_208) (by decide) (by decide) kt) ?_
    show F T (mkF m 212 #[.val (.int i0), .val (.int i1), .val (.int i2), .val (.int i3), .val (.int i4), .val (.int f), .val (.ref b), .val (.int (Int32.ofNat n)), .val (.ref x), .unset, .unset] [(.int (1 : Int32))])
    refine B (fun t kt => XS.istore S.here S.hx rfl (hb hby at_212) rfl (l' := #[.val (.int i0), .val (.int i1), .val (.int i2), .val (.int i3), .val (.int i4), .val (.int f), .val (.ref b), .val (.int (Int32.ofNat n)), .val (.ref x), .val (.int (1 : Int32)), .unset]) rfl kt) ?_
    show F T (mkF m 214 #[.val (.int i0), .val (.int i1), .val (.int i2), .val (.int i3), .val (.int i4), .val (.int f), .val (.ref b), .val (.int (Int32.ofNat n)), .val (.ref x), .val (.int (1 : Int32)), .unset] [])
    exact J 1 (Or.inl ⟨rfl, g0, g1, g2, g3, g4, g5⟩)
  intro b9 hb9
  show F T (mkF m 214 #[.val (.int i0), .val (.int i1), .val (.int i2), .val (.int i3), .val (.int i4), .val (.int f), .val (.ref b), .val (.int (Int32.ofNat n)), .val (.ref x), .val (.int b9), .unset] [])
  refine B (fun t kt => XS.iload S.here S.hx rfl (hb hby at_214) rfl kt) ?_
  show F T (mkF m 216 #[.val (.int i0), .val (.int i1), .val (.int i2), .val (.int i3), .val (.int i4), .val (.int f), .val (.ref b), .val (.int (Int32.ofNat n)), .val (.ref x), .val (.int b9), .unset] [(.int (Int32.ofNat n))])
  refine B (fun t kt => XS.bipush S.here S.hx rfl (hb hby at_216) kt) ?_
  show F T (mkF m 218 #[.val (.int i0), .val (.int i1), .val (.int i2), .val (.int i3), .val (.int i4), .val (.int f), .val (.ref b), .val (.int (Int32.ofNat n)), .val (.ref x), .val (.int b9), .unset] [(.int (7 : Int32)), (.int (Int32.ofNat n))])
  suffices J : ∀ b10 : Int32, ((b10 = 1 ∧ (Int32.ofNat n = 7 ∧ c0 = 99 ∧ c1 = 111 ∧ c2 = 117 ∧ c3 = 110 ∧ c4 = 116 ∧ c5 = 101 ∧ c6 = 114)) ∨ (b10 = 0 ∧ ¬ (Int32.ofNat n = 7 ∧ c0 = 99 ∧ c1 = 111 ∧ c2 = 117 ∧ c3 = 110 ∧ c4 = 116 ∧ c5 = 101 ∧ c6 = 114))) → F T (mkF m 292 #[.val (.int i0), .val (.int i1), .val (.int i2), .val (.int i3), .val (.int i4), .val (.int f), .val (.ref b), .val (.int (Int32.ofNat n)), .val (.ref x), .val (.int b9), .val (.int b10)] []) by
    by_cases g0 : Int32.ofNat n = 7
    case neg =>
      refine B (fun t kt => XS.icmpYes S.here S.hx rfl (pc0 := 218) (pc' := 289) rfl (hb hby at_218) rfl (ii_ne_t g0) (by decide) (by decide) kt) ?_
      show F T (mkF m 289 #[.val (.int i0), .val (.int i1), .val (.int i2), .val (.int i3), .val (.int i4), .val (.int f), .val (.ref b), .val (.int (Int32.ofNat n)), .val (.ref x), .val (.int b9), .unset] [])
      refine B (fun t kt => XS.iconst S.here S.hx rfl (hb hby at_289) kt) ?_
      show F T (mkF m 290 #[.val (.int i0), .val (.int i1), .val (.int i2), .val (.int i3), .val (.int i4), .val (.int f), .val (.ref b), .val (.int (Int32.ofNat n)), .val (.ref x), .val (.int b9), .unset] [(.int (0 : Int32))])
      refine B (fun t kt => XS.istore S.here S.hx rfl (hb hby at_290) rfl (l' := #[.val (.int i0), .val (.int i1), .val (.int i2), .val (.int i3), .val (.int i4), .val (.int f), .val (.ref b), .val (.int (Int32.ofNat n)), .val (.ref x), .val (.int b9), .val (.int (0 : Int32))]) rfl kt) ?_
      show F T (mkF m 292 #[.val (.int i0), .val (.int i1), .val (.int i2), .val (.int i3), .val (.int i4), .val (.int f), .val (.ref b), .val (.int (Int32.ofNat n)), .val (.ref x), .val (.int b9), .val (.int (0 : Int32))] [])
      exact J 0 (Or.inr ⟨rfl, fun q => g0 q.1⟩)
    refine B (fun t kt => XS.icmpNo S.here S.hx rfl (hb hby at_218) rfl (ii_ne_f g0) kt) ?_
    show F T (mkF m 221 #[.val (.int i0), .val (.int i1), .val (.int i2), .val (.int i3), .val (.int i4), .val (.int f), .val (.ref b), .val (.int (Int32.ofNat n)), .val (.ref x), .val (.int b9), .unset] [])
    refine B (fun t kt => XS.aload S.here S.hx rfl (hb hby at_221) rfl rfl kt) ?_
    show F T (mkF m 223 #[.val (.int i0), .val (.int i1), .val (.int i2), .val (.int i3), .val (.int i4), .val (.int f), .val (.ref b), .val (.int (Int32.ofNat n)), .val (.ref x), .val (.int b9), .unset] [(.ref b)])
    refine B (fun t kt => XS.iconst S.here S.hx rfl (hb hby at_223) kt) ?_
    show F T (mkF m 224 #[.val (.int i0), .val (.int i1), .val (.int i2), .val (.int i3), .val (.int i4), .val (.int f), .val (.ref b), .val (.int (Int32.ofNat n)), .val (.ref x), .val (.int b9), .unset] [(.int (0 : Int32)), (.ref b)])
    refine Sp.cald B S V (by decide) (by rfl) (hb hby at_224) ?_
    show F T (mkF m 225 #[.val (.int i0), .val (.int i1), .val (.int i2), .val (.int i3), .val (.int i4), .val (.int f), .val (.ref b), .val (.int (Int32.ofNat n)), .val (.ref x), .val (.int b9), .unset] [(.int c0)])
    refine B (fun t kt => XS.bipush S.here S.hx rfl (hb hby at_225) kt) ?_
    show F T (mkF m 227 #[.val (.int i0), .val (.int i1), .val (.int i2), .val (.int i3), .val (.int i4), .val (.int f), .val (.ref b), .val (.int (Int32.ofNat n)), .val (.ref x), .val (.int b9), .unset] [(.int (99 : Int32)), (.int c0)])
    by_cases g1 : c0 = 99
    case neg =>
      refine B (fun t kt => XS.icmpYes S.here S.hx rfl (pc0 := 227) (pc' := 289) rfl (hb hby at_227) rfl (ii_ne_t g1) (by decide) (by decide) kt) ?_
      show F T (mkF m 289 #[.val (.int i0), .val (.int i1), .val (.int i2), .val (.int i3), .val (.int i4), .val (.int f), .val (.ref b), .val (.int (Int32.ofNat n)), .val (.ref x), .val (.int b9), .unset] [])
      refine B (fun t kt => XS.iconst S.here S.hx rfl (hb hby at_289) kt) ?_
      show F T (mkF m 290 #[.val (.int i0), .val (.int i1), .val (.int i2), .val (.int i3), .val (.int i4), .val (.int f), .val (.ref b), .val (.int (Int32.ofNat n)), .val (.ref x), .val (.int b9), .unset] [(.int (0 : Int32))])
      refine B (fun t kt => XS.istore S.here S.hx rfl (hb hby at_290) rfl (l' := #[.val (.int i0), .val (.int i1), .val (.int i2), .val (.int i3), .val (.int i4), .val (.int f), .val (.ref b), .val (.int (Int32.ofNat n)), .val (.ref x), .val (.int b9), .val (.int (0 : Int32))]) rfl kt) ?_
      show F T (mkF m 292 #[.val (.int i0), .val (.int i1), .val (.int i2), .val (.int i3), .val (.int i4), .val (.int f), .val (.ref b), .val (.int (Int32.ofNat n)), .val (.ref x), .val (.int b9), .val (.int (0 : Int32))] [])
      exact J 0 (Or.inr ⟨rfl, fun q => g1 q.2.1⟩)
    refine B (fun t kt => XS.icmpNo S.here S.hx rfl (hb hby at_227) rfl (ii_ne_f g1) kt) ?_
    show F T (mkF m 230 #[.val (.int i0), .val (.int i1), .val (.int i2), .val (.int i3), .val (.int i4), .val (.int f), .val (.ref b), .val (.int (Int32.ofNat n)), .val (.ref x), .val (.int b9), .unset] [])
    refine B (fun t kt => XS.aload S.here S.hx rfl (hb hby at_230) rfl rfl kt) ?_
    show F T (mkF m 232 #[.val (.int i0), .val (.int i1), .val (.int i2), .val (.int i3), .val (.int i4), .val (.int f), .val (.ref b), .val (.int (Int32.ofNat n)), .val (.ref x), .val (.int b9), .unset] [(.ref b)])
    refine B (fun t kt => XS.iconst S.here S.hx rfl (hb hby at_232) kt) ?_
    show F T (mkF m 233 #[.val (.int i0), .val (.int i1), .val (.int i2), .val (.int i3), .val (.int i4), .val (.int f), .val (.ref b), .val (.int (Int32.ofNat n)), .val (.ref x), .val (.int b9), .unset] [(.int (1 : Int32)), (.ref b)])
    refine Sp.cald B S V (by decide) (by rfl) (hb hby at_233) ?_
    show F T (mkF m 234 #[.val (.int i0), .val (.int i1), .val (.int i2), .val (.int i3), .val (.int i4), .val (.int f), .val (.ref b), .val (.int (Int32.ofNat n)), .val (.ref x), .val (.int b9), .unset] [(.int c1)])
    refine B (fun t kt => XS.bipush S.here S.hx rfl (hb hby at_234) kt) ?_
    show F T (mkF m 236 #[.val (.int i0), .val (.int i1), .val (.int i2), .val (.int i3), .val (.int i4), .val (.int f), .val (.ref b), .val (.int (Int32.ofNat n)), .val (.ref x), .val (.int b9), .unset] [(.int (111 : Int32)), (.int c1)])
    by_cases g2 : c1 = 111
    case neg =>
      refine B (fun t kt => XS.icmpYes S.here S.hx rfl (pc0 := 236) (pc' := 289) rfl (hb hby at_236) rfl (ii_ne_t g2) (by decide) (by decide) kt) ?_
      show F T (mkF m 289 #[.val (.int i0), .val (.int i1), .val (.int i2), .val (.int i3), .val (.int i4), .val (.int f), .val (.ref b), .val (.int (Int32.ofNat n)), .val (.ref x), .val (.int b9), .unset] [])
      refine B (fun t kt => XS.iconst S.here S.hx rfl (hb hby at_289) kt) ?_
      show F T (mkF m 290 #[.val (.int i0), .val (.int i1), .val (.int i2), .val (.int i3), .val (.int i4), .val (.int f), .val (.ref b), .val (.int (Int32.ofNat n)), .val (.ref x), .val (.int b9), .unset] [(.int (0 : Int32))])
      refine B (fun t kt => XS.istore S.here S.hx rfl (hb hby at_290) rfl (l' := #[.val (.int i0), .val (.int i1), .val (.int i2), .val (.int i3), .val (.int i4), .val (.int f), .val (.ref b), .val (.int (Int32.ofNat n)), .val (.ref x), .val (.int b9), .val (.int (0 : Int32))]) rfl kt) ?_
      show F T (mkF m 292 #[.val (.int i0), .val (.int i1), .val (.int i2), .val (.int i3), .val (.int i4), .val (.int f), .val (.ref b), .val (.int (Int32.ofNat n)), .val (.ref x), .val (.int b9), .val (.int (0 : Int32))] [])
      exact J 0 (Or.inr ⟨rfl, fun q => g2 q.2.2.1⟩)
    refine B (fun t kt => XS.icmpNo S.here S.hx rfl (hb hby at_236) rfl (ii_ne_f g2) kt) ?_
    show F T (mkF m 239 #[.val (.int i0), .val (.int i1), .val (.int i2), .val (.int i3), .val (.int i4), .val (.int f), .val (.ref b), .val (.int (Int32.ofNat n)), .val (.ref x), .val (.int b9), .unset] [])
    refine B (fun t kt => XS.aload S.here S.hx rfl (hb hby at_239) rfl rfl kt) ?_
    show F T (mkF m 241 #[.val (.int i0), .val (.int i1), .val (.int i2), .val (.int i3), .val (.int i4), .val (.int f), .val (.ref b), .val (.int (Int32.ofNat n)), .val (.ref x), .val (.int b9), .unset] [(.ref b)])
    refine B (fun t kt => XS.iconst S.here S.hx rfl (hb hby at_241) kt) ?_
    show F T (mkF m 242 #[.val (.int i0), .val (.int i1), .val (.int i2), .val (.int i3), .val (.int i4), .val (.int f), .val (.ref b), .val (.int (Int32.ofNat n)), .val (.ref x), .val (.int b9), .unset] [(.int (2 : Int32)), (.ref b)])
    refine Sp.cald B S V (by decide) (by rfl) (hb hby at_242) ?_
    show F T (mkF m 243 #[.val (.int i0), .val (.int i1), .val (.int i2), .val (.int i3), .val (.int i4), .val (.int f), .val (.ref b), .val (.int (Int32.ofNat n)), .val (.ref x), .val (.int b9), .unset] [(.int c2)])
    refine B (fun t kt => XS.bipush S.here S.hx rfl (hb hby at_243) kt) ?_
    show F T (mkF m 245 #[.val (.int i0), .val (.int i1), .val (.int i2), .val (.int i3), .val (.int i4), .val (.int f), .val (.ref b), .val (.int (Int32.ofNat n)), .val (.ref x), .val (.int b9), .unset] [(.int (117 : Int32)), (.int c2)])
    by_cases g3 : c2 = 117
    case neg =>
      refine B (fun t kt => XS.icmpYes S.here S.hx rfl (pc0 := 245) (pc' := 289) rfl (hb hby at_245) rfl (ii_ne_t g3) (by decide) (by decide) kt) ?_
      show F T (mkF m 289 #[.val (.int i0), .val (.int i1), .val (.int i2), .val (.int i3), .val (.int i4), .val (.int f), .val (.ref b), .val (.int (Int32.ofNat n)), .val (.ref x), .val (.int b9), .unset] [])
      refine B (fun t kt => XS.iconst S.here S.hx rfl (hb hby at_289) kt) ?_
      show F T (mkF m 290 #[.val (.int i0), .val (.int i1), .val (.int i2), .val (.int i3), .val (.int i4), .val (.int f), .val (.ref b), .val (.int (Int32.ofNat n)), .val (.ref x), .val (.int b9), .unset] [(.int (0 : Int32))])
      refine B (fun t kt => XS.istore S.here S.hx rfl (hb hby at_290) rfl (l' := #[.val (.int i0), .val (.int i1), .val (.int i2), .val (.int i3), .val (.int i4), .val (.int f), .val (.ref b), .val (.int (Int32.ofNat n)), .val (.ref x), .val (.int b9), .val (.int (0 : Int32))]) rfl kt) ?_
      show F T (mkF m 292 #[.val (.int i0), .val (.int i1), .val (.int i2), .val (.int i3), .val (.int i4), .val (.int f), .val (.ref b), .val (.int (Int32.ofNat n)), .val (.ref x), .val (.int b9), .val (.int (0 : Int32))] [])
      exact J 0 (Or.inr ⟨rfl, fun q => g3 q.2.2.2.1⟩)
    refine B (fun t kt => XS.icmpNo S.here S.hx rfl (hb hby at_245) rfl (ii_ne_f g3) kt) ?_
    show F T (mkF m 248 #[.val (.int i0), .val (.int i1), .val (.int i2), .val (.int i3), .val (.int i4), .val (.int f), .val (.ref b), .val (.int (Int32.ofNat n)), .val (.ref x), .val (.int b9), .unset] [])
    refine B (fun t kt => XS.aload S.here S.hx rfl (hb hby at_248) rfl rfl kt) ?_
    show F T (mkF m 250 #[.val (.int i0), .val (.int i1), .val (.int i2), .val (.int i3), .val (.int i4), .val (.int f), .val (.ref b), .val (.int (Int32.ofNat n)), .val (.ref x), .val (.int b9), .unset] [(.ref b)])
    refine B (fun t kt => XS.iconst S.here S.hx rfl (hb hby at_250) kt) ?_
    show F T (mkF m 251 #[.val (.int i0), .val (.int i1), .val (.int i2), .val (.int i3), .val (.int i4), .val (.int f), .val (.ref b), .val (.int (Int32.ofNat n)), .val (.ref x), .val (.int b9), .unset] [(.int (3 : Int32)), (.ref b)])
    refine Sp.cald B S V (by decide) (by rfl) (hb hby at_251) ?_
    show F T (mkF m 252 #[.val (.int i0), .val (.int i1), .val (.int i2), .val (.int i3), .val (.int i4), .val (.int f), .val (.ref b), .val (.int (Int32.ofNat n)), .val (.ref x), .val (.int b9), .unset] [(.int c3)])
    refine B (fun t kt => XS.bipush S.here S.hx rfl (hb hby at_252) kt) ?_
    show F T (mkF m 254 #[.val (.int i0), .val (.int i1), .val (.int i2), .val (.int i3), .val (.int i4), .val (.int f), .val (.ref b), .val (.int (Int32.ofNat n)), .val (.ref x), .val (.int b9), .unset] [(.int (110 : Int32)), (.int c3)])
    by_cases g4 : c3 = 110
    case neg =>
      refine B (fun t kt => XS.icmpYes S.here S.hx rfl (pc0 := 254) (pc' := 289) rfl (hb hby at_254) rfl (ii_ne_t g4) (by decide) (by decide) kt) ?_
      show F T (mkF m 289 #[.val (.int i0), .val (.int i1), .val (.int i2), .val (.int i3), .val (.int i4), .val (.int f), .val (.ref b), .val (.int (Int32.ofNat n)), .val (.ref x), .val (.int b9), .unset] [])
      refine B (fun t kt => XS.iconst S.here S.hx rfl (hb hby at_289) kt) ?_
      show F T (mkF m 290 #[.val (.int i0), .val (.int i1), .val (.int i2), .val (.int i3), .val (.int i4), .val (.int f), .val (.ref b), .val (.int (Int32.ofNat n)), .val (.ref x), .val (.int b9), .unset] [(.int (0 : Int32))])
      refine B (fun t kt => XS.istore S.here S.hx rfl (hb hby at_290) rfl (l' := #[.val (.int i0), .val (.int i1), .val (.int i2), .val (.int i3), .val (.int i4), .val (.int f), .val (.ref b), .val (.int (Int32.ofNat n)), .val (.ref x), .val (.int b9), .val (.int (0 : Int32))]) rfl kt) ?_
      show F T (mkF m 292 #[.val (.int i0), .val (.int i1), .val (.int i2), .val (.int i3), .val (.int i4), .val (.int f), .val (.ref b), .val (.int (Int32.ofNat n)), .val (.ref x), .val (.int b9), .val (.int (0 : Int32))] [])
      exact J 0 (Or.inr ⟨rfl, fun q => g4 q.2.2.2.2.1⟩)
    refine B (fun t kt => XS.icmpNo S.here S.hx rfl (hb hby at_254) rfl (ii_ne_f g4) kt) ?_
    show F T (mkF m 257 #[.val (.int i0), .val (.int i1), .val (.int i2), .val (.int i3), .val (.int i4), .val (.int f), .val (.ref b), .val (.int (Int32.ofNat n)), .val (.ref x), .val (.int b9), .unset] [])
    refine B (fun t kt => XS.aload S.here S.hx rfl (hb hby at_257) rfl rfl kt) ?_
    show F T (mkF m 259 #[.val (.int i0), .val (.int i1), .val (.int i2), .val (.int i3), .val (.int i4), .val (.int f), .val (.ref b), .val (.int (Int32.ofNat n)), .val (.ref x), .val (.int b9), .unset] [(.ref b)])
    refine B (fun t kt => XS.iconst S.here S.hx rfl (hb hby at_259) kt) ?_
    show F T (mkF m 260 #[.val (.int i0), .val (.int i1), .val (.int i2), .val (.int i3), .val (.int i4), .val (.int f), .val (.ref b), .val (.int (Int32.ofNat n)), .val (.ref x), .val (.int b9), .unset] [(.int (4 : Int32)), (.ref b)])
    refine Sp.cald B S V (by decide) (by rfl) (hb hby at_260) ?_
    show F T (mkF m 261 #[.val (.int i0), .val (.int i1), .val (.int i2), .val (.int i3), .val (.int i4), .val (.int f), .val (.ref b), .val (.int (Int32.ofNat n)), .val (.ref x), .val (.int b9), .unset] [(.int c4)])
    refine B (fun t kt => XS.bipush S.here S.hx rfl (hb hby at_261) kt) ?_
    show F T (mkF m 263 #[.val (.int i0), .val (.int i1), .val (.int i2), .val (.int i3), .val (.int i4), .val (.int f), .val (.ref b), .val (.int (Int32.ofNat n)), .val (.ref x), .val (.int b9), .unset] [(.int (116 : Int32)), (.int c4)])
    by_cases g5 : c4 = 116
    case neg =>
      refine B (fun t kt => XS.icmpYes S.here S.hx rfl (pc0 := 263) (pc' := 289) rfl (hb hby at_263) rfl (ii_ne_t g5) (by decide) (by decide) kt) ?_
      show F T (mkF m 289 #[.val (.int i0), .val (.int i1), .val (.int i2), .val (.int i3), .val (.int i4), .val (.int f), .val (.ref b), .val (.int (Int32.ofNat n)), .val (.ref x), .val (.int b9), .unset] [])
      refine B (fun t kt => XS.iconst S.here S.hx rfl (hb hby at_289) kt) ?_
      show F T (mkF m 290 #[.val (.int i0), .val (.int i1), .val (.int i2), .val (.int i3), .val (.int i4), .val (.int f), .val (.ref b), .val (.int (Int32.ofNat n)), .val (.ref x), .val (.int b9), .unset] [(.int (0 : Int32))])
      refine B (fun t kt => XS.istore S.here S.hx rfl (hb hby at_290) rfl (l' := #[.val (.int i0), .val (.int i1), .val (.int i2), .val (.int i3), .val (.int i4), .val (.int f), .val (.ref b), .val (.int (Int32.ofNat n)), .val (.ref x), .val (.int b9), .val (.int (0 : Int32))]) rfl kt) ?_
      show F T (mkF m 292 #[.val (.int i0), .val (.int i1), .val (.int i2), .val (.int i3), .val (.int i4), .val (.int f), .val (.ref b), .val (.int (Int32.ofNat n)), .val (.ref x), .val (.int b9), .val (.int (0 : Int32))] [])
      exact J 0 (Or.inr ⟨rfl, fun q => g5 q.2.2.2.2.2.1⟩)
    refine B (fun t kt => XS.icmpNo S.here S.hx rfl (hb hby at_263) rfl (ii_ne_f g5) kt) ?_
    show F T (mkF m 266 #[.val (.int i0), .val (.int i1), .val (.int i2), .val (.int i3), .val (.int i4), .val (.int f), .val (.ref b), .val (.int (Int32.ofNat n)), .val (.ref x), .val (.int b9), .unset] [])
    refine B (fun t kt => XS.aload S.here S.hx rfl (hb hby at_266) rfl rfl kt) ?_
    show F T (mkF m 268 #[.val (.int i0), .val (.int i1), .val (.int i2), .val (.int i3), .val (.int i4), .val (.int f), .val (.ref b), .val (.int (Int32.ofNat n)), .val (.ref x), .val (.int b9), .unset] [(.ref b)])
    refine B (fun t kt => XS.iconst S.here S.hx rfl (hb hby at_268) kt) ?_
    show F T (mkF m 269 #[.val (.int i0), .val (.int i1), .val (.int i2), .val (.int i3), .val (.int i4), .val (.int f), .val (.ref b), .val (.int (Int32.ofNat n)), .val (.ref x), .val (.int b9), .unset] [(.int (5 : Int32)), (.ref b)])
    refine Sp.cald B S V (by decide) (by rfl) (hb hby at_269) ?_
    show F T (mkF m 270 #[.val (.int i0), .val (.int i1), .val (.int i2), .val (.int i3), .val (.int i4), .val (.int f), .val (.ref b), .val (.int (Int32.ofNat n)), .val (.ref x), .val (.int b9), .unset] [(.int c5)])
    refine B (fun t kt => XS.bipush S.here S.hx rfl (hb hby at_270) kt) ?_
    show F T (mkF m 272 #[.val (.int i0), .val (.int i1), .val (.int i2), .val (.int i3), .val (.int i4), .val (.int f), .val (.ref b), .val (.int (Int32.ofNat n)), .val (.ref x), .val (.int b9), .unset] [(.int (101 : Int32)), (.int c5)])
    by_cases g6 : c5 = 101
    case neg =>
      refine B (fun t kt => XS.icmpYes S.here S.hx rfl (pc0 := 272) (pc' := 289) rfl (hb hby at_272) rfl (ii_ne_t g6) (by decide) (by decide) kt) ?_
      show F T (mkF m 289 #[.val (.int i0), .val (.int i1), .val (.int i2), .val (.int i3), .val (.int i4), .val (.int f), .val (.ref b), .val (.int (Int32.ofNat n)), .val (.ref x), .val (.int b9), .unset] [])
      refine B (fun t kt => XS.iconst S.here S.hx rfl (hb hby at_289) kt) ?_
      show F T (mkF m 290 #[.val (.int i0), .val (.int i1), .val (.int i2), .val (.int i3), .val (.int i4), .val (.int f), .val (.ref b), .val (.int (Int32.ofNat n)), .val (.ref x), .val (.int b9), .unset] [(.int (0 : Int32))])
      refine B (fun t kt => XS.istore S.here S.hx rfl (hb hby at_290) rfl (l' := #[.val (.int i0), .val (.int i1), .val (.int i2), .val (.int i3), .val (.int i4), .val (.int f), .val (.ref b), .val (.int (Int32.ofNat n)), .val (.ref x), .val (.int b9), .val (.int (0 : Int32))]) rfl kt) ?_
      show F T (mkF m 292 #[.val (.int i0), .val (.int i1), .val (.int i2), .val (.int i3), .val (.int i4), .val (.int f), .val (.ref b), .val (.int (Int32.ofNat n)), .val (.ref x), .val (.int b9), .val (.int (0 : Int32))] [])
      exact J 0 (Or.inr ⟨rfl, fun q => g6 q.2.2.2.2.2.2.1⟩)
    refine B (fun t kt => XS.icmpNo S.here S.hx rfl (hb hby at_272) rfl (ii_ne_f g6) kt) ?_
    show F T (mkF m 275 #[.val (.int i0), .val (.int i1), .val (.int i2), .val (.int i3), .val (.int i4), .val (.int f), .val (.ref b), .val (.int (Int32.ofNat n)), .val (.ref x), .val (.int b9), .unset] [])
    refine B (fun t kt => XS.aload S.here S.hx rfl (hb hby at_275) rfl rfl kt) ?_
    show F T (mkF m 277 #[.val (.int i0), .val (.int i1), .val (.int i2), .val (.int i3), .val (.int i4), .val (.int f), .val (.ref b), .val (.int (Int32.ofNat n)), .val (.ref x), .val (.int b9), .unset] [(.ref b)])
    refine B (fun t kt => XS.bipush S.here S.hx rfl (hb hby at_277) kt) ?_
    show F T (mkF m 279 #[.val (.int i0), .val (.int i1), .val (.int i2), .val (.int i3), .val (.int i4), .val (.int f), .val (.ref b), .val (.int (Int32.ofNat n)), .val (.ref x), .val (.int b9), .unset] [(.int (6 : Int32)), (.ref b)])
    refine Sp.cald B S V (by decide) (by rfl) (hb hby at_279) ?_
    show F T (mkF m 280 #[.val (.int i0), .val (.int i1), .val (.int i2), .val (.int i3), .val (.int i4), .val (.int f), .val (.ref b), .val (.int (Int32.ofNat n)), .val (.ref x), .val (.int b9), .unset] [(.int c6)])
    refine B (fun t kt => XS.bipush S.here S.hx rfl (hb hby at_280) kt) ?_
    show F T (mkF m 282 #[.val (.int i0), .val (.int i1), .val (.int i2), .val (.int i3), .val (.int i4), .val (.int f), .val (.ref b), .val (.int (Int32.ofNat n)), .val (.ref x), .val (.int b9), .unset] [(.int (114 : Int32)), (.int c6)])
    by_cases g7 : c6 = 114
    case neg =>
      refine B (fun t kt => XS.icmpYes S.here S.hx rfl (pc0 := 282) (pc' := 289) rfl (hb hby at_282) rfl (ii_ne_t g7) (by decide) (by decide) kt) ?_
      show F T (mkF m 289 #[.val (.int i0), .val (.int i1), .val (.int i2), .val (.int i3), .val (.int i4), .val (.int f), .val (.ref b), .val (.int (Int32.ofNat n)), .val (.ref x), .val (.int b9), .unset] [])
      refine B (fun t kt => XS.iconst S.here S.hx rfl (hb hby at_289) kt) ?_
      show F T (mkF m 290 #[.val (.int i0), .val (.int i1), .val (.int i2), .val (.int i3), .val (.int i4), .val (.int f), .val (.ref b), .val (.int (Int32.ofNat n)), .val (.ref x), .val (.int b9), .unset] [(.int (0 : Int32))])
      refine B (fun t kt => XS.istore S.here S.hx rfl (hb hby at_290) rfl (l' := #[.val (.int i0), .val (.int i1), .val (.int i2), .val (.int i3), .val (.int i4), .val (.int f), .val (.ref b), .val (.int (Int32.ofNat n)), .val (.ref x), .val (.int b9), .val (.int (0 : Int32))]) rfl kt) ?_
      show F T (mkF m 292 #[.val (.int i0), .val (.int i1), .val (.int i2), .val (.int i3), .val (.int i4), .val (.int f), .val (.ref b), .val (.int (Int32.ofNat n)), .val (.ref x), .val (.int b9), .val (.int (0 : Int32))] [])
      exact J 0 (Or.inr ⟨rfl, fun q => g7 q.2.2.2.2.2.2.2⟩)
    refine B (fun t kt => XS.icmpNo S.here S.hx rfl (hb hby at_282) rfl (ii_ne_f g7) kt) ?_
    show F T (mkF m 285 #[.val (.int i0), .val (.int i1), .val (.int i2), .val (.int i3), .val (.int i4), .val (.int f), .val (.ref b), .val (.int (Int32.ofNat n)), .val (.ref x), .val (.int b9), .unset] [])
    refine B (fun t kt => XS.iconst S.here S.hx rfl (hb hby at_285) kt) ?_
    show F T (mkF m 286 #[.val (.int i0), .val (.int i1), .val (.int i2), .val (.int i3), .val (.int i4), .val (.int f), .val (.ref b), .val (.int (Int32.ofNat n)), .val (.ref x), .val (.int b9), .unset] [(.int (1 : Int32))])
    refine B (fun t kt => XS.goto S.here S.hx rfl (pc0 := 286) (pc' := 290) rfl (hb hby at_286) (by decide) (by decide) kt) ?_
    show F T (mkF m 290 #[.val (.int i0), .val (.int i1), .val (.int i2), .val (.int i3), .val (.int i4), .val (.int f), .val (.ref b), .val (.int (Int32.ofNat n)), .val (.ref x), .val (.int b9), .unset] [(.int (1 : Int32))])
    refine B (fun t kt => XS.istore S.here S.hx rfl (hb hby at_290) rfl (l' := #[.val (.int i0), .val (.int i1), .val (.int i2), .val (.int i3), .val (.int i4), .val (.int f), .val (.ref b), .val (.int (Int32.ofNat n)), .val (.ref x), .val (.int b9), .val (.int (1 : Int32))]) rfl kt) ?_
    show F T (mkF m 292 #[.val (.int i0), .val (.int i1), .val (.int i2), .val (.int i3), .val (.int i4), .val (.int f), .val (.ref b), .val (.int (Int32.ofNat n)), .val (.ref x), .val (.int b9), .val (.int (1 : Int32))] [])
    exact J 1 (Or.inl ⟨rfl, g0, g1, g2, g3, g4, g5, g6, g7⟩)
  intro b10 hb10
  show F T (mkF m 292 #[.val (.int i0), .val (.int i1), .val (.int i2), .val (.int i3), .val (.int i4), .val (.int f), .val (.ref b), .val (.int (Int32.ofNat n)), .val (.ref x), .val (.int b9), .val (.int b10)] [])
  refine B (fun t kt => XS.aload S.here S.hx rfl (hb hby at_292) rfl rfl kt) ?_
  show F T (mkF m 294 #[.val (.int i0), .val (.int i1), .val (.int i2), .val (.int i3), .val (.int i4), .val (.int f), .val (.ref b), .val (.int (Int32.ofNat n)), .val (.ref x), .val (.int b9), .val (.int b10)] [(.ref x)])
  refine Sp.static B S (y := (⟨"com/example/keywright/keywright/store/Tokens", "reads", "(Ljava/lang/String;)Z"⟩ : MethodName)) (argsL := [(.ref x)]) (rest := []) (hw _ (List.mem_of_getElem? (i := 35) rfl)) (hw _ (List.mem_of_getElem? (i := 36) rfl)) (hw _ (List.mem_of_getElem? (i := 37) rfl)) (hw _ (List.mem_of_getElem? (i := 38) rfl)) (by decide) (Call.con (W := 0) (rd l Z a0 consts_1 hw hEW h11 hS (by decide) (by decide) hev zc CS hzc x t _ G) (hw _ (List.mem_of_getElem? (i := 38) rfl)) (hw _ (List.mem_of_getElem? (i := 37) rfl)) (by decide) (by decide)) (by simp) (by decide) (by decide) (by rw [hml]; rfl) (lenOf lw_p14 rfl) rfl (Nat.le_of_eq rfl) (hb hby at_294) fun v T h12 nw S hQ => ?_
  obtain ⟨r, rfl, rfl, hr1⟩ := hQ
  rw [own_tok c0 c1 c2 c3 c4 c5 c6 c7 n (by omega), own_ctr c0 c1 c2 c3 c4 c5 c6 c7 n (by omega)] at hr1
  show F T (mkF m 297 #[.val (.int i0), .val (.int i1), .val (.int i2), .val (.int i3), .val (.int i4), .val (.int f), .val (.ref b), .val (.int (Int32.ofNat n)), .val (.ref x), .val (.int b9), .val (.int b10)] [(.int r)])
  refine B (fun t kt => XS.iload S.here S.hx rfl (hb hby at_297) rfl kt) ?_
  show F T (mkF m 299 #[.val (.int i0), .val (.int i1), .val (.int i2), .val (.int i3), .val (.int i4), .val (.int f), .val (.ref b), .val (.int (Int32.ofNat n)), .val (.ref x), .val (.int b9), .val (.int b10)] [(.int b9), (.int r)])
  suffices J : ∀ q : Int32, q = r → F T (mkF m 312 #[.val (.int i0), .val (.int i1), .val (.int i2), .val (.int i3), .val (.int i4), .val (.int f), .val (.ref b), .val (.int (Int32.ofNat n)), .val (.ref x), .val (.int b9), .val (.int b10)] [(.int q), (.int r)]) by
    rcases hb9 with ⟨rfl, p9⟩ | ⟨rfl, p9⟩
    ·
      show F T (mkF m 299 #[.val (.int i0), .val (.int i1), .val (.int i2), .val (.int i3), .val (.int i4), .val (.int f), .val (.ref b), .val (.int (Int32.ofNat n)), .val (.ref x), .val (.int 1), .val (.int b10)] [(.int 1), (.int r)])
      refine B (fun t kt => XS.ifYes S.here S.hx rfl (pc0 := 299) (pc' := 307) rfl (hb hby at_299) rfl (i0_ne_t (by decide)) (by decide) (by decide) kt) ?_
      show F T (mkF m 307 #[.val (.int i0), .val (.int i1), .val (.int i2), .val (.int i3), .val (.int i4), .val (.int f), .val (.ref b), .val (.int (Int32.ofNat n)), .val (.ref x), .val (.int 1), .val (.int b10)] [(.int r)])
      refine B (fun t kt => XS.iconst S.here S.hx rfl (hb hby at_307) kt) ?_
      show F T (mkF m 308 #[.val (.int i0), .val (.int i1), .val (.int i2), .val (.int i3), .val (.int i4), .val (.int f), .val (.ref b), .val (.int (Int32.ofNat n)), .val (.ref x), .val (.int 1), .val (.int b10)] [(.int (1 : Int32)), (.int r)])
      refine B (fun t kt => XS.goto S.here S.hx rfl (pc0 := 308) (pc' := 312) rfl (hb hby at_308) (by decide) (by decide) kt) ?_
      show F T (mkF m 312 #[.val (.int i0), .val (.int i1), .val (.int i2), .val (.int i3), .val (.int i4), .val (.int f), .val (.ref b), .val (.int (Int32.ofNat n)), .val (.ref x), .val (.int 1), .val (.int b10)] [(.int (1 : Int32)), (.int r)])
      exact J 1 (hr1.elim (fun z => z.1.symm) (fun z => absurd (Or.inl p9) z.2))
    ·
      show F T (mkF m 299 #[.val (.int i0), .val (.int i1), .val (.int i2), .val (.int i3), .val (.int i4), .val (.int f), .val (.ref b), .val (.int (Int32.ofNat n)), .val (.ref x), .val (.int 0), .val (.int b10)] [(.int 0), (.int r)])
      refine B (fun t kt => XS.ifNo S.here S.hx rfl (hb hby at_299) rfl (i0_ne_f rfl) kt) ?_
      show F T (mkF m 302 #[.val (.int i0), .val (.int i1), .val (.int i2), .val (.int i3), .val (.int i4), .val (.int f), .val (.ref b), .val (.int (Int32.ofNat n)), .val (.ref x), .val (.int 0), .val (.int b10)] [(.int r)])
      refine B (fun t kt => XS.iload S.here S.hx rfl (hb hby at_302) rfl kt) ?_
      show F T (mkF m 304 #[.val (.int i0), .val (.int i1), .val (.int i2), .val (.int i3), .val (.int i4), .val (.int f), .val (.ref b), .val (.int (Int32.ofNat n)), .val (.ref x), .val (.int 0), .val (.int b10)] [(.int b10), (.int r)])
      rcases hb10 with ⟨rfl, p10⟩ | ⟨rfl, p10⟩
      ·
        show F T (mkF m 304 #[.val (.int i0), .val (.int i1), .val (.int i2), .val (.int i3), .val (.int i4), .val (.int f), .val (.ref b), .val (.int (Int32.ofNat n)), .val (.ref x), .val (.int 0), .val (.int 1)] [(.int 1), (.int r)])
        refine B (fun t kt => XS.ifNo S.here S.hx rfl (hb hby at_304) rfl (i0_eq_f (by decide)) kt) ?_
        show F T (mkF m 307 #[.val (.int i0), .val (.int i1), .val (.int i2), .val (.int i3), .val (.int i4), .val (.int f), .val (.ref b), .val (.int (Int32.ofNat n)), .val (.ref x), .val (.int 0), .val (.int 1)] [(.int r)])
        refine B (fun t kt => XS.iconst S.here S.hx rfl (hb hby at_307) kt) ?_
        show F T (mkF m 308 #[.val (.int i0), .val (.int i1), .val (.int i2), .val (.int i3), .val (.int i4), .val (.int f), .val (.ref b), .val (.int (Int32.ofNat n)), .val (.ref x), .val (.int 0), .val (.int 1)] [(.int (1 : Int32)), (.int r)])
        refine B (fun t kt => XS.goto S.here S.hx rfl (pc0 := 308) (pc' := 312) rfl (hb hby at_308) (by decide) (by decide) kt) ?_
        show F T (mkF m 312 #[.val (.int i0), .val (.int i1), .val (.int i2), .val (.int i3), .val (.int i4), .val (.int f), .val (.ref b), .val (.int (Int32.ofNat n)), .val (.ref x), .val (.int 0), .val (.int 1)] [(.int (1 : Int32)), (.int r)])
        exact J 1 (hr1.elim (fun z => z.1.symm) (fun z => absurd (Or.inr p10) z.2))
      ·
        show F T (mkF m 304 #[.val (.int i0), .val (.int i1), .val (.int i2), .val (.int i3), .val (.int i4), .val (.int f), .val (.ref b), .val (.int (Int32.ofNat n)), .val (.ref x), .val (.int 0), .val (.int 0)] [(.int 0), (.int r)])
        refine B (fun t kt => XS.ifYes S.here S.hx rfl (pc0 := 304) (pc' := 311) rfl (hb hby at_304) rfl (i0_eq_t rfl) (by decide) (by decide) kt) ?_
        show F T (mkF m 311 #[.val (.int i0), .val (.int i1), .val (.int i2), .val (.int i3), .val (.int i4), .val (.int f), .val (.ref b), .val (.int (Int32.ofNat n)), .val (.ref x), .val (.int 0), .val (.int 0)] [(.int r)])
        refine B (fun t kt => XS.iconst S.here S.hx rfl (hb hby at_311) kt) ?_
        show F T (mkF m 312 #[.val (.int i0), .val (.int i1), .val (.int i2), .val (.int i3), .val (.int i4), .val (.int f), .val (.ref b), .val (.int (Int32.ofNat n)), .val (.ref x), .val (.int 0), .val (.int 0)] [(.int (0 : Int32)), (.int r)])
        exact J 0 (hr1.elim (fun z => absurd z.2 (fun o => o.elim p9 p10)) (fun z => z.1.symm))
  rintro q rfl
  skip
  show F T (mkF m 312 #[.val (.int i0), .val (.int i1), .val (.int i2), .val (.int i3), .val (.int i4), .val (.int f), .val (.ref b), .val (.int (Int32.ofNat n)), .val (.ref x), .val (.int b9), .val (.int b10)] [(.int q), (.int q)])
  refine B (fun t kt => XS.icmpNo S.here S.hx rfl (hb hby at_312) rfl (ii_ne_f rfl) kt) ?_
  show F T (mkF m 315 #[.val (.int i0), .val (.int i1), .val (.int i2), .val (.int i3), .val (.int i4), .val (.int f), .val (.ref b), .val (.int (Int32.ofNat n)), .val (.ref x), .val (.int b9), .val (.int b10)] [])
  refine B (fun t kt => XS.iconst S.here S.hx rfl (hb hby at_315) kt) ?_
  show F T (mkF m 316 #[.val (.int i0), .val (.int i1), .val (.int i2), .val (.int i3), .val (.int i4), .val (.int f), .val (.ref b), .val (.int (Int32.ofNat n)), .val (.ref x), .val (.int b9), .val (.int b10)] [(.int (1 : Int32))])
  refine B (fun t kt => XS.goto S.here S.hx rfl (pc0 := 316) (pc' := 320) rfl (hb hby at_316) (by decide) (by decide) kt) ?_
  show F T (mkF m 320 #[.val (.int i0), .val (.int i1), .val (.int i2), .val (.int i3), .val (.int i4), .val (.int f), .val (.ref b), .val (.int (Int32.ofNat n)), .val (.ref x), .val (.int b9), .val (.int b10)] [(.int (1 : Int32))])
  exact hF ((S.mono (by decide) (by decide)).retI hr hlk (by simp) (by decide) (hb hby at_320) (nw := []) rfl (by simp))
set_option maxRecDepth 65536 in
set_option maxHeartbeats 40000000 in
theorem comes_1 {Post : Tables → Env → Array Value → State → Outcome → State → Prop} (hpost : ∀ tb e args s v u, (limb_1_1.after args s (.returned v) u = true ∧ limb_1_2.after args s (.returned v) u = true ∧ True) → Jvm.Pilot.@@N@@.Jvm.D.FramedW s (.returned v) u (Jvm.fieldLocs frame_1_writes args s ++ Jvm.arrayLocs frame_1_arrays args s ++ Jvm.staticLocs frame_1_statics s) 24 3264 → Post tb e args s (.returned v) u) :
    ArmFor flags0 classFile x code maxLocals ret World_1 tables_1 room_1 Calls_1 rest_1 Pre_1 Post := by
  intro l hfl _ _ p e ha hc hk s m args below hf hA hF happ hP
  obtain ⟨hcalls, hrest, hpre⟩ := hP
  obtain ⟨g1, g2, g3, hnamed, g5, g6, g7, hat⟩ := (Spec.applies_iff hf).mp happ
  obtain ⟨hg, hn⟩ := and_e (Cond.before_iff.mp (show (Jvm.Cond.and given_1 narrow_1).before args s = true from hpre))
  obtain ⟨q0, hg⟩ := and_e hg
  obtain ⟨k0, hg⟩ := and_e hg
  obtain ⟨k1, hg⟩ := and_e hg
  obtain ⟨k2, hg⟩ := and_e hg
  obtain ⟨k3, hg⟩ := and_e hg
  have k4 := hg
  obtain ⟨w0, w1, w2, w3, w4, rfl⟩ : ∃ w0 w1 w2 w3 w4 : Value, args = #[w0, w1, w2, w3, w4] := by
    have hs : args.size = 5 := by simpa [Cond.value, given_1] using q0
    obtain ⟨L⟩ := args
    match L, hs with
    | [w0, w1, w2, w3, w4], _ => exact ⟨w0, w1, w2, w3, w4, rfl⟩
  have hw := fun d (hd : d ∈ tables_1) => atoms_spec (ws := Jvm.Cond.code x code maxLocals ret :: tables_1) hat d (List.mem_cons_of_mem _ hd)
  obtain ⟨hsets, hown0⟩ := atoms_of _ (rest_1_c_eq ▸ (show rest_1_c.before _ s = true from hrest))
  obtain ⟨i0, e0⟩ := is_v k0
  obtain rfl : w0 = (.int i0) := Option.some.inj e0
  obtain ⟨i1, e1⟩ := is_v k1
  obtain rfl : w1 = (.int i1) := Option.some.inj e1
  obtain ⟨i2, e2⟩ := is_v k2
  obtain rfl : w2 = (.int i2) := Option.some.inj e2
  obtain ⟨i3, e3⟩ := is_v k3
  obtain rfl : w3 = (.int i3) := Option.some.inj e3
  obtain ⟨i4, e4⟩ := is_v k4
  obtain rfl : w4 = (.int i4) := Option.some.inj e4
  have n5 := not_v (Cond.before_iff.mp (hsets _ (List.mem_of_getElem? (i := 2) rfl)))
  obtain ⟨zc, ez⟩ := is_v (Cond.before_iff.mp (hsets _ (List.mem_of_getElem? (i := 1) rfl)))
  have CS : Sta s s.heap "java/lang/String" "COMPACT_STRINGS" "Z" (.int zc) := Sta.start ez (Or.inl (hsets _ (List.mem_of_getElem? (i := 0) rfl)))
  have hzc : ¬ zc = (0 : Int32) := gotF (Cond.eq_ints ez (Term.int_eval (0))) n5
  have AD : Sta s s.heap "java/lang/StringUTF16" "$assertionsDisabled" "Z" (.int 1) := Sta.start (Cond.eq_int (hsets _ (List.mem_of_getElem? (i := 12) rfl)) rfl) (Or.inl (hsets _ (List.mem_of_getElem? (i := 11) rfl)))
  have HI : Sta s s.heap "java/lang/StringUTF16" "HI_BYTE_SHIFT" "I" (.int 0) := Sta.start (Cond.eq_int (hsets _ (List.mem_of_getElem? (i := 15) rfl)) rfl) (Or.inl (hsets _ (List.mem_of_getElem? (i := 14) rfl)))
  have LO : Sta s s.heap "java/lang/StringUTF16" "LO_BYTE_SHIFT" "I" (.int 8) := Sta.start (Cond.eq_int (hsets _ (List.mem_of_getElem? (i := 18) rfl)) rfl) (Or.inl (hsets _ (List.mem_of_getElem? (i := 17) rfl)))
  have hheld : ∀ q ∈ consts_1, Jvm.Lit.constHeld s q.1 q.2 := hcalls.1
  have hEW : EW s #[.int i0, .int i1, .int i2, .int i3, .int i4] consts_1 := EW.cons (hw _ (List.mem_of_getElem? (i := 39) rfl)) (by decide) ( EW.cons (hw _ (List.mem_of_getElem? (i := 52) rfl)) (by decide) ( EW.cons (hw _ (List.mem_of_getElem? (i := 72) rfl)) (by decide) (EW.nil)))
  have hC : CHv s consts_1 s.vm s.heap := CHv.start hEW hheld (hsets _ (List.mem_of_getElem? (i := 2) rfl)) (hw _ (List.mem_of_getElem? (i := 24) rfl)) (hw _ (List.mem_of_getElem? (i := 7) rfl))
  obtain ⟨n, o, h1, h2, h3, _, L, nw, rfl, rfl, -, N, -, -, hq⟩ := own_law l s _ hw hEW zc CS hzc AD HI LO i0 i1 i2 i3 i4 p e ha hc hk s m _ below hf ((Spec.appliesLoose_iff hf).mpr ⟨g1, g2, g3, hnamed, g5, (by rw [State.ripe_iff, Bool.and_eq_true] at g6; exact g6.1), g7, (by
    show (Jvm.Cond.and _ .tt).before _ s = true
    rw [Cond.before_and, Bool.and_eq_true]
    exact ⟨atoms_spec (ws := Jvm.Cond.code x code maxLocals ret :: tables_1) hat _ (List.mem_cons_self ..), rfl⟩)⟩) ⟨rfl, State.Warmed39.refl s, rfl, hC, ⟨Nat.le_refl _, fun _ _ q => q⟩, fun _ q => nomatch q⟩ trivial
  refine ⟨n, _, h1, h2, h3, hpost _ _ _ _ _ _ ⟨Cond.after_iff.mpr rfl, Cond.after_iff.mpr (eq_i res_at (Term.int_eval (1)) rfl), trivial⟩ ⟨hq.1, hq.2.1, hq.2.2.1, (hq.2.2.2.sift fun y hy => Or.inr (N y hy)).mono (by decide) (by decide)⟩⟩
theorem main_1_1 : Claimed_1_1 := comes_1 fun _ _ _ _ _ _ h hF => ⟨h.1, hF⟩
theorem main_1_2 : Claimed_1_2 := comes_1 fun _ _ _ _ _ _ h hF => ⟨h.2.1, hF⟩
end Jvm.Pilot.@@N@@
namespace Jvm.Pilot.@@N@@
open Jvm Jvm.ClassFile Sem Op Lib Jvm.Free Jvm.Stand Jvm.Pilot.@@N@@.Jvm.D
/-! MADE BY PROGRAM (witnessworld.py) out of the Statement's table words and the real class files: 20 classes; the members and pool entries that the words name. The judged class is class 1, her method 1. -/
namespace start1
open Jvm.ClassFile
def u (s : String) : CpInfo := .utf8 (stringToUtf16 s)
/-- a pool by its gaps: so many unusable entries, then the entry; so many at the end -/
def gap : Nat → List CpInfo → List CpInfo
  | 0, r => r
  | n + 1, r => .unusable :: gap n r
def poolList (es : List (Nat × CpInfo)) (last : Nat) : List CpInfo := es.foldr (fun e r => gap e.1 (e.2 :: r)) (gap last [])
def pool (es : List (Nat × CpInfo)) (last : Nat) : Array CpInfo := ⟨poolList es last⟩
def fileOf (pool : Array CpInfo) (this : Nat) (attrs : Array Attribute := #[]) (ms : Array MethodInfo := #[]) (fl : Nat := 33) (sup : Nat := 0) (ifs : Array Nat := #[]) (fds : Array FieldInfo := #[]) : ClassFile where
  minorVersion := 0
  majorVersion := 65
  constantPool := pool
  accessFlags := fl
  thisClass := this
  superClass := sup
  interfaces := ifs
  fields := fds
  methods := ms
  attributes := attrs
def plain (name : String) (sup : Option ClassId) : Class where
  name := name
  kind := .ordinary
  loader := none
  accessFlags := 33
  super := sup
  interfaces := #[]
  cf := none
  fields := #[]
  methods := #[]
  instanceTypes := #[]
  staticTypes := #[]
  resolved := #[]
  callSites := []
  init := .initialized
  statics := none
  mirror := none

def pool0 : Array CpInfo := pool [(5, u "<init>"), (0, u "()V"), (1, .class_ 10), (1, u "java/lang/Object")] 113

def k0c0 : Code := { maxStack := 0, maxLocals := 1, code := object_method_1_code, exceptionTable := #[], attributes := #[] }
def k0m0 : Method := { name := "<init>", desc := "()V", sig := { parameters := [], returnType := none }, accessFlags := 1, code := some k0c0 }
/-- java/lang/Object -/
def k0 : Class := { plain "java/lang/Object" none with
  accessFlags := 33
  interfaces := #[]
  cf := some (fileOf pool0 8 #[] #[{ accessFlags := 1, nameIndex := 5, descriptorIndex := 6, attributes := #[] }] 33 0 #[] #[])
  fields := #[]
  methods := #[k0m0]
  instanceTypes := #[]
  staticTypes := #[]
  resolved := Array.replicate 124 none
  statics := none }

def pool1 : Array CpInfo := pool [(2, .class_ 4), (1, u "java/lang/Object"), (0, u "<init>"), (0, u "()V"), (0, .integer 2147483647), (0, .methodref 9 10), (0, .class_ 11), (0, .nameAndType 12 13), (0, u "com/example/keywright/keywright/store/TokensReadsPinLaw"), (0, u "make"), (0, u "([CI)Ljava/lang/String;"), (0, .methodref 15 16), (0, .class_ 17), (0, .nameAndType 18 19), (0, u "com/example/keywright/keywright/store/Tokens"), (0, u "reads"), (0, u "(Ljava/lang/String;)Z"), (0, .class_ 21), (0, u "java/lang/String"), (0, .methodref 20 23), (0, .nameAndType 5 24), (0, u "([C)V"), (2, u "law"), (0, u "(IIIII)Z")] 5

def k1m0 : Method := { name := "<init>", desc := "()V", sig := { parameters := [], returnType := none }, accessFlags := 2, code := none }
def k1c1 : Code := { maxStack := 3, maxLocals := 11, code := code, exceptionTable := #[], attributes := #[] }
def k1m1 : Method := { name := "law", desc := "(IIIII)Z", sig := { parameters := [.int, .int, .int, .int, .int], returnType := some .boolean }, accessFlags := 9, code := some k1c1 }
def k1c2 : Code := { maxStack := 7, maxLocals := 2, code := method_3_code, exceptionTable := #[], attributes := #[] }
def k1m2 : Method := { name := "make", desc := "([CI)Ljava/lang/String;", sig := { parameters := [(.array .char), .int], returnType := some (.object "java/lang/String") }, accessFlags := 10, code := some k1c2 }
/-- com/example/keywright/keywright/store/TokensReadsPinLaw -/
def k1 : Class := { plain "com/example/keywright/keywright/store/TokensReadsPinLaw" (some 0) with
  accessFlags := 49
  interfaces := #[]
  cf := some (fileOf pool1 9 #[] #[{ accessFlags := 2, nameIndex := 5, descriptorIndex := 6, attributes := #[] }, { accessFlags := 9, nameIndex := 27, descriptorIndex := 28, attributes := #[] }, { accessFlags := 10, nameIndex := 12, descriptorIndex := 13, attributes := #[] }] 49 2 #[] #[])
  fields := #[]
  methods := #[k1m0, k1m1, k1m2]
  instanceTypes := #[]
  staticTypes := #[]
  resolved := Array.replicate 34 none
  statics := none }

def pool2 : Array CpInfo := pool [(1, .class_ 2), (0, u "java/io/Serializable"), (0, .class_ 4), (0, u "java/lang/Object")] 2

/-- java/io/Serializable -/
def k2 : Class := { plain "java/io/Serializable" (some 0) with
  accessFlags := 1537
  interfaces := #[]
  cf := some (fileOf pool2 1 #[] #[] 1537 3 #[] #[])
  fields := #[]
  methods := #[]
  instanceTypes := #[]
  staticTypes := #[]
  resolved := Array.replicate 7 none
  statics := none }

def pool3 : Array CpInfo := pool [(1, .class_ 2), (0, u "java/lang/Comparable"), (0, .class_ 4), (0, u "java/lang/Object")] 7

/-- java/lang/Comparable -/
def k3 : Class := { plain "java/lang/Comparable" (some 0) with
  accessFlags := 1537
  interfaces := #[]
  cf := some (fileOf pool3 1 #[] #[] 1537 3 #[] #[])
  fields := #[]
  methods := #[]
  instanceTypes := #[]
  staticTypes := #[]
  resolved := Array.replicate 12 none
  statics := none }

def pool4 : Array CpInfo := pool [(2, .class_ 4), (1, u "java/lang/CharSequence"), (42, .class_ 48), (0, u "java/lang/CharSequence$1CodePointIterator"), (10, .class_ 60), (0, u "java/lang/CharSequence$1CharIterator"), (5, .class_ 67), (0, u "java/lang/Object")] 63

/-- java/lang/CharSequence -/
def k4 : Class := { plain "java/lang/CharSequence" (some 0) with
  accessFlags := 1537
  interfaces := #[]
  cf := some (fileOf pool4 2 #[.nestMembers #[47, 59]] #[] 1537 66 #[] #[])
  fields := #[]
  methods := #[]
  instanceTypes := #[]
  staticTypes := #[]
  resolved := Array.replicate 131 none
  statics := none }

def pool5 : Array CpInfo := pool [(1, .class_ 2), (0, u "java/lang/constant/Constable"), (0, .class_ 4), (0, u "java/lang/Object")] 6

/-- java/lang/constant/Constable -/
def k5 : Class := { plain "java/lang/constant/Constable" (some 0) with
  accessFlags := 1537
  interfaces := #[]
  cf := some (fileOf pool5 1 #[] #[] 1537 3 #[] #[])
  fields := #[]
  methods := #[]
  instanceTypes := #[]
  staticTypes := #[]
  resolved := Array.replicate 11 none
  statics := none }

def pool6 : Array CpInfo := pool [(1, .class_ 2), (0, u "java/lang/constant/ConstantDesc"), (0, .class_ 4), (0, u "java/lang/Object")] 32

/-- java/lang/constant/ConstantDesc -/
def k6 : Class := { plain "java/lang/constant/ConstantDesc" (some 0) with
  accessFlags := 1537
  interfaces := #[]
  cf := some (fileOf pool6 1 #[] #[] 1537 3 #[] #[])
  fields := #[]
  methods := #[]
  instanceTypes := #[]
  staticTypes := #[]
  resolved := Array.replicate 37 none
  statics := none }

def pool7 : Array CpInfo := pool [(1, .methodref 2 3), (0, .class_ 4), (0, .nameAndType 5 6), (0, u "java/lang/Object"), (0, u "<init>"), (0, u "()V"), (0, .string 8), (0, u ""), (0, .fieldref 10 11), (0, .class_ 12), (0, .nameAndType 13 14), (0, u "java/lang/String"), (0, u "value"), (0, u "[B"), (0, .fieldref 10 16), (0, .nameAndType 17 18), (0, u "coder"), (0, u "B"), (2, u "hash"), (0, u "I"), (2, u "hashIsZero"), (0, u "Z"), (0, .methodref 10 28), (0, .nameAndType 5 29), (0, u "([CIILjava/lang/Void;)V"), (8, .fieldref 10 39), (0, .nameAndType 40 26), (0, u "COMPACT_STRINGS"), (1, .class_ 44), (1, u "java/lang/StringUTF16"), (0, u "compress"), (1, .methodref 42 48), (0, .nameAndType 49 50), (0, u "coderFromArrayLen"), (0, u "([BI)B"), (56, .class_ 109), (1, u "java/lang/StringLatin1"), (67, .methodref 42 178), (0, .nameAndType 45 179), (0, u "([CII)[B"), (361, .methodref 107 542), (0, .nameAndType 543 544), (0, u "equals"), (0, u "([B[B)Z"), (28, u "(Ljava/lang/Object;)Z"), (1, .class_ 576), (0, u "java/lang/CharSequence"), (22, u "CASE_INSENSITIVE_ORDER"), (0, u "Ljava/util/Comparator;"), (409, u "([C)V"), (90, u "serialPersistentFields"), (0, u "[Ljava/io/ObjectStreamField;"), (0, .class_ 1104), (0, u "java/lang/String$CaseInsensitiveComparator"), (1, .class_ 1107), (0, u "java/io/Serializable"), (0, .class_ 1109), (0, u "java/lang/Comparable"), (0, .class_ 1111), (0, u "java/lang/constant/Constable"), (0, .class_ 1113), (0, u "java/lang/constant/ConstantDesc"), (2, u "serialVersionUID"), (0, u "J"), (3, u "REPL"), (0, u "C"), (2, u "LATIN1"), (1, u "UTF16")] 323

def k7m0 : Method := { name := "<init>", desc := "()V", sig := { parameters := [], returnType := none }, accessFlags := 1, code := none }
def k7c1 : Code := { maxStack := 5, maxLocals := 2, code := jdk_42_method_3_code, exceptionTable := #[], attributes := #[] }
def k7m1 : Method := { name := "<init>", desc := "([C)V", sig := { parameters := [(.array .char)], returnType := none }, accessFlags := 1, code := some k7c1 }
def k7c2 : Code := { maxStack := 2, maxLocals := 3, code := jdk_42_method_66_code, exceptionTable := #[], attributes := #[] }
def k7m2 : Method := { name := "equals", desc := "(Ljava/lang/Object;)Z", sig := { parameters := [(.object "java/lang/Object")], returnType := some .boolean }, accessFlags := 1, code := some k7c2 }
def k7c3 : Code := { maxStack := 4, maxLocals := 6, code := jdk_42_method_149_code, exceptionTable := #[], attributes := #[] }
def k7m3 : Method := { name := "<init>", desc := "([CIILjava/lang/Void;)V", sig := { parameters := [(.array .char), .int, .int, (.object "java/lang/Void")], returnType := none }, accessFlags := 2, code := some k7c3 }
/-- java/lang/String -/
def k7 : Class := { plain "java/lang/String" (some 0) with
  accessFlags := 49
  interfaces := #[2, 3, 4, 5, 6]
  cf := some (fileOf pool7 10 #[.nestMembers #[1103]] #[{ accessFlags := 1, nameIndex := 5, descriptorIndex := 6, attributes := #[] }, { accessFlags := 1, nameIndex := 5, descriptorIndex := 1010, attributes := #[] }, { accessFlags := 1, nameIndex := 543, descriptorIndex := 573, attributes := #[] }, { accessFlags := 2, nameIndex := 5, descriptorIndex := 29, attributes := #[] }] 49 2 #[1106, 1108, 575, 1110, 1112] #[{ accessFlags := 18, nameIndex := 13, descriptorIndex := 14, attributes := #[] }, { accessFlags := 18, nameIndex := 17, descriptorIndex := 18, attributes := #[] }, { accessFlags := 2, nameIndex := 21, descriptorIndex := 22, attributes := #[] }, { accessFlags := 2, nameIndex := 25, descriptorIndex := 26, attributes := #[] }, { accessFlags := 26, nameIndex := 1116, descriptorIndex := 1117, attributes := #[] }, { accessFlags := 24, nameIndex := 40, descriptorIndex := 26, attributes := #[] }, { accessFlags := 26, nameIndex := 1101, descriptorIndex := 1102, attributes := #[] }, { accessFlags := 26, nameIndex := 1121, descriptorIndex := 1122, attributes := #[] }, { accessFlags := 25, nameIndex := 599, descriptorIndex := 600, attributes := #[] }, { accessFlags := 24, nameIndex := 1125, descriptorIndex := 18, attributes := #[] }, { accessFlags := 24, nameIndex := 1127, descriptorIndex := 18, attributes := #[] }])
  fields := #[{ name := "value", type := (.array .byte), accessFlags := 18, slot := 0, constantValue := 0 }, { name := "coder", type := .byte, accessFlags := 18, slot := 1, constantValue := 0 }, { name := "hash", type := .int, accessFlags := 2, slot := 2, constantValue := 0 }, { name := "hashIsZero", type := .boolean, accessFlags := 2, slot := 3, constantValue := 0 }, { name := "serialVersionUID", type := .long, accessFlags := 26, slot := 0, constantValue := 0 }, { name := "COMPACT_STRINGS", type := .boolean, accessFlags := 24, slot := 1, constantValue := 0 }, { name := "serialPersistentFields", type := (.array (.object "java/io/ObjectStreamField")), accessFlags := 26, slot := 2, constantValue := 0 }, { name := "REPL", type := .char, accessFlags := 26, slot := 3, constantValue := 0 }, { name := "CASE_INSENSITIVE_ORDER", type := (.object "java/util/Comparator"), accessFlags := 25, slot := 4, constantValue := 0 }, { name := "LATIN1", type := .byte, accessFlags := 24, slot := 5, constantValue := 0 }, { name := "UTF16", type := .byte, accessFlags := 24, slot := 6, constantValue := 0 }]
  methods := #[k7m0, k7m1, k7m2, k7m3]
  instanceTypes := #[(.array .byte), .byte, .int, .boolean]
  staticTypes := #[.long, .boolean, (.array (.object "java/io/ObjectStreamField")), .char, (.object "java/util/Comparator"), .byte, .byte]
  resolved := Array.replicate 1451 none
  statics := some 0 }

def pool8 : Array CpInfo := pool [(6, .class_ 8), (1, u "java/lang/Object"), (0, u "<init>"), (0, u "()V"), (0, .methodref 12 13), (0, .class_ 14), (0, .nameAndType 15 16), (0, u "java/lang/StringUTF16"), (0, u "newBytesLength"), (0, u "(I)I"), (3, .integer 1073741823), (23, .fieldref 12 45), (0, .nameAndType 46 47), (0, u "$assertionsDisabled"), (0, u "Z"), (11, .fieldref 12 60), (0, .nameAndType 61 62), (0, u "HI_BYTE_SHIFT"), (0, u "I"), (0, .fieldref 12 64), (0, .nameAndType 65 62), (0, u "LO_BYTE_SHIFT"), (5, .methodref 12 72), (0, .nameAndType 73 74), (0, u "getChar"), (0, u "([BI)C"), (32, .methodref 12 108), (0, .nameAndType 109 110), (0, u "newBytesFor"), (0, u "(I)[B"), (0, .methodref 12 112), (0, .nameAndType 113 114), (0, u "putChar"), (0, u "([BII)V"), (0, .methodref 12 116), (0, .nameAndType 117 118), (0, u "compress"), (0, u "([CI[BII)I"), (0, .methodref 12 120), (0, .nameAndType 121 122), (0, u "toBytes"), (0, u "([CII)[B"), (138, u "coderFromArrayLen"), (0, u "([BI)B"), (106, .class_ 371), (1, u "java/lang/StringUTF16$LinesSpliterator"), (58, u "MAX_LENGTH"), (196, .class_ 628), (0, u "java/lang/StringUTF16$CodePointsSpliterator"), (0, .class_ 630), (0, u "java/lang/StringUTF16$CharsSpliterator")] 4

def k8m0 : Method := { name := "<init>", desc := "()V", sig := { parameters := [], returnType := none }, accessFlags := 0, code := none }
def k8c1 : Code := { maxStack := 1, maxLocals := 1, code := jdk_52_method_2_code, exceptionTable := #[], attributes := #[] }
def k8m1 : Method := { name := "newBytesFor", desc := "(I)[B", sig := { parameters := [.int], returnType := some (.array .byte) }, accessFlags := 9, code := some k8c1 }
def k8c2 : Code := { maxStack := 4, maxLocals := 1, code := jdk_52_method_3_code, exceptionTable := #[], attributes := #[] }
def k8m2 : Method := { name := "newBytesLength", desc := "(I)I", sig := { parameters := [.int], returnType := some .int }, accessFlags := 9, code := some k8c2 }
def k8c3 : Code := { maxStack := 4, maxLocals := 3, code := jdk_52_method_4_code, exceptionTable := #[], attributes := #[] }
def k8m3 : Method := { name := "putChar", desc := "([BII)V", sig := { parameters := [(.array .byte), .int, .int], returnType := none }, accessFlags := 8, code := some k8c3 }
def k8c4 : Code := { maxStack := 3, maxLocals := 2, code := jdk_52_method_5_code, exceptionTable := #[], attributes := #[] }
def k8m4 : Method := { name := "getChar", desc := "([BI)C", sig := { parameters := [(.array .byte), .int], returnType := some .char }, accessFlags := 8, code := some k8c4 }
def k8c5 : Code := { maxStack := 4, maxLocals := 5, code := jdk_52_method_14_code, exceptionTable := #[], attributes := #[] }
def k8m5 : Method := { name := "toBytes", desc := "([CII)[B", sig := { parameters := [(.array .char), .int, .int], returnType := some (.array .byte) }, accessFlags := 9, code := some k8c5 }
def k8c6 : Code := { maxStack := 2, maxLocals := 2, code := jdk_52_method_15_code, exceptionTable := #[], attributes := #[] }
def k8m6 : Method := { name := "coderFromArrayLen", desc := "([BI)B", sig := { parameters := [(.array .byte), .int], returnType := some .byte }, accessFlags := 8, code := some k8c6 }
def k8c7 : Code := { maxStack := 5, maxLocals := 6, code := jdk_52_method_16_code, exceptionTable := #[], attributes := #[] }
def k8m7 : Method := { name := "compress", desc := "([CII)[B", sig := { parameters := [(.array .char), .int, .int], returnType := some (.array .byte) }, accessFlags := 9, code := some k8c7 }
def k8c8 : Code := { maxStack := 3, maxLocals := 7, code := jdk_52_method_21_code, exceptionTable := #[], attributes := #[] }
def k8m8 : Method := { name := "compress", desc := "([CI[BII)I", sig := { parameters := [(.array .char), .int, (.array .byte), .int, .int], returnType := some .int }, accessFlags := 9, code := some k8c8 }
/-- java/lang/StringUTF16 -/
def k8 : Class := { plain "java/lang/StringUTF16" (some 0) with
  accessFlags := 48
  interfaces := #[]
  cf := some (fileOf pool8 12 #[.nestMembers #[627, 629, 369]] #[{ accessFlags := 0, nameIndex := 9, descriptorIndex := 10, attributes := #[] }, { accessFlags := 9, nameIndex := 109, descriptorIndex := 110, attributes := #[] }, { accessFlags := 9, nameIndex := 15, descriptorIndex := 16, attributes := #[] }, { accessFlags := 8, nameIndex := 113, descriptorIndex := 114, attributes := #[] }, { accessFlags := 8, nameIndex := 73, descriptorIndex := 74, attributes := #[] }, { accessFlags := 9, nameIndex := 121, descriptorIndex := 122, attributes := #[] }, { accessFlags := 8, nameIndex := 261, descriptorIndex := 262, attributes := #[] }, { accessFlags := 9, nameIndex := 117, descriptorIndex := 122, attributes := #[] }, { accessFlags := 9, nameIndex := 117, descriptorIndex := 118, attributes := #[] }] 48 6 #[] #[{ accessFlags := 26, nameIndex := 61, descriptorIndex := 62, attributes := #[] }, { accessFlags := 26, nameIndex := 65, descriptorIndex := 62, attributes := #[] }, { accessFlags := 24, nameIndex := 430, descriptorIndex := 62, attributes := #[] }, { accessFlags := 4120, nameIndex := 46, descriptorIndex := 47, attributes := #[] }])
  fields := #[{ name := "HI_BYTE_SHIFT", type := .int, accessFlags := 26, slot := 0, constantValue := 0 }, { name := "LO_BYTE_SHIFT", type := .int, accessFlags := 26, slot := 1, constantValue := 0 }, { name := "MAX_LENGTH", type := .int, accessFlags := 24, slot := 2, constantValue := 0 }, { name := "$assertionsDisabled", type := .boolean, accessFlags := 4120, slot := 3, constantValue := 0 }]
  methods := #[k8m0, k8m1, k8m2, k8m3, k8m4, k8m5, k8m6, k8m7, k8m8]
  instanceTypes := #[]
  staticTypes := #[.int, .int, .int, .boolean]
  resolved := Array.replicate 635 none
  statics := some 1 }

def pool9 : Array CpInfo := pool [(2, .class_ 4), (1, u "java/lang/Object"), (0, u "<init>"), (0, u "()V"), (4, .class_ 13), (1, u "com/example/keywright/keywright/store/Tokens"), (0, u "keys"), (0, u "Ljava/util/Map;"), (0, .string 17), (0, u "token"), (0, .methodref 19 20), (0, .class_ 21), (0, .nameAndType 22 23), (0, u "java/lang/String"), (0, u "equals"), (0, u "(Ljava/lang/Object;)Z"), (0, .string 25), (0, u "counter"), (260, u "TOKEN"), (0, u "Ljava/lang/String;"), (1, u "COUNTER"), (0, u "USAGE_SEPARATOR"), (0, u "OLDER_TOKEN_FIELDS"), (0, u "I"), (1, u "TOKEN_FIELDS"), (5, u "reads"), (0, u "(Ljava/lang/String;)Z")] 72

def k9m0 : Method := { name := "<init>", desc := "()V", sig := { parameters := [], returnType := none }, accessFlags := 0, code := none }
def k9c1 : Code := { maxStack := 2, maxLocals := 1, code := prog_17_method_2_code, exceptionTable := #[], attributes := #[] }
def k9m1 : Method := { name := "reads", desc := "(Ljava/lang/String;)Z", sig := { parameters := [(.object "java/lang/String")], returnType := some .boolean }, accessFlags := 8, code := some k9c1 }
/-- com/example/keywright/keywright/store/Tokens -/
def k9 : Class := { plain "com/example/keywright/keywright/store/Tokens" (some 0) with
  accessFlags := 48
  interfaces := #[]
  cf := some (fileOf pool9 11 #[] #[{ accessFlags := 0, nameIndex := 5, descriptorIndex := 6, attributes := #[] }, { accessFlags := 8, nameIndex := 300, descriptorIndex := 301, attributes := #[] }] 48 2 #[] #[{ accessFlags := 24, nameIndex := 286, descriptorIndex := 287, attributes := #[] }, { accessFlags := 24, nameIndex := 289, descriptorIndex := 287, attributes := #[] }, { accessFlags := 26, nameIndex := 290, descriptorIndex := 287, attributes := #[] }, { accessFlags := 26, nameIndex := 291, descriptorIndex := 292, attributes := #[] }, { accessFlags := 26, nameIndex := 294, descriptorIndex := 292, attributes := #[] }, { accessFlags := 18, nameIndex := 14, descriptorIndex := 15, attributes := #[] }])
  fields := #[{ name := "TOKEN", type := (.object "java/lang/String"), accessFlags := 24, slot := 0, constantValue := 0 }, { name := "COUNTER", type := (.object "java/lang/String"), accessFlags := 24, slot := 1, constantValue := 0 }, { name := "USAGE_SEPARATOR", type := (.object "java/lang/String"), accessFlags := 26, slot := 2, constantValue := 0 }, { name := "OLDER_TOKEN_FIELDS", type := .int, accessFlags := 26, slot := 3, constantValue := 0 }, { name := "TOKEN_FIELDS", type := .int, accessFlags := 26, slot := 4, constantValue := 0 }, { name := "keys", type := (.object "java/util/Map"), accessFlags := 18, slot := 0, constantValue := 0 }]
  methods := #[k9m0, k9m1]
  instanceTypes := #[(.object "java/util/Map")]
  staticTypes := #[(.object "java/lang/String"), (.object "java/lang/String"), (.object "java/lang/String"), .int, .int]
  resolved := Array.replicate 374 none
  statics := none }

def pool10 : Array CpInfo := pool [(4, .class_ 6), (1, u "java/lang/Object"), (0, u "<init>"), (0, u "()V"), (5, .class_ 16), (1, u "java/lang/StringLatin1"), (104, u "$assertionsDisabled"), (0, u "Z"), (98, .class_ 223), (1, u "java/lang/StringLatin1$LinesSpliterator"), (57, u "equals"), (0, u "([B[B)Z"), (107, .class_ 391), (0, u "java/lang/StringLatin1$CharsSpliterator")] 3

def k10m0 : Method := { name := "<init>", desc := "()V", sig := { parameters := [], returnType := none }, accessFlags := 0, code := none }
def k10c1 : Code := { maxStack := 3, maxLocals := 3, code := jdk_43_method_13_code, exceptionTable := #[], attributes := #[] }
def k10m1 : Method := { name := "equals", desc := "([B[B)Z", sig := { parameters := [(.array .byte), (.array .byte)], returnType := some .boolean }, accessFlags := 9, code := some k10c1 }
/-- java/lang/StringLatin1 -/
def k10 : Class := { plain "java/lang/StringLatin1" (some 0) with
  accessFlags := 48
  interfaces := #[]
  cf := some (fileOf pool10 14 #[.nestMembers #[390, 221]] #[{ accessFlags := 0, nameIndex := 7, descriptorIndex := 8, attributes := #[] }, { accessFlags := 9, nameIndex := 281, descriptorIndex := 282, attributes := #[] }] 48 4 #[] #[{ accessFlags := 4120, nameIndex := 121, descriptorIndex := 122, attributes := #[] }])
  fields := #[{ name := "$assertionsDisabled", type := .boolean, accessFlags := 4120, slot := 0, constantValue := 0 }]
  methods := #[k10m0, k10m1]
  instanceTypes := #[]
  staticTypes := #[.boolean]
  resolved := Array.replicate 395 none
  statics := none }

def pool11 : Array CpInfo := pool [(2, .class_ 4), (1, u "java/lang/Object"), (0, u "<init>"), (0, u "()V"), (17, .class_ 26), (1, u "jdk/internal/util/Preconditions"), (28, .class_ 56), (0, u "jdk/internal/util/Preconditions$4"), (57, .class_ 115), (0, u "jdk/internal/util/Preconditions$1"), (7, u "SIOOBE_FORMATTER"), (0, u "Ljava/util/function/BiFunction;"), (0, .class_ 126), (0, u "jdk/internal/util/Preconditions$2"), (3, u "AIOOBE_FORMATTER"), (0, .class_ 132), (0, u "jdk/internal/util/Preconditions$3"), (3, u "IOOBE_FORMATTER")] 57

def k11m0 : Method := { name := "<init>", desc := "()V", sig := { parameters := [], returnType := none }, accessFlags := 1, code := none }
/-- jdk/internal/util/Preconditions -/
def k11 : Class := { plain "jdk/internal/util/Preconditions" (some 0) with
  accessFlags := 33
  interfaces := #[]
  cf := some (fileOf pool11 24 #[.nestMembers #[55, 131, 125, 114]] #[{ accessFlags := 1, nameIndex := 5, descriptorIndex := 6, attributes := #[] }] 33 2 #[] #[{ accessFlags := 25, nameIndex := 123, descriptorIndex := 124, attributes := #[] }, { accessFlags := 25, nameIndex := 130, descriptorIndex := 124, attributes := #[] }, { accessFlags := 25, nameIndex := 136, descriptorIndex := 124, attributes := #[] }])
  fields := #[{ name := "SIOOBE_FORMATTER", type := (.object "java/util/function/BiFunction"), accessFlags := 25, slot := 0, constantValue := 0 }, { name := "AIOOBE_FORMATTER", type := (.object "java/util/function/BiFunction"), accessFlags := 25, slot := 1, constantValue := 0 }, { name := "IOOBE_FORMATTER", type := (.object "java/util/function/BiFunction"), accessFlags := 25, slot := 2, constantValue := 0 }]
  methods := #[k11m0]
  instanceTypes := #[]
  staticTypes := #[(.object "java/util/function/BiFunction"), (.object "java/util/function/BiFunction"), (.object "java/util/function/BiFunction")]
  resolved := Array.replicate 194 none
  statics := some 2 }

def pool12 : Array CpInfo := pool [(9, u "<init>"), (6, .class_ 18), (1, u "java/lang/Object"), (0, u "()V"), (1, .class_ 23), (1, u "jdk/internal/util/ArraysSupport"), (0, u "LOG2_ARRAY_LONG_INDEX_SCALE"), (0, u "I"), (2, u "U"), (0, u "Ljdk/internal/misc/Unsafe;"), (8, u "BIG_ENDIAN"), (0, u "Z"), (8, u "LOG2_BYTE_BIT_SIZE"), (4, u "LOG2_ARRAY_INT_INDEX_SCALE"), (54, u "JLA"), (0, u "Ljdk/internal/access/JavaLangAccess;"), (11, u "LOG2_ARRAY_BOOLEAN_INDEX_SCALE"), (9, u "LOG2_ARRAY_BYTE_INDEX_SCALE"), (5, u "LOG2_ARRAY_CHAR_INDEX_SCALE"), (5, u "LOG2_ARRAY_SHORT_INDEX_SCALE"), (18, u "LOG2_ARRAY_FLOAT_INDEX_SCALE"), (24, u "LOG2_ARRAY_DOUBLE_INDEX_SCALE"), (89, u "T_BOOLEAN"), (2, u "T_CHAR"), (1, u "T_FLOAT"), (1, u "T_DOUBLE"), (1, u "T_BYTE"), (1, u "T_SHORT"), (1, u "T_INT"), (1, u "T_LONG"), (1, u "SOFT_MAX_ARRAY_LENGTH")] 83

def k12m0 : Method := { name := "<init>", desc := "()V", sig := { parameters := [], returnType := none }, accessFlags := 2, code := none }
/-- jdk/internal/util/ArraysSupport -/
def k12 : Class := { plain "jdk/internal/util/ArraysSupport" (some 0) with
  accessFlags := 33
  interfaces := #[]
  cf := some (fileOf pool12 21 #[] #[{ accessFlags := 2, nameIndex := 9, descriptorIndex := 19, attributes := #[] }] 33 16 #[] #[{ accessFlags := 24, nameIndex := 28, descriptorIndex := 29, attributes := #[] }, { accessFlags := 26, nameIndex := 38, descriptorIndex := 39, attributes := #[] }, { accessFlags := 25, nameIndex := 121, descriptorIndex := 25, attributes := #[] }, { accessFlags := 25, nameIndex := 131, descriptorIndex := 25, attributes := #[] }, { accessFlags := 25, nameIndex := 137, descriptorIndex := 25, attributes := #[] }, { accessFlags := 25, nameIndex := 143, descriptorIndex := 25, attributes := #[] }, { accessFlags := 25, nameIndex := 53, descriptorIndex := 25, attributes := #[] }, { accessFlags := 25, nameIndex := 24, descriptorIndex := 25, attributes := #[] }, { accessFlags := 25, nameIndex := 162, descriptorIndex := 25, attributes := #[] }, { accessFlags := 25, nameIndex := 187, descriptorIndex := 25, attributes := #[] }, { accessFlags := 26, nameIndex := 48, descriptorIndex := 25, attributes := #[] }, { accessFlags := 25, nameIndex := 277, descriptorIndex := 25, attributes := #[] }, { accessFlags := 25, nameIndex := 280, descriptorIndex := 25, attributes := #[] }, { accessFlags := 25, nameIndex := 282, descriptorIndex := 25, attributes := #[] }, { accessFlags := 25, nameIndex := 284, descriptorIndex := 25, attributes := #[] }, { accessFlags := 25, nameIndex := 286, descriptorIndex := 25, attributes := #[] }, { accessFlags := 25, nameIndex := 288, descriptorIndex := 25, attributes := #[] }, { accessFlags := 25, nameIndex := 290, descriptorIndex := 25, attributes := #[] }, { accessFlags := 25, nameIndex := 292, descriptorIndex := 25, attributes := #[] }, { accessFlags := 26, nameIndex := 108, descriptorIndex := 109, attributes := #[] }, { accessFlags := 25, nameIndex := 294, descriptorIndex := 25, attributes := #[] }])
  fields := #[{ name := "U", type := (.object "jdk/internal/misc/Unsafe"), accessFlags := 24, slot := 0, constantValue := 0 }, { name := "BIG_ENDIAN", type := .boolean, accessFlags := 26, slot := 1, constantValue := 0 }, { name := "LOG2_ARRAY_BOOLEAN_INDEX_SCALE", type := .int, accessFlags := 25, slot := 2, constantValue := 0 }, { name := "LOG2_ARRAY_BYTE_INDEX_SCALE", type := .int, accessFlags := 25, slot := 3, constantValue := 0 }, { name := "LOG2_ARRAY_CHAR_INDEX_SCALE", type := .int, accessFlags := 25, slot := 4, constantValue := 0 }, { name := "LOG2_ARRAY_SHORT_INDEX_SCALE", type := .int, accessFlags := 25, slot := 5, constantValue := 0 }, { name := "LOG2_ARRAY_INT_INDEX_SCALE", type := .int, accessFlags := 25, slot := 6, constantValue := 0 }, { name := "LOG2_ARRAY_LONG_INDEX_SCALE", type := .int, accessFlags := 25, slot := 7, constantValue := 0 }, { name := "LOG2_ARRAY_FLOAT_INDEX_SCALE", type := .int, accessFlags := 25, slot := 8, constantValue := 0 }, { name := "LOG2_ARRAY_DOUBLE_INDEX_SCALE", type := .int, accessFlags := 25, slot := 9, constantValue := 0 }, { name := "LOG2_BYTE_BIT_SIZE", type := .int, accessFlags := 26, slot := 10, constantValue := 0 }, { name := "T_BOOLEAN", type := .int, accessFlags := 25, slot := 11, constantValue := 0 }, { name := "T_CHAR", type := .int, accessFlags := 25, slot := 12, constantValue := 0 }, { name := "T_FLOAT", type := .int, accessFlags := 25, slot := 13, constantValue := 0 }, { name := "T_DOUBLE", type := .int, accessFlags := 25, slot := 14, constantValue := 0 }, { name := "T_BYTE", type := .int, accessFlags := 25, slot := 15, constantValue := 0 }, { name := "T_SHORT", type := .int, accessFlags := 25, slot := 16, constantValue := 0 }, { name := "T_INT", type := .int, accessFlags := 25, slot := 17, constantValue := 0 }, { name := "T_LONG", type := .int, accessFlags := 25, slot := 18, constantValue := 0 }, { name := "JLA", type := (.object "jdk/internal/access/JavaLangAccess"), accessFlags := 26, slot := 19, constantValue := 0 }, { name := "SOFT_MAX_ARRAY_LENGTH", type := .int, accessFlags := 25, slot := 20, constantValue := 0 }]
  methods := #[k12m0]
  instanceTypes := #[]
  staticTypes := #[(.object "jdk/internal/misc/Unsafe"), .boolean, .int, .int, .int, .int, .int, .int, .int, .int, .int, .int, .int, .int, .int, .int, .int, .int, .int, (.object "jdk/internal/access/JavaLangAccess"), .int]
  resolved := Array.replicate 378 none
  statics := none }

def pool13 : Array CpInfo := pool [(1, u "java/lang/Cloneable"), (0, .class_ 1), (0, u "java/lang/Object"), (0, .class_ 3)] 3

/-- java/lang/Cloneable -/
def k13 : Class := { plain "java/lang/Cloneable" (some 0) with
  accessFlags := 1537
  interfaces := #[]
  cf := some (fileOf pool13 2 #[] #[] 1537 4 #[] #[])
  fields := #[]
  methods := #[]
  instanceTypes := #[]
  staticTypes := #[]
  resolved := Array.replicate 8 none
  statics := none }

/-- the primitive byte -/
def k14 : Class := { plain "byte" none with kind := .primitive 'B', accessFlags := 0x411 }
/-- [B -/
def k15 : Class := { plain "[B" (some 0) with kind := .array 14 .byte, interfaces := #[13, 2], accessFlags := 1041 }

/-- the primitive char -/
def k16 : Class := { plain "char" none with kind := .primitive 'C', accessFlags := 0x411 }
/-- [C -/
def k17 : Class := { plain "[C" (some 0) with kind := .array 16 .char, interfaces := #[13, 2], accessFlags := 1041 }

/-- the primitive int -/
def k18 : Class := { plain "int" none with kind := .primitive 'I', accessFlags := 0x411 }
/-- [I -/
def k19 : Class := { plain "[I" (some 0) with kind := .array 18 .int, interfaces := #[13, 2], accessFlags := 1041 }

def heap : Heap := #[{ cls := 7, slots := #[.long 0, .int 1, .null, .int 0, .null, .int 0, .int 0], vm := .statics 7 },
  { cls := 8, slots := #[.int 0, .int 8, .int 0, .int 1], vm := .statics 8 },
  { cls := 11, slots := #[.null, .null, .null], vm := .statics 11 }]
def classes : Array Class := #[k0, k1, k2, k3, k4, k5, k6, k7, k8, k9, k10, k11, k12, k13, k14, k15, k16, k17, k18, k19]
def interned : List (Array UInt16 × Addr) := []
def slotsUsed : Nat := 14
def theMethod : MethodId := ⟨1, 1⟩
def args0 : Array Value := #[.int 0, .int 5, .int 0, .int 65, .int 66]
def aboutOver (below : List Frame) : State where
  vm := { classes := classes, interned := interned.toArray }
  heap := heap
  slotsUsed := slotsUsed
  threads := #[{ frames := .invoking theMethod args0 :: below }]
def below0 : List Frame := [.native { method := ⟨0, 0⟩, args := #[] }]
def about1 : State := aboutOver below0
def p0 : Program := .bare "" "" ""
def e0 : Env := launch0.env 0 0 0
theorem w_frames : about1.frames = Frame.invoking theMethod args0 :: below0 := rfl
set_option maxRecDepth 65536 in
theorem w_args : argsFit about1.vm theMethod args0 = true := by decide +kernel
set_option maxRecDepth 65536 in
theorem w_heap : heapFits about1 = true := by decide +kernel
set_option maxRecDepth 65536 in
theorem w_runnable : about1.curStatus? = some .runnable := by decide +kernel
set_option maxRecDepth 65536 in
theorem w_alone : about1.alone = true := by decide +kernel
set_option maxRecDepth 65536 in
theorem w_named : about1.methodNamed? x = some theMethod := by decide +kernel
set_option maxRecDepth 65536 in
theorem w_hears : about1.hears theMethod below0 = true := by decide +kernel
set_option maxRecDepth 65536 in
theorem w_ripe : about1.ripe theMethod args0 below0 = true := by decide +kernel
theorem w_running : about1.status = .running := rfl
set_option maxRecDepth 65536 in
theorem w_room : about1.hasRoom e0.platform room_1 = true :=
  launch0.hasRoom_least _ room_1 (by decide +kernel) (by decide +kernel) (by decide +kernel) (by decide +kernel) (by decide +kernel) (by decide +kernel)
theorem allAtoms_all (ts : List Jvm.Cond) (a : Array Jvm.Value) (st : Jvm.State) : (allAtoms ts).before a st = ts.all (fun c => c.before a st) := by
  induction ts with
  | nil => rfl
  | cons c t ih =>
    show (Jvm.Cond.and c (allAtoms t)).before a st = _
    rw [Jvm.Cond.before_and, ih, List.all_cons]
def words1 : List Jvm.Cond := Jvm.Cond.code x code maxLocals ret :: tables_1
/-- a 'code' word, met by the world's own term for the bytes: nothing is compared byte by byte -/
theorem code_word {y : MethodName} {bytes : ByteArray} {mx : Nat} {rt : Option FieldType} {a : Array Value} {s : State} {m : MethodId} {meth : Method} {c : Code} (h1 : s.methodNamed? y = some m) (h2 : s.vm.method? m = some meth) (h3 : meth.code = some c) (h4 : c.code = bytes)
    (h5 : (c.maxLocals == mx && c.exceptionTable.isEmpty && decide (c.maxStack ≤ mostOperands) && decide (meth.sig.returnType = rt) && !meth.locks && decide (parseMethodDescriptor y.desc = some meth.sig)) = true) : (Jvm.Cond.code y bytes mx rt).before a s = true := by
  simp only [Bool.and_eq_true, beq_iff_eq, Bool.not_eq_true', decide_eq_true_eq] at h5
  obtain ⟨⟨⟨⟨⟨g1, g2⟩, g3⟩, g4⟩, g5⟩, g6⟩ := h5
  simp [Cond.before, Cond.holds, Cond.value, h1, h2, h3, h4, g1, g2, g3, g4, g5, g6]
def isCode : Jvm.Cond → Bool
  | .code _ _ _ _ => true
  | _ => false
theorem all_split {L : List Jvm.Cond} {P : Jvm.Cond → Bool} (h1 : L.all (fun c => isCode c || P c) = true) (h2 : ∀ c ∈ L.filter isCode, P c = true) : L.all P = true := by
  refine List.all_eq_true.mpr fun c hc => ?_
  have h := List.all_eq_true.mp h1 c hc
  rcases Bool.eq_false_or_eq_true (isCode c) with hi | hi
  · exact h2 c (List.mem_filter.mpr ⟨hc, hi⟩)
  · simpa [hi] using h
set_option maxRecDepth 65536 in
theorem w_c0 : (Jvm.Cond.code x code maxLocals ret).before args0 about1 = true := code_word (m := ⟨1, 1⟩) (meth := k1m1) (c := k1c1) (by decide +kernel) rfl rfl rfl (by decide +kernel)
set_option maxRecDepth 65536 in
theorem w_c1 : (Jvm.Cond.code ({ cls := "com/example/keywright/keywright/store/TokensReadsPinLaw", name := "make", desc := "([CI)Ljava/lang/String;" } : Jvm.MethodName) method_3_code (2 : Nat) (Option.some (Jvm.ClassFile.FieldType.object "java/lang/String"))).before args0 about1 = true := code_word (m := ⟨1, 2⟩) (meth := k1m2) (c := k1c2) (by decide +kernel) rfl rfl rfl (by decide +kernel)
set_option maxRecDepth 65536 in
theorem w_c2 : (Jvm.Cond.code ({ cls := "java/lang/String", name := "<init>", desc := "([C)V" } : Jvm.MethodName) jdk_42_method_3_code (2 : Nat) (Option.none : Option Jvm.ClassFile.FieldType)).before args0 about1 = true := code_word (m := ⟨7, 1⟩) (meth := k7m1) (c := k7c1) (by decide +kernel) rfl rfl rfl (by decide +kernel)
set_option maxRecDepth 65536 in
theorem w_c3 : (Jvm.Cond.code ({ cls := "java/lang/String", name := "<init>", desc := "([CIILjava/lang/Void;)V" } : Jvm.MethodName) jdk_42_method_149_code (6 : Nat) (Option.none : Option Jvm.ClassFile.FieldType)).before args0 about1 = true := code_word (m := ⟨7, 3⟩) (meth := k7m3) (c := k7c3) (by decide +kernel) rfl rfl rfl (by decide +kernel)
set_option maxRecDepth 65536 in
theorem w_c4 : (Jvm.Cond.code ({ cls := "java/lang/Object", name := "<init>", desc := "()V" } : Jvm.MethodName) object_method_1_code (1 : Nat) (Option.none : Option Jvm.ClassFile.FieldType)).before args0 about1 = true := code_word (m := ⟨0, 0⟩) (meth := k0m0) (c := k0c0) (by decide +kernel) rfl rfl rfl (by decide +kernel)
set_option maxRecDepth 65536 in
theorem w_c5 : (Jvm.Cond.code ({ cls := "java/lang/StringUTF16", name := "compress", desc := "([CII)[B" } : Jvm.MethodName) jdk_52_method_16_code (6 : Nat) (Option.some (Jvm.ClassFile.FieldType.array Jvm.ClassFile.FieldType.byte))).before args0 about1 = true := code_word (m := ⟨8, 7⟩) (meth := k8m7) (c := k8c7) (by decide +kernel) rfl rfl rfl (by decide +kernel)
set_option maxRecDepth 65536 in
theorem w_c6 : (Jvm.Cond.code ({ cls := "java/lang/StringUTF16", name := "compress", desc := "([CI[BII)I" } : Jvm.MethodName) jdk_52_method_21_code (7 : Nat) (Option.some Jvm.ClassFile.FieldType.int)).before args0 about1 = true := code_word (m := ⟨8, 8⟩) (meth := k8m8) (c := k8c8) (by decide +kernel) rfl rfl rfl (by decide +kernel)
set_option maxRecDepth 65536 in
theorem w_c7 : (Jvm.Cond.code ({ cls := "java/lang/StringUTF16", name := "coderFromArrayLen", desc := "([BI)B" } : Jvm.MethodName) jdk_52_method_15_code (2 : Nat) (Option.some Jvm.ClassFile.FieldType.byte)).before args0 about1 = true := code_word (m := ⟨8, 6⟩) (meth := k8m6) (c := k8c6) (by decide +kernel) rfl rfl rfl (by decide +kernel)
set_option maxRecDepth 65536 in
theorem w_c8 : (Jvm.Cond.code ({ cls := "com/example/keywright/keywright/store/Tokens", name := "reads", desc := "(Ljava/lang/String;)Z" } : Jvm.MethodName) prog_17_method_2_code (1 : Nat) (Option.some Jvm.ClassFile.FieldType.boolean)).before args0 about1 = true := code_word (m := ⟨9, 1⟩) (meth := k9m1) (c := k9c1) (by decide +kernel) rfl rfl rfl (by decide +kernel)
set_option maxRecDepth 65536 in
theorem w_c9 : (Jvm.Cond.code ({ cls := "java/lang/String", name := "equals", desc := "(Ljava/lang/Object;)Z" } : Jvm.MethodName) jdk_42_method_66_code (3 : Nat) (Option.some Jvm.ClassFile.FieldType.boolean)).before args0 about1 = true := code_word (m := ⟨7, 2⟩) (meth := k7m2) (c := k7c2) (by decide +kernel) rfl rfl rfl (by decide +kernel)
set_option maxRecDepth 65536 in
theorem w_c10 : (Jvm.Cond.code ({ cls := "java/lang/StringLatin1", name := "equals", desc := "([B[B)Z" } : Jvm.MethodName) jdk_43_method_13_code (3 : Nat) (Option.some Jvm.ClassFile.FieldType.boolean)).before args0 about1 = true := code_word (m := ⟨10, 1⟩) (meth := k10m1) (c := k10c1) (by decide +kernel) rfl rfl rfl (by decide +kernel)
set_option maxRecDepth 65536 in
theorem w_c11 : (Jvm.Cond.code ({ cls := "java/lang/StringUTF16", name := "toBytes", desc := "([CII)[B" } : Jvm.MethodName) jdk_52_method_14_code (5 : Nat) (Option.some (Jvm.ClassFile.FieldType.array Jvm.ClassFile.FieldType.byte))).before args0 about1 = true := code_word (m := ⟨8, 5⟩) (meth := k8m5) (c := k8c5) (by decide +kernel) rfl rfl rfl (by decide +kernel)
set_option maxRecDepth 65536 in
theorem w_c12 : (Jvm.Cond.code ({ cls := "java/lang/StringUTF16", name := "newBytesFor", desc := "(I)[B" } : Jvm.MethodName) jdk_52_method_2_code (1 : Nat) (Option.some (Jvm.ClassFile.FieldType.array Jvm.ClassFile.FieldType.byte))).before args0 about1 = true := code_word (m := ⟨8, 1⟩) (meth := k8m1) (c := k8c1) (by decide +kernel) rfl rfl rfl (by decide +kernel)
set_option maxRecDepth 65536 in
theorem w_c13 : (Jvm.Cond.code ({ cls := "java/lang/StringUTF16", name := "newBytesLength", desc := "(I)I" } : Jvm.MethodName) jdk_52_method_3_code (1 : Nat) (Option.some Jvm.ClassFile.FieldType.int)).before args0 about1 = true := code_word (m := ⟨8, 2⟩) (meth := k8m2) (c := k8c2) (by decide +kernel) rfl rfl rfl (by decide +kernel)
set_option maxRecDepth 65536 in
theorem w_c14 : (Jvm.Cond.code ({ cls := "java/lang/StringUTF16", name := "putChar", desc := "([BII)V" } : Jvm.MethodName) jdk_52_method_4_code (3 : Nat) (Option.none : Option Jvm.ClassFile.FieldType)).before args0 about1 = true := code_word (m := ⟨8, 3⟩) (meth := k8m3) (c := k8c3) (by decide +kernel) rfl rfl rfl (by decide +kernel)
set_option maxRecDepth 65536 in
theorem w_c15 : (Jvm.Cond.code ({ cls := "java/lang/StringUTF16", name := "getChar", desc := "([BI)C" } : Jvm.MethodName) jdk_52_method_5_code (2 : Nat) (Option.some Jvm.ClassFile.FieldType.char)).before args0 about1 = true := code_word (m := ⟨8, 4⟩) (meth := k8m4) (c := k8c4) (by decide +kernel) rfl rfl rfl (by decide +kernel)
def codes1 : List Jvm.Cond := [Jvm.Cond.code x code maxLocals ret, Jvm.Cond.code ({ cls := "com/example/keywright/keywright/store/TokensReadsPinLaw", name := "make", desc := "([CI)Ljava/lang/String;" } : Jvm.MethodName) method_3_code (2 : Nat) (Option.some (Jvm.ClassFile.FieldType.object "java/lang/String")), Jvm.Cond.code ({ cls := "java/lang/String", name := "<init>", desc := "([C)V" } : Jvm.MethodName) jdk_42_method_3_code (2 : Nat) (Option.none : Option Jvm.ClassFile.FieldType), Jvm.Cond.code ({ cls := "java/lang/String", name := "<init>", desc := "([CIILjava/lang/Void;)V" } : Jvm.MethodName) jdk_42_method_149_code (6 : Nat) (Option.none : Option Jvm.ClassFile.FieldType), Jvm.Cond.code ({ cls := "java/lang/Object", name := "<init>", desc := "()V" } : Jvm.MethodName) object_method_1_code (1 : Nat) (Option.none : Option Jvm.ClassFile.FieldType), Jvm.Cond.code ({ cls := "java/lang/StringUTF16", name := "compress", desc := "([CII)[B" } : Jvm.MethodName) jdk_52_method_16_code (6 : Nat) (Option.some (Jvm.ClassFile.FieldType.array Jvm.ClassFile.FieldType.byte)), Jvm.Cond.code ({ cls := "java/lang/StringUTF16", name := "compress", desc := "([CI[BII)I" } : Jvm.MethodName) jdk_52_method_21_code (7 : Nat) (Option.some Jvm.ClassFile.FieldType.int), Jvm.Cond.code ({ cls := "java/lang/StringUTF16", name := "coderFromArrayLen", desc := "([BI)B" } : Jvm.MethodName) jdk_52_method_15_code (2 : Nat) (Option.some Jvm.ClassFile.FieldType.byte), Jvm.Cond.code ({ cls := "com/example/keywright/keywright/store/Tokens", name := "reads", desc := "(Ljava/lang/String;)Z" } : Jvm.MethodName) prog_17_method_2_code (1 : Nat) (Option.some Jvm.ClassFile.FieldType.boolean), Jvm.Cond.code ({ cls := "java/lang/String", name := "equals", desc := "(Ljava/lang/Object;)Z" } : Jvm.MethodName) jdk_42_method_66_code (3 : Nat) (Option.some Jvm.ClassFile.FieldType.boolean), Jvm.Cond.code ({ cls := "java/lang/StringLatin1", name := "equals", desc := "([B[B)Z" } : Jvm.MethodName) jdk_43_method_13_code (3 : Nat) (Option.some Jvm.ClassFile.FieldType.boolean), Jvm.Cond.code ({ cls := "java/lang/StringUTF16", name := "toBytes", desc := "([CII)[B" } : Jvm.MethodName) jdk_52_method_14_code (5 : Nat) (Option.some (Jvm.ClassFile.FieldType.array Jvm.ClassFile.FieldType.byte)), Jvm.Cond.code ({ cls := "java/lang/StringUTF16", name := "newBytesFor", desc := "(I)[B" } : Jvm.MethodName) jdk_52_method_2_code (1 : Nat) (Option.some (Jvm.ClassFile.FieldType.array Jvm.ClassFile.FieldType.byte)), Jvm.Cond.code ({ cls := "java/lang/StringUTF16", name := "newBytesLength", desc := "(I)I" } : Jvm.MethodName) jdk_52_method_3_code (1 : Nat) (Option.some Jvm.ClassFile.FieldType.int), Jvm.Cond.code ({ cls := "java/lang/StringUTF16", name := "putChar", desc := "([BII)V" } : Jvm.MethodName) jdk_52_method_4_code (3 : Nat) (Option.none : Option Jvm.ClassFile.FieldType), Jvm.Cond.code ({ cls := "java/lang/StringUTF16", name := "getChar", desc := "([BI)C" } : Jvm.MethodName) jdk_52_method_5_code (2 : Nat) (Option.some Jvm.ClassFile.FieldType.char)]
set_option maxRecDepth 65536 in
theorem codes_eq : words1.filter isCode = codes1 := rfl
theorem w_codes : ∀ c ∈ words1.filter isCode, c.before args0 about1 = true := by
  rw [codes_eq]
  intro c hc
  simp only [codes1, List.mem_cons, List.not_mem_nil, or_false] at hc
  rcases hc with rfl | rfl | rfl | rfl | rfl | rfl | rfl | rfl | rfl | rfl | rfl | rfl | rfl | rfl | rfl | rfl
  · exact w_c0
  · exact w_c1
  · exact w_c2
  · exact w_c3
  · exact w_c4
  · exact w_c5
  · exact w_c6
  · exact w_c7
  · exact w_c8
  · exact w_c9
  · exact w_c10
  · exact w_c11
  · exact w_c12
  · exact w_c13
  · exact w_c14
  · exact w_c15
set_option maxRecDepth 65536 in
theorem w_t1 : (words1.take 24).all (fun c => isCode c || c.before args0 about1) = true := by decide +kernel
set_option maxRecDepth 65536 in
theorem w_t2 : ((words1.drop 24).take 24).all (fun c => isCode c || c.before args0 about1) = true := by decide +kernel
set_option maxRecDepth 65536 in
theorem w_t3 : (((words1.drop 24).drop 24).take 24).all (fun c => isCode c || c.before args0 about1) = true := by decide +kernel
set_option maxRecDepth 65536 in
theorem w_t4 : (((words1.drop 24).drop 24).drop 24).all (fun c => isCode c || c.before args0 about1) = true := by decide +kernel
theorem w_tables : (allAtoms (Jvm.Cond.code x code maxLocals ret :: tables_1)).before args0 about1 = true := by
  rw [allAtoms_all]
  show words1.all (fun c => c.before args0 about1) = true
  refine all_split ?_ w_codes
  rw [← List.take_append_drop 24 words1, List.all_append, w_t1, ← List.take_append_drop 24 (words1.drop 24), List.all_append, w_t2, ← List.take_append_drop 24 ((words1.drop 24).drop 24), List.all_append, w_t3, w_t4]
  rfl
set_option maxRecDepth 65536 in
theorem w_rest : rest_1_c.before args0 about1 = true := by decide +kernel
set_option maxRecDepth 65536 in
theorem w_case : (Jvm.Cond.and given_1 narrow_1).before args0 about1 = true := by decide +kernel
set_option maxRecDepth 65536 in
theorem w_consts : constsHeld consts_1 about1 := Jvm.Lit.constsHeldB_iff.mp (by decide +kernel)
theorem w_applies : (headSpec (Jvm.Cond.code x code maxLocals ret :: tables_1) room_1).applies x e0.platform about1 = true :=
  (Spec.applies_iff w_frames).mpr ⟨w_running, w_runnable, w_alone, w_named, w_hears, w_ripe, w_room, w_tables⟩
theorem atStart : AtStart classFile x code maxLocals ret World_1 tables_1 room_1 Calls_1 rest_1 Pre_1 launch0 p0 e0 about1 theMethod args0 below0 :=
  ⟨lists_1, trivial, launch0.admits_env _ _ _, launch0.least_env, fairChoices_fair.cas, fairChoices_fair.clock, w_frames, w_args, w_heap, w_applies, ⟨w_consts, trivial⟩, w_rest, w_case⟩
end start1
theorem witness_1 : WitnessClaimed_1 := ⟨start1.p0, start1.e0, start1.about1, start1.theMethod, start1.args0, start1.below0, start1.atStart⟩
end Jvm.Pilot.@@N@@
