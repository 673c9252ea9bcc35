import JvmDerived
import JvmDerived.Pilot.@@N@@Statement
import JvmDerived.Pilot.@@N@@Code
set_option linter.unusedVariables false
set_option linter.unusedSimpArgs false
namespace Jvm.Own
open Sem ClassFile Op Lib Bundle Jvm.Stand Jvm.Free Jvm.LawKit Jvm.RoadKit
/-! A small calculus of weakest conditions over the library's walks: 'Go' says that from here the body comes to its end with Q; each rule goes back over one instruction. -/
/-- what is kept up at every point: the constants of EL say their texts; the cells of the start stand; the cells in ws are new and no constant's -/
def Inv (Z : State) (EL : List (String × Nat)) (ws : List Addr) (vm : Vm) (h : Heap) : Prop :=
  CHv Z EL vm h ∧ Ext Z.heap h ∧ ∀ x ∈ ws, Z.heap.size ≤ x ∧ x < h.size ∧ Safe Z EL vm h x
section Facts
variable {Z : State} {a0 : Array Value} {EL : List (String × Nat)} {ws ws' : List Addr} {vm vm1 : Vm} {h h' : Heap} {a : Addr} {sl : Nat} {v : Value}
theorem Inv.ext (I : Inv Z EL ws vm h) (E : Ext h h') : Inv Z EL ws vm h' :=
  ⟨I.1.ext E, ⟨Nat.le_trans I.2.1.1 E.1, fun x c q => E.2 x c (I.2.1.2 x c q)⟩, fun x hx => ⟨(I.2.2 x hx).1, Nat.lt_of_lt_of_le (I.2.2 x hx).2.1 E.1, Safe.ext E I.1 (I.2.2 x hx).2.2⟩⟩
theorem Inv.new (I : Inv Z EL ws vm h) (E : Ext h h') (ha : a = h.size) (hl : a < h'.size) : Inv Z EL (a :: ws) vm h' :=
  ⟨(I.ext E).1, (I.ext E).2.1, fun x hx => by
    rcases List.mem_cons.mp hx with rfl | hx
    · exact ⟨by rw [ha]; exact I.2.1.1, hl, Safe.ext E I.1 (Safe.new (Nat.le_of_eq ha.symm))⟩
    · exact (I.ext E).2.2 x hx⟩
theorem Inv.wr (I : Inv Z EL ws vm h) (W : Wr h h' a sl v) (ha : a ∈ ws) : Inv Z EL ws vm h' :=
  have S := (I.2.2 a ha).2.2
  ⟨I.1.wr W S, (Old.wr (n0 := Z.heap.size) ⟨rfl, I.2.1⟩ W (I.2.2 a ha).1).2, fun x hx => ⟨(I.2.2 x hx).1, by rw [W.size]; exact (I.2.2 x hx).2.1, Safe.wr W S I.1 (I.2.2 x hx).2.2⟩⟩
theorem Inv.keep {xs : List Addr} (I : Inv Z EL ws vm h) (K : Keep h h' xs) (hs : ∀ x ∈ xs, x ∈ ws) : Inv Z EL ws vm h' :=
  have S : ∀ x ∈ xs, Safe Z EL vm h x := fun x hx => (I.2.2 x (hs x hx)).2.2
  ⟨I.1.keep K S, (Old.keep (n0 := Z.heap.size) ⟨rfl, I.2.1⟩ K fun x hx => (I.2.2 x (hs x hx)).1).2, fun x hx => ⟨(I.2.2 x hx).1, Nat.lt_of_lt_of_le (I.2.2 x hx).2.1 K.1, Safe.keep K S I.1 (I.2.2 x hx).2.2⟩⟩
theorem Inv.sub (I : Inv Z EL ws vm h) (hs : ∀ x ∈ ws', x ∈ ws) : Inv Z EL ws' vm h := ⟨I.1, I.2.1, fun x hx => I.2.2 x (hs x hx)⟩
/-- behind an end: what was writable is writable still, and what the end says besides -/
theorem Inv.later (I : Inv Z EL ws vm h) (C : CHr Z EL vm h vm1 h') (J : Inv Z EL ws' vm1 h') : Inv Z EL (ws' ++ ws) vm1 h' :=
  ⟨C.1, J.2.1, fun x hx => (List.mem_append.mp hx).elim (J.2.2 x) fun q => ⟨(I.2.2 x q).1, Nat.lt_of_lt_of_le (I.2.2 x q).2.1 C.2.1, C.safe (I.2.2 x q).2.1 (I.2.2 x q).2.2⟩⟩
theorem Inv.moved (I : Inv Z EL ws vm h) (C : CHr Z EL vm h vm1 h) : Inv Z EL ws vm1 h :=
  ⟨C.1, I.2.1, fun x q => ⟨(I.2.2 x q).1, (I.2.2 x q).2.1, C.safe (I.2.2 x q).2.1 (I.2.2 x q).2.2⟩⟩
theorem Inv.ld (I : Inv Z EL ws vm h) (C : CHr Z EL vm h vm1 h') (E : Ext h h') : Inv Z EL ws vm1 h' :=
  ⟨C.1, (I.ext E).2.1, fun x q => ⟨(I.2.2 x q).1, Nat.lt_of_lt_of_le (I.2.2 x q).2.1 C.2.1, C.safe (I.2.2 x q).2.1 (I.2.2 x q).2.2⟩⟩
end Facts
/-- what a body's walk may lean on, all along -/
def Cst (p : Program) (meth : Method) (c : Code) (Z : State) (a0 : Array Value) (EL : List (String × Nat)) (bytes : ByteArray) (maxL : Nat) (ret : Option FieldType) (nm : String) : Prop :=
  p.tables.exec = Jvm.exec ∧ c.code = bytes ∧ c.maxLocals = maxL ∧ meth.sig.returnType = ret ∧ meth.locks = false ∧ meth.name = nm ∧ EW Z a0 EL
/-- the walk stands at T -/
def Pos (p : Program) (l : Launch) (e : Env) (R : Room) (s : State) (m : MethodId) (args : Array Value) (below : List Frame) (meth : Method) (c : Code) (Z : State) (EL : List (String × Nat)) (own : String) (ws : List Addr) (h : Heap) (cells slots : Nat) (T : State) : Prop :=
  ∃ (vm0 : Vm) (k0 : Nat) (locs : List Loc), Stand p l e R (s.setVm vm0) m args below meth c T locs cells slots ∧ T.heap = h ∧ s.Since vm0 k0 ∧ k0 ≤ h.size ∧ Z.Warmed39 vm0 ∧ vm0.findClass own = some m.cls ∧ Fr Z.heap.size locs ∧ Inv Z EL ws vm0 h ∧ CHr Z EL s.vm s.heap vm0 h ∧ cells ≤ R.cells ∧ slots ≤ R.slots
/-- the body has come to its end -/
def Done (s : State) (below : List Frame) (R : Room) (Z : State) (EL : List (String × Nat)) (Q : Option Value → Heap → List Addr → Prop) (u : State) : Prop :=
  u.status = .running ∧ ∃ (v : Option Value) (L : List Loc) (ws' : List Addr), Ended u below (.returned v) ∧ Q v u.heap ws' ∧ Fr Z.heap.size L ∧ Inv Z EL ws' u.vm u.heap ∧ CHr Z EL s.vm s.heap u.vm u.heap ∧ ReturnedEndW s (.returned v) u L R.cells R.slots
def Go (p : Program) (l : Launch) (e : Env) (R : Room) (s : State) (m : MethodId) (args : Array Value) (below : List Frame) (meth : Method) (c : Code) (Z : State) (a0 : Array Value) (EL : List (String × Nat)) (own : String) (bytes : ByteArray) (maxL : Nat) (ret : Option FieldType) (nm : String)
    (ws : List Addr) (h : Heap) (cells slots : Nat) (pc : Nat) (Ls : Array Slot) (st : List Value) (Q : Option Value → Heap → List Addr → Prop) : Prop :=
  Cst p meth c Z a0 EL bytes maxL ret nm → ∀ T : State, Pos p l e R s m args below meth c Z EL own ws h cells slots T → ∃ u, Steps p.tables e below (T.setTop (mkF m pc Ls st)) u ∧ Done s below R Z EL Q u
/-- a method's contract: for these arguments, over the heap h, ws writable: it returns, with Q -/
def Con (l : Launch) (Z : State) (EL : List (String × Nat)) (y : MethodName) (bytes : ByteArray) (maxL : Nat) (ret : Option FieldType) (cs : List Cond) (rm : Room) (as' : Array Value) (h : Heap) (ws : List Addr) (Q : Option Value → Heap → List Addr → Prop) : Prop :=
  MetFree l y (head1 (Cond.code y bytes maxL ret :: cs) rm) (fun a U => a = as' ∧ Z.Warmed39 U.vm ∧ U.heap = h ∧ Inv Z EL ws U.vm h) (fun _ _ _ _ _ => True)
    (fun _ U o U' => ∃ (v : Option Value) (L : List Loc) (ws' : List Addr), o = .returned v ∧ Q v U'.heap ws' ∧ Fr Z.heap.size L ∧ Inv Z EL ws' U'.vm U'.heap ∧ CHr Z EL U.vm U.heap U'.vm U'.heap ∧ ReturnedEndW U o U' L rm.cells rm.slots)
section Rules
variable {p : Program} {l : Launch} {e : Env} {R : Room} {s : State} {m : MethodId} {args : Array Value} {below : List Frame} {meth : Method} {c : Code} {Z : State} {a0 : Array Value} {EL : List (String × Nat)} {own : String} {bytes : ByteArray} {maxL : Nat} {ret : Option FieldType} {nm : String}
  {ws : List Addr} {h : Heap} {cells slots : Nat} {pc pc' : Nat} {Ls Ls' : Array Slot} {st st' rest : List Value} {Q Q' : Option Value → Heap → List Addr → Prop}
theorem con_of {y : MethodName} {rm : Room} {as' : Array Value} {cs : List Cond} (hn : plainFor y = true) (hEL : EW Z a0 EL) (hef : ∀ m, entryFrame m as' maxL = mkF m 0 Ls [])
    (go : ∀ p e s m below meth c, Go p l e rm s m as' below meth c Z a0 EL y.cls bytes maxL ret y.name ws h 0 0 0 Ls [] Q) : Con l Z EL y bytes maxL ret cs rm as' h ws Q := by
  refine MetFree.of_bodySF hn hisR ?_
  intro p e s m args below meth c s₁ Bd hml hP hK
  obtain ⟨rfl, hZ, hh, I⟩ := hP
  have X0 : Stand p l e rm s m args below meth c s₁ [] 0 0 := Stand.of_body Bd
  have e0 : s₁.heap = h := by rw [← hh, Bd.state]; rfl
  obtain ⟨u, S2, hrun, v, L, ws', hend, q, N, I2, C, W⟩ := go p e s m below meth c ⟨Bd.exec, Bd.bytes, hml, Bd.returns, Bd.notSynchronized, (name_of_methodNamed Bd.named Bd.method).1, hEL⟩ s₁
    ⟨s.vm, 0, [], X0, e0, (State.WarmedH.refl s).since _, Nat.zero_le _, hZ, findClass_of_methodNamed Bd.named, Fr.nil _, I, by rw [hh]; exact CHr.refl I.1, Nat.zero_le _, Nat.zero_le _⟩
  exact ⟨u, _, castTop (hef m) S2, hrun, hend, v, L, ws', rfl, q, N, I2, C, W⟩
theorem Con.mono {y : MethodName} {rm : Room} {as' : Array Value} {cs : List Cond} (K : Con l Z EL y bytes maxL ret cs rm as' h ws Q) (hq : ∀ v h ws, Q v h ws → Q' v h ws) : Con l Z EL y bytes maxL ret cs rm as' h ws Q' := by
  intro p e h1 h2 h3 s m args below hf ha hP hK
  obtain ⟨n, o, g1, g2, g3, v, L, ws', e1, q, r⟩ := K p e h1 h2 h3 s m args below hf ha hP hK
  exact ⟨n, o, g1, g2, g3, v, L, ws', e1, hq _ _ _ q, r⟩
/-- the payer of a call -/
theorem backC {vm0 : Vm} {y : MethodName} {bY : ByteArray} {mY : Nat} {rY : Option FieldType} {rm : Room} {len W : Nat} {as' : Array Value} {ws0 : List Addr} (hM : Con l Z EL y bY mY rY [] rm as' h ws0 Q)
    (hZ : Z.Warmed39 vm0) (wc : (Cond.code y bY mY rY).before a0 Z = true) (wz : (Cond.initialized y.cls).before a0 Z = true) (hf : rm.frames + 1 ≤ R.frames) (hl : W + (mY + 11) + rm.locals ≤ R.locals) (hEL : EW Z a0 EL) (I : Inv Z EL ws vm0 h) (hs : ∀ x ∈ ws0, x ∈ ws) :
    BackS l R p e below (s.setVm vm0) args y len W (fun A a => a = as' ∧ A.U.heap = h ∧ A.cells + rm.cells ≤ R.cells ∧ A.slots + rm.slots ≤ R.slots)
      (fun A _ v B => ∃ (L : List Loc) (ws' : List Addr), Q v B.U.heap ws' ∧ Fr Z.heap.size L ∧ B.locs = A.locs ++ L ∧ B.cells = A.cells + rm.cells ∧ B.slots = A.slots + rm.slots ∧ CHr Z EL vm0 h B.U.vm B.U.heap ∧ Inv Z EL (ws' ++ ws) B.U.vm B.U.heap) :=
  BackS.of_freeW (bytes := bY) (maxL := mY) (ret := rY) (E := fun _ first o t L k n => k = rm.cells ∧ n = rm.slots ∧ ∃ (v : Option Value) (ws' : List Addr), o = .returned v ∧ Q v t.heap ws' ∧ Fr Z.heap.size L ∧ Inv Z EL ws' t.vm t.heap ∧ CHr Z EL first.vm first.heap t.vm t.heap) hM hf hl
    (fun m meth c A a Y hp => have hU : Z.Warmed39 A.U.vm := wtrans (s := s.setVm vm0) hZ Y.warmed
      ⟨by show (Cond.and _ .tt).before a A.U = true; rw [Cond.before_and, mv hU wc]; rfl, mv hU wc, mv hU wz, hp.2.2.1, hp.2.2.2⟩)
    (fun m meth c A a g mk Y hp => ⟨hp.1, wtrans (s := s.setVm vm0) hZ Y.warmed, hp.2.1, show Inv Z EL ws0 A.U.vm h from (I.sub hs).moved (CHv.at Y hZ hEL I.1)⟩) (fun _ _ _ _ _ _ _ _ _ => trivial)
    (fun _ _ _ _ ⟨v, L, ws', h1, h2, h3, h4, h5, h6⟩ => ⟨L, _, _, h6, rfl, rfl, v, ws', h1, h2, h3, h4, h5⟩)
    (fun m meth c A a g mk v t L k n Y hp _ _ ⟨e1, e2, v', ws', e3, e4, e5, e6, e7⟩ => by
      cases e3; subst e1 e2
      have C : CHr Z EL vm0 h t.vm t.heap := (CHv.at Y hZ hEL I.1).trans (by rw [← hp.2.1]; exact e7)
      exact ⟨L, ws', e4, e5, rfl, rfl, rfl, C, I.later C e6⟩)
theorem go_step (hs : p.tables.exec = Jvm.exec → c.code = bytes → ∀ T : State, At T m c below → ∀ t, Steps p.tables e below (T.setTop (mkF m pc' Ls' st')) t → Steps p.tables e below (T.setTop (mkF m pc Ls st)) t)
    (n : Go p l e R s m args below meth c Z a0 EL own bytes maxL ret nm ws h cells slots pc' Ls' st' Q) : Go p l e R s m args below meth c Z a0 EL own bytes maxL ret nm ws h cells slots pc Ls st Q := fun K T P => by
  obtain ⟨u, S, E⟩ := n K T P
  obtain ⟨vm0, k0, locs, X, -⟩ := P
  exact ⟨u, hs K.1 K.2.1 T X.here _ S, E⟩
theorem go_mono (hq : ∀ v h ws, Q v h ws → Q' v h ws) (n : Go p l e R s m args below meth c Z a0 EL own bytes maxL ret nm ws h cells slots pc Ls st Q) : Go p l e R s m args below meth c Z a0 EL own bytes maxL ret nm ws h cells slots pc Ls st Q' := fun K T P => by
  obtain ⟨u, S, r, v, L, ws', e1, q, x⟩ := n K T P
  exact ⟨u, S, r, v, L, ws', e1, hq _ _ _ q, x⟩
theorem go_old (n : Ext Z.heap h → Go p l e R s m args below meth c Z a0 EL own bytes maxL ret nm ws h cells slots pc Ls st Q) : Go p l e R s m args below meth c Z a0 EL own bytes maxL ret nm ws h cells slots pc Ls st Q := fun K T P => by
  obtain ⟨vm0, k0, locs, X, eT, hS, hk, hZ, hown, N, I, C, r⟩ := id P
  exact n I.2.1 K T P
theorem go_safe (n : (∀ x ∈ ws, Z.heap.size ≤ x ∧ x < h.size) → Go p l e R s m args below meth c Z a0 EL own bytes maxL ret nm ws h cells slots pc Ls st Q) : Go p l e R s m args below meth c Z a0 EL own bytes maxL ret nm ws h cells slots pc Ls st Q := fun K T P => by
  obtain ⟨vm0, k0, locs, X, eT, hS, hk, hZ, hown, N, I, C, r⟩ := id P
  exact n (fun x hx => ⟨(I.2.2 x hx).1, (I.2.2 x hx).2.1⟩) K T P
theorem go_room (n : cells ≤ R.cells → slots ≤ R.slots → Go p l e R s m args below meth c Z a0 EL own bytes maxL ret nm ws h cells slots pc Ls st Q) : Go p l e R s m args below meth c Z a0 EL own bytes maxL ret nm ws h cells slots pc Ls st Q := fun K T P => by
  obtain ⟨vm0, k0, locs, X, eT, hS, hk, hZ, hown, N, I, C, r1, r2⟩ := id P
  exact n r1 r2 K T P
/-- fewer writable cells, more made: the same walk -/
theorem go_less {ws' : List Addr} {cells' slots' : Nat} (hs : ∀ x ∈ ws', x ∈ ws) (hc : cells ≤ cells') (hl : slots ≤ slots') (hc' : cells' ≤ R.cells) (hl' : slots' ≤ R.slots) (n : Go p l e R s m args below meth c Z a0 EL own bytes maxL ret nm ws' h cells' slots' pc Ls st Q) :
    Go p l e R s m args below meth c Z a0 EL own bytes maxL ret nm ws h cells slots pc Ls st Q := fun K T P => by
  obtain ⟨vm0, k0, locs, X, eT, hS, hk, hZ, hown, N, I, C, r1, r2⟩ := P
  exact n K T ⟨vm0, k0, locs, X.mono hc hl, eT, hS, hk, hZ, hown, N, I.sub hs, C, hc', hl'⟩
/-! ## returns -/
theorem go_ret {i : Instr} {w : Value} {t : FieldType} (hd : decode bytes pc = .ok (i, 1)) (ht : ret = some t) (hn : narrow t w = w)
    (hi : (i = .ireturn ∧ (t = .int ∨ t = .boolean ∨ t = .byte ∨ t = .char ∨ t = .short) ∧ ∃ z, w = .int z) ∨ (i = .lreturn ∧ t = .long ∧ ∃ z, w = .long z) ∨ (i = .dreturn ∧ t = .double ∧ ∃ z, w = .double z) ∨ (i = .freturn ∧ t = .float ∧ ∃ z, w = .float z) ∨ (i = .areturn ∧ t.isReference = true ∧ w.isRef = true))
    {ws' : List Addr} (hs : ∀ x ∈ ws', x ∈ ws) (q : Q (some w) h ws') : Go p l e R s m args below meth c Z a0 EL own bytes maxL ret nm ws h cells slots pc Ls (w :: rest) Q := fun K T P => by
  obtain ⟨vm0, k0, locs, X, eT, hS, hk, hZ, hown, N, I, C, r1, r2⟩ := P
  obtain ⟨hx, hby, hml, hrt, hlk, hnm, hEL⟩ := K
  obtain ⟨fs, hr, hrun, hended, hW⟩ := X.leaveW hS (by rw [eT]; exact hk) (v := some w) (fun h => by rw [hrt, ht] at h; cases h) hlk
  have D := CHv.at X hZ hEL I.1
  refine ⟨T.setFrames fs, retOut X hx (hrt.trans ht) hn hi (hb hby hd) hr, hrun, some w, locs, ws', hended, ?_, N, ?_, ?_, hW.1, hW.2.1, hW.2.2.1, hW.2.2.2.mono r1 r2⟩
  · show Q (some w) T.heap ws'; rw [eT]; exact q
  · show Inv Z EL ws' T.vm T.heap; rw [eT]; exact (I.sub hs).moved D
  · show CHr Z EL s.vm s.heap T.vm T.heap; rw [eT]; exact C.trans D
theorem go_ireturn {z : Int32} {t : FieldType} (hd : decode bytes pc = .ok (.ireturn, 1)) (ht : ret = some t) (ht' : t = .int ∨ t = .boolean ∨ t = .byte ∨ t = .char ∨ t = .short) (hn : narrow t (.int z) = .int z) {ws' : List Addr} (hs : ∀ x ∈ ws', x ∈ ws) (q : Q (some (.int z)) h ws') :
    Go p l e R s m args below meth c Z a0 EL own bytes maxL ret nm ws h cells slots pc Ls (.int z :: rest) Q := go_ret hd ht hn (Or.inl ⟨rfl, ht', z, rfl⟩) hs q
theorem go_areturn {w : Value} {t : FieldType} (hd : decode bytes pc = .ok (.areturn, 1)) (ht : ret = some t) (ht' : t.isReference = true) (hw : w.isRef = true) {ws' : List Addr} (hs : ∀ x ∈ ws', x ∈ ws) (q : Q (some w) h ws') :
    Go p l e R s m args below meth c Z a0 EL own bytes maxL ret nm ws h cells slots pc Ls (w :: rest) Q := go_ret hd ht (by cases t <;> first | (cases ht'; done) | (cases w <;> first | rfl | (cases hw; done))) (Or.inr (Or.inr (Or.inr (Or.inr ⟨rfl, ht', hw⟩)))) hs q
theorem go_return (hd : decode bytes pc = .ok (.return_, 1)) (ht : ret = none) {ws' : List Addr} (hs : ∀ x ∈ ws', x ∈ ws) (q : Q none h ws') : Go p l e R s m args below meth c Z a0 EL own bytes maxL ret nm ws h cells slots pc Ls [] Q := fun K T P => by
  obtain ⟨vm0, k0, locs, X, eT, hS, hk, hZ, hown, N, I, C, r1, r2⟩ := P
  obtain ⟨hx, hby, hml, hrt, hlk, hnm, hEL⟩ := K
  obtain ⟨fs, hr, hrun, hended, hW⟩ := X.leaveW hS (by rw [eT]; exact hk) (v := none) (fun _ => rfl) hlk
  have D := CHv.at X hZ hEL I.1
  refine ⟨T.setFrames fs, X.returnOut hx (hrt.trans ht) (hb hby hd) hr, hrun, none, locs, ws', hended, ?_, N, ?_, ?_, hW.1, hW.2.1, hW.2.2.1, hW.2.2.2.mono r1 r2⟩
  · show Q none T.heap ws'; rw [eT]; exact q
  · show Inv Z EL ws' T.vm T.heap; rw [eT]; exact (I.sub hs).moved D
  · show CHr Z EL s.vm s.heap T.vm T.heap; rw [eT]; exact C.trans D
/-! ## fields, statics -/
theorem go_getstatic {R0 O n d : String} {idx : Nat} {v : Value} (hd : decode bytes pc = .ok (.getstatic idx, 3)) (w : (Cond.fieldLink own idx R0 n d).before a0 Z = true) (via : Via Z R0 O n d) (F : Sta Z Z.heap O n d v) (hp : pc + 3 = pc')
    (nx : Go p l e R s m args below meth c Z a0 EL own bytes maxL ret nm ws h cells slots pc' Ls (v :: st) Q) : Go p l e R s m args below meth c Z a0 EL own bytes maxL ret nm ws h cells slots pc Ls st Q := fun K T P => by
  obtain ⟨vm0, k0, locs, X, eT, hS, hk, hZ, hown, N, I, C, r⟩ := P
  obtain ⟨T', X', e', stp⟩ := getS (host := "") X K.1 hZ hown w via eT (F.ext I.2.1) (g := mkF m pc Ls st) rfl (hb K.2.1 hd)
  subst hp
  obtain ⟨u, S2, E⟩ := nx K T' ⟨vm0, k0, locs, X', e', hS, hk, hZ, hown, N, I, C, r⟩
  exact ⟨u, stp _ S2, E⟩
theorem go_getstaticN {R0 O n d host : String} {idx : Nat} {v : Value} (hd : decode bytes pc = .ok (.getstatic idx, 3)) (w : (Cond.fieldLinkNest own idx R0 n d host).before a0 Z = true) (via : Via Z R0 O n d) (F : Sta Z Z.heap O n d v) (hp : pc + 3 = pc')
    (nx : Go p l e R s m args below meth c Z a0 EL own bytes maxL ret nm ws h cells slots pc' Ls (v :: st) Q) : Go p l e R s m args below meth c Z a0 EL own bytes maxL ret nm ws h cells slots pc Ls st Q := fun K T P => by
  obtain ⟨vm0, k0, locs, X, eT, hS, hk, hZ, hown, N, I, C, r⟩ := P
  obtain ⟨T', X', e', stp⟩ := getS2 X K.1 hZ hown (Or.inr w) via eT (F.ext I.2.1) (g := mkF m pc Ls st) rfl (hb K.2.1 hd)
  subst hp
  obtain ⟨u, S2, E⟩ := nx K T' ⟨vm0, k0, locs, X', e', hS, hk, hZ, hown, N, I, C, r⟩
  exact ⟨u, stp _ S2, E⟩
theorem go_getfield {R0 O n d host : String} {idx : Nat} {a : Addr} {v : Value} (hd : decode bytes pc = .ok (.getfield idx, 3)) (w : (Cond.fieldLink own idx R0 n d).before a0 Z = true ∨ (Cond.fieldLinkNest own idx R0 n d host).before a0 Z = true) (via : Via Z R0 O n d) (F : Fld Z h a O n d v) (hp : pc + 3 = pc')
    (nx : Go p l e R s m args below meth c Z a0 EL own bytes maxL ret nm ws h cells slots pc' Ls (v :: rest) Q) : Go p l e R s m args below meth c Z a0 EL own bytes maxL ret nm ws h cells slots pc Ls (.ref a :: rest) Q := fun K T P => by
  obtain ⟨vm0, k0, locs, X, eT, hS, hk, hZ, hown, N, I, C, r⟩ := P
  obtain ⟨T', X', e', stp⟩ := getF X K.1 hZ hown w via eT F (g := mkF m pc Ls (.ref a :: rest)) rfl rfl (hb K.2.1 hd)
  subst hp
  obtain ⟨u, S2, E⟩ := nx K T' ⟨vm0, k0, locs, X', e', hS, hk, hZ, hown, N, I, C, r⟩
  exact ⟨u, stp _ S2, E⟩
/-- a store into a field of a new object; of the narrow kinds too -/
theorem go_putfield {R0 O n d C0 : String} {idx kk : Nat} {a : Addr} {v v' old : Value} {ty : FieldType} (hd : decode bytes pc = .ok (.putfield idx, 3)) (w : (Cond.fieldLink own idx R0 n d).before a0 Z = true) (via : Via Z R0 O n d) (F : Fld Z h a O n d old) (E : Exa Z h a C0)
    (L : (Cond.lays C0 O n d).before a0 Z = true ∨ ((Cond.laysFinal C0 O n d).before a0 Z = true ∧ own = O ∧ nm = "<init>")) (wi : (Cond.instantiable C0 kk).before a0 Z = true) (hty : parseFieldDescriptor d = some ty) (hn : narrow ty v = v') (hf : fits ty v' = true) (ha : a ∈ ws) (hp : pc + 3 = pc')
    (nx : ∀ h', Wr h h' a (Jvm.RoadKit.slotOf Z O n d) v' → Go p l e R s m args below meth c Z a0 EL own bytes maxL ret nm ws h' cells slots pc' Ls rest Q) : Go p l e R s m args below meth c Z a0 EL own bytes maxL ret nm ws h cells slots pc Ls (v :: .ref a :: rest) Q := fun K T P => by
  obtain ⟨vm0, k0, locs, X, eT, hS, hk, hZ, hown, N, I, C, r⟩ := P
  obtain ⟨T', h', X', e', W, stp⟩ := putFN X K.1 hZ hown w via eT F E (L.imp id fun q => ⟨q.1, q.2.1, K.2.2.2.2.2.1.trans q.2.2⟩) wi hty hn hf (g := mkF m pc Ls (v :: .ref a :: rest)) rfl rfl (hb K.2.1 hd)
  subst hp
  obtain ⟨u, S2, E⟩ := nx h' W K T' ⟨vm0, k0, _, X', e', hS, by rw [W.size]; exact hk, hZ, hown, Fr.snoc X' N (I.2.2 a ha).1, I.wr W ha, C.trans (CHr.wr W (I.2.2 a ha).2.2 I.1), r⟩
  exact ⟨u, stp _ S2, E⟩
/-! ## new objects and arrays -/
theorem go_new {C0 : String} {idx k : Nat} (hd : decode bytes pc = .ok (.new idx, 3)) (w : (Cond.classLink own idx C0).before a0 Z = true) (wi : (Cond.instantiable C0 k).before a0 Z = true) (wz : (Cond.initialized C0).before a0 Z = true) (hc : cells + 1 ≤ R.cells) (hl : slots + k ≤ R.slots) (hp : pc + 3 = pc')
    (nx : ∀ h' a, a = h.size → Ext h h' → Exa Z h' a C0 → (∀ {O n d : String} {ty : FieldType}, Laid Z a0 C0 O n d → parseFieldDescriptor d = some ty → Fld Z h' a O n d (defaultValue ty)) → Go p l e R s m args below meth c Z a0 EL own bytes maxL ret nm (a :: ws) h' (cells + 1) (slots + k) pc' Ls (.ref a :: st) Q) :
    Go p l e R s m args below meth c Z a0 EL own bytes maxL ret nm ws h cells slots pc Ls st Q := fun K T P => by
  obtain ⟨vm0, k0, locs, X, eT, hS, hk, hZ, hown, N, I, C, r⟩ := P
  obtain ⟨T', h', X', e', E', A', D', -, stp⟩ := newO X K.1 hZ hown w wi wz eT (g := mkF m pc Ls st) rfl (hb K.2.1 hd) hc hl
  subst hp
  obtain ⟨u, S2, E⟩ := nx h' h.size rfl E' A' D' K T' ⟨vm0, k0, _, X', e', hS, Nat.le_trans hk E'.1, hZ, hown, N, I.new E' rfl A'.lt, C.trans (CHr.ext E' I.1), hc, hl⟩
  exact ⟨u, stp _ S2, E⟩
theorem go_newarray {aty : ArrayType} {z : Int32} {cap : Nat} (hd : decode bytes pc = .ok (.newarray aty, 2)) (w : (Cond.arrayClass (newarray.typeOf aty)).before a0 Z = true) (hz : ¬ z < 0) (hcap : z.toNatClampNeg ≤ cap) (hb8 : cap * 8 ≤ 536870912) (hc : cells + 1 ≤ R.cells) (hl : slots + cap ≤ R.slots) {ad : String} (had : "[" ++ (newarray.typeOf aty).toString = ad) (hp : pc + 2 = pc')
    (nx : ∀ h' a k, a = h.size → Ext h h' → Arv Z h' a k (newarray.typeOf aty) z [] (defaultValue (newarray.typeOf aty)) → Exa Z h' a ad → Go p l e R s m args below meth c Z a0 EL own bytes maxL ret nm (a :: ws) h' (cells + 1) (slots + cap) pc' Ls (.ref a :: rest) Q) :
    Go p l e R s m args below meth c Z a0 EL own bytes maxL ret nm ws h cells slots pc Ls (.int z :: rest) Q := fun K T P => by
  obtain ⟨vm0, k0, locs, X, eT, hS, hk, hZ, hown, N, I, C, r⟩ := P
  obtain ⟨T', h', k, X', e', E', A', D', stp⟩ := newPE X K.1 hZ w eT (g := mkF m pc Ls (.int z :: rest)) rfl (hb K.2.1 hd) rfl hz hcap hb8 hc hl had
  subst hp
  obtain ⟨u, S2, E⟩ := nx h' h.size k rfl E' (Arv.new A' hz) D' K T' ⟨vm0, k0, _, X', e', hS, Nat.le_trans hk E'.1, hZ, hown, N, I.new E' rfl A'.lt, C.trans (CHr.ext E' I.1), hc, hl⟩
  exact ⟨u, stp _ S2, E⟩
theorem go_anewarray {C0 : String} {idx : Nat} {z : Int32} {cap : Nat} (hd : decode bytes pc = .ok (.anewarray idx, 3)) (w : (Cond.classLink own idx C0).before a0 Z = true) (w2 : (Cond.arrayOver (.object C0)).before a0 Z = true) (hz : ¬ z < 0) (hcap : z.toNatClampNeg ≤ cap) (hb8 : cap * 8 ≤ 536870912) (hc : cells + 1 ≤ R.cells) (hl : slots + cap ≤ R.slots) {ad : String} (had : "[" ++ (FieldType.object C0).toString = ad) (hp : pc + 3 = pc')
    (nx : ∀ h' a k, a = h.size → Ext h h' → Arv Z h' a k (.object C0) z [] .null → Exa Z h' a ad → Ovr Z k C0 → Go p l e R s m args below meth c Z a0 EL own bytes maxL ret nm (a :: ws) h' (cells + 1) (slots + cap) pc' Ls (.ref a :: rest) Q) :
    Go p l e R s m args below meth c Z a0 EL own bytes maxL ret nm ws h cells slots pc Ls (.int z :: rest) Q := fun K T P => by
  obtain ⟨vm0, k0, locs, X, eT, hS, hk, hZ, hown, N, I, C, r⟩ := P
  obtain ⟨T', h', k, X', e', E', A', D', O', stp⟩ := newRE X K.1 hZ hown w w2 eT (g := mkF m pc Ls (.int z :: rest)) rfl (hb K.2.1 hd) rfl hz hcap hb8 hc hl had
  subst hp
  obtain ⟨u, S2, E⟩ := nx h' h.size k rfl E' (Arv.new A' hz) D' O' K T' ⟨vm0, k0, _, X', e', hS, Nat.le_trans hk E'.1, hZ, hown, N, I.new E' rfl A'.lt, C.trans (CHr.ext E' I.1), hc, hl⟩
  exact ⟨u, stp _ S2, E⟩
/-! ## arrays: length, loads, stores -/
theorem go_arraylength {a : Addr} {k : ClassId} {ty : FieldType} {z : Int32} {vs : List Value} {dv : Value} (hd : decode bytes pc = .ok (.arraylength, 1)) (F : Arv Z h a k ty z vs dv) (hp : pc + 1 = pc')
    (nx : Go p l e R s m args below meth c Z a0 EL own bytes maxL ret nm ws h cells slots pc' Ls (.int z :: rest) Q) : Go p l e R s m args below meth c Z a0 EL own bytes maxL ret nm ws h cells slots pc Ls (.ref a :: rest) Q := fun K T P => by
  obtain ⟨u, S2, E⟩ := nx K T P
  obtain ⟨vm0, k0, locs, X, eT, hS, hk, hZ, hown, N, I, C, r⟩ := P
  obtain ⟨cl, A, q1, S, q3, H, G⟩ := F
  subst hp
  refine ⟨u, X.arraylength K.1 (cell := cl) (by rw [eT]; exact A.1) (State.isArrayOf_alike hZ.alike A.2.1) (g := mkF m pc Ls (.ref a :: rest)) rfl rfl (hb K.2.1 hd) _ ?_, E⟩
  rw [len_of S q3]; exact S2
theorem go_caload {a : Addr} {k : ClassId} {z j : Int32} {vs : List Value} {dv v : Value} (hd : decode bytes pc = .ok (.caload, 1)) (F : Arv Z h a k .char z vs dv) (hj : ¬ j < 0 ∧ j < z) (hv : vs.getD j.toNatClampNeg dv = v) (hp : pc + 1 = pc')
    (nx : Go p l e R s m args below meth c Z a0 EL own bytes maxL ret nm ws h cells slots pc' Ls (v :: rest) Q) : Go p l e R s m args below meth c Z a0 EL own bytes maxL ret nm ws h cells slots pc Ls (.int j :: .ref a :: rest) Q := fun K T P => by
  obtain ⟨u, S2, E⟩ := nx K T P
  obtain ⟨vm0, k0, locs, X, eT, hS, hk, hZ, hown, N, I, C, r⟩ := P
  obtain ⟨cl, A, q1, S, q3, H, G⟩ := F
  subst hp
  exact ⟨u, X.caload K.1 (j := j) (v := v) (by rw [eT]; exact A.1) (State.isArrayOf_alike hZ.alike A.2.1) A.2.2 (inb_of S hj) (H.at (inb_of S hj) hv) (g := mkF m pc Ls (.int j :: .ref a :: rest)) rfl rfl (hb K.2.1 hd) _ S2, E⟩
theorem go_baload {a : Addr} {k : ClassId} {z j : Int32} {vs : List Value} {dv v : Value} (hd : decode bytes pc = .ok (.baload, 1)) (F : Arv Z h a k .byte z vs dv) (hj : ¬ j < 0 ∧ j < z) (hv : vs.getD j.toNatClampNeg dv = v) (hp : pc + 1 = pc')
    (nx : Go p l e R s m args below meth c Z a0 EL own bytes maxL ret nm ws h cells slots pc' Ls (v :: rest) Q) : Go p l e R s m args below meth c Z a0 EL own bytes maxL ret nm ws h cells slots pc Ls (.int j :: .ref a :: rest) Q := fun K T P => by
  obtain ⟨u, S2, E⟩ := nx K T P
  obtain ⟨vm0, k0, locs, X, eT, hS, hk, hZ, hown, N, I, C, r⟩ := P
  obtain ⟨cl, A, q1, S, q3, H, G⟩ := F
  subst hp
  exact ⟨u, X.baloadBytes K.1 (j := j) (v := v) (by rw [eT]; exact A.1) (State.isArrayOf_alike hZ.alike A.2.1) A.2.2 (inb_of S hj) (H.at (inb_of S hj) hv) (g := mkF m pc Ls (.int j :: .ref a :: rest)) rfl rfl (hb K.2.1 hd) _ S2, E⟩
theorem go_aaload {a : Addr} {k : ClassId} {ty : FieldType} {z j : Int32} {vs : List Value} {dv v : Value} (hd : decode bytes pc = .ok (.aaload, 1)) (hty : ty.isReference = true) (F : Arv Z h a k ty z vs dv) (hj : ¬ j < 0 ∧ j < z) (hv : vs.getD j.toNatClampNeg dv = v) (hp : pc + 1 = pc')
    (nx : Go p l e R s m args below meth c Z a0 EL own bytes maxL ret nm ws h cells slots pc' Ls (v :: rest) Q) : Go p l e R s m args below meth c Z a0 EL own bytes maxL ret nm ws h cells slots pc Ls (.int j :: .ref a :: rest) Q := fun K T P => by
  obtain ⟨u, S2, E⟩ := nx K T P
  obtain ⟨vm0, k0, locs, X, eT, hS, hk, hZ, hown, N, I, C, r⟩ := P
  obtain ⟨cl, A, q1, S, q3, H, G⟩ := F
  subst hp
  exact ⟨u, X.aaload K.1 (j := j) (v := v) (by rw [eT]; exact A.1) (State.isArrayOf_alike hZ.alike A.2.1) hty A.2.2 (inb_of S hj) (H.at (inb_of S hj) hv) (g := mkF m pc Ls (.int j :: .ref a :: rest)) rfl rfl (hb K.2.1 hd) _ S2, E⟩
/-- a char stored: as the array keeps it -/
theorem go_castore {a : Addr} {k : ClassId} {z j x x' : Int32} {vs : List Value} {dv : Value} (i : Nat) (hd : decode bytes pc = .ok (.castore, 1)) (F : Arv Z h a k .char z vs dv) (hj : ¬ j < 0 ∧ j < z) (hi : j.toNatClampNeg = i) (hl : i < vs.length) (hx' : nar .char x = x') (ha : a ∈ ws) (hp : pc + 1 = pc')
    (nx : ∀ h', Wr h h' a j.toNatClampNeg (.int x') → Arv Z h' a k .char z (vs.set i (.int x')) dv → Go p l e R s m args below meth c Z a0 EL own bytes maxL ret nm ws h' cells slots pc' Ls rest Q) : Go p l e R s m args below meth c Z a0 EL own bytes maxL ret nm ws h cells slots pc Ls (.int x :: .int j :: .ref a :: rest) Q := fun K T P => by
  obtain ⟨vm0, k0, locs, X, eT, hS, hk, hZ, hown, N, I, C, r⟩ := P
  obtain ⟨cl, A, q1, S, q3, H, G⟩ := F
  obtain ⟨T', h', X', e', W, stp⟩ := stC X K.1 hZ eT A (inb_of S hj) (g := mkF m pc Ls (.int x :: .int j :: .ref a :: rest)) rfl rfl (hb K.2.1 hd)
  subst hp hx'
  obtain ⟨u, S2, E⟩ := nx h' W (Arv.set A q1 S q3 H G (fits_nar_char _) W i hi hl) K T' ⟨vm0, k0, _, X', e', hS, by rw [W.size]; exact hk, hZ, hown, Fr.snoc X' N (I.2.2 a ha).1, I.wr W ha, C.trans (CHr.wr W (I.2.2 a ha).2.2 I.1), r⟩
  exact ⟨u, stp _ S2, E⟩
theorem go_bastore {a : Addr} {k : ClassId} {z j x x' : Int32} {vs : List Value} {dv : Value} (i : Nat) (hd : decode bytes pc = .ok (.bastore, 1)) (F : Arv Z h a k .byte z vs dv) (hj : ¬ j < 0 ∧ j < z) (hi : j.toNatClampNeg = i) (hl : i < vs.length) (hx' : x.toInt8.toInt32 = x') (ha : a ∈ ws) (hp : pc + 1 = pc')
    (nx : ∀ h', Wr h h' a j.toNatClampNeg (.int x') → Arv Z h' a k .byte z (vs.set i (.int x')) dv → Go p l e R s m args below meth c Z a0 EL own bytes maxL ret nm ws h' cells slots pc' Ls rest Q) : Go p l e R s m args below meth c Z a0 EL own bytes maxL ret nm ws h cells slots pc Ls (.int x :: .int j :: .ref a :: rest) Q := fun K T P => by
  obtain ⟨vm0, k0, locs, X, eT, hS, hk, hZ, hown, N, I, C, r⟩ := P
  obtain ⟨cl, A, q1, S, q3, H, G⟩ := F
  obtain ⟨T', h', X', e', W, stp⟩ := stB X K.1 hZ eT A (inb_of S hj) (g := mkF m pc Ls (.int x :: .int j :: .ref a :: rest)) rfl rfl (hb K.2.1 hd)
  subst hp hx'
  obtain ⟨u, S2, E⟩ := nx h' W (Arv.set A q1 S q3 H G (fits_nar_byte _) W i hi hl) K T' ⟨vm0, k0, _, X', e', hS, by rw [W.size]; exact hk, hZ, hown, Fr.snoc X' N (I.2.2 a ha).1, I.wr W ha, C.trans (CHr.wr W (I.2.2 a ha).2.2 I.1), r⟩
  exact ⟨u, stp _ S2, E⟩
theorem go_aastore {a : Addr} {k : ClassId} {ty : FieldType} {z j : Int32} {v : Value} {vs : List Value} {dv : Value} (i : Nat) (hd : decode bytes pc = .ok (.aastore, 1)) (hty : ty.isReference = true) (F : Arv Z h a k ty z vs dv) (hf : fits ty v = true) (hS' : Sto Z h a v) (hj : ¬ j < 0 ∧ j < z) (hi : j.toNatClampNeg = i) (hl : i < vs.length) (ha : a ∈ ws) (hp : pc + 1 = pc')
    (nx : ∀ h', Wr h h' a j.toNatClampNeg v → Arv Z h' a k ty z (vs.set i v) dv → Go p l e R s m args below meth c Z a0 EL own bytes maxL ret nm ws h' cells slots pc' Ls rest Q) : Go p l e R s m args below meth c Z a0 EL own bytes maxL ret nm ws h cells slots pc Ls (v :: .int j :: .ref a :: rest) Q := fun K T P => by
  obtain ⟨vm0, k0, locs, X, eT, hS, hk, hZ, hown, N, I, C, r⟩ := P
  obtain ⟨cl, A, q1, S, q3, H, G⟩ := F
  obtain ⟨T', h', X', e', W, stp⟩ := stR X K.1 hZ eT A (inb_of S hj) hty hS' (g := mkF m pc Ls (v :: .int j :: .ref a :: rest)) rfl rfl (hb K.2.1 hd)
  subst hp
  obtain ⟨u, S2, E⟩ := nx h' W (Arv.set A q1 S q3 H G hf W i hi hl) K T' ⟨vm0, k0, _, X', e', hS, by rw [W.size]; exact hk, hZ, hown, Fr.snoc X' N (I.2.2 a ha).1, I.wr W ha, C.trans (CHr.wr W (I.2.2 a ha).2.2 I.1), r⟩
  exact ⟨u, stp _ S2, E⟩
/-! ## casts -/
theorem go_checkcast {K0 : String} {idx : Nat} {a : Addr} (hd : decode bytes pc = .ok (.checkcast idx, 3)) (w : (Cond.classLink own idx K0).before a0 Z = true) (F : Ins Z h a K0 true) (hp : pc + 3 = pc')
    (nx : Go p l e R s m args below meth c Z a0 EL own bytes maxL ret nm ws h cells slots pc' Ls (.ref a :: rest) Q) : Go p l e R s m args below meth c Z a0 EL own bytes maxL ret nm ws h cells slots pc Ls (.ref a :: rest) Q := fun K T P => by
  obtain ⟨vm0, k0, locs, X, eT, hS, hk, hZ, hown, N, I, C, r⟩ := P
  obtain ⟨T', X', e', stp⟩ := castY X K.1 hZ hown w eT F (g := mkF m pc Ls (.ref a :: rest)) rfl rfl (hb K.2.1 hd)
  subst hp
  obtain ⟨u, S2, E⟩ := nx K T' ⟨vm0, k0, locs, X', e', hS, hk, hZ, hown, N, I, C, r⟩
  exact ⟨u, stp _ S2, E⟩
theorem go_instYes {K0 : String} {idx : Nat} {a : Addr} (hd : decode bytes pc = .ok (.instanceof idx, 3)) (w : (Cond.classLink own idx K0).before a0 Z = true) (F : Ins Z h a K0 true) (hp : pc + 3 = pc')
    (nx : Go p l e R s m args below meth c Z a0 EL own bytes maxL ret nm ws h cells slots pc' Ls (.int 1 :: rest) Q) : Go p l e R s m args below meth c Z a0 EL own bytes maxL ret nm ws h cells slots pc Ls (.ref a :: rest) Q := fun K T P => by
  obtain ⟨vm0, k0, locs, X, eT, hS, hk, hZ, hown, N, I, C, r⟩ := P
  obtain ⟨T', X', e', stp⟩ := instY X K.1 hZ hown w eT F (g := mkF m pc Ls (.ref a :: rest)) rfl rfl (hb K.2.1 hd)
  subst hp
  obtain ⟨u, S2, E⟩ := nx K T' ⟨vm0, k0, locs, X', e', hS, hk, hZ, hown, N, I, C, r⟩
  exact ⟨u, stp _ S2, E⟩
theorem go_instNo {K0 C0 : String} {idx : Nat} {a : Addr} (hd : decode bytes pc = .ok (.instanceof idx, 3)) (w : (Cond.classLink own idx K0).before a0 Z = true) (E0 : Exa Z h a C0) (F : ∃ c t, Z.vm.findClass C0 = some c ∧ Z.vm.findClass K0 = some t ∧ Z.vm.assignable c t = false) (hp : pc + 3 = pc')
    (nx : Go p l e R s m args below meth c Z a0 EL own bytes maxL ret nm ws h cells slots pc' Ls (.int 0 :: rest) Q) : Go p l e R s m args below meth c Z a0 EL own bytes maxL ret nm ws h cells slots pc Ls (.ref a :: rest) Q := fun K T P => by
  obtain ⟨vm0, k0, locs, X, eT, hS, hk, hZ, hown, N, I, C, r⟩ := P
  obtain ⟨T', X', e', stp⟩ := instNo X K.1 hZ hown w eT E0 F (g := mkF m pc Ls (.ref a :: rest)) rfl rfl (hb K.2.1 hd)
  subst hp
  obtain ⟨u, S2, E⟩ := nx K T' ⟨vm0, k0, locs, X', e', hS, hk, hZ, hown, N, I, C, r⟩
  exact ⟨u, stp _ S2, E⟩
/-! ## String constants -/
theorem go_ldcO {text : String} {idx n : Nat} (hd : decode bytes pc = .ok (.ldc idx, 2)) (w : (Cond.stringLink own idx text).before a0 Z = true) (wS : ∀ a ∈ Bundle.stringAtoms, a.before a0 Z = true) (hn : 4 * text.toList.length ≤ n) (hbig : n ≤ 536870912) (hc : cells + 2 ≤ R.cells) (hl : slots + (n + 4) ≤ R.slots) (hp : pc + 2 = pc')
    (nx : ∀ h' a, Ext h h' → Go p l e R s m args below meth c Z a0 EL own bytes maxL ret nm ws h' (cells + 2) (slots + (n + 4)) pc' Ls (.ref a :: st) Q) : Go p l e R s m args below meth c Z a0 EL own bytes maxL ret nm ws h cells slots pc Ls st Q := fun K T P => by
  obtain ⟨vm0, k0, locs, X, eT, hS, hk, hZ, hown, N, I, C, r⟩ := P
  obtain ⟨a, T', h', k1, X', e', E', hS', hk', hZ', hown', C', -, stp⟩ := ldcOH X K.1 hZ hown w wS eT hS hk K.2.2.2.2.2.2 I.1 (g := mkF m pc Ls st) rfl (hb K.2.1 hd) hn hbig hc hl
  subst hp
  obtain ⟨u, S2, E⟩ := nx h' a E' K T' ⟨T'.vm, k1, locs, X', e', hS', hk', hZ', hown', N, I.ld C' E', C.trans C', hc, hl⟩
  exact ⟨u, stp _ S2, E⟩
theorem go_ldcR {text : String} {idx n : Nat} {vs : List Value} {z : Int32} (hd : decode bytes pc = .ok (.ldc idx, 2)) (w : (Cond.stringLink own idx text).before a0 Z = true) (wS : ∀ a ∈ Bundle.stringAtoms, a.before a0 Z = true) (hm : (own, idx) ∈ EL)
    (ht : (∀ c ∈ text.toList, c.toNat < 256) ∧ text.toList.map (fun c => Value.int (Jvm.Lit.byteI c.toNat.toUInt16)) = vs) (hz : ¬ z < 0) (hzl : z.toNatClampNeg = vs.length) (hn : 4 * text.toList.length ≤ n) (hbig : n ≤ 536870912) (hc : cells + 2 ≤ R.cells) (hl : slots + (n + 4) ≤ R.slots) (hp : pc + 2 = pc')
    (nx : ∀ h' a b k, Ext h h' → Exa Z h' a "java/lang/String" → Fld Z h' a "java/lang/String" "coder" "B" (.int 0) → Fld Z h' a "java/lang/String" "value" "[B" (.ref b) → Arv Z h' b k .byte z vs (.int 0) → (∀ x ∈ ws, x ≠ a ∧ x ≠ b) →
      Go p l e R s m args below meth c Z a0 EL own bytes maxL ret nm ws h' (cells + 2) (slots + (n + 4)) pc' Ls (.ref a :: st) Q) : Go p l e R s m args below meth c Z a0 EL own bytes maxL ret nm ws h cells slots pc Ls st Q := fun K T P => by
  obtain ⟨vm0, k0, locs, X, eT, hS, hk, hZ, hown, N, I, C, r⟩ := P
  obtain ⟨a, T', h', k1, b, k, X', e', E', hS', hk', hZ', hown', A1, A2, A3, A4, -, -, C', -, hne, stp⟩ := ldcCH X K.1 hZ hown w wS eT hS hk K.2.2.2.2.2.2 hm I.1 ht hz hzl (g := mkF m pc Ls st) rfl (hb K.2.1 hd) hn hbig hc hl
  subst hp
  have I' := I.ld C' E'
  obtain ⟨u, S2, E⟩ := nx h' a b k E' A1 A2 A3 A4 (fun x hx => hne x (I'.2.2 x hx).2.2) K T' ⟨T'.vm, k1, locs, X', e', hS', hk', hZ', hown', N, I', C.trans C', hc, hl⟩
  exact ⟨u, stp _ S2, E⟩
theorem go_ldcI {idx : Nat} {z : Int32} (hd : decode bytes pc = .ok (.ldc idx, 2)) (w : (Cond.constant own idx z).before a0 Z = true) (hp : pc + 2 = pc')
    (nx : Go p l e R s m args below meth c Z a0 EL own bytes maxL ret nm ws h cells slots pc' Ls (.int z :: st) Q) : Go p l e R s m args below meth c Z a0 EL own bytes maxL ret nm ws h cells slots pc Ls st Q := fun K T P => by
  obtain ⟨u, S2, E⟩ := nx K T P
  obtain ⟨vm0, k0, locs, X, eT, hS, hk, hZ, hown, N, I, C, r⟩ := P
  subst hp
  exact ⟨u, X.ldcInt K.1 hown (mv (s := s.setVm vm0) hZ w) (g := mkF m pc Ls st) rfl (hb K.2.1 hd) _ S2, E⟩
/-! ## calls -/
theorem go_init {idx W : Nat} {a : Addr} (hd : decode bytes pc = .ok (.invokespecial idx, 3)) (w1 : (Cond.methodLink own idx Lib.objectInit).before a0 Z = true) (w2 : (Cond.instanceMethod Lib.objectInit).before a0 Z = true) (w3 : (Cond.code Lib.objectInit ⟨#[0xb1]⟩ 1 none).before a0 Z = true) (hsz : Ls.size = maxL) (hf : 1 ≤ R.frames)
    (hW : (rest.map fun v => v.category).sum ≤ W) (hl : W + 12 ≤ R.locals) (hp : pc + 3 = pc') (nx : Go p l e R s m args below meth c Z a0 EL own bytes maxL ret nm ws h cells slots pc' Ls rest Q) : Go p l e R s m args below meth c Z a0 EL own bytes maxL ret nm ws h cells slots pc Ls (.ref a :: rest) Q := fun K T P => by
  obtain ⟨vm0, k0, locs, X, eT, hS, hk, hZ, hown, N, I, C, r⟩ := P
  obtain ⟨T', X', e', stp⟩ := initO X K.1 hZ hown w1 w2 w3 eT (g := mkF m pc Ls (.ref a :: rest)) rfl (hsz.trans K.2.2.1.symm) rfl (hb K.2.1 hd) hf (W := W) (by show 2 * 0 + _ ≤ _; omega) hl
  subst hp
  obtain ⟨u, S2, E⟩ := nx K T' ⟨vm0, k0, locs, X', e', hS, hk, hZ, hown, N, I, C, r⟩
  exact ⟨u, stp _ S2, E⟩
/-- what comes behind a call's return -/
theorem go_after {vm0 : Vm} {k0 : Nat} {locs : List Loc} {T : State} {B : Pt} {v : Option Value} {rm : Room} (K : Cst p meth c Z a0 EL bytes maxL ret nm) (eT : T.heap = h) (hS : s.Since vm0 k0) (hk : k0 ≤ h.size) (hZ : Z.Warmed39 vm0) (hown : vm0.findClass own = some m.cls) (N : Fr Z.heap.size locs) (C : CHr Z EL s.vm s.heap vm0 h)
    (hc : cells + rm.cells ≤ R.cells) (hl : slots + rm.slots ≤ R.slots)
    (X' : Stand p l e R ((s.setVm vm0).setVm B.U.vm) m args below meth c B.U B.locs B.cells B.slots) (h2 : (s.setVm vm0).Since B.U.vm B.U.heap.size) (hgr : T.heap.size ≤ B.U.heap.size)
    (hp : ∃ (L : List Loc) (ws' : List Addr), Q v B.U.heap ws' ∧ Fr Z.heap.size L ∧ B.locs = locs ++ L ∧ B.cells = cells + rm.cells ∧ B.slots = slots + rm.slots ∧ CHr Z EL vm0 h B.U.vm B.U.heap ∧ Inv Z EL (ws' ++ ws) B.U.vm B.U.heap) {st0 : State} (hst : Steps p.tables e below st0 (B.U.setTop (mkF m pc' Ls st')))
    (nx : ∀ h' ws', Q v h' ws' → h.size ≤ h'.size → Go p l e R s m args below meth c Z a0 EL own bytes maxL ret nm (ws' ++ ws) h' (cells + rm.cells) (slots + rm.slots) pc' Ls st' Q') : ∃ u, Steps p.tables e below st0 u ∧ Done s below R Z EL Q' u := by
  obtain ⟨L, ws', q, N', e1, e2, e3, C', I'⟩ := hp
  have hgr' : h.size ≤ B.U.heap.size := by rw [← eT]; exact hgr
  rw [e1, e2, e3] at X'
  obtain ⟨u, S2, E⟩ := nx B.U.heap ws' q hgr' K B.U ⟨B.U.vm, B.U.heap.size, _, X', rfl, hS.trans h2 (Nat.le_trans hk hgr'), Nat.le_refl _, State.Warmed39.trans (t := s.setVm vm0) hZ h2.1, (h2.1.alike.findClass _ _).trans hown, N.app N', I', C.trans C', hc, hl⟩
  exact ⟨u, hst.trans S2, E⟩
theorem go_static {idx W : Nat} {y : MethodName} {bY : ByteArray} {mY : Nat} {rY : Option FieldType} {rm : Room} {as' : Array Value} {ws0 : List Addr} {argsL : List Value} (hd : decode bytes pc = .ok (.invokestatic idx, 3)) (hM : Con l Z EL y bY mY rY [] rm as' h ws0 Q) (hs : ∀ x ∈ ws0, x ∈ ws)
    (w1 : (Cond.methodLink own idx y).before a0 Z = true) (w2 : (Cond.static y).before a0 Z = true) (w3 : (Cond.initialized y.cls).before a0 Z = true) (w4 : (Cond.code y bY mY rY).before a0 Z = true) (hy : y.cls ≠ "java/lang/invoke/MethodHandle" ∧ y.cls ≠ "java/lang/invoke/VarHandle")
    (hlen : ∀ sig, parseMethodDescriptor y.desc = some sig → argsL.length = sig.parameters.length) (has : argsL.toArray = as') (hst : st = argsL.reverse ++ rest) (hsz : Ls.size = maxL) (hW : (rest.map fun v => v.category).sum ≤ W) (hf : rm.frames + 1 ≤ R.frames) (hlo : W + (mY + 11) + rm.locals ≤ R.locals) (hc : cells + rm.cells ≤ R.cells) (hl : slots + rm.slots ≤ R.slots) (hp : pc + 3 = pc')
    (nx : ∀ v h' ws', Q v h' ws' → h.size ≤ h'.size → Go p l e R s m args below meth c Z a0 EL own bytes maxL ret nm (ws' ++ ws) h' (cells + rm.cells) (slots + rm.slots) pc' Ls (v.toList ++ rest) Q') :
    Go p l e R s m args below meth c Z a0 EL own bytes maxL ret nm ws h cells slots pc Ls st Q' := fun K T P => by
  obtain ⟨vm0, k0, locs, X, eT, hS, hk, hZ, hown, N, I, C, r⟩ := P
  subst hst hp
  obtain ⟨v, vm₁, B, hW1, X', h2, hgr, hpost, hsteps⟩ := callSS X K.1 hown (mvT (s := s.setVm vm0) hZ w1) (mvT (s := s.setVm vm0) hZ w2) (mvT (s := s.setVm vm0) hZ w3) (mvT (s := s.setVm vm0) hZ w4) hy (backC (W := W) hM hZ w4 w3 hf hlo K.2.2.2.2.2.2 I hs) (g := mkF m pc Ls (argsL.reverse ++ rest)) rfl (hsz.trans K.2.2.1.symm) hlen rfl (by show 2 * 0 + _ ≤ _; omega) (hb K.2.1 hd) (fun _ _ => ⟨has, eT, hc, hl⟩)
  exact go_after K eT hS hk hZ hown N C hc hl X' h2 hgr hpost hsteps (nx v)
theorem go_special {idx W : Nat} {y : MethodName} {bY : ByteArray} {mY : Nat} {rm : Room} {as' : Array Value} {ws0 : List Addr} {argsL : List Value} {a : Addr} (hd : decode bytes pc = .ok (.invokespecial idx, 3)) (hM : Con l Z EL y bY mY none [] rm as' h ws0 Q) (hs : ∀ x ∈ ws0, x ∈ ws) (hy1 : y.name = "<init>")
    (w1 : (Cond.methodLink own idx y).before a0 Z = true) (w2 : (Cond.instanceMethod y).before a0 Z = true) (w3 : (Cond.initialized y.cls).before a0 Z = true) (w4 : (Cond.code y bY mY none).before a0 Z = true) (hy : y.cls ≠ "java/lang/invoke/MethodHandle" ∧ y.cls ≠ "java/lang/invoke/VarHandle")
    (hlen : ∀ sig, parseMethodDescriptor y.desc = some sig → argsL.length = sig.parameters.length) (has : (Value.ref a :: argsL).toArray = as') (hst : st = argsL.reverse ++ .ref a :: rest) (hsz : Ls.size = maxL) (hW : (rest.map fun v => v.category).sum ≤ W) (hf : rm.frames + 1 ≤ R.frames) (hlo : W + (mY + 11) + rm.locals ≤ R.locals) (hc : cells + rm.cells ≤ R.cells) (hl : slots + rm.slots ≤ R.slots) (hp : pc + 3 = pc')
    (nx : ∀ v h' ws', Q v h' ws' → h.size ≤ h'.size → Go p l e R s m args below meth c Z a0 EL own bytes maxL ret nm (ws' ++ ws) h' (cells + rm.cells) (slots + rm.slots) pc' Ls (v.toList ++ rest) Q') :
    Go p l e R s m args below meth c Z a0 EL own bytes maxL ret nm ws h cells slots pc Ls st Q' := fun K T P => by
  obtain ⟨vm0, k0, locs, X, eT, hS, hk, hZ, hown, N, I, C, r⟩ := P
  subst hst hp
  obtain ⟨v, vm₁, B, hW1, X', h2, hgr, hpost, hsteps⟩ := X.specialBackS K.1 hy1 hown (mvT (s := s.setVm vm0) hZ w1) (mvT (s := s.setVm vm0) hZ w2) (mvT (s := s.setVm vm0) hZ w4) hy (backC (W := W) hM hZ w4 w3 hf hlo K.2.2.2.2.2.2 I hs) (g := mkF m pc Ls (argsL.reverse ++ .ref a :: rest)) rfl (hsz.trans K.2.2.1.symm) (Steps.refl _) hlen rfl (by show 2 * 0 + _ ≤ _; omega) (hb K.2.1 hd) (fun _ _ => ⟨has, eT, hc, hl⟩)
  exact go_after K eT hS hk hZ hown N C hc hl X' h2 hgr hpost hsteps (nx v)
theorem go_virtual {idx W : Nat} {y z : MethodName} {C0 : String} {bY : ByteArray} {mY : Nat} {rY : Option FieldType} {rm : Room} {as' : Array Value} {ws0 : List Addr} {argsL : List Value} {a : Addr} (hd : decode bytes pc = .ok (.invokevirtual idx, 3)) (hM : Con l Z EL z bY mY rY [] rm as' h ws0 Q) (hs : ∀ x ∈ ws0, x ∈ ws) (E0 : Exa Z h a C0)
    (w1 : (Cond.methodLink own idx y).before a0 Z = true) (w2 : (Cond.declares y).before a0 Z = true) (w5 : (Cond.selects C0 y z).before a0 Z = true) (hnf : ∀ s' : State, Z.Warmed39 s'.vm → NotFace s' y) (w6 : (Cond.instanceMethod z).before a0 Z = true) (w3 : (Cond.initialized z.cls).before a0 Z = true) (w4 : (Cond.code z bY mY rY).before a0 Z = true) (hy : y.cls ≠ "java/lang/invoke/MethodHandle" ∧ y.cls ≠ "java/lang/invoke/VarHandle")
    (hlen : ∀ sig, parseMethodDescriptor y.desc = some sig → argsL.length = sig.parameters.length) (has : (Value.ref a :: argsL).toArray = as') (hst : st = argsL.reverse ++ .ref a :: rest) (hsz : Ls.size = maxL) (hW : (rest.map fun v => v.category).sum ≤ W) (hf : rm.frames + 1 ≤ R.frames) (hlo : W + (mY + 11) + rm.locals ≤ R.locals) (hc : cells + rm.cells ≤ R.cells) (hl : slots + rm.slots ≤ R.slots) (hp : pc + 3 = pc')
    (nx : ∀ v h' ws', Q v h' ws' → h.size ≤ h'.size → Go p l e R s m args below meth c Z a0 EL own bytes maxL ret nm (ws' ++ ws) h' (cells + rm.cells) (slots + rm.slots) pc' Ls (v.toList ++ rest) Q') :
    Go p l e R s m args below meth c Z a0 EL own bytes maxL ret nm ws h cells slots pc Ls st Q' := fun K T P => by
  obtain ⟨vm0, k0, locs, X, eT, hS, hk, hZ, hown, N, I, C, r⟩ := P
  subst hst hp
  obtain ⟨cB, kB, i1, i2, i3⟩ := isOf (s := s.setVm vm0) hZ eT E0
  obtain ⟨v, vm₁, B, hW1, X', h2, hgr, hpost, hsteps⟩ := X.virtualBackS K.1 hown (mvT (s := s.setVm vm0) hZ w1) (mvT (s := s.setVm vm0) hZ w2) (hnf (s.setVm vm0) hZ) (mvT (s := s.setVm vm0) hZ w5) (mvT (s := s.setVm vm0) hZ w6) hy (backC (W := W) hM hZ w4 w3 hf hlo K.2.2.2.2.2.2 I hs) i1 i3 (g := mkF m pc Ls (argsL.reverse ++ .ref a :: rest)) rfl (hsz.trans K.2.2.1.symm) (Steps.refl _) hlen rfl (by show 2 * 0 + _ ≤ _; omega) (hb K.2.1 hd) (fun _ _ => ⟨has, eT, hc, hl⟩)
  exact go_after K eT hS hk hZ hown N C hc hl X' h2 hgr hpost hsteps (nx v)
theorem nf_sel {y : MethodName} {C0 : String} (w : (Cond.selects C0 y y).before a0 Z = true) : ∀ s' : State, Z.Warmed39 s'.vm → NotFace s' y := fun s' hZ => notFace_of_selects (args := #[]) (mvT hZ w)
end Rules
end Jvm.Own
namespace Jvm.Own
open Sem ClassFile Op Lib Bundle Jvm.Stand Jvm.Free Jvm.LawKit Jvm.RoadKit
section Rules2
variable {p : Program} {l : Launch} {e : Env} {R : Room} {s : State} {m : MethodId} {args : Array Value} {below : List Frame} {meth : Method} {c : Code} {Z : State} {a0 : Array Value} {EL : List (String × Nat)} {own : String} {bytes : ByteArray} {maxL : Nat} {ret : Option FieldType} {nm : String}
  {ws : List Addr} {h : Heap} {cells slots : Nat} {pc pc' : Nat} {Ls Ls' : Array Slot} {st st' rest : List Value} {Q Q' : Option Value → Heap → List Addr → Prop}
theorem g_iload {k : Nat} {v : Int32} (hd : decode bytes pc = .ok (.iload k, 2)) (hp : pc + 2 = pc') (hl : Ls[k]? = some (.val (.int v))) (n : Go p l e R s m args below meth c Z a0 EL own bytes maxL ret nm ws h cells slots pc' Ls (.int v :: st) Q) : Go p l e R s m args below meth c Z a0 EL own bytes maxL ret nm ws h cells slots pc Ls st Q := by
  subst hp; exact go_step (fun hx q _ A _ k => XS.iload A hx rfl (hb q hd) hl k) n
theorem g_iloadN {k : Fin 4} {v : Int32} (hd : decode bytes pc = .ok (.iload_n k, 1)) (hp : pc + 1 = pc') (hl : Ls[k.val]? = some (.val (.int v))) (n : Go p l e R s m args below meth c Z a0 EL own bytes maxL ret nm ws h cells slots pc' Ls (.int v :: st) Q) : Go p l e R s m args below meth c Z a0 EL own bytes maxL ret nm ws h cells slots pc Ls st Q := by
  subst hp; exact go_step (fun hx q _ A _ k => XS.iloadN A hx rfl (hb q hd) hl k) n
theorem g_lload {k : Nat} {v : Int64} (hd : decode bytes pc = .ok (.lload k, 2)) (hp : pc + 2 = pc') (hl : Ls[k]? = some (.val (.long v))) (n : Go p l e R s m args below meth c Z a0 EL own bytes maxL ret nm ws h cells slots pc' Ls (.long v :: st) Q) : Go p l e R s m args below meth c Z a0 EL own bytes maxL ret nm ws h cells slots pc Ls st Q := by
  subst hp; exact go_step (fun hx q _ A _ k => XS.lload A hx rfl (hb q hd) hl k) n
theorem g_lloadN {k : Fin 4} {v : Int64} (hd : decode bytes pc = .ok (.lload_n k, 1)) (hp : pc + 1 = pc') (hl : Ls[k.val]? = some (.val (.long v))) (n : Go p l e R s m args below meth c Z a0 EL own bytes maxL ret nm ws h cells slots pc' Ls (.long v :: st) Q) : Go p l e R s m args below meth c Z a0 EL own bytes maxL ret nm ws h cells slots pc Ls st Q := by
  subst hp; exact go_step (fun hx q _ A _ k => XS.lloadN A hx rfl (hb q hd) hl k) n
theorem g_aload {k : Nat} {v : Value} (hd : decode bytes pc = .ok (.aload k, 2)) (hp : pc + 2 = pc') (hl : Ls[k]? = some (.val v)) (hv : v.isRef = true) (n : Go p l e R s m args below meth c Z a0 EL own bytes maxL ret nm ws h cells slots pc' Ls (v :: st) Q) : Go p l e R s m args below meth c Z a0 EL own bytes maxL ret nm ws h cells slots pc Ls st Q := by
  subst hp; exact go_step (fun hx q _ A _ k => XS.aload A hx rfl (hb q hd) hl hv k) n
theorem g_aloadN {k : Fin 4} {v : Value} (hd : decode bytes pc = .ok (.aload_n k, 1)) (hp : pc + 1 = pc') (hl : Ls[k.val]? = some (.val v)) (hv : v.isRef = true) (n : Go p l e R s m args below meth c Z a0 EL own bytes maxL ret nm ws h cells slots pc' Ls (v :: st) Q) : Go p l e R s m args below meth c Z a0 EL own bytes maxL ret nm ws h cells slots pc Ls st Q := by
  subst hp; exact go_step (fun hx q _ A _ k => XS.aloadN A hx rfl (hb q hd) hl hv k) n
theorem g_iconst {i : Int} {z : Int32} (hd : decode bytes pc = .ok (.iconst i, 1)) (hp : pc + 1 = pc') (hz : Int32.ofInt i = z) (n : Go p l e R s m args below meth c Z a0 EL own bytes maxL ret nm ws h cells slots pc' Ls (.int z :: st) Q) : Go p l e R s m args below meth c Z a0 EL own bytes maxL ret nm ws h cells slots pc Ls st Q := by
  subst hp hz; exact go_step (fun hx q _ A _ k => XS.iconst A hx rfl (hb q hd) k) n
theorem g_bipush {i : Int} {z : Int32} (hd : decode bytes pc = .ok (.bipush i, 2)) (hp : pc + 2 = pc') (hz : (Int8.ofInt i).toInt32 = z) (n : Go p l e R s m args below meth c Z a0 EL own bytes maxL ret nm ws h cells slots pc' Ls (.int z :: st) Q) : Go p l e R s m args below meth c Z a0 EL own bytes maxL ret nm ws h cells slots pc Ls st Q := by
  subst hp hz; exact go_step (fun hx q _ A _ k => XS.bipush A hx rfl (hb q hd) k) n
theorem g_sipush {i : Int} {z : Int32} (hd : decode bytes pc = .ok (.sipush i, 3)) (hp : pc + 3 = pc') (hz : (Int16.ofInt i).toInt32 = z) (n : Go p l e R s m args below meth c Z a0 EL own bytes maxL ret nm ws h cells slots pc' Ls (.int z :: st) Q) : Go p l e R s m args below meth c Z a0 EL own bytes maxL ret nm ws h cells slots pc Ls st Q := by
  subst hp hz; exact go_step (fun hx q _ A _ k => XS.sipush A hx rfl (hb q hd) k) n
theorem g_aconstNull  (hd : decode bytes pc = .ok (.aconst_null, 1)) (hp : pc + 1 = pc') (n : Go p l e R s m args below meth c Z a0 EL own bytes maxL ret nm ws h cells slots pc' Ls (.null :: st) Q) : Go p l e R s m args below meth c Z a0 EL own bytes maxL ret nm ws h cells slots pc Ls st Q := by
  subst hp; exact go_step (fun hx q _ A _ k => XS.aconstNull A hx rfl (hb q hd) k) n
theorem g_lconst {i : Fin 2} {z : Int64} (hd : decode bytes pc = .ok (.lconst i, 1)) (hp : pc + 1 = pc') (hz : Int64.ofNat i = z) (n : Go p l e R s m args below meth c Z a0 EL own bytes maxL ret nm ws h cells slots pc' Ls (.long z :: st) Q) : Go p l e R s m args below meth c Z a0 EL own bytes maxL ret nm ws h cells slots pc Ls st Q := by
  subst hp hz; exact go_step (fun hx q _ A _ k => XS.lconst A hx rfl (hb q hd) k) n
theorem g_istore {k : Nat} {x : Int32} (hd : decode bytes pc = .ok (.istore k, 2)) (hp : pc + 2 = pc') (hl : storeLocals Ls k (.int x) = some Ls') (n : Go p l e R s m args below meth c Z a0 EL own bytes maxL ret nm ws h cells slots pc' Ls' rest Q) : Go p l e R s m args below meth c Z a0 EL own bytes maxL ret nm ws h cells slots pc Ls (.int x :: rest) Q := by
  subst hp; exact go_step (fun hx q _ A _ k => XS.istore A hx rfl (hb q hd) rfl hl k) n
theorem g_istoreN {k : Fin 4} {x : Int32} (hd : decode bytes pc = .ok (.istore_n k, 1)) (hp : pc + 1 = pc') (hl : storeLocals Ls k.val (.int x) = some Ls') (n : Go p l e R s m args below meth c Z a0 EL own bytes maxL ret nm ws h cells slots pc' Ls' rest Q) : Go p l e R s m args below meth c Z a0 EL own bytes maxL ret nm ws h cells slots pc Ls (.int x :: rest) Q := by
  subst hp; exact go_step (fun hx q _ A _ k => XS.istoreN A hx rfl (hb q hd) rfl hl k) n
theorem g_lstore {k : Nat} {x : Int64} (hd : decode bytes pc = .ok (.lstore k, 2)) (hp : pc + 2 = pc') (hl : storeLocals Ls k (.long x) = some Ls') (n : Go p l e R s m args below meth c Z a0 EL own bytes maxL ret nm ws h cells slots pc' Ls' rest Q) : Go p l e R s m args below meth c Z a0 EL own bytes maxL ret nm ws h cells slots pc Ls (.long x :: rest) Q := by
  subst hp; exact go_step (fun hx q _ A _ k => XS.lstore A hx rfl (hb q hd) rfl hl k) n
theorem g_lstoreN {k : Fin 4} {x : Int64} (hd : decode bytes pc = .ok (.lstore_n k, 1)) (hp : pc + 1 = pc') (hl : storeLocals Ls k.val (.long x) = some Ls') (n : Go p l e R s m args below meth c Z a0 EL own bytes maxL ret nm ws h cells slots pc' Ls' rest Q) : Go p l e R s m args below meth c Z a0 EL own bytes maxL ret nm ws h cells slots pc Ls (.long x :: rest) Q := by
  subst hp; exact go_step (fun hx q _ A _ k => XS.lstoreN A hx rfl (hb q hd) rfl hl k) n
theorem g_astore {k : Nat} {x : Value} (hd : decode bytes pc = .ok (.astore k, 2)) (hp : pc + 2 = pc') (hv : x.isRef = true) (hl : storeLocals Ls k x = some Ls') (n : Go p l e R s m args below meth c Z a0 EL own bytes maxL ret nm ws h cells slots pc' Ls' rest Q) : Go p l e R s m args below meth c Z a0 EL own bytes maxL ret nm ws h cells slots pc Ls (x :: rest) Q := by
  subst hp; exact go_step (fun hx q _ A _ k => XS.astore A hx rfl (hb q hd) rfl hv hl k) n
theorem g_astoreN {k : Fin 4} {x : Value} (hd : decode bytes pc = .ok (.astore_n k, 1)) (hp : pc + 1 = pc') (hv : x.isRef = true) (hl : storeLocals Ls k.val x = some Ls') (n : Go p l e R s m args below meth c Z a0 EL own bytes maxL ret nm ws h cells slots pc' Ls' rest Q) : Go p l e R s m args below meth c Z a0 EL own bytes maxL ret nm ws h cells slots pc Ls (x :: rest) Q := by
  subst hp; exact go_step (fun hx q _ A _ k => XS.astoreN A hx rfl (hb q hd) rfl hv hl k) n
theorem g_iinc {k : Nat} {cst : Int} {x : Int32} (hd : decode bytes pc = .ok (.iinc k cst, 3)) (hp : pc + 3 = pc') (hl : Ls[k]? = some (.val (.int x))) (hl' : storeLocals Ls k (.int (x + Int32.ofInt cst)) = some Ls') (n : Go p l e R s m args below meth c Z a0 EL own bytes maxL ret nm ws h cells slots pc' Ls' st Q) : Go p l e R s m args below meth c Z a0 EL own bytes maxL ret nm ws h cells slots pc Ls st Q := by
  subst hp; exact go_step (fun hx q _ A _ k => XS.iinc A hx rfl (hb q hd) hl hl' k) n
theorem g_iadd {x y : Int32} (hd : decode bytes pc = .ok (.iadd, 1)) (hp : pc + 1 = pc') (n : Go p l e R s m args below meth c Z a0 EL own bytes maxL ret nm ws h cells slots pc' Ls (.int (x + y) :: rest) Q) : Go p l e R s m args below meth c Z a0 EL own bytes maxL ret nm ws h cells slots pc Ls (.int y :: .int x :: rest) Q := by
  subst hp; exact go_step (fun hx q _ A _ k => XS.iadd A hx rfl (hb q hd) rfl k) n
theorem g_isub {x y : Int32} (hd : decode bytes pc = .ok (.isub, 1)) (hp : pc + 1 = pc') (n : Go p l e R s m args below meth c Z a0 EL own bytes maxL ret nm ws h cells slots pc' Ls (.int (x - y) :: rest) Q) : Go p l e R s m args below meth c Z a0 EL own bytes maxL ret nm ws h cells slots pc Ls (.int y :: .int x :: rest) Q := by
  subst hp; exact go_step (fun hx q _ A _ k => XS.isub A hx rfl (hb q hd) rfl k) n
theorem g_imul {x y : Int32} (hd : decode bytes pc = .ok (.imul, 1)) (hp : pc + 1 = pc') (n : Go p l e R s m args below meth c Z a0 EL own bytes maxL ret nm ws h cells slots pc' Ls (.int (x * y) :: rest) Q) : Go p l e R s m args below meth c Z a0 EL own bytes maxL ret nm ws h cells slots pc Ls (.int y :: .int x :: rest) Q := by
  subst hp; exact go_step (fun hx q _ A _ k => XS.imul A hx rfl (hb q hd) rfl k) n
theorem g_iand {x y : Int32} (hd : decode bytes pc = .ok (.iand, 1)) (hp : pc + 1 = pc') (n : Go p l e R s m args below meth c Z a0 EL own bytes maxL ret nm ws h cells slots pc' Ls (.int (x &&& y) :: rest) Q) : Go p l e R s m args below meth c Z a0 EL own bytes maxL ret nm ws h cells slots pc Ls (.int y :: .int x :: rest) Q := by
  subst hp; exact go_step (fun hx q _ A _ k => XS.iand A hx rfl (hb q hd) rfl k) n
theorem g_ior {x y : Int32} (hd : decode bytes pc = .ok (.ior, 1)) (hp : pc + 1 = pc') (n : Go p l e R s m args below meth c Z a0 EL own bytes maxL ret nm ws h cells slots pc' Ls (.int (x ||| y) :: rest) Q) : Go p l e R s m args below meth c Z a0 EL own bytes maxL ret nm ws h cells slots pc Ls (.int y :: .int x :: rest) Q := by
  subst hp; exact go_step (fun hx q _ A _ k => XS.ior A hx rfl (hb q hd) rfl k) n
theorem g_ixor {x y : Int32} (hd : decode bytes pc = .ok (.ixor, 1)) (hp : pc + 1 = pc') (n : Go p l e R s m args below meth c Z a0 EL own bytes maxL ret nm ws h cells slots pc' Ls (.int (x ^^^ y) :: rest) Q) : Go p l e R s m args below meth c Z a0 EL own bytes maxL ret nm ws h cells slots pc Ls (.int y :: .int x :: rest) Q := by
  subst hp; exact go_step (fun hx q _ A _ k => XS.ixor A hx rfl (hb q hd) rfl k) n
theorem g_ishl {x y : Int32} (hd : decode bytes pc = .ok (.ishl, 1)) (hp : pc + 1 = pc') (n : Go p l e R s m args below meth c Z a0 EL own bytes maxL ret nm ws h cells slots pc' Ls (.int (x <<< (y &&& 31)) :: rest) Q) : Go p l e R s m args below meth c Z a0 EL own bytes maxL ret nm ws h cells slots pc Ls (.int y :: .int x :: rest) Q := by
  subst hp; exact go_step (fun hx q _ A _ k => XS.ishl A hx rfl (hb q hd) rfl k) n
theorem g_ishr {x y : Int32} (hd : decode bytes pc = .ok (.ishr, 1)) (hp : pc + 1 = pc') (n : Go p l e R s m args below meth c Z a0 EL own bytes maxL ret nm ws h cells slots pc' Ls (.int (x >>> (y &&& 31)) :: rest) Q) : Go p l e R s m args below meth c Z a0 EL own bytes maxL ret nm ws h cells slots pc Ls (.int y :: .int x :: rest) Q := by
  subst hp; exact go_step (fun hx q _ A _ k => XS.ishr A hx rfl (hb q hd) rfl k) n
theorem g_iushr {x y : Int32} (hd : decode bytes pc = .ok (.iushr, 1)) (hp : pc + 1 = pc') (n : Go p l e R s m args below meth c Z a0 EL own bytes maxL ret nm ws h cells slots pc' Ls (.int ((x.toUInt32 >>> (y &&& 31).toUInt32).toInt32) :: rest) Q) : Go p l e R s m args below meth c Z a0 EL own bytes maxL ret nm ws h cells slots pc Ls (.int y :: .int x :: rest) Q := by
  subst hp; exact go_step (fun hx q _ A _ k => XS.iushr A hx rfl (hb q hd) rfl k) n
theorem g_ineg {x : Int32} (hd : decode bytes pc = .ok (.ineg, 1)) (hp : pc + 1 = pc') (n : Go p l e R s m args below meth c Z a0 EL own bytes maxL ret nm ws h cells slots pc' Ls (.int (-x) :: rest) Q) : Go p l e R s m args below meth c Z a0 EL own bytes maxL ret nm ws h cells slots pc Ls (.int x :: rest) Q := by
  subst hp; exact go_step (fun hx q _ A _ k => XS.ineg A hx rfl (hb q hd) rfl k) n
theorem g_irem {x y : Int32} (hd : decode bytes pc = .ok (.irem, 1)) (hp : pc + 1 = pc') (hy : y ≠ 0) (n : Go p l e R s m args below meth c Z a0 EL own bytes maxL ret nm ws h cells slots pc' Ls (.int (x % y) :: rest) Q) : Go p l e R s m args below meth c Z a0 EL own bytes maxL ret nm ws h cells slots pc Ls (.int y :: .int x :: rest) Q := by
  subst hp; exact go_step (fun hx q _ A _ k => XS.irem A hx rfl (hb q hd) rfl hy (by rw [irem_eq_mod]; exact k)) n
theorem g_i2b {x : Int32} (hd : decode bytes pc = .ok (.i2b, 1)) (hp : pc + 1 = pc') (n : Go p l e R s m args below meth c Z a0 EL own bytes maxL ret nm ws h cells slots pc' Ls (.int (x.toInt8.toInt32) :: rest) Q) : Go p l e R s m args below meth c Z a0 EL own bytes maxL ret nm ws h cells slots pc Ls (.int x :: rest) Q := by
  subst hp; exact go_step (fun hx q _ A _ k => XS.i2b A hx rfl (hb q hd) rfl k) n
theorem g_i2c {x : Int32} (hd : decode bytes pc = .ok (.i2c, 1)) (hp : pc + 1 = pc') (n : Go p l e R s m args below meth c Z a0 EL own bytes maxL ret nm ws h cells slots pc' Ls (.int (x.toUInt32.toUInt16.toUInt32.toInt32) :: rest) Q) : Go p l e R s m args below meth c Z a0 EL own bytes maxL ret nm ws h cells slots pc Ls (.int x :: rest) Q := by
  subst hp; exact go_step (fun hx q _ A _ k => XS.i2c A hx rfl (hb q hd) rfl k) n
theorem g_i2l {x : Int32} (hd : decode bytes pc = .ok (.i2l, 1)) (hp : pc + 1 = pc') (n : Go p l e R s m args below meth c Z a0 EL own bytes maxL ret nm ws h cells slots pc' Ls (.long (x.toInt64) :: rest) Q) : Go p l e R s m args below meth c Z a0 EL own bytes maxL ret nm ws h cells slots pc Ls (.int x :: rest) Q := by
  subst hp; exact go_step (fun hx q _ A _ k => XS.i2l A hx rfl (hb q hd) rfl k) n
theorem g_l2i {x : Int64} (hd : decode bytes pc = .ok (.l2i, 1)) (hp : pc + 1 = pc') (n : Go p l e R s m args below meth c Z a0 EL own bytes maxL ret nm ws h cells slots pc' Ls (.int (x.toInt32) :: rest) Q) : Go p l e R s m args below meth c Z a0 EL own bytes maxL ret nm ws h cells slots pc Ls (.long x :: rest) Q := by
  subst hp; exact go_step (fun hx q _ A _ k => XS.l2i A hx rfl (hb q hd) rfl k) n
theorem g_ladd {x y : Int64} (hd : decode bytes pc = .ok (.ladd, 1)) (hp : pc + 1 = pc') (n : Go p l e R s m args below meth c Z a0 EL own bytes maxL ret nm ws h cells slots pc' Ls (.long (x + y) :: rest) Q) : Go p l e R s m args below meth c Z a0 EL own bytes maxL ret nm ws h cells slots pc Ls (.long y :: .long x :: rest) Q := by
  subst hp; exact go_step (fun hx q _ A _ k => XS.ladd A hx rfl (hb q hd) rfl k) n
theorem g_lsub {x y : Int64} (hd : decode bytes pc = .ok (.lsub, 1)) (hp : pc + 1 = pc') (n : Go p l e R s m args below meth c Z a0 EL own bytes maxL ret nm ws h cells slots pc' Ls (.long (x - y) :: rest) Q) : Go p l e R s m args below meth c Z a0 EL own bytes maxL ret nm ws h cells slots pc Ls (.long y :: .long x :: rest) Q := by
  subst hp; exact go_step (fun hx q _ A _ k => XS.lsub A hx rfl (hb q hd) rfl k) n
theorem g_land {x y : Int64} (hd : decode bytes pc = .ok (.land, 1)) (hp : pc + 1 = pc') (n : Go p l e R s m args below meth c Z a0 EL own bytes maxL ret nm ws h cells slots pc' Ls (.long (x &&& y) :: rest) Q) : Go p l e R s m args below meth c Z a0 EL own bytes maxL ret nm ws h cells slots pc Ls (.long y :: .long x :: rest) Q := by
  subst hp; exact go_step (fun hx q _ A _ k => XS.land A hx rfl (hb q hd) rfl k) n
theorem g_lor {x y : Int64} (hd : decode bytes pc = .ok (.lor, 1)) (hp : pc + 1 = pc') (n : Go p l e R s m args below meth c Z a0 EL own bytes maxL ret nm ws h cells slots pc' Ls (.long (x ||| y) :: rest) Q) : Go p l e R s m args below meth c Z a0 EL own bytes maxL ret nm ws h cells slots pc Ls (.long y :: .long x :: rest) Q := by
  subst hp; exact go_step (fun hx q _ A _ k => XS.lor A hx rfl (hb q hd) rfl k) n
theorem g_lushr {x : Int64} {y : Int32} (hd : decode bytes pc = .ok (.lushr, 1)) (hp : pc + 1 = pc') (n : Go p l e R s m args below meth c Z a0 EL own bytes maxL ret nm ws h cells slots pc' Ls (.long ((x.toUInt64 >>> (y &&& 0x3f).toInt64.toUInt64).toInt64) :: rest) Q) : Go p l e R s m args below meth c Z a0 EL own bytes maxL ret nm ws h cells slots pc Ls (.int y :: .long x :: rest) Q := by
  subst hp; exact go_step (fun hx q _ A _ k => XS.lushr A hx rfl (hb q hd) rfl k) n
theorem g_lcmp {x y : Int64} (hd : decode bytes pc = .ok (.lcmp, 1)) (hp : pc + 1 = pc') (n : Go p l e R s m args below meth c Z a0 EL own bytes maxL ret nm ws h cells slots pc' Ls (.int (if x > y then 1 else if x = y then 0 else -1) :: rest) Q) : Go p l e R s m args below meth c Z a0 EL own bytes maxL ret nm ws h cells slots pc Ls (.long y :: .long x :: rest) Q := by
  subst hp; exact go_step (fun hx q _ A _ k => XS.lcmp A hx rfl (hb q hd) rfl k) n
theorem g_pop {x : Value} (hd : decode bytes pc = .ok (.pop, 1)) (hp : pc + 1 = pc') (hc : x.category = 1) (n : Go p l e R s m args below meth c Z a0 EL own bytes maxL ret nm ws h cells slots pc' Ls rest Q) : Go p l e R s m args below meth c Z a0 EL own bytes maxL ret nm ws h cells slots pc Ls (x :: rest) Q := by
  subst hp; exact go_step (fun hx q _ A _ k => XS.pop A hx rfl (hb q hd) rfl hc k) n
theorem g_dup {x : Value} (hd : decode bytes pc = .ok (.dup, 1)) (hp : pc + 1 = pc') (hc : x.category = 1) (n : Go p l e R s m args below meth c Z a0 EL own bytes maxL ret nm ws h cells slots pc' Ls (x :: x :: rest) Q) : Go p l e R s m args below meth c Z a0 EL own bytes maxL ret nm ws h cells slots pc Ls (x :: rest) Q := by
  subst hp; exact go_step (fun hx q _ A _ k => XS.dup A hx rfl (hb q hd) rfl hc k) n
theorem g_dup2 {x y : Value} (hd : decode bytes pc = .ok (.dup2, 1)) (hp : pc + 1 = pc') (hc : x.category = 1) (hc' : y.category = 1) (n : Go p l e R s m args below meth c Z a0 EL own bytes maxL ret nm ws h cells slots pc' Ls (x :: y :: x :: y :: rest) Q) : Go p l e R s m args below meth c Z a0 EL own bytes maxL ret nm ws h cells slots pc Ls (x :: y :: rest) Q := by
  subst hp; exact go_step (fun hx q _ A _ k => XT.dup2 A hx rfl (hb q hd) rfl hc hc' k) n
theorem g_dupX1 {x y : Value} (hd : decode bytes pc = .ok (.dup_x1, 1)) (hp : pc + 1 = pc') (hc : x.category = 1) (hc' : y.category = 1) (n : Go p l e R s m args below meth c Z a0 EL own bytes maxL ret nm ws h cells slots pc' Ls (x :: y :: x :: rest) Q) : Go p l e R s m args below meth c Z a0 EL own bytes maxL ret nm ws h cells slots pc Ls (x :: y :: rest) Q := by
  subst hp; exact go_step (fun hx q _ A _ k => XS.dupX1 A hx rfl (hb q hd) rfl hc hc' k) n
theorem g_goto {o : Int} (hd : decode bytes pc = .ok (.goto o, 3)) (ho : 0 ≤ (pc : Int) + o) (hp : ((pc : Int) + o).toNat = pc') (n : Go p l e R s m args below meth c Z a0 EL own bytes maxL ret nm ws h cells slots pc' Ls st Q) : Go p l e R s m args below meth c Z a0 EL own bytes maxL ret nm ws h cells slots pc Ls st Q :=
  go_step (fun hx q _ A _ k => XS.goto A hx rfl rfl (hb q hd)  ho hp k) n
theorem g_ifYes {cd : ClassFile.Cond} {x : Int32} {o : Int} (hd : decode bytes pc = .ok (.ifCond cd o, 3)) (hc : if_icmp.holds cd x 0 = true) (ho : 0 ≤ (pc : Int) + o) (hp : ((pc : Int) + o).toNat = pc') (n : Go p l e R s m args below meth c Z a0 EL own bytes maxL ret nm ws h cells slots pc' Ls rest Q) : Go p l e R s m args below meth c Z a0 EL own bytes maxL ret nm ws h cells slots pc Ls (.int x :: rest) Q :=
  go_step (fun hx q _ A _ k => XS.ifYes A hx rfl rfl (hb q hd) rfl ((if0 _ _).trans hc) ho hp k) n
theorem g_ifNo {cd : ClassFile.Cond} {x : Int32} {o : Int} (hd : decode bytes pc = .ok (.ifCond cd o, 3)) (hp : pc + 3 = pc') (hc : if_icmp.holds cd x 0 = false) (n : Go p l e R s m args below meth c Z a0 EL own bytes maxL ret nm ws h cells slots pc' Ls rest Q) : Go p l e R s m args below meth c Z a0 EL own bytes maxL ret nm ws h cells slots pc Ls (.int x :: rest) Q := by
  subst hp; exact go_step (fun hx q _ A _ k => XS.ifNo A hx rfl (hb q hd) rfl ((if0 _ _).trans hc) k) n
theorem g_icmpYes {cd : ClassFile.Cond} {x y : Int32} {o : Int} (hd : decode bytes pc = .ok (.if_icmp cd o, 3)) (hc : if_icmp.holds cd x y = true) (ho : 0 ≤ (pc : Int) + o) (hp : ((pc : Int) + o).toNat = pc') (n : Go p l e R s m args below meth c Z a0 EL own bytes maxL ret nm ws h cells slots pc' Ls rest Q) : Go p l e R s m args below meth c Z a0 EL own bytes maxL ret nm ws h cells slots pc Ls (.int y :: .int x :: rest) Q :=
  go_step (fun hx q _ A _ k => XS.icmpYes A hx rfl rfl (hb q hd) rfl hc ho hp k) n
theorem g_icmpNo {cd : ClassFile.Cond} {x y : Int32} {o : Int} (hd : decode bytes pc = .ok (.if_icmp cd o, 3)) (hp : pc + 3 = pc') (hc : if_icmp.holds cd x y = false) (n : Go p l e R s m args below meth c Z a0 EL own bytes maxL ret nm ws h cells slots pc' Ls rest Q) : Go p l e R s m args below meth c Z a0 EL own bytes maxL ret nm ws h cells slots pc Ls (.int y :: .int x :: rest) Q := by
  subst hp; exact go_step (fun hx q _ A _ k => XS.icmpNo A hx rfl (hb q hd) rfl hc k) n
theorem g_ifnullYes {o : Int} (hd : decode bytes pc = .ok (.ifnull o, 3)) (ho : 0 ≤ (pc : Int) + o) (hp : ((pc : Int) + o).toNat = pc') (n : Go p l e R s m args below meth c Z a0 EL own bytes maxL ret nm ws h cells slots pc' Ls rest Q) : Go p l e R s m args below meth c Z a0 EL own bytes maxL ret nm ws h cells slots pc Ls (.null :: rest) Q :=
  go_step (fun hx q _ A _ k => XS.ifnullYes A hx rfl rfl (hb q hd) rfl ho hp k) n
theorem g_ifnullNo {o : Int} {a : Addr} (hd : decode bytes pc = .ok (.ifnull o, 3)) (hp : pc + 3 = pc') (n : Go p l e R s m args below meth c Z a0 EL own bytes maxL ret nm ws h cells slots pc' Ls rest Q) : Go p l e R s m args below meth c Z a0 EL own bytes maxL ret nm ws h cells slots pc Ls (.ref a :: rest) Q := by
  subst hp; exact go_step (fun hx q _ A _ k => XS.ifnullNo A hx rfl (hb q hd) rfl k) n
theorem g_ifnonnullYes {o : Int} {a : Addr} (hd : decode bytes pc = .ok (.ifnonnull o, 3)) (ho : 0 ≤ (pc : Int) + o) (hp : ((pc : Int) + o).toNat = pc') (n : Go p l e R s m args below meth c Z a0 EL own bytes maxL ret nm ws h cells slots pc' Ls rest Q) : Go p l e R s m args below meth c Z a0 EL own bytes maxL ret nm ws h cells slots pc Ls (.ref a :: rest) Q :=
  go_step (fun hx q _ A _ k => XS.ifnonnullYes A hx rfl rfl (hb q hd) rfl ho hp k) n
theorem g_ifnonnullNo {o : Int} (hd : decode bytes pc = .ok (.ifnonnull o, 3)) (hp : pc + 3 = pc') (n : Go p l e R s m args below meth c Z a0 EL own bytes maxL ret nm ws h cells slots pc' Ls rest Q) : Go p l e R s m args below meth c Z a0 EL own bytes maxL ret nm ws h cells slots pc Ls (.null :: rest) Q := by
  subst hp; exact go_step (fun hx q _ A _ k => XS.ifnonnullNo A hx rfl (hb q hd) rfl k) n
theorem g_acmp {cd : ClassFile.ACond} {x y : Value} {o : Int} {same : Bool} (hd : decode bytes pc = .ok (.if_acmp cd o, 3)) (hx' : x.isRef = true) (hy' : y.isRef = true) (hq : decide (x = y) = same) (ho : 0 ≤ (pc : Int) + o) (hp : pc' = if acV cd same = true then ((pc : Int) + o).toNat else pc + 3) (n : Go p l e R s m args below meth c Z a0 EL own bytes maxL ret nm ws h cells slots pc' Ls rest Q) : Go p l e R s m args below meth c Z a0 EL own bytes maxL ret nm ws h cells slots pc Ls (y :: x :: rest) Q := fun K T P => by
  obtain ⟨u, S, E⟩ := n K T P
  obtain ⟨vm0, k0, locs, X, -⟩ := P
  exact ⟨u, acmp X K.1 (g := mkF m pc Ls (y :: x :: rest)) rfl hx' hy' rfl (hb K.2.1 hd) rfl hq ho hp S, E⟩
end Rules2
end Jvm.Own
namespace Jvm.Own
open Sem ClassFile Op Lib Bundle Jvm.Stand Jvm.Free Jvm.LawKit Jvm.RoadKit
/-! ## counting in ints -/
theorem o_int {i : Nat} (hi : i < 2147483648) : (Int32.ofNat i).toInt = (i : Int) := toInt_of rfl hi
theorem o_lt {i n : Nat} (hi : i < 2147483648) (hn : n < 2147483648) : Int32.ofNat i < Int32.ofNat n ↔ i < n := by
  rw [Int32.lt_iff_toInt_lt, o_int hi, o_int hn]; omega
theorem o_nn {i : Nat} (hi : i < 2147483648) : ¬ Int32.ofNat i < 0 := by
  rw [Int32.lt_iff_toInt_lt, o_int hi]; show ¬ ((i : Int) < 0); omega
theorem o_cl {i : Nat} (hi : i < 2147483648) : (Int32.ofNat i).toNatClampNeg = i := clamp_of rfl hi
theorem o_inc (i : Nat) : Int32.ofNat i + (1 : Int32) = Int32.ofNat (i + 1) := (inc_ofNat i).symm
theorem o_eq {i n : Nat} (hi : i < 2147483648) (hn : n < 2147483648) : Int32.ofNat i = Int32.ofNat n ↔ i = n := by
  constructor
  · intro q; have := congrArg Int32.toInt q; rw [o_int hi, o_int hn] at this; omega
  · intro q; rw [q]
/-! ## arrays by their values within the length -/
theorem Arv_congr {Z : State} {h : Heap} {a : Addr} {k : ClassId} {ty : FieldType} {z : Int32} {vs vs' : List Value} {dv : Value} (F : Arv Z h a k ty z vs dv) (q : ∀ i, i < z.toNatClampNeg → vs'.getD i dv = vs.getD i dv) : Arv Z h a k ty z vs' dv := by
  obtain ⟨c, A, r1, r2, r3, H, G⟩ := F
  exact ⟨c, A, r1, r2, r3, fun i hi => by rw [q i (by rw [← r2]; exact hi)]; exact H i hi, fun i hi => by rw [q i (by rw [← r2]; exact hi)]; exact G i hi⟩
theorem Arv_nn {Z : State} {h : Heap} {a : Addr} {k : ClassId} {ty : FieldType} {z : Int32} {vs : List Value} {dv : Value} (F : Arv Z h a k ty z vs dv) : ¬ z < 0 := by obtain ⟨c, A, r1, r2, r3, H, G⟩ := F; exact r3
theorem getD_set_eq {vs : List Value} {i : Nat} {v d : Value} (hi : i < vs.length) : (vs.set i v).getD i d = v := by simp [List.getD, hi]
theorem getD_set_ne {vs : List Value} {i j : Nat} {v d : Value} (hne : j ≠ i) : (vs.set i v).getD j d = vs.getD j d := by
  simp only [List.getD]; rw [List.getElem?_set_ne (Ne.symm hne)]
theorem Keep_of_ext {h h' : Heap} (E : Ext h h') : Keep h h' [] := (Keep.refl h []).ext E
theorem Ext_of_keep {h h' : Heap} (K : Keep h h' []) : Ext h h' := ⟨K.1, fun x c q => K.2.1 x c q nin0⟩
theorem Keep_mono {h h' : Heap} {ws ws' : List Addr} (K : Keep h h' ws) (q : ∀ x ∈ ws, x ∈ ws') : Keep h h' ws' := ⟨K.1, fun x c r s => K.2.1 x c r fun z => s (q x z), K.2.2⟩
/-- bytes as signed -/
def by8 (c : Int32) : Value := .int c.toInt8.toInt32
theorem fits_by8 (c : Int32) : fits .byte (by8 c) = true := fits_nar_byte c
end Jvm.Own
namespace Jvm.Own
open Sem ClassFile Op Lib Bundle Jvm.Stand Jvm.Free Jvm.LawKit Jvm.RoadKit
theorem i2b2 (x : Int32) : x.toInt8.toInt32.toInt8.toInt32 = x.toInt8.toInt32 := by simp
theorem map_getD (cs : List Int32) (j : Nat) : (cs.map Value.int).getD j (.int 0) = .int (cs.getD j 0) := by
  simp only [List.getD, List.getElem?_map]; cases cs[j]? <;> rfl
theorem map8_getD (cs : List Int32) (j : Nat) : (cs.map by8).getD j (.int 0) = by8 (cs.getD j 0) := by
  simp only [List.getD, List.getElem?_map]; cases cs[j]? <;> rfl
theorem getD_lat {cs : List Int32} (h : ∀ c ∈ cs, ¬ (255 : Int32) < c) (j : Nat) : ¬ (255 : Int32) < cs.getD j 0 := by
  by_cases hj : j < cs.length
  · simp only [List.getD, List.getElem?_eq_getElem hj, Option.getD_some]; exact h _ (List.getElem_mem hj)
  · simp only [List.getD, List.getElem?_eq_none (Nat.le_of_not_lt hj), Option.getD_none]; decide
end Jvm.Own
namespace Jvm.Own
open Sem ClassFile Op Lib Bundle Jvm.Stand Jvm.Free Jvm.LawKit Jvm.RoadKit
theorem fld_eq {args : Array Value} {s : State} {t : Term} {C n d : String} {k : Int32} {x : Addr} (ht : t.eval args s none [] s = some (.ref x)) (h : (Cond.eq (Term.field t C n d) (Term.int k)).value args s none s [] = some true) : s.fieldOf? x C n d = some (.int k) := by
  have q := Cond.eq_int (Cond.before_iff.mpr h) rfl
  simpa [Term.eval, ht] using q
theorem Inv_start0 {s : State} : Inv s [] [] s.vm s.heap := ⟨(fun p hp => nomatch hp), ⟨Nat.le_refl _, fun _ _ q => q⟩, all0⟩
theorem lat255 (x : Int32) : ¬ (255 : Int32) < (x &&& 255).toUInt32.toUInt16.toUInt32.toInt32 := by
  rw [i2c_mask]
  have h := c_and x 255 (by decide)
  rw [Int32.lt_iff_toInt_lt]; exact fun q => absurd q (Int.not_lt.mpr h.2)
theorem all1 {P : Int32 → Prop} {x : Int32} {L : List Int32} (q : P x) (r : ∀ y ∈ L, P y) : ∀ y ∈ x :: L, P y := fun y z => (List.mem_cons.mp z).elim (fun u => u ▸ q) (r y)
theorem allN {P : Int32 → Prop} : ∀ y ∈ ([] : List Int32), P y := fun _ q => nomatch q
theorem nar_i2c (x : Int32) : nar .char (x.toUInt32.toUInt16.toUInt32.toInt32) = x.toUInt32.toUInt16.toUInt32.toInt32 := by
  apply Int32.toInt_inj.mp
  have a := c_i2c x
  have b := c_i2c (x.toUInt32.toUInt16.toUInt32.toInt32)
  show (x.toUInt32.toUInt16.toUInt32.toInt32.toUInt32.toUInt16.toUInt32.toInt32).toInt = _
  omega
end Jvm.Own
namespace Jvm.Own
open Sem ClassFile Op Lib Bundle Jvm.Stand Jvm.Free Jvm.LawKit Jvm.RoadKit
/-! ## Strings of one byte a char -/
/-- the object a is a String, one byte a char, that spells cs; its array is b -/
def LatB (Z : State) (h : Heap) (a b : Addr) (cs : List Int32) : Prop :=
  Exa Z h a "java/lang/String" ∧ Fld Z h a "java/lang/String" "coder" "B" (.int 0) ∧ Fld Z h a "java/lang/String" "value" "[B" (.ref b) ∧ ∃ k, Arv Z h b k .byte (Int32.ofNat cs.length) (cs.map by8) (.int 0)
section LatFacts
variable {Z : State} {h h' : Heap} {a b x : Addr} {cs ds : List Int32} {ws : List Addr} {sl : Nat} {v : Value}
theorem LatB.ext (F : LatB Z h a b cs) (E : Ext h h') : LatB Z h' a b cs := ⟨F.1.ext E, F.2.1.ext E, F.2.2.1.ext E, by obtain ⟨k, A⟩ := F.2.2.2; exact ⟨k, A.ext E⟩⟩
theorem LatB.keep (F : LatB Z h a b cs) (K : Keep h h' ws) (q : a ∉ ws) (r : b ∉ ws) : LatB Z h' a b cs := ⟨F.1.keep K, F.2.1.keep K q, F.2.2.1.keep K q, by obtain ⟨k, A⟩ := F.2.2.2; exact ⟨k, A.keep K r⟩⟩
theorem LatB.other (F : LatB Z h a b cs) (W : Wr h h' x sl v) (q : a ≠ x) (r : b ≠ x) : LatB Z h' a b cs := ⟨Exa.wr W F.1, Fld.other W F.2.1 (Or.inl q), Fld.other W F.2.2.1 (Or.inl q), by obtain ⟨k, A⟩ := F.2.2.2; exact ⟨k, A.other W r⟩⟩
theorem LatB.lt (F : LatB Z h a b cs) : a < h.size := F.1.lt
theorem LatB.blt (F : LatB Z h a b cs) : b < h.size := by obtain ⟨k, A⟩ := F.2.2.2; exact A.lt
theorem LatB.mk {k : ClassId} {z : Int32} {vs : List Value} (E : Exa Z h a "java/lang/String") (C : Fld Z h a "java/lang/String" "coder" "B" (.int 0)) (V : Fld Z h a "java/lang/String" "value" "[B" (.ref b)) (A : Arv Z h b k .byte z vs (.int 0)) (hz : z = Int32.ofNat cs.length) (hv : vs = cs.map by8) : LatB Z h a b cs := ⟨E, C, V, k, by subst hz hv; exact A⟩
end LatFacts
theorem shr0 (x : Int32) : x >>> ((0 : Int32) &&& 31) = x := by
  apply Int32.toInt_inj.mp
  rw [c_ishr x 0 0 (by decide)]; omega
/-- a char up to 255, kept as a byte and read back -/
theorem by8_back {c : Int32} (h0 : ¬ c < 0) (h1 : ¬ (255 : Int32) < c) : (c.toInt8.toInt32 &&& 255) = c := by
  apply Int32.toInt_inj.mp
  have q := c_i2b c
  have m := c_mask c.toInt8.toInt32 255 8 (by decide) (by decide)
  rw [m]
  simp only [Int32.lt_iff_toInt_lt, Int32.reduceToInt] at h0 h1
  have : ((2 : Nat) ^ 8 : Nat) = 256 := rfl
  omega
theorem by8_char {c : Int32} (h0 : ¬ c < 0) (h1 : ¬ (255 : Int32) < c) : (c.toInt8.toInt32 &&& 255).toUInt32.toUInt16.toUInt32.toInt32 = c := by rw [i2c_mask, by8_back h0 h1]
theorem by8_inj {c d : Int32} (h0 : ¬ c < 0) (h1 : ¬ (255 : Int32) < c) (g0 : ¬ d < 0) (g1 : ¬ (255 : Int32) < d) (h : c.toInt8.toInt32 = d.toInt8.toInt32) : c = d := by
  rw [← by8_back h0 h1, ← by8_back g0 g1, h]
/-- each of them lies from 0 to 255 -/
def Byt (cs : List Int32) : Prop := ∀ c ∈ cs, ¬ c < 0 ∧ ¬ (255 : Int32) < c
theorem Byt.nil : Byt [] := fun _ q => nomatch q
theorem Byt.cons {c : Int32} {cs : List Int32} (q : ¬ c < 0 ∧ ¬ (255 : Int32) < c) (r : Byt cs) : Byt (c :: cs) := fun y z => (List.mem_cons.mp z).elim (fun u => u ▸ q) (r y)
theorem Byt.at {cs : List Int32} (B : Byt cs) (j : Nat) : ¬ cs.getD j 0 < 0 ∧ ¬ (255 : Int32) < cs.getD j 0 := by
  by_cases hj : j < cs.length
  · simp only [List.getD, List.getElem?_eq_getElem hj, Option.getD_some]; exact B _ (List.getElem_mem hj)
  · simp only [List.getD, List.getElem?_eq_none (Nat.le_of_not_lt hj), Option.getD_none]; decide
theorem Byt.lat {cs : List Int32} (B : Byt cs) : ∀ c ∈ cs, ¬ (255 : Int32) < c := fun c q => (B c q).2
theorem byt255 (x : Int32) : ¬ (x &&& 255).toUInt32.toUInt16.toUInt32.toInt32 < 0 ∧ ¬ (255 : Int32) < (x &&& 255).toUInt32.toUInt16.toUInt32.toInt32 := by
  refine ⟨?_, lat255 x⟩
  rw [i2c_mask]
  have h := c_and x 255 (by decide)
  rw [Int32.lt_iff_toInt_lt]; exact fun q => absurd q (Int.not_lt.mpr h.1)
theorem list_ext_getD {cs ds : List Int32} (hl : cs.length = ds.length) (h : ∀ i, i < cs.length → cs.getD i 0 = ds.getD i 0) : cs = ds := by
  apply List.ext_getElem hl
  intro i h1 h2
  have q := h i h1
  simpa [List.getD, List.getElem?_eq_getElem h1, List.getElem?_eq_getElem h2] using q
end Jvm.Own
namespace Jvm.Own
open Sem ClassFile Op Lib Bundle Jvm.Stand Jvm.Free Jvm.LawKit Jvm.RoadKit
theorem nar_byt {c : Int32} (h : ¬ c < 0 ∧ ¬ (255 : Int32) < c) : nar .char c = c := by
  have q := by8_char h.1 h.2
  show c.toUInt32.toUInt16.toUInt32.toInt32 = c
  rw [by8_back h.1 h.2] at q; exact q
end Jvm.Own
namespace Jvm.Own
open Sem ClassFile Op Lib Bundle Jvm.Stand Jvm.Free Jvm.LawKit Jvm.RoadKit
/-- r is where ch stands first in cs, or -1 -/
def Ix (cs : List Int32) (ch r : Int32) : Prop := (∃ j, j < cs.length ∧ r = Int32.ofNat j ∧ cs.getD j 0 = ch ∧ ∀ i, i < j → ¬ cs.getD i 0 = ch) ∨ (r = -1 ∧ ∀ i, i < cs.length → ¬ cs.getD i 0 = ch)
end Jvm.Own
namespace Jvm.Own
open Sem ClassFile Op Lib Bundle Jvm.Stand Jvm.Free Jvm.LawKit Jvm.RoadKit
/-! ## Strings of two bytes a char -/
def hi8 (c : Int32) : Value := by8 (c >>> ((8 : Int32) &&& 31))
def u16b : List Int32 → List Value
  | [] => []
  | c :: cs => by8 c :: hi8 c :: u16b cs
theorem u16b_length : ∀ cs : List Int32, (u16b cs).length = 2 * cs.length
  | [] => rfl
  | c :: cs => by simp [u16b, u16b_length cs]; omega
theorem u16b_lo : ∀ (cs : List Int32) (j : Nat), (u16b cs).getD (2 * j) (.int 0) = by8 (cs.getD j 0)
  | [], j => by simp [u16b, List.getD]; rfl
  | c :: cs, 0 => rfl
  | c :: cs, j + 1 => by
    rw [show 2 * (j + 1) = 2 * j + 1 + 1 by omega]
    exact u16b_lo cs j
theorem u16b_hi : ∀ (cs : List Int32) (j : Nat), (u16b cs).getD (2 * j + 1) (.int 0) = hi8 (cs.getD j 0)
  | [], j => by simp [u16b, List.getD]; rfl
  | c :: cs, 0 => rfl
  | c :: cs, j + 1 => by
    rw [show 2 * (j + 1) + 1 = 2 * j + 1 + 1 + 1 by omega]
    exact u16b_hi cs j
def UtfB (Z : State) (h : Heap) (a b : Addr) (cs : List Int32) : Prop :=
  Exa Z h a "java/lang/String" ∧ Fld Z h a "java/lang/String" "coder" "B" (.int 1) ∧ Fld Z h a "java/lang/String" "value" "[B" (.ref b) ∧ ∃ k, Arv Z h b k .byte (Int32.ofNat (2 * cs.length)) (u16b cs) (.int 0)
section UtfFacts
variable {Z : State} {h h' : Heap} {a b x : Addr} {cs ds : List Int32} {ws : List Addr} {sl : Nat} {v : Value}
theorem UtfB.ext (F : UtfB Z h a b cs) (E : Ext h h') : UtfB Z h' a b cs := ⟨F.1.ext E, F.2.1.ext E, F.2.2.1.ext E, by obtain ⟨k, A⟩ := F.2.2.2; exact ⟨k, A.ext E⟩⟩
theorem UtfB.keep (F : UtfB Z h a b cs) (K : Keep h h' ws) (q : a ∉ ws) (r : b ∉ ws) : UtfB Z h' a b cs := ⟨F.1.keep K, F.2.1.keep K q, F.2.2.1.keep K q, by obtain ⟨k, A⟩ := F.2.2.2; exact ⟨k, A.keep K r⟩⟩
theorem UtfB.other (F : UtfB Z h a b cs) (W : Wr h h' x sl v) (q : a ≠ x) (r : b ≠ x) : UtfB Z h' a b cs := ⟨Exa.wr W F.1, Fld.other W F.2.1 (Or.inl q), Fld.other W F.2.2.1 (Or.inl q), by obtain ⟨k, A⟩ := F.2.2.2; exact ⟨k, A.other W r⟩⟩
theorem UtfB.lt (F : UtfB Z h a b cs) : a < h.size := F.1.lt
theorem UtfB.blt (F : UtfB Z h a b cs) : b < h.size := by obtain ⟨k, A⟩ := F.2.2.2; exact A.lt
end UtfFacts
def U16 (cs : List Int32) : Prop := ∀ c ∈ cs, ¬ c < 0 ∧ ¬ (65535 : Int32) < c
theorem U16.nil : U16 [] := fun _ q => nomatch q
theorem U16.cons {c : Int32} {cs : List Int32} (q : ¬ c < 0 ∧ ¬ (65535 : Int32) < c) (r : U16 cs) : U16 (c :: cs) := fun y z => (List.mem_cons.mp z).elim (fun u => u ▸ q) (r y)
theorem U16.at {cs : List Int32} (B : U16 cs) (j : Nat) : ¬ cs.getD j 0 < 0 ∧ ¬ (65535 : Int32) < cs.getD j 0 := by
  by_cases hj : j < cs.length
  · simp only [List.getD, List.getElem?_eq_getElem hj, Option.getD_some]; exact B _ (List.getElem_mem hj)
  · simp only [List.getD, List.getElem?_eq_none (Nat.le_of_not_lt hj), Option.getD_none]; decide
theorem u16_i2c (x : Int32) : ¬ x.toUInt32.toUInt16.toUInt32.toInt32 < 0 ∧ ¬ (65535 : Int32) < x.toUInt32.toUInt16.toUInt32.toInt32 := by
  have q := c_i2c x
  simp only [Int32.lt_iff_toInt_lt, Int32.reduceToInt]; omega
theorem nar_u16 {c : Int32} (h : ¬ c < 0 ∧ ¬ (65535 : Int32) < c) : nar .char c = c := by
  apply Int32.toInt_inj.mp
  have q := c_i2c c
  show c.toUInt32.toUInt16.toUInt32.toInt32.toInt = c.toInt
  simp only [Int32.lt_iff_toInt_lt, Int32.reduceToInt] at h; omega
theorem join16 {c : Int32} (h0 : ¬ c < 0) (h1 : ¬ (65535 : Int32) < c) :
    (((c.toInt8.toInt32 &&& 255) <<< ((0 : Int32) &&& 31)) ||| (((c >>> ((8 : Int32) &&& 31)).toInt8.toInt32 &&& 255) <<< ((8 : Int32) &&& 31))).toUInt32.toUInt16.toUInt32.toInt32 = c := by
  apply Int32.toInt_inj.mp
  have a1 := c_mask c.toInt8.toInt32 255 8 (by decide) (by decide)
  have a2 := c_i2b c
  have s1 := c_ishl (c.toInt8.toInt32 &&& 255) 0 0 (by decide)
  have b1 := c_ishr c 8 8 (by decide)
  have b2 := c_i2b (c >>> ((8 : Int32) &&& 31))
  have b3 := c_mask (c >>> ((8 : Int32) &&& 31)).toInt8.toInt32 255 8 (by decide) (by decide)
  have s2 := c_ishl ((c >>> ((8 : Int32) &&& 31)).toInt8.toInt32 &&& 255) 8 8 (by decide)
  have r1 := rng32 ((c.toInt8.toInt32 &&& 255) <<< ((0 : Int32) &&& 31))
  have r2 := rng32 (((c >>> ((8 : Int32) &&& 31)).toInt8.toInt32 &&& 255) <<< ((8 : Int32) &&& 31))
  have o := c_or' ((c.toInt8.toInt32 &&& 255) <<< ((0 : Int32) &&& 31)) (((c >>> ((8 : Int32) &&& 31)).toInt8.toInt32 &&& 255) <<< ((8 : Int32) &&& 31)) 8 (by decide) 256 rfl
  have r3 := rng32 (((c.toInt8.toInt32 &&& 255) <<< ((0 : Int32) &&& 31)) ||| (((c >>> ((8 : Int32) &&& 31)).toInt8.toInt32 &&& 255) <<< ((8 : Int32) &&& 31)))
  have i := c_i2c (((c.toInt8.toInt32 &&& 255) <<< ((0 : Int32) &&& 31)) ||| (((c >>> ((8 : Int32) &&& 31)).toInt8.toInt32 &&& 255) <<< ((8 : Int32) &&& 31)))
  simp only [Int32.lt_iff_toInt_lt, Int32.reduceToInt] at h0 h1
  have e8 : ((2 : Nat) ^ 8 : Nat) = 256 := rfl
  have e0 : ((2 : Nat) ^ 0 : Nat) = 1 := rfl
  rw [e8] at *
  rw [e0] at s1
  omega
theorem shl1 {n : Nat} (h : n < 1073741824) : Int32.ofNat n <<< ((1 : Int32) &&& 31) = Int32.ofNat (2 * n) := by
  apply Int32.toInt_inj.mp
  have q := c_ishl (Int32.ofNat n) 1 1 (by decide)
  have r := rng32 (Int32.ofNat n <<< ((1 : Int32) &&& 31))
  rw [o_int (by omega)] at q
  rw [o_int (by omega)]
  have e1 : ((2 : Nat) ^ 1 : Nat) = 2 := rfl
  rw [e1] at q; omega
theorem shr1 {n : Nat} (h : n < 1073741824) : Int32.ofNat (2 * n) >>> ((1 : Int32) &&& 31) = Int32.ofNat n := by
  apply Int32.toInt_inj.mp
  have q := c_ishr (Int32.ofNat (2 * n)) 1 1 (by decide)
  rw [o_int (by omega)] at q
  rw [o_int (by omega), q]
  have e1 : ((2 : Nat) ^ 1 : Nat) = 2 := rfl
  rw [e1]; omega
/-- a char, as a String of chars up to 255 has it, is one of the wider kind -/
theorem Byt.u16 {cs : List Int32} (B : Byt cs) : U16 cs := fun c q => ⟨(B c q).1, fun z => (B c q).2 (by simp only [Int32.lt_iff_toInt_lt, Int32.reduceToInt] at *; omega)⟩
end Jvm.Own
namespace Jvm.Own
open Sem ClassFile Op Lib Bundle Jvm.Stand Jvm.Free Jvm.LawKit Jvm.RoadKit
theorem coder1 {n : Nat} (h0 : 0 < n) (h : n ≤ 4000) : (((Int32.ofNat n - Int32.ofNat (2 * n)).toUInt32 >>> (((31 : Int32) &&& 31)).toUInt32).toInt32).toInt8.toInt32 = 1 := by
  apply Int32.toInt_inj.mp
  have a := c_isub (Int32.ofNat n) (Int32.ofNat (2 * n))
  have r := rng32 (Int32.ofNat n - Int32.ofNat (2 * n))
  have s := c_iushr (Int32.ofNat n - Int32.ofNat (2 * n)) 31 31 (by decide) (by decide)
  have b := c_i2b (((Int32.ofNat n - Int32.ofNat (2 * n)).toUInt32 >>> (((31 : Int32) &&& 31)).toUInt32).toInt32)
  rw [o_int (by omega), o_int (by omega)] at a
  have e : ((2 : Nat) ^ 31 : Nat) = 2147483648 := rfl
  rw [e] at s
  rw [show (1 : Int32).toInt = 1 from rfl]
  omega
/-- a String that spells cs, of either kind -/
def StrB (Z : State) (h : Heap) (a b : Addr) (cs : List Int32) : Prop := (Byt cs ∧ LatB Z h a b cs) ∨ (¬ (∀ i, i < cs.length → ¬ (255 : Int32) < cs.getD i 0) ∧ UtfB Z h a b cs)
theorem StrB.ext {Z : State} {h h' : Heap} {a b : Addr} {cs : List Int32} (F : StrB Z h a b cs) (E : Ext h h') : StrB Z h' a b cs := F.imp (fun q => ⟨q.1, q.2.ext E⟩) (fun q => ⟨q.1, q.2.ext E⟩)
theorem StrB.keep {Z : State} {h h' : Heap} {a b : Addr} {cs : List Int32} {ws : List Addr} (F : StrB Z h a b cs) (K : Keep h h' ws) (q : a ∉ ws) (r : b ∉ ws) : StrB Z h' a b cs := F.imp (fun z => ⟨z.1, z.2.keep K q r⟩) (fun z => ⟨z.1, z.2.keep K q r⟩)
theorem StrB.other {Z : State} {h h' : Heap} {a b x : Addr} {cs : List Int32} {sl : Nat} {v : Value} (F : StrB Z h a b cs) (W : Wr h h' x sl v) (q : a ≠ x) (r : b ≠ x) : StrB Z h' a b cs := F.imp (fun z => ⟨z.1, z.2.other W q r⟩) (fun z => ⟨z.1, z.2.other W q r⟩)
theorem StrB.lt {Z : State} {h : Heap} {a b : Addr} {cs : List Int32} (F : StrB Z h a b cs) : a < h.size := F.elim (fun q => q.2.lt) (fun q => q.2.lt)
theorem StrB.blt {Z : State} {h : Heap} {a b : Addr} {cs : List Int32} (F : StrB Z h a b cs) : b < h.size := F.elim (fun q => q.2.blt) (fun q => q.2.blt)
theorem StrB.exa {Z : State} {h : Heap} {a b : Addr} {cs : List Int32} (F : StrB Z h a b cs) : Exa Z h a "java/lang/String" := F.elim (fun q => q.2.1) (fun q => q.2.1)
theorem lat_of {cs : List Int32} (h : ∀ i, i < cs.length → ¬ (255 : Int32) < cs.getD i 0) : ∀ c ∈ cs, ¬ (255 : Int32) < c := fun c hc => by
  obtain ⟨i, hi, rfl⟩ := List.mem_iff_getElem.mp hc
  have q := h i hi
  simpa [List.getD, List.getElem?_eq_getElem hi] using q
theorem U16.byt {cs : List Int32} (B : U16 cs) (h : ∀ i, i < cs.length → ¬ (255 : Int32) < cs.getD i 0) : Byt cs := fun c hc => ⟨(B c hc).1, lat_of h c hc⟩
end Jvm.Own
namespace Jvm.Own
theorem lt65536 {c : Int32} (h : ¬ (255 : Int32) < c) : c < 65536 := by
  simp only [Int32.lt_iff_toInt_lt, Int32.reduceToInt] at *; omega
end Jvm.Own
namespace Jvm.Own
open Sem ClassFile Op Lib Bundle Jvm.Stand Jvm.Free Jvm.LawKit Jvm.RoadKit
/-! ## more calls: through an interface, private, over a nest-mate's entry, natives; switches; class constants -/
section Rules3
variable {p : Program} {l : Launch} {e : Env} {R : Room} {s : State} {m : MethodId} {args : Array Value} {below : List Frame} {meth : Method} {c : Code} {Z : State} {a0 : Array Value} {EL : List (String × Nat)} {own : String} {bytes : ByteArray} {maxL : Nat} {ret : Option FieldType} {nm : String}
  {ws : List Addr} {h : Heap} {cells slots : Nat} {pc pc' : Nat} {Ls Ls' : Array Slot} {st st' rest : List Value} {Q Q' : Option Value → Heap → List Addr → Prop}
theorem go_interface {idx cnt W : Nat} {y z : MethodName} {C0 : String} {bY : ByteArray} {mY : Nat} {rY : Option FieldType} {rm : Room} {as' : Array Value} {ws0 : List Addr} {argsL : List Value} {a : Addr} (hd : decode bytes pc = .ok (.invokeinterface idx cnt, 5)) (hM : Con l Z EL z bY mY rY [] rm as' h ws0 Q) (hs : ∀ x ∈ ws0, x ∈ ws) (E0 : Exa Z h a C0)
    (w1 : (Cond.methodLink own idx y).before a0 Z = true) (w2 : (Cond.declares y).before a0 Z = true) (w7 : (Cond.interfaceMethod y.cls y.cls y.name y.desc).before a0 Z = true) (k7 : ((Cond.interfaceMethod y.cls y.cls y.name y.desc).onTables && (Cond.interfaceMethod y.cls y.cls y.name y.desc).keepsFace) = true) (w5 : (Cond.selects C0 y z).before a0 Z = true) (w6 : (Cond.instanceMethod z).before a0 Z = true) (w8 : (Cond.publicMethod z).before a0 Z = true) (w9 : (Cond.unhidden C0 y.name y.desc).before a0 Z = true) (w10 : (Cond.castable C0 y.cls).before a0 Z = true) (w3 : (Cond.initialized z.cls).before a0 Z = true) (w4 : (Cond.code z bY mY rY).before a0 Z = true) (hy : y.cls ≠ "java/lang/invoke/MethodHandle" ∧ y.cls ≠ "java/lang/invoke/VarHandle")
    (hlen : ∀ sig, parseMethodDescriptor y.desc = some sig → argsL.length = sig.parameters.length) (has : (Value.ref a :: argsL).toArray = as') (hst : st = argsL.reverse ++ .ref a :: rest) (hsz : Ls.size = maxL) (hW : (rest.map fun v => v.category).sum ≤ W) (hf : rm.frames + 1 ≤ R.frames) (hlo : W + (mY + 11) + rm.locals ≤ R.locals) (hc : cells + rm.cells ≤ R.cells) (hl : slots + rm.slots ≤ R.slots) (hp : pc + 5 = pc')
    (nx : ∀ v h' ws', Q v h' ws' → h.size ≤ h'.size → Go p l e R s m args below meth c Z a0 EL own bytes maxL ret nm (ws' ++ ws) h' (cells + rm.cells) (slots + rm.slots) pc' Ls (v.toList ++ rest) Q') :
    Go p l e R s m args below meth c Z a0 EL own bytes maxL ret nm ws h cells slots pc Ls st Q' := fun K T P => by
  obtain ⟨vm0, k0, locs, X, eT, hS, hk, hZ, hown, N, I, C, r⟩ := P
  subst hst hp
  obtain ⟨cB, kB, i1, i2, i3⟩ := isOf (s := s.setVm vm0) hZ eT E0
  obtain ⟨v, vm₁, B, hW1, X', h2, hgr, hpost, hsteps⟩ := X.interfaceBackS K.1 hown (mvT (s := s.setVm vm0) hZ w1) (mvT (s := s.setVm vm0) hZ w2) (mvT (s := s.setVm vm0) hZ w7 k7) (mvT (s := s.setVm vm0) hZ w5) (mvT (s := s.setVm vm0) hZ w6) (mvT (s := s.setVm vm0) hZ w8) (mvT (s := s.setVm vm0) hZ w9) (mvT (s := s.setVm vm0) hZ w10) hy (backC (W := W) hM hZ w4 w3 hf hlo K.2.2.2.2.2.2 I hs) i1 i2 i3 (g := mkF m pc Ls (argsL.reverse ++ .ref a :: rest)) rfl (hsz.trans K.2.2.1.symm) (Steps.refl _) hlen rfl (by show 2 * 0 + _ ≤ _; omega) (hb K.2.1 hd) (fun _ _ => ⟨has, eT, hc, hl⟩)
  exact go_after K eT hS hk hZ hown N C hc hl X' h2 hgr hpost hsteps (nx v)
theorem go_private {idx W : Nat} {y : MethodName} {C0 : String} {bY : ByteArray} {mY : Nat} {rY : Option FieldType} {rm : Room} {as' : Array Value} {ws0 : List Addr} {argsL : List Value} {a : Addr} (hd : decode bytes pc = .ok (.invokevirtual idx, 3)) (hM : Con l Z EL y bY mY rY [] rm as' h ws0 Q) (hs : ∀ x ∈ ws0, x ∈ ws) (E0 : Exa Z h a C0)
    (w1 : (Cond.methodLink own idx y).before a0 Z = true) (w6 : (Cond.instanceMethod y).before a0 Z = true) (w5 : (Cond.selects y.cls y y).before a0 Z = true) (w7 : (Cond.privateMethod y).before a0 Z = true) (w3 : (Cond.initialized y.cls).before a0 Z = true) (w4 : (Cond.code y bY mY rY).before a0 Z = true) (hy : y.cls ≠ "java/lang/invoke/MethodHandle" ∧ y.cls ≠ "java/lang/invoke/VarHandle")
    (hlen : ∀ sig, parseMethodDescriptor y.desc = some sig → argsL.length = sig.parameters.length) (has : (Value.ref a :: argsL).toArray = as') (hst : st = argsL.reverse ++ .ref a :: rest) (hsz : Ls.size = maxL) (hW : (rest.map fun v => v.category).sum ≤ W) (hf : rm.frames + 1 ≤ R.frames) (hlo : W + (mY + 11) + rm.locals ≤ R.locals) (hc : cells + rm.cells ≤ R.cells) (hl : slots + rm.slots ≤ R.slots) (hp : pc + 3 = pc')
    (nx : ∀ v h' ws', Q v h' ws' → h.size ≤ h'.size → Go p l e R s m args below meth c Z a0 EL own bytes maxL ret nm (ws' ++ ws) h' (cells + rm.cells) (slots + rm.slots) pc' Ls (v.toList ++ rest) Q') :
    Go p l e R s m args below meth c Z a0 EL own bytes maxL ret nm ws h cells slots pc Ls st Q' := fun K T P => by
  obtain ⟨vm0, k0, locs, X, eT, hS, hk, hZ, hown, N, I, C, r⟩ := P
  subst hst hp
  obtain ⟨cell, hcell, hobj⟩ := E0.cell
  have hpr : (s.setVm vm0).PrivateAt y := Cond.privateMethod_at (mvP (args := #[]) (s := s.setVm vm0) hZ w7)
  obtain ⟨v, vm₁, B, hW1, X', h2, hgr, hpost, hsteps⟩ := X.privateBackS K.1 hown (mvT (s := s.setVm vm0) hZ w1) (mvT (s := s.setVm vm0) hZ w6) (mvT (s := s.setVm vm0) hZ w5) hpr (mvT (s := s.setVm vm0) hZ w4) hy (backC (W := W) hM hZ w4 w3 hf hlo K.2.2.2.2.2.2 I hs) (g := mkF m pc Ls (argsL.reverse ++ .ref a :: rest)) rfl (hsz.trans K.2.2.1.symm) (Steps.refl _) (a := a) (cell := cell) (by rw [eT]; exact hcell) hobj hlen rfl (by show 2 * 0 + _ ≤ _; omega) (hb K.2.1 hd) (fun _ _ => ⟨has, eT, hc, hl⟩)
  exact go_after K eT hS hk hZ hown N C hc hl X' h2 hgr hpost hsteps (nx v)
theorem go_specialN {idx W : Nat} {host : String} {y : MethodName} {bY : ByteArray} {mY : Nat} {rm : Room} {as' : Array Value} {ws0 : List Addr} {argsL : List Value} {a : Addr} (hd : decode bytes pc = .ok (.invokespecial idx, 3)) (hM : Con l Z EL y bY mY none [] rm as' h ws0 Q) (hs : ∀ x ∈ ws0, x ∈ ws) (hy1 : y.name = "<init>")
    (w1 : (Cond.methodLinkNest own idx y host).before a0 Z = true) (w2 : (Cond.instanceMethod y).before a0 Z = true) (w3 : (Cond.initialized y.cls).before a0 Z = true) (w4 : (Cond.code y bY mY none).before a0 Z = true) (hy : y.cls ≠ "java/lang/invoke/MethodHandle" ∧ y.cls ≠ "java/lang/invoke/VarHandle")
    (hlen : ∀ sig, parseMethodDescriptor y.desc = some sig → argsL.length = sig.parameters.length) (has : (Value.ref a :: argsL).toArray = as') (hst : st = argsL.reverse ++ .ref a :: rest) (hsz : Ls.size = maxL) (hW : (rest.map fun v => v.category).sum ≤ W) (hf : rm.frames + 1 ≤ R.frames) (hlo : W + (mY + 11) + rm.locals ≤ R.locals) (hc : cells + rm.cells ≤ R.cells) (hl : slots + rm.slots ≤ R.slots) (hp : pc + 3 = pc')
    (nx : ∀ v h' ws', Q v h' ws' → h.size ≤ h'.size → Go p l e R s m args below meth c Z a0 EL own bytes maxL ret nm (ws' ++ ws) h' (cells + rm.cells) (slots + rm.slots) pc' Ls (v.toList ++ rest) Q') :
    Go p l e R s m args below meth c Z a0 EL own bytes maxL ret nm ws h cells slots pc Ls st Q' := fun K T P => by
  obtain ⟨vm0, k0, locs, X, eT, hS, hk, hZ, hown, N, I, C, r⟩ := P
  subst hst hp
  have w1' : (Cond.methodLinkNest own idx y host).before args (s.setVm vm0) = true := (Cond.methodLinkNest_wide (s := Z) (vm' := vm0) hZ w1 :)
  obtain ⟨v, vm₁, B, hW1, X', h2, hgr, hpost, hsteps⟩ := X.specialBackNestS K.1 hy1 hown w1' (mvT (s := s.setVm vm0) hZ w2) (mvT (s := s.setVm vm0) hZ w4) hy (backC (W := W) hM hZ w4 w3 hf hlo K.2.2.2.2.2.2 I hs) (g := mkF m pc Ls (argsL.reverse ++ .ref a :: rest)) rfl (hsz.trans K.2.2.1.symm) (Steps.refl _) hlen rfl (by show 2 * 0 + _ ≤ _; omega) (hb K.2.1 hd) (fun _ _ => ⟨has, eT, hc, hl⟩)
  exact go_after K eT hS hk hZ hown N C hc hl X' h2 hgr hpost hsteps (nx v)
/-- System.arraycopy into a new array -/
theorem go_arraycopy {idx W : Nat} {a b : Addr} {k k' : ClassId} {ty ty' : FieldType} {z z' sp dp nn : Int32} {vs vd us : List Value} {dv dd : Value} (hd : decode bytes pc = .ok (.invokestatic idx, 3)) (w1 : (Cond.methodLink own idx Jvm.Stand.acN).before a0 Z = true) (w2 : (Cond.native Jvm.Stand.acN).before a0 Z = true) (w3 : (Cond.static Jvm.Stand.acN).before a0 Z = true) (w4 : (Cond.initialized "java/lang/System").before a0 Z = true)
    (A : Arv Z h a k ty z vs dv) (B : Arv Z h b k' ty' z' vd dd) (hty : (ty = ty' ∧ refKind ty = false) ∨ (refKind ty = true ∧ refKind ty' = true ∧ StoL Z h b us)) (h1 : ¬ sp < 0) (h2 : ¬ dp < 0) (h3 : ¬ nn < 0) (h4 : sp.toNatClampNeg + nn.toNatClampNeg ≤ z.toNatClampNeg) (h5 : dp.toNatClampNeg + nn.toNatClampNeg ≤ z'.toNatClampNeg)
    (hus : us = (List.range nn.toNatClampNeg).map fun i => vs.getD (sp.toNatClampNeg + i) dv) (hl : dp.toNatClampNeg + nn.toNatClampNeg ≤ vd.length) (hb' : b ∈ ws) (hsz : Ls.size = maxL) (hf : 1 ≤ R.frames) (hW : (rest.map fun v => v.category).sum ≤ W) (hlo : W + (nativeFrameWords "java/lang/System" "arraycopy" 5 + 11) ≤ R.locals) (hp : pc + 3 = pc')
    (nx : ∀ h', Keep h h' [b] → Arv Z h' b k' ty' z' (vd.take dp.toNatClampNeg ++ us ++ vd.drop (dp.toNatClampNeg + nn.toNatClampNeg)) dd → Go p l e R s m args below meth c Z a0 EL own bytes maxL ret nm ws h' cells slots pc' Ls rest Q) :
    Go p l e R s m args below meth c Z a0 EL own bytes maxL ret nm ws h cells slots pc Ls (.int nn :: .int dp :: .ref b :: .int sp :: .ref a :: rest) Q := fun K T P => by
  obtain ⟨vm0, k0, locs, X, eT, hS, hk, hZ, hown, N, I, C, r⟩ := P
  obtain ⟨T', h', L, X', e', N', K', A', stp⟩ := cpA X K.1 hZ hown w1 w2 w3 w4 eT A B hty h1 h2 h3 h4 h5 hus hl N (I.2.2 b hb').1 (g := mkF m pc Ls (.int nn :: .int dp :: .ref b :: .int sp :: .ref a :: rest)) rfl (hsz.trans K.2.2.1.symm) rfl (hb K.2.1 hd) hf (W := W) (by show 2 * 0 + _ ≤ _; omega) hlo
  subst hp
  have S1 : ∀ x ∈ [b], x ∈ ws := allS hb' all0
  obtain ⟨u, S2, E⟩ := nx h' K' A' K T' ⟨vm0, k0, L, X', e', hS, Nat.le_trans hk K'.1, hZ, hown, N', I.keep K' S1, C.trans (CHr.keep K' (fun x hx => (I.2.2 x (S1 x hx)).2.2) I.1), r⟩
  exact ⟨u, stp _ S2, E⟩
theorem go_getClass {idx W : Nat} {a mr : Addr} {C0 : String} (hd : decode bytes pc = .ok (.invokevirtual idx, 3)) (w1 : (Cond.methodLink own idx ⟨"java/lang/Object", "getClass", "()Ljava/lang/Class;"⟩).before a0 Z = true) (w2 : (Cond.declares ⟨"java/lang/Object", "getClass", "()Ljava/lang/Class;"⟩).before a0 Z = true) (w3 : (Cond.noSuperclass "java/lang/Object").before a0 Z = true) (w4 : (Cond.selects C0 ⟨"java/lang/Object", "getClass", "()Ljava/lang/Class;"⟩ ⟨"java/lang/Object", "getClass", "()Ljava/lang/Class;"⟩).before a0 Z = true)
    (w5 : (Cond.instanceMethod ⟨"java/lang/Object", "getClass", "()Ljava/lang/Class;"⟩).before a0 Z = true) (w6 : (Cond.native ⟨"java/lang/Object", "getClass", "()Ljava/lang/Class;"⟩).before a0 Z = true) (E0 : Exa Z h a C0) (M : Mir Z C0 mr) (hsz : Ls.size = maxL) (hf : 1 ≤ R.frames) (hW : (rest.map fun v => v.category).sum ≤ W) (hlo : W + (nativeFrameWords "java/lang/Object" "getClass" 1 + 11) ≤ R.locals) (hp : pc + 3 = pc')
    (nx : Go p l e R s m args below meth c Z a0 EL own bytes maxL ret nm ws h cells slots pc' Ls (.ref mr :: rest) Q) : Go p l e R s m args below meth c Z a0 EL own bytes maxL ret nm ws h cells slots pc Ls (.ref a :: rest) Q := fun K T P => by
  obtain ⟨vm0, k0, locs, X, eT, hS, hk, hZ, hown, N, I, C, r⟩ := P
  obtain ⟨T', X', e', stp⟩ := gcls X K.1 hZ hown w1 w2 w3 w4 w5 w6 eT E0 M (g := mkF m pc Ls (.ref a :: rest)) rfl (hsz.trans K.2.2.1.symm) rfl (hb K.2.1 hd) hf (W := W) (by show 2 * 0 + _ ≤ _; omega) hlo
  subst hp
  obtain ⟨u, S2, E⟩ := nx K T' ⟨vm0, k0, locs, X', e', hS, hk, hZ, hown, N, I, C, r⟩
  exact ⟨u, stp _ S2, E⟩
theorem go_ldcClass {idx : Nat} {C0 : String} {mr : Addr} (hd : decode bytes pc = .ok (.ldc idx, 2)) (w : (Cond.classLink own idx C0).before a0 Z = true) (M : Mir Z C0 mr) (hp : pc + 2 = pc')
    (nx : Go p l e R s m args below meth c Z a0 EL own bytes maxL ret nm ws h cells slots pc' Ls (.ref mr :: st) Q) : Go p l e R s m args below meth c Z a0 EL own bytes maxL ret nm ws h cells slots pc Ls st Q := fun K T P => by
  obtain ⟨vm0, k0, locs, X, eT, hS, hk, hZ, hown, N, I, C, r⟩ := P
  obtain ⟨cc, kc, m1, m2, m3, -⟩ := M
  obtain ⟨k', q, ek⟩ := hZ.alike.2.2 _ _ m2
  have hev : (Term.mirror C0).eval args (s.setVm vm0) none [] (s.setVm vm0) = some (.ref mr) := by
    have f1 : vm0.findClass C0 = some cc := by rw [hZ.alike.findClass]; exact m1
    have f2 : vm0.classes[cc]? = some k' := q
    have f0 : (s.setVm vm0).vm = vm0 := rfl
    have f3 : k'.mirror = some mr := by rw [ek]; exact m3
    simp [Term.eval, f0, f1, f2, f3]
  obtain ⟨vm', X', stp⟩ := X.ldcMirror K.1 hown (mvT (s := s.setVm vm0) hZ w) hev (g := mkF m pc Ls st) rfl (hb K.2.1 hd)
  subst hp
  obtain ⟨u, S2, E⟩ := nx K (T.setVm vm') ⟨vm0, k0, locs, X', eT, hS, hk, hZ, hown, N, I, C, r⟩
  exact ⟨u, stp _ S2, E⟩
theorem g_tswIn {dflt low high o : Int} {offs : Array Int} {len : Nat} {i : Int32} (hd : decode bytes pc = .ok (.tableswitch dflt low high offs, len)) (hin : ¬ (i.toInt < low ∨ i.toInt > high)) (hoff : offs[(i.toInt - low).toNat]? = some o) (ho : 0 ≤ (pc : Int) + o) (hp : ((pc : Int) + o).toNat = pc')
    (n : Go p l e R s m args below meth c Z a0 EL own bytes maxL ret nm ws h cells slots pc' Ls rest Q) : Go p l e R s m args below meth c Z a0 EL own bytes maxL ret nm ws h cells slots pc Ls (.int i :: rest) Q :=
  go_step (fun hx q _ A _ k => XS.tswIn A hx rfl rfl (hb q hd) rfl hin hoff ho hp k) n
theorem g_tswOut {dflt low high : Int} {offs : Array Int} {len : Nat} {i : Int32} (hd : decode bytes pc = .ok (.tableswitch dflt low high offs, len)) (hout : i.toInt < low ∨ i.toInt > high) (ho : 0 ≤ (pc : Int) + dflt) (hp : ((pc : Int) + dflt).toNat = pc')
    (n : Go p l e R s m args below meth c Z a0 EL own bytes maxL ret nm ws h cells slots pc' Ls rest Q) : Go p l e R s m args below meth c Z a0 EL own bytes maxL ret nm ws h cells slots pc Ls (.int i :: rest) Q :=
  go_step (fun hx q _ A _ k => XS.tswOut A hx rfl rfl (hb q hd) rfl hout ho hp k) n
theorem g_lswHit {dflt a off : Int} {prs : Array (Int × Int)} {len : Nat} {i : Int32} (hd : decode bytes pc = .ok (.lookupswitch dflt prs, len)) (hsorted : (prs.toList.zip (prs.toList.drop 1)).all (fun (a, next) => a.1 < next.1) = true) (hfind : prs.find? (·.1 == i.toInt) = some (a, off)) (ho : 0 ≤ (pc : Int) + off) (hp : ((pc : Int) + off).toNat = pc')
    (n : Go p l e R s m args below meth c Z a0 EL own bytes maxL ret nm ws h cells slots pc' Ls rest Q) : Go p l e R s m args below meth c Z a0 EL own bytes maxL ret nm ws h cells slots pc Ls (.int i :: rest) Q := fun K T P => by
  obtain ⟨u, S2, E⟩ := n K T P
  obtain ⟨vm0, k0, locs, X, -⟩ := P
  subst hp
  exact ⟨u, X.lookupswitchHit K.1 (g := mkF m pc Ls (.int i :: rest)) rfl rfl (hb K.2.1 hd) hsorted hfind ho _ S2, E⟩
theorem g_lswMiss {dflt : Int} {prs : Array (Int × Int)} {len : Nat} {i : Int32} (hd : decode bytes pc = .ok (.lookupswitch dflt prs, len)) (hsorted : (prs.toList.zip (prs.toList.drop 1)).all (fun (a, next) => a.1 < next.1) = true) (hfind : prs.find? (·.1 == i.toInt) = none) (ho : 0 ≤ (pc : Int) + dflt) (hp : ((pc : Int) + dflt).toNat = pc')
    (n : Go p l e R s m args below meth c Z a0 EL own bytes maxL ret nm ws h cells slots pc' Ls rest Q) : Go p l e R s m args below meth c Z a0 EL own bytes maxL ret nm ws h cells slots pc Ls (.int i :: rest) Q := fun K T P => by
  obtain ⟨u, S2, E⟩ := n K T P
  obtain ⟨vm0, k0, locs, X, -⟩ := P
  subst hp
  exact ⟨u, X.lookupswitchMiss K.1 (g := mkF m pc Ls (.int i :: rest)) rfl rfl (hb K.2.1 hd) hsorted hfind ho _ S2, E⟩
end Rules3
end Jvm.Own
namespace Jvm.Own
open Sem ClassFile Op Lib Bundle Jvm.Stand Jvm.Free Jvm.LawKit Jvm.RoadKit
/-! ## calls to a superclass's method; an array's clone -/
section Rules4
variable {p : Program} {l : Launch} {e : Env} {R : Room} {s : State} {m : MethodId} {args : Array Value} {below : List Frame} {meth : Method} {c : Code} {Z : State} {a0 : Array Value} {EL : List (String × Nat)} {own : String} {bytes : ByteArray} {maxL : Nat} {ret : Option FieldType} {nm : String}
  {ws : List Addr} {h : Heap} {cells slots : Nat} {pc pc' : Nat} {Ls Ls' : Array Slot} {st st' rest : List Value} {Q Q' : Option Value → Heap → List Addr → Prop}
theorem go_super {idx W : Nat} {y : MethodName} {K0 : String} {bY : ByteArray} {mY : Nat} {rY : Option FieldType} {rm : Room} {as' : Array Value} {ws0 : List Addr} {argsL : List Value} {a : Addr} (hd : decode bytes pc = .ok (.invokespecial idx, 3)) (hM : Con l Z EL y bY mY rY [] rm as' h ws0 Q) (hs : ∀ x ∈ ws0, x ∈ ws) (F : Ins Z h a K0 true)
    (w1 : (Cond.methodLink own idx y).before a0 Z = true) (w2 : (Cond.sameMethod y.cls y.cls y.name y.desc).before a0 Z = true) (w6 : (Cond.instanceMethod y).before a0 Z = true) (w7 : (Cond.superclass own y.cls).before a0 Z = true) (w3 : (Cond.initialized y.cls).before a0 Z = true) (w4 : (Cond.code y bY mY rY).before a0 Z = true) (hn : y.name ≠ "<init>")
    (hlen : ∀ sig, parseMethodDescriptor y.desc = some sig → argsL.length = sig.parameters.length) (has : (Value.ref a :: argsL).toArray = as') (hst : st = argsL.reverse ++ .ref a :: rest) (hsz : Ls.size = maxL) (hW : (rest.map fun v => v.category).sum ≤ W) (hf : rm.frames + 1 ≤ R.frames) (hlo : W + (mY + 11) + rm.locals ≤ R.locals) (hc : cells + rm.cells ≤ R.cells) (hl : slots + rm.slots ≤ R.slots) (hp : pc + 3 = pc')
    (nx : ∀ v h' ws', Q v h' ws' → h.size ≤ h'.size → Go p l e R s m args below meth c Z a0 EL own bytes maxL ret nm (ws' ++ ws) h' (cells + rm.cells) (slots + rm.slots) pc' Ls (v.toList ++ rest) Q') :
    Go p l e R s m args below meth c Z a0 EL own bytes maxL ret nm ws h cells slots pc Ls st Q' := fun K T P => by
  obtain ⟨vm0, k0, locs, X, eT, hS, hk, hZ, hown, N, I, C, r⟩ := P
  subst hst hp
  obtain ⟨v, vm₁, B, hW1, X', h2, hgr, hpost, hsteps⟩ := superBackS X K.1 hZ hown w1 w2 w6 w7 hn (backC (W := W) hM hZ w4 w3 hf hlo K.2.2.2.2.2.2 I hs) eT F (g := mkF m pc Ls (argsL.reverse ++ .ref a :: rest)) rfl (hsz.trans K.2.2.1.symm) w4 hlen rfl (by show 2 * 0 + _ ≤ _; omega) (hb K.2.1 hd) (fun _ _ => ⟨has, eT, hc, hl⟩)
  exact go_after K eT hS hk hZ hown N C hc hl X' h2 hgr hpost hsteps (nx v)
theorem go_up {idx W : Nat} {x z : MethodName} {C0 owner : String} {bY : ByteArray} {mY : Nat} {rY : Option FieldType} {rm : Room} {as' : Array Value} {ws0 : List Addr} {argsL : List Value} {a : Addr} (hd : decode bytes pc = .ok (.invokevirtual idx, 3)) (hM : Con l Z EL z bY mY rY [] rm as' h ws0 Q) (hs : ∀ x ∈ ws0, x ∈ ws) (E0 : Exa Z h a C0)
    (w1 : (Cond.methodLink own idx x).before a0 Z = true) (w2 : (Cond.sameMethod x.cls owner x.name x.desc).before a0 Z = true) (w7 : (Cond.declares ⟨owner, x.name, x.desc⟩).before a0 Z = true) (hy : owner ≠ "java/lang/invoke/MethodHandle" ∧ owner ≠ "java/lang/invoke/VarHandle") (w5 : (Cond.selects C0 x z).before a0 Z = true) (w6 : (Cond.instanceMethod z).before a0 Z = true) (w3 : (Cond.initialized z.cls).before a0 Z = true) (w4 : (Cond.code z bY mY rY).before a0 Z = true)
    (hlen : ∀ sig, parseMethodDescriptor x.desc = some sig → argsL.length = sig.parameters.length) (has : (Value.ref a :: argsL).toArray = as') (hst : st = argsL.reverse ++ .ref a :: rest) (hsz : Ls.size = maxL) (hW : (rest.map fun v => v.category).sum ≤ W) (hf : rm.frames + 1 ≤ R.frames) (hlo : W + (mY + 11) + rm.locals ≤ R.locals) (hc : cells + rm.cells ≤ R.cells) (hl : slots + rm.slots ≤ R.slots) (hp : pc + 3 = pc')
    (nx : ∀ v h' ws', Q v h' ws' → h.size ≤ h'.size → Go p l e R s m args below meth c Z a0 EL own bytes maxL ret nm (ws' ++ ws) h' (cells + rm.cells) (slots + rm.slots) pc' Ls (v.toList ++ rest) Q') :
    Go p l e R s m args below meth c Z a0 EL own bytes maxL ret nm ws h cells slots pc Ls st Q' := fun K T P => by
  obtain ⟨vm0, k0, locs, X, eT, hS, hk, hZ, hown, N, I, C, r⟩ := P
  subst hst hp
  obtain ⟨cB, kB, i1, i2, i3⟩ := isOf (s := s.setVm vm0) hZ eT E0
  obtain ⟨v, vm₁, B, hW1, X', h2, hgr, hpost, hsteps⟩ := X.virtualBackUpS K.1 hown (mvT (s := s.setVm vm0) hZ w1) (mvT (s := s.setVm vm0) hZ w2) (mvT (s := s.setVm vm0) hZ w7) hy (mvT (s := s.setVm vm0) hZ w5) (mvT (s := s.setVm vm0) hZ w6) (backC (W := W) hM hZ w4 w3 hf hlo K.2.2.2.2.2.2 I hs) i1 i3 (g := mkF m pc Ls (argsL.reverse ++ .ref a :: rest)) rfl (hsz.trans K.2.2.1.symm) (Steps.refl _) hlen rfl (by show 2 * 0 + _ ≤ _; omega) (hb K.2.1 hd) (fun _ _ => ⟨has, eT, hc, hl⟩)
  exact go_after K eT hS hk hZ hown N C hc hl X' h2 hgr hpost hsteps (nx v)
theorem go_clone {idx W cap : Nat} {ad : String} {a : Addr} {k : ClassId} {ty : FieldType} {z : Int32} {vs : List Value} {dv : Value} (hd : decode bytes pc = .ok (.invokevirtual idx, 3))
    (w1 : (Cond.methodLink own idx ⟨ad, "clone", "()Ljava/lang/Object;"⟩).before a0 Z = true) (w2 : (Cond.sameMethod ad "java/lang/Object" "clone" "()Ljava/lang/Object;").before a0 Z = true) (w3 : (Cond.native ⟨"java/lang/Object", "clone", "()Ljava/lang/Object;"⟩).before a0 Z = true)
    (w4 : (Cond.instanceMethod ⟨"java/lang/Object", "clone", "()Ljava/lang/Object;"⟩).before a0 Z = true) (w5 : (Cond.selects ad ⟨ad, "clone", "()Ljava/lang/Object;"⟩ ⟨"java/lang/Object", "clone", "()Ljava/lang/Object;"⟩).before a0 Z = true) (w6 : (Cond.castable ad "java/lang/Cloneable").before a0 Z = true)
    (F : Arv Z h a k ty z vs dv) (E0 : Exa Z h a ad) (hsz : Ls.size = maxL) (hf : 1 ≤ R.frames) (hW : (rest.map fun v => v.category).sum ≤ W) (hlo : W + 14 ≤ R.locals) (hcap : z.toNatClampNeg ≤ cap) (hc : cells + 1 ≤ R.cells) (hl : slots + cap ≤ R.slots) (hp : pc + 3 = pc')
    (nx : ∀ h' b, b = h.size → Ext h h' → Arv Z h' b k ty z vs dv → Exa Z h' b ad → Go p l e R s m args below meth c Z a0 EL own bytes maxL ret nm (b :: ws) h' (cells + 1) (slots + cap) pc' Ls (.ref b :: rest) Q) : Go p l e R s m args below meth c Z a0 EL own bytes maxL ret nm ws h cells slots pc Ls (.ref a :: rest) Q := fun K T P => by
  obtain ⟨vm0, k0, locs, X, eT, hS, hk, hZ, hown, N, I, C, r⟩ := P
  obtain ⟨T', h', X', e', E', A', D, stp⟩ := cloneH X K.1 hZ hown w1 w2 w3 w4 w5 w6 eT F.arh E0 (g := mkF m pc Ls (.ref a :: rest)) rfl (hsz.trans K.2.2.1.symm) rfl (hb K.2.1 hd) hf (W := W) (by show 2 * 0 + _ ≤ _; omega) hlo hcap hc hl
  subst hp
  obtain ⟨u, S2, E⟩ := nx h' h.size rfl E' A' D K T' ⟨vm0, k0, locs, X', e', hS, Nat.le_trans hk E'.1, hZ, hown, N, I.new E' rfl D.lt, C.trans (CHr.ext E' I.1), hc, hl⟩
  exact ⟨u, stp _ S2, E⟩
theorem go_ldc2 {idx : Nat} {z : Int64} (hd : decode bytes pc = .ok (.ldc2_w idx, 3)) (w : (Cond.constantLong own idx z).before a0 Z = true) (hp : pc + 3 = pc')
    (nx : Go p l e R s m args below meth c Z a0 EL own bytes maxL ret nm ws h cells slots pc' Ls (.long z :: st) Q) : Go p l e R s m args below meth c Z a0 EL own bytes maxL ret nm ws h cells slots pc Ls st Q := fun K T P => by
  obtain ⟨u, S2, E⟩ := nx K T P
  obtain ⟨vm0, k0, locs, X, eT, hS, hk, hZ, hown, N, I, C, r⟩ := P
  subst hp
  exact ⟨u, X.ldc2Long K.1 hown (mv (s := s.setVm vm0) hZ w) (g := mkF m pc Ls st) rfl (hb K.2.1 hd) _ S2, E⟩
theorem go_instNull {idx : Nat} (hd : decode bytes pc = .ok (.instanceof idx, 3)) (hp : pc + 3 = pc')
    (nx : Go p l e R s m args below meth c Z a0 EL own bytes maxL ret nm ws h cells slots pc' Ls (.int 0 :: rest) Q) : Go p l e R s m args below meth c Z a0 EL own bytes maxL ret nm ws h cells slots pc Ls (.null :: rest) Q := fun K T P => by
  obtain ⟨u, S2, E⟩ := nx K T P
  obtain ⟨vm0, k0, locs, X, eT, hS, hk, hZ, hown, N, I, C, r⟩ := P
  subst hp
  exact ⟨u, X.instanceofNull K.1 (g := mkF m pc Ls (.null :: rest)) rfl rfl (hb K.2.1 hd) _ S2, E⟩
theorem go_castNull {idx : Nat} (hd : decode bytes pc = .ok (.checkcast idx, 3)) (hp : pc + 3 = pc')
    (nx : Go p l e R s m args below meth c Z a0 EL own bytes maxL ret nm ws h cells slots pc' Ls (.null :: rest) Q) : Go p l e R s m args below meth c Z a0 EL own bytes maxL ret nm ws h cells slots pc Ls (.null :: rest) Q := fun K T P => by
  obtain ⟨u, S2, E⟩ := nx K T P
  obtain ⟨vm0, k0, locs, X, eT, hS, hk, hZ, hown, N, I, C, r⟩ := P
  subst hp
  exact ⟨u, X.checkcastNull K.1 (g := mkF m pc Ls (.null :: rest)) rfl rfl (hb K.2.1 hd) _ S2, E⟩
end Rules4
end Jvm.Own
namespace Jvm.Own
open Sem ClassFile Op Lib Bundle Jvm.Stand Jvm.Free Jvm.LawKit Jvm.RoadKit
/-! ## what the sheet says of the start: arrays and Strings -/
theorem eq_ref {args : Array Value} {s : State} {a b : Term} {x : Addr} (hb : b.eval args s none [] s = some (.ref x)) (h : (Cond.eq a b).value args s none s [] = some true) : a.eval args s none [] s = some (.ref x) := by
  cases ha : a.eval args s none [] s with
  | none => simp [Cond.value, ha, hb] at h
  | some v => cases v <;> simp_all [Cond.value]
theorem el_int {args : Array Value} {s : State} {t : Term} {k : Int32} (h : (Cond.eq t (Term.int k)).value args s none s [] = some true) : t.eval args s none [] s = some (.int k) := Cond.eq_int (Cond.before_iff.mpr h) rfl
def Els (t : Term) (args : Array Value) (s : State) : Nat → List Value → Prop
  | _, [] => True
  | i, v :: r => (Term.elem t (Term.int (Int32.ofNat i))).eval args s none [] s = some v ∧ Els t args s (i + 1) r
theorem Els.at {t : Term} {args : Array Value} {s : State} {dv : Value} : ∀ (vs : List Value) (i : Nat), Els t args s i vs → ∀ j, j < vs.length → (Term.elem t (Term.int (Int32.ofNat (i + j)))).eval args s none [] s = some (vs.getD j dv)
  | [], _, _, _, q => nomatch q
  | _ :: _, _, H, 0, _ => H.1
  | _ :: r, i, H, j + 1, q => by
    have := Els.at (dv := dv) r (i + 1) H.2 j (Nat.lt_of_succ_lt_succ q)
    rw [Nat.add_right_comm] at this; exact this
theorem arv_start {args : Array Value} {s : State} {t : Term} {ty : FieldType} {x : Addr} {n : Int32} {vs : List Value} {dv : Value} (ht : t.eval args s none [] s = some (.ref x)) (ha : (Cond.arrayOf t ty).value args s none s [] = some true) (hl : (Cond.eq (Term.length t) (Term.int n)).value args s none s [] = some true)
    (hz : ¬ n < 0) (hn : n.toNatClampNeg = vs.length) (hN : vs.length ≤ 4000) (H : Els t args s 0 vs) (hf : ∀ v ∈ vs, fits ty v = true) : ∃ k, Arv s s.heap x k ty n vs dv := by
  obtain ⟨c, A⟩ := Arr.start ht ha
  have e := el_int hl
  have hA := Arr.fin (State.Warmed39.refl s).alike A
  have q : c.slots.size < 2 ^ 31 := by
    by_cases q : c.slots.size < 2 ^ 31
    · exact q
    · simp [Term.eval, ht, hA, q] at e
  have e2 := len_f ht hA q
  have e3 : c.slots.size.toInt32 = n := by rw [e2] at e; exact Value.int.inj (Option.some.inj e)
  have S : c.slots.size = n.toNatClampNeg := by rw [← e3]; simp only [Int32.toNatClampNeg, len_toInt q]; rfl
  have L : ∀ j, j < c.slots.size → j < vs.length := fun j hj => by rw [← hn, ← S]; exact hj
  have Hs : Has c vs dv := fun j hj => by
    have r := Els.at (dv := dv) vs 0 H j (L j hj)
    rw [Nat.zero_add] at r
    have z := (elem_in r ht rfl A.1).2
    rw [o_cl (by have := L j hj; omega)] at z; exact z
  refine ⟨c.cls, c, A, rfl, S, hz, Hs, fun i hi => ?_⟩
  have hi' := L i hi
  rw [List.getD, List.getElem?_eq_getElem hi', Option.getD_some]; exact hf _ (List.getElem_mem hi')
theorem lat_start {args : Array Value} {s : State} {t : Term} {a : Addr} {n : Int32} {cs : List Int32} {vs : List Value} (ht : t.eval args s none [] s = some (.ref a)) (X : (Cond.exactly t "java/lang/String").value args s none s [] = some true) (hc : (Cond.eq (Term.field t "java/lang/String" "coder" "B") (Term.int 0)).value args s none s [] = some true)
    (hA : (Cond.arrayOf (Term.field t "java/lang/String" "value" "[B") .byte).value args s none s [] = some true) (hL : (Cond.eq (Term.length (Term.field t "java/lang/String" "value" "[B")) (Term.int n)).value args s none s [] = some true)
    (hv : vs = cs.map by8) (H : Els (Term.field t "java/lang/String" "value" "[B") args s 0 vs) (hcs : n = Int32.ofNat cs.length) (hN : cs.length ≤ 4000) : ∃ b, LatB s s.heap a b cs := by
  obtain ⟨b, hb⟩ := arr_v hA
  have hb' := (fld_at ht).symm.trans hb
  obtain ⟨k, A⟩ := arv_start (dv := .int 0) hb hA hL (by rw [hcs]; exact o_nn (by omega)) (by rw [hcs, o_cl (by omega), hv, List.length_map]) (by rw [hv, List.length_map]; exact hN) H (fun v q => by rw [hv] at q; obtain ⟨c, -, rfl⟩ := List.mem_map.mp q; exact fits_by8 c)
  exact ⟨b, LatB.mk (Exa.start ht X) (Fld.start (fld_eq ht hc)) (Fld.start hb') A hcs hv⟩
theorem LatB.same {Z : State} {h : Heap} {a b b' : Addr} {cs ds : List Int32} (F : LatB Z h a b cs) (G : LatB Z h a b' ds) (hB : Byt cs) (hD : Byt ds) (hN : cs.length ≤ 4000) (hM : ds.length ≤ 4000) : cs = ds := by
  obtain ⟨-, -, F3, k1, A1⟩ := F
  obtain ⟨-, -, G3, k2, A2⟩ := G
  have e : (Value.ref b) = .ref b' := Decidable.byContradiction fun q => Fld.ne F3 G3 q rfl
  have e' : b = b' := Value.ref.inj e
  subst e'
  obtain ⟨c1, a1, -, s1, -, H1, -⟩ := A1
  obtain ⟨c2, a2, -, s2, -, H2, -⟩ := A2
  cases a1.1.symm.trans a2.1
  rw [o_cl (by omega)] at s1 s2
  refine list_ext_getD (s1.symm.trans s2) fun i hi => ?_
  have q := (H1 i (by omega)).symm.trans (H2 i (by omega))
  rw [map8_getD, map8_getD] at q
  exact by8_inj (hB.at i).1 (hB.at i).2 (hD.at i).1 (hD.at i).2 (Value.int.inj (Option.some.inj q))
theorem Byt.set {cs : List Int32} {c : Int32} (B : Byt cs) (q : ¬ c < 0 ∧ ¬ (255 : Int32) < c) (j : Nat) : Byt (cs.set j c) := fun y hy => by
  rcases List.mem_or_eq_of_mem_set hy with r | r
  · exact B y r
  · rw [r]; exact q
theorem Byt.rep (n : Nat) : Byt (List.replicate n (0 : Int32)) := fun y hy => by
  rw [(List.mem_replicate.mp hy).2]; exact ⟨by decide, by decide⟩
theorem bytL (x : Int64) : ¬ (x &&& (255 : Int64)).toInt32.toUInt32.toUInt16.toUInt32.toInt32 < 0 ∧ ¬ (255 : Int32) < (x &&& (255 : Int64)).toInt32.toUInt32.toUInt16.toUInt32.toInt32 := by
  have a := c_maskL x 255 8 (by decide) (by decide)
  have b := c_l2i (x &&& 255)
  have c := c_i2c (x &&& (255 : Int64)).toInt32
  have r := rng32 (x &&& (255 : Int64)).toInt32
  have e8 : ((2 : Nat) ^ 8 : Nat) = 256 := rfl
  rw [e8] at a
  simp only [Int32.lt_iff_toInt_lt, Int32.reduceToInt]; omega
/-- a number below n -/
theorem rem_nat (x : Int32) (m : Int32) {n : Nat} (hm : m.toInt = (n : Int)) (h0 : 0 < n) (h1 : n < 2147483648) : ∃ j, j < n ∧ (x &&& (2147483647 : Int32)) % m = Int32.ofNat j := by
  have h := c_and x 2147483647 (by decide)
  have q := (c_iremV (x &&& 2147483647) m).1 h.1 (by omega)
  refine ⟨((x &&& (2147483647 : Int32)) % m).toInt.toNat, ?_, ?_⟩
  · omega
  · apply Int32.toInt_inj.mp; rw [o_int (by omega)]; omega
end Jvm.Own
namespace Jvm.Pilot.@@N@@
open Jvm Jvm.ClassFile Sem Op Lib Jvm.Free Jvm.Stand Jvm.LawKit Jvm.RoadKit Bundle Jvm.Own Jvm.Pilot.@@N@@.Jvm.D
theorem w0 {Z : State} {a0 : Array Value} (hw : ∀ d ∈ tables_1, d.before a0 Z = true) : ((Jvm.Cond.constant "com/example/pathloom/pathloom/ConditionAboutActionsPinLaw" (46 : Nat) (2147483647 : Int32))).before a0 Z = true := hw _ (List.mem_of_getElem? (i := 0) rfl)
theorem w1 {Z : State} {a0 : Array Value} (hw : ∀ d ∈ tables_1, d.before a0 Z = true) : ((Jvm.Cond.arrayClass Jvm.ClassFile.FieldType.char)).before a0 Z = true := hw _ (List.mem_of_getElem? (i := 1) rfl)
theorem w2 {Z : State} {a0 : Array Value} (hw : ∀ d ∈ tables_1, d.before a0 Z = true) : ((Jvm.Cond.classLink "com/example/pathloom/pathloom/ConditionAboutActionsPinLaw" (47 : Nat) "java/lang/String")).before a0 Z = true := hw _ (List.mem_of_getElem? (i := 2) rfl)
theorem w3 {Z : State} {a0 : Array Value} (hw : ∀ d ∈ tables_1, d.before a0 Z = true) : ((Jvm.Cond.instantiable "java/lang/String" (4 : Nat))).before a0 Z = true := hw _ (List.mem_of_getElem? (i := 3) rfl)
theorem w4 {Z : State} {a0 : Array Value} (hw : ∀ d ∈ tables_1, d.before a0 Z = true) : ((Jvm.Cond.initialized "java/lang/String")).before a0 Z = true := hw _ (List.mem_of_getElem? (i := 4) rfl)
theorem w5 {Z : State} {a0 : Array Value} (hw : ∀ d ∈ tables_1, d.before a0 Z = true) : ((Jvm.Cond.methodLink "com/example/pathloom/pathloom/ConditionAboutActionsPinLaw" (49 : Nat) ({ cls := "java/lang/String", name := "<init>", desc := "([C)V" } : Jvm.MethodName))).before a0 Z = true := hw _ (List.mem_of_getElem? (i := 5) rfl)
theorem w6 {Z : State} {a0 : Array Value} (hw : ∀ d ∈ tables_1, d.before a0 Z = true) : ((Jvm.Cond.instanceMethod ({ cls := "java/lang/String", name := "<init>", desc := "([C)V" } : Jvm.MethodName))).before a0 Z = true := hw _ (List.mem_of_getElem? (i := 6) rfl)
theorem w7 {Z : State} {a0 : Array Value} (hw : ∀ d ∈ tables_1, d.before a0 Z = true) : ((Jvm.Cond.code ({ cls := "java/lang/String", name := "<init>", desc := "([C)V" } : Jvm.MethodName) jdk_42_method_3_code (2 : Nat) (Option.none : Option Jvm.ClassFile.FieldType))).before a0 Z = true := hw _ (List.mem_of_getElem? (i := 7) rfl)
theorem w8 {Z : State} {a0 : Array Value} (hw : ∀ d ∈ tables_1, d.before a0 Z = true) : ((Jvm.Cond.methodLink "java/lang/String" (27 : Nat) ({ cls := "java/lang/String", name := "<init>", desc := "([CIILjava/lang/Void;)V" } : Jvm.MethodName))).before a0 Z = true := hw _ (List.mem_of_getElem? (i := 8) rfl)
theorem w9 {Z : State} {a0 : Array Value} (hw : ∀ d ∈ tables_1, d.before a0 Z = true) : ((Jvm.Cond.instanceMethod ({ cls := "java/lang/String", name := "<init>", desc := "([CIILjava/lang/Void;)V" } : Jvm.MethodName))).before a0 Z = true := hw _ (List.mem_of_getElem? (i := 9) rfl)
theorem w11 {Z : State} {a0 : Array Value} (hw : ∀ d ∈ tables_1, d.before a0 Z = true) : ((Jvm.Cond.code ({ cls := "java/lang/String", name := "<init>", desc := "([CIILjava/lang/Void;)V" } : Jvm.MethodName) jdk_42_method_149_code (6 : Nat) (Option.none : Option Jvm.ClassFile.FieldType))).before a0 Z = true := hw _ (List.mem_of_getElem? (i := 11) rfl)
theorem w12 {Z : State} {a0 : Array Value} (hw : ∀ d ∈ tables_1, d.before a0 Z = true) : ((Jvm.Cond.methodLink "java/lang/String" (1 : Nat) ({ cls := "java/lang/Object", name := "<init>", desc := "()V" } : Jvm.MethodName))).before a0 Z = true := hw _ (List.mem_of_getElem? (i := 12) rfl)
theorem w13 {Z : State} {a0 : Array Value} (hw : ∀ d ∈ tables_1, d.before a0 Z = true) : ((Jvm.Cond.instanceMethod ({ cls := "java/lang/Object", name := "<init>", desc := "()V" } : Jvm.MethodName))).before a0 Z = true := hw _ (List.mem_of_getElem? (i := 13) rfl)
theorem w14 {Z : State} {a0 : Array Value} (hw : ∀ d ∈ tables_1, d.before a0 Z = true) : ((Jvm.Cond.code ({ cls := "java/lang/Object", name := "<init>", desc := "()V" } : Jvm.MethodName) object_method_1_code (1 : Nat) (Option.none : Option Jvm.ClassFile.FieldType))).before a0 Z = true := hw _ (List.mem_of_getElem? (i := 14) rfl)
theorem w15 {Z : State} {a0 : Array Value} (hw : ∀ d ∈ tables_1, d.before a0 Z = true) : ((Jvm.Cond.fieldLink "java/lang/String" (38 : Nat) "java/lang/String" "COMPACT_STRINGS" "Z")).before a0 Z = true := hw _ (List.mem_of_getElem? (i := 15) rfl)
theorem w16 {Z : State} {a0 : Array Value} (hw : ∀ d ∈ tables_1, d.before a0 Z = true) : ((Jvm.Cond.methodLink "java/lang/String" (177 : Nat) ({ cls := "java/lang/StringUTF16", name := "compress", desc := "([CII)[B" } : Jvm.MethodName))).before a0 Z = true := hw _ (List.mem_of_getElem? (i := 16) rfl)
theorem w17 {Z : State} {a0 : Array Value} (hw : ∀ d ∈ tables_1, d.before a0 Z = true) : ((Jvm.Cond.static ({ cls := "java/lang/StringUTF16", name := "compress", desc := "([CII)[B" } : Jvm.MethodName))).before a0 Z = true := hw _ (List.mem_of_getElem? (i := 17) rfl)
theorem w18 {Z : State} {a0 : Array Value} (hw : ∀ d ∈ tables_1, d.before a0 Z = true) : ((Jvm.Cond.initialized "java/lang/StringUTF16")).before a0 Z = true := hw _ (List.mem_of_getElem? (i := 18) rfl)
theorem w19 {Z : State} {a0 : Array Value} (hw : ∀ d ∈ tables_1, d.before a0 Z = true) : ((Jvm.Cond.code ({ cls := "java/lang/StringUTF16", name := "compress", desc := "([CII)[B" } : Jvm.MethodName) jdk_52_method_16_code (6 : Nat) (Option.some (Jvm.ClassFile.FieldType.array Jvm.ClassFile.FieldType.byte)))).before a0 Z = true := hw _ (List.mem_of_getElem? (i := 19) rfl)
theorem w20 {Z : State} {a0 : Array Value} (hw : ∀ d ∈ tables_1, d.before a0 Z = true) : ((Jvm.Cond.arrayClass Jvm.ClassFile.FieldType.byte)).before a0 Z = true := hw _ (List.mem_of_getElem? (i := 20) rfl)
theorem w21 {Z : State} {a0 : Array Value} (hw : ∀ d ∈ tables_1, d.before a0 Z = true) : ((Jvm.Cond.methodLink "java/lang/StringUTF16" (115 : Nat) ({ cls := "java/lang/StringUTF16", name := "compress", desc := "([CI[BII)I" } : Jvm.MethodName))).before a0 Z = true := hw _ (List.mem_of_getElem? (i := 21) rfl)
theorem w22 {Z : State} {a0 : Array Value} (hw : ∀ d ∈ tables_1, d.before a0 Z = true) : ((Jvm.Cond.static ({ cls := "java/lang/StringUTF16", name := "compress", desc := "([CI[BII)I" } : Jvm.MethodName))).before a0 Z = true := hw _ (List.mem_of_getElem? (i := 22) rfl)
theorem w23 {Z : State} {a0 : Array Value} (hw : ∀ d ∈ tables_1, d.before a0 Z = true) : ((Jvm.Cond.code ({ cls := "java/lang/StringUTF16", name := "compress", desc := "([CI[BII)I" } : Jvm.MethodName) jdk_52_method_21_code (7 : Nat) (Option.some Jvm.ClassFile.FieldType.int))).before a0 Z = true := hw _ (List.mem_of_getElem? (i := 23) rfl)
theorem w24 {Z : State} {a0 : Array Value} (hw : ∀ d ∈ tables_1, d.before a0 Z = true) : ((Jvm.Cond.methodLink "java/lang/String" (47 : Nat) ({ cls := "java/lang/StringUTF16", name := "coderFromArrayLen", desc := "([BI)B" } : Jvm.MethodName))).before a0 Z = true := hw _ (List.mem_of_getElem? (i := 24) rfl)
theorem w25 {Z : State} {a0 : Array Value} (hw : ∀ d ∈ tables_1, d.before a0 Z = true) : ((Jvm.Cond.static ({ cls := "java/lang/StringUTF16", name := "coderFromArrayLen", desc := "([BI)B" } : Jvm.MethodName))).before a0 Z = true := hw _ (List.mem_of_getElem? (i := 25) rfl)
theorem w26 {Z : State} {a0 : Array Value} (hw : ∀ d ∈ tables_1, d.before a0 Z = true) : ((Jvm.Cond.code ({ cls := "java/lang/StringUTF16", name := "coderFromArrayLen", desc := "([BI)B" } : Jvm.MethodName) jdk_52_method_15_code (2 : Nat) (Option.some Jvm.ClassFile.FieldType.byte))).before a0 Z = true := hw _ (List.mem_of_getElem? (i := 26) rfl)
theorem w27 {Z : State} {a0 : Array Value} (hw : ∀ d ∈ tables_1, d.before a0 Z = true) : ((Jvm.Cond.fieldLink "java/lang/String" (15 : Nat) "java/lang/String" "coder" "B")).before a0 Z = true := hw _ (List.mem_of_getElem? (i := 27) rfl)
theorem w28 {Z : State} {a0 : Array Value} (hw : ∀ d ∈ tables_1, d.before a0 Z = true) : ((Jvm.Cond.laysFinal "java/lang/String" "java/lang/String" "coder" "B")).before a0 Z = true := hw _ (List.mem_of_getElem? (i := 28) rfl)
theorem w29 {Z : State} {a0 : Array Value} (hw : ∀ d ∈ tables_1, d.before a0 Z = true) : ((Jvm.Cond.fieldLink "java/lang/String" (9 : Nat) "java/lang/String" "value" "[B")).before a0 Z = true := hw _ (List.mem_of_getElem? (i := 29) rfl)
theorem w30 {Z : State} {a0 : Array Value} (hw : ∀ d ∈ tables_1, d.before a0 Z = true) : ((Jvm.Cond.laysFinal "java/lang/String" "java/lang/String" "value" "[B")).before a0 Z = true := hw _ (List.mem_of_getElem? (i := 30) rfl)
theorem w31 {Z : State} {a0 : Array Value} (hw : ∀ d ∈ tables_1, d.before a0 Z = true) : ((Jvm.Cond.methodLink "com/example/pathloom/pathloom/ConditionAboutActionsPinLaw" (52 : Nat) ({ cls := "java/lang/String", name := "valueOf", desc := "(C)Ljava/lang/String;" } : Jvm.MethodName))).before a0 Z = true := hw _ (List.mem_of_getElem? (i := 31) rfl)
theorem w32 {Z : State} {a0 : Array Value} (hw : ∀ d ∈ tables_1, d.before a0 Z = true) : ((Jvm.Cond.static ({ cls := "java/lang/String", name := "valueOf", desc := "(C)Ljava/lang/String;" } : Jvm.MethodName))).before a0 Z = true := hw _ (List.mem_of_getElem? (i := 32) rfl)
theorem w33 {Z : State} {a0 : Array Value} (hw : ∀ d ∈ tables_1, d.before a0 Z = true) : ((Jvm.Cond.code ({ cls := "java/lang/String", name := "valueOf", desc := "(C)Ljava/lang/String;" } : Jvm.MethodName) jdk_42_method_139_code (1 : Nat) (Option.some (Jvm.ClassFile.FieldType.object "java/lang/String")))).before a0 Z = true := hw _ (List.mem_of_getElem? (i := 33) rfl)
theorem w34 {Z : State} {a0 : Array Value} (hw : ∀ d ∈ tables_1, d.before a0 Z = true) : ((Jvm.Cond.methodLink "java/lang/String" (1015 : Nat) ({ cls := "java/lang/StringLatin1", name := "canEncode", desc := "(C)Z" } : Jvm.MethodName))).before a0 Z = true := hw _ (List.mem_of_getElem? (i := 34) rfl)
theorem w35 {Z : State} {a0 : Array Value} (hw : ∀ d ∈ tables_1, d.before a0 Z = true) : ((Jvm.Cond.static ({ cls := "java/lang/StringLatin1", name := "canEncode", desc := "(C)Z" } : Jvm.MethodName))).before a0 Z = true := hw _ (List.mem_of_getElem? (i := 35) rfl)
theorem w36 {Z : State} {a0 : Array Value} (hw : ∀ d ∈ tables_1, d.before a0 Z = true) : ((Jvm.Cond.initialized "java/lang/StringLatin1")).before a0 Z = true := hw _ (List.mem_of_getElem? (i := 36) rfl)
theorem w37 {Z : State} {a0 : Array Value} (hw : ∀ d ∈ tables_1, d.before a0 Z = true) : ((Jvm.Cond.code ({ cls := "java/lang/StringLatin1", name := "canEncode", desc := "(C)Z" } : Jvm.MethodName) jdk_43_method_3_code (1 : Nat) (Option.some Jvm.ClassFile.FieldType.boolean))).before a0 Z = true := hw _ (List.mem_of_getElem? (i := 37) rfl)
theorem w38 {Z : State} {a0 : Array Value} (hw : ∀ d ∈ tables_1, d.before a0 Z = true) : ((Jvm.Cond.classLink "java/lang/String" (10 : Nat) "java/lang/String")).before a0 Z = true := hw _ (List.mem_of_getElem? (i := 38) rfl)
theorem w39 {Z : State} {a0 : Array Value} (hw : ∀ d ∈ tables_1, d.before a0 Z = true) : ((Jvm.Cond.methodLink "java/lang/String" (1018 : Nat) ({ cls := "java/lang/StringLatin1", name := "toBytes", desc := "(C)[B" } : Jvm.MethodName))).before a0 Z = true := hw _ (List.mem_of_getElem? (i := 39) rfl)
theorem w40 {Z : State} {a0 : Array Value} (hw : ∀ d ∈ tables_1, d.before a0 Z = true) : ((Jvm.Cond.static ({ cls := "java/lang/StringLatin1", name := "toBytes", desc := "(C)[B" } : Jvm.MethodName))).before a0 Z = true := hw _ (List.mem_of_getElem? (i := 40) rfl)
theorem w41 {Z : State} {a0 : Array Value} (hw : ∀ d ∈ tables_1, d.before a0 Z = true) : ((Jvm.Cond.code ({ cls := "java/lang/StringLatin1", name := "toBytes", desc := "(C)[B" } : Jvm.MethodName) jdk_43_method_46_code (1 : Nat) (Option.some (Jvm.ClassFile.FieldType.array Jvm.ClassFile.FieldType.byte)))).before a0 Z = true := hw _ (List.mem_of_getElem? (i := 41) rfl)
theorem w42 {Z : State} {a0 : Array Value} (hw : ∀ d ∈ tables_1, d.before a0 Z = true) : ((Jvm.Cond.methodLink "java/lang/String" (209 : Nat) ({ cls := "java/lang/String", name := "<init>", desc := "([BB)V" } : Jvm.MethodName))).before a0 Z = true := hw _ (List.mem_of_getElem? (i := 42) rfl)
theorem w43 {Z : State} {a0 : Array Value} (hw : ∀ d ∈ tables_1, d.before a0 Z = true) : ((Jvm.Cond.instanceMethod ({ cls := "java/lang/String", name := "<init>", desc := "([BB)V" } : Jvm.MethodName))).before a0 Z = true := hw _ (List.mem_of_getElem? (i := 43) rfl)
theorem w44 {Z : State} {a0 : Array Value} (hw : ∀ d ∈ tables_1, d.before a0 Z = true) : ((Jvm.Cond.code ({ cls := "java/lang/String", name := "<init>", desc := "([BB)V" } : Jvm.MethodName) jdk_42_method_151_code (3 : Nat) (Option.none : Option Jvm.ClassFile.FieldType))).before a0 Z = true := hw _ (List.mem_of_getElem? (i := 44) rfl)
theorem w45 {Z : State} {a0 : Array Value} (hw : ∀ d ∈ tables_1, d.before a0 Z = true) : ((Jvm.Cond.classLink "com/example/pathloom/pathloom/ConditionAboutActionsPinLaw" (56 : Nat) "com/example/pathloom/pathloom/Condition")).before a0 Z = true := hw _ (List.mem_of_getElem? (i := 45) rfl)
theorem w46 {Z : State} {a0 : Array Value} (hw : ∀ d ∈ tables_1, d.before a0 Z = true) : ((Jvm.Cond.instantiable "com/example/pathloom/pathloom/Condition" (3 : Nat))).before a0 Z = true := hw _ (List.mem_of_getElem? (i := 46) rfl)
theorem w47 {Z : State} {a0 : Array Value} (hw : ∀ d ∈ tables_1, d.before a0 Z = true) : ((Jvm.Cond.initialized "com/example/pathloom/pathloom/Condition")).before a0 Z = true := hw _ (List.mem_of_getElem? (i := 47) rfl)
theorem w48 {Z : State} {a0 : Array Value} (hw : ∀ d ∈ tables_1, d.before a0 Z = true) : ((Jvm.Cond.methodLink "com/example/pathloom/pathloom/ConditionAboutActionsPinLaw" (58 : Nat) ({ cls := "com/example/pathloom/pathloom/ConditionAboutActionsPinLaw", name := "kindOf", desc := "(I)Lcom/example/pathloom/pathloom/Condition$Kind;" } : Jvm.MethodName))).before a0 Z = true := hw _ (List.mem_of_getElem? (i := 48) rfl)
theorem w49 {Z : State} {a0 : Array Value} (hw : ∀ d ∈ tables_1, d.before a0 Z = true) : ((Jvm.Cond.static ({ cls := "com/example/pathloom/pathloom/ConditionAboutActionsPinLaw", name := "kindOf", desc := "(I)Lcom/example/pathloom/pathloom/Condition$Kind;" } : Jvm.MethodName))).before a0 Z = true := hw _ (List.mem_of_getElem? (i := 49) rfl)
theorem w50 {Z : State} {a0 : Array Value} (hw : ∀ d ∈ tables_1, d.before a0 Z = true) : ((Jvm.Cond.initialized "com/example/pathloom/pathloom/ConditionAboutActionsPinLaw")).before a0 Z = true := hw _ (List.mem_of_getElem? (i := 50) rfl)
theorem w51 {Z : State} {a0 : Array Value} (hw : ∀ d ∈ tables_1, d.before a0 Z = true) : ((Jvm.Cond.code ({ cls := "com/example/pathloom/pathloom/ConditionAboutActionsPinLaw", name := "kindOf", desc := "(I)Lcom/example/pathloom/pathloom/Condition$Kind;" } : Jvm.MethodName) method_2_code (1 : Nat) (Option.some (Jvm.ClassFile.FieldType.object "com/example/pathloom/pathloom/Condition$Kind")))).before a0 Z = true := hw _ (List.mem_of_getElem? (i := 51) rfl)
theorem w52 {Z : State} {a0 : Array Value} (hw : ∀ d ∈ tables_1, d.before a0 Z = true) : ((Jvm.Cond.fieldLink "com/example/pathloom/pathloom/ConditionAboutActionsPinLaw" (7 : Nat) "com/example/pathloom/pathloom/Condition$Kind" "PRESENT" "Lcom/example/pathloom/pathloom/Condition$Kind;")).before a0 Z = true := hw _ (List.mem_of_getElem? (i := 52) rfl)
theorem w53 {Z : State} {a0 : Array Value} (hw : ∀ d ∈ tables_1, d.before a0 Z = true) : ((Jvm.Cond.initialized "com/example/pathloom/pathloom/Condition$Kind")).before a0 Z = true := hw _ (List.mem_of_getElem? (i := 53) rfl)
theorem w54 {Z : State} {a0 : Array Value} (hw : ∀ d ∈ tables_1, d.before a0 Z = true) : ((Jvm.Cond.laysStatic "com/example/pathloom/pathloom/Condition$Kind" "PRESENT" "Lcom/example/pathloom/pathloom/Condition$Kind;")).before a0 Z = true := hw _ (List.mem_of_getElem? (i := 54) rfl)
theorem w55 {Z : State} {a0 : Array Value} (hw : ∀ d ∈ tables_1, d.before a0 Z = true) : ((Jvm.Cond.methodLink "com/example/pathloom/pathloom/ConditionAboutActionsPinLaw" (64 : Nat) ({ cls := "com/example/pathloom/pathloom/Condition", name := "<init>", desc := "(Lcom/example/pathloom/pathloom/Condition$Kind;Ljava/lang/String;Ljava/lang/String;)V" } : Jvm.MethodName))).before a0 Z = true := hw _ (List.mem_of_getElem? (i := 55) rfl)
theorem w56 {Z : State} {a0 : Array Value} (hw : ∀ d ∈ tables_1, d.before a0 Z = true) : ((Jvm.Cond.instanceMethod ({ cls := "com/example/pathloom/pathloom/Condition", name := "<init>", desc := "(Lcom/example/pathloom/pathloom/Condition$Kind;Ljava/lang/String;Ljava/lang/String;)V" } : Jvm.MethodName))).before a0 Z = true := hw _ (List.mem_of_getElem? (i := 56) rfl)
theorem w57 {Z : State} {a0 : Array Value} (hw : ∀ d ∈ tables_1, d.before a0 Z = true) : ((Jvm.Cond.code ({ cls := "com/example/pathloom/pathloom/Condition", name := "<init>", desc := "(Lcom/example/pathloom/pathloom/Condition$Kind;Ljava/lang/String;Ljava/lang/String;)V" } : Jvm.MethodName) prog_7_method_1_code (4 : Nat) (Option.none : Option Jvm.ClassFile.FieldType))).before a0 Z = true := hw _ (List.mem_of_getElem? (i := 57) rfl)
theorem w58 {Z : State} {a0 : Array Value} (hw : ∀ d ∈ tables_1, d.before a0 Z = true) : ((Jvm.Cond.methodLink "com/example/pathloom/pathloom/Condition" (1 : Nat) ({ cls := "java/lang/Record", name := "<init>", desc := "()V" } : Jvm.MethodName))).before a0 Z = true := hw _ (List.mem_of_getElem? (i := 58) rfl)
theorem w59 {Z : State} {a0 : Array Value} (hw : ∀ d ∈ tables_1, d.before a0 Z = true) : ((Jvm.Cond.instanceMethod ({ cls := "java/lang/Record", name := "<init>", desc := "()V" } : Jvm.MethodName))).before a0 Z = true := hw _ (List.mem_of_getElem? (i := 59) rfl)
theorem w61 {Z : State} {a0 : Array Value} (hw : ∀ d ∈ tables_1, d.before a0 Z = true) : ((Jvm.Cond.initialized "java/lang/Record")).before a0 Z = true := hw _ (List.mem_of_getElem? (i := 61) rfl)
theorem w62 {Z : State} {a0 : Array Value} (hw : ∀ d ∈ tables_1, d.before a0 Z = true) : ((Jvm.Cond.code ({ cls := "java/lang/Record", name := "<init>", desc := "()V" } : Jvm.MethodName) jdk_30_method_1_code (1 : Nat) (Option.none : Option Jvm.ClassFile.FieldType))).before a0 Z = true := hw _ (List.mem_of_getElem? (i := 62) rfl)
theorem w63 {Z : State} {a0 : Array Value} (hw : ∀ d ∈ tables_1, d.before a0 Z = true) : ((Jvm.Cond.methodLink "java/lang/Record" (1 : Nat) ({ cls := "java/lang/Object", name := "<init>", desc := "()V" } : Jvm.MethodName))).before a0 Z = true := hw _ (List.mem_of_getElem? (i := 63) rfl)
theorem w64 {Z : State} {a0 : Array Value} (hw : ∀ d ∈ tables_1, d.before a0 Z = true) : ((Jvm.Cond.stringLink "com/example/pathloom/pathloom/Condition" (7 : Nat) "kind")).before a0 Z = true := hw _ (List.mem_of_getElem? (i := 64) rfl)
theorem w67 {Z : State} {a0 : Array Value} (hw : ∀ d ∈ tables_1, d.before a0 Z = true) : ((Jvm.Cond.methodLink "com/example/pathloom/pathloom/Condition" (9 : Nat) ({ cls := "java/util/Objects", name := "requireNonNull", desc := "(Ljava/lang/Object;Ljava/lang/String;)Ljava/lang/Object;" } : Jvm.MethodName))).before a0 Z = true := hw _ (List.mem_of_getElem? (i := 67) rfl)
theorem w68 {Z : State} {a0 : Array Value} (hw : ∀ d ∈ tables_1, d.before a0 Z = true) : ((Jvm.Cond.static ({ cls := "java/util/Objects", name := "requireNonNull", desc := "(Ljava/lang/Object;Ljava/lang/String;)Ljava/lang/Object;" } : Jvm.MethodName))).before a0 Z = true := hw _ (List.mem_of_getElem? (i := 68) rfl)
theorem w69 {Z : State} {a0 : Array Value} (hw : ∀ d ∈ tables_1, d.before a0 Z = true) : ((Jvm.Cond.initialized "java/util/Objects")).before a0 Z = true := hw _ (List.mem_of_getElem? (i := 69) rfl)
theorem w70 {Z : State} {a0 : Array Value} (hw : ∀ d ∈ tables_1, d.before a0 Z = true) : ((Jvm.Cond.code ({ cls := "java/util/Objects", name := "requireNonNull", desc := "(Ljava/lang/Object;Ljava/lang/String;)Ljava/lang/Object;" } : Jvm.MethodName) jdk_31_method_11_code (2 : Nat) (Option.some (Jvm.ClassFile.FieldType.object "java/lang/Object")))).before a0 Z = true := hw _ (List.mem_of_getElem? (i := 70) rfl)
theorem w71 {Z : State} {a0 : Array Value} (hw : ∀ d ∈ tables_1, d.before a0 Z = true) : ((Jvm.Cond.stringLink "com/example/pathloom/pathloom/Condition" (15 : Nat) "subject")).before a0 Z = true := hw _ (List.mem_of_getElem? (i := 71) rfl)
theorem w72 {Z : State} {a0 : Array Value} (hw : ∀ d ∈ tables_1, d.before a0 Z = true) : ((Jvm.Cond.stringLink "com/example/pathloom/pathloom/Condition" (17 : Nat) "expected")).before a0 Z = true := hw _ (List.mem_of_getElem? (i := 72) rfl)
theorem w73 {Z : State} {a0 : Array Value} (hw : ∀ d ∈ tables_1, d.before a0 Z = true) : ((Jvm.Cond.fieldLink "com/example/pathloom/pathloom/Condition" (19 : Nat) "com/example/pathloom/pathloom/Condition" "kind" "Lcom/example/pathloom/pathloom/Condition$Kind;")).before a0 Z = true := hw _ (List.mem_of_getElem? (i := 73) rfl)
theorem w74 {Z : State} {a0 : Array Value} (hw : ∀ d ∈ tables_1, d.before a0 Z = true) : ((Jvm.Cond.laysFinal "com/example/pathloom/pathloom/Condition" "com/example/pathloom/pathloom/Condition" "kind" "Lcom/example/pathloom/pathloom/Condition$Kind;")).before a0 Z = true := hw _ (List.mem_of_getElem? (i := 74) rfl)
theorem w75 {Z : State} {a0 : Array Value} (hw : ∀ d ∈ tables_1, d.before a0 Z = true) : ((Jvm.Cond.fieldLink "com/example/pathloom/pathloom/Condition" (24 : Nat) "com/example/pathloom/pathloom/Condition" "subject" "Ljava/lang/String;")).before a0 Z = true := hw _ (List.mem_of_getElem? (i := 75) rfl)
theorem w76 {Z : State} {a0 : Array Value} (hw : ∀ d ∈ tables_1, d.before a0 Z = true) : ((Jvm.Cond.laysFinal "com/example/pathloom/pathloom/Condition" "com/example/pathloom/pathloom/Condition" "subject" "Ljava/lang/String;")).before a0 Z = true := hw _ (List.mem_of_getElem? (i := 76) rfl)
theorem w77 {Z : State} {a0 : Array Value} (hw : ∀ d ∈ tables_1, d.before a0 Z = true) : ((Jvm.Cond.fieldLink "com/example/pathloom/pathloom/Condition" (27 : Nat) "com/example/pathloom/pathloom/Condition" "expected" "Ljava/lang/String;")).before a0 Z = true := hw _ (List.mem_of_getElem? (i := 77) rfl)
theorem w78 {Z : State} {a0 : Array Value} (hw : ∀ d ∈ tables_1, d.before a0 Z = true) : ((Jvm.Cond.laysFinal "com/example/pathloom/pathloom/Condition" "com/example/pathloom/pathloom/Condition" "expected" "Ljava/lang/String;")).before a0 Z = true := hw _ (List.mem_of_getElem? (i := 78) rfl)
theorem w79 {Z : State} {a0 : Array Value} (hw : ∀ d ∈ tables_1, d.before a0 Z = true) : ((Jvm.Cond.methodLink "com/example/pathloom/pathloom/ConditionAboutActionsPinLaw" (67 : Nat) ({ cls := "com/example/pathloom/pathloom/Condition", name := "aboutActions", desc := "()Z" } : Jvm.MethodName))).before a0 Z = true := hw _ (List.mem_of_getElem? (i := 79) rfl)
theorem w80 {Z : State} {a0 : Array Value} (hw : ∀ d ∈ tables_1, d.before a0 Z = true) : ((Jvm.Cond.declares ({ cls := "com/example/pathloom/pathloom/Condition", name := "aboutActions", desc := "()Z" } : Jvm.MethodName))).before a0 Z = true := hw _ (List.mem_of_getElem? (i := 80) rfl)
theorem w81 {Z : State} {a0 : Array Value} (hw : ∀ d ∈ tables_1, d.before a0 Z = true) : ((Jvm.Cond.instanceMethod ({ cls := "com/example/pathloom/pathloom/Condition", name := "aboutActions", desc := "()Z" } : Jvm.MethodName))).before a0 Z = true := hw _ (List.mem_of_getElem? (i := 81) rfl)
theorem w82 {Z : State} {a0 : Array Value} (hw : ∀ d ∈ tables_1, d.before a0 Z = true) : ((Jvm.Cond.selects "com/example/pathloom/pathloom/Condition" ({ cls := "com/example/pathloom/pathloom/Condition", name := "aboutActions", desc := "()Z" } : Jvm.MethodName) ({ cls := "com/example/pathloom/pathloom/Condition", name := "aboutActions", desc := "()Z" } : Jvm.MethodName))).before a0 Z = true := hw _ (List.mem_of_getElem? (i := 82) rfl)
theorem w83 {Z : State} {a0 : Array Value} (hw : ∀ d ∈ tables_1, d.before a0 Z = true) : ((Jvm.Cond.code ({ cls := "com/example/pathloom/pathloom/Condition", name := "aboutActions", desc := "()Z" } : Jvm.MethodName) prog_7_method_3_code (1 : Nat) (Option.some Jvm.ClassFile.FieldType.boolean))).before a0 Z = true := hw _ (List.mem_of_getElem? (i := 83) rfl)
theorem w84 {Z : State} {a0 : Array Value} (hw : ∀ d ∈ tables_1, d.before a0 Z = true) : ((Jvm.Cond.fieldLink "com/example/pathloom/pathloom/Condition" (35 : Nat) "com/example/pathloom/pathloom/Condition$Kind" "EXPLORED" "Lcom/example/pathloom/pathloom/Condition$Kind;")).before a0 Z = true := hw _ (List.mem_of_getElem? (i := 84) rfl)
theorem w85 {Z : State} {a0 : Array Value} (hw : ∀ d ∈ tables_1, d.before a0 Z = true) : ((Jvm.Cond.laysStatic "com/example/pathloom/pathloom/Condition$Kind" "EXPLORED" "Lcom/example/pathloom/pathloom/Condition$Kind;")).before a0 Z = true := hw _ (List.mem_of_getElem? (i := 85) rfl)
theorem w86 {Z : State} {a0 : Array Value} (hw : ∀ d ∈ tables_1, d.before a0 Z = true) : ((Jvm.Cond.fieldLink "com/example/pathloom/pathloom/Condition" (38 : Nat) "com/example/pathloom/pathloom/Condition$Kind" "NOT_EXPLORED" "Lcom/example/pathloom/pathloom/Condition$Kind;")).before a0 Z = true := hw _ (List.mem_of_getElem? (i := 86) rfl)
theorem w87 {Z : State} {a0 : Array Value} (hw : ∀ d ∈ tables_1, d.before a0 Z = true) : ((Jvm.Cond.laysStatic "com/example/pathloom/pathloom/Condition$Kind" "NOT_EXPLORED" "Lcom/example/pathloom/pathloom/Condition$Kind;")).before a0 Z = true := hw _ (List.mem_of_getElem? (i := 87) rfl)
theorem w88 {Z : State} {a0 : Array Value} (hw : ∀ d ∈ tables_1, d.before a0 Z = true) : ((Jvm.Cond.fieldLink "com/example/pathloom/pathloom/ConditionAboutActionsPinLaw" (13 : Nat) "com/example/pathloom/pathloom/Condition$Kind" "ABSENT" "Lcom/example/pathloom/pathloom/Condition$Kind;")).before a0 Z = true := hw _ (List.mem_of_getElem? (i := 88) rfl)
theorem w89 {Z : State} {a0 : Array Value} (hw : ∀ d ∈ tables_1, d.before a0 Z = true) : ((Jvm.Cond.laysStatic "com/example/pathloom/pathloom/Condition$Kind" "ABSENT" "Lcom/example/pathloom/pathloom/Condition$Kind;")).before a0 Z = true := hw _ (List.mem_of_getElem? (i := 89) rfl)
theorem w90 {Z : State} {a0 : Array Value} (hw : ∀ d ∈ tables_1, d.before a0 Z = true) : ((Jvm.Cond.fieldLink "com/example/pathloom/pathloom/ConditionAboutActionsPinLaw" (34 : Nat) "com/example/pathloom/pathloom/Condition$Kind" "COUNT_AT_LEAST" "Lcom/example/pathloom/pathloom/Condition$Kind;")).before a0 Z = true := hw _ (List.mem_of_getElem? (i := 90) rfl)
theorem w91 {Z : State} {a0 : Array Value} (hw : ∀ d ∈ tables_1, d.before a0 Z = true) : ((Jvm.Cond.laysStatic "com/example/pathloom/pathloom/Condition$Kind" "COUNT_AT_LEAST" "Lcom/example/pathloom/pathloom/Condition$Kind;")).before a0 Z = true := hw _ (List.mem_of_getElem? (i := 91) rfl)
theorem w92 {Z : State} {a0 : Array Value} (hw : ∀ d ∈ tables_1, d.before a0 Z = true) : ((Jvm.Cond.fieldLink "com/example/pathloom/pathloom/ConditionAboutActionsPinLaw" (43 : Nat) "com/example/pathloom/pathloom/Condition$Kind" "NOT_EXPLORED" "Lcom/example/pathloom/pathloom/Condition$Kind;")).before a0 Z = true := hw _ (List.mem_of_getElem? (i := 92) rfl)
theorem w93 {Z : State} {a0 : Array Value} (hw : ∀ d ∈ tables_1, d.before a0 Z = true) : ((Jvm.Cond.fieldLink "com/example/pathloom/pathloom/ConditionAboutActionsPinLaw" (28 : Nat) "com/example/pathloom/pathloom/Condition$Kind" "TEXT" "Lcom/example/pathloom/pathloom/Condition$Kind;")).before a0 Z = true := hw _ (List.mem_of_getElem? (i := 93) rfl)
theorem w94 {Z : State} {a0 : Array Value} (hw : ∀ d ∈ tables_1, d.before a0 Z = true) : ((Jvm.Cond.laysStatic "com/example/pathloom/pathloom/Condition$Kind" "TEXT" "Lcom/example/pathloom/pathloom/Condition$Kind;")).before a0 Z = true := hw _ (List.mem_of_getElem? (i := 94) rfl)
theorem w95 {Z : State} {a0 : Array Value} (hw : ∀ d ∈ tables_1, d.before a0 Z = true) : ((Jvm.Cond.fieldLink "com/example/pathloom/pathloom/ConditionAboutActionsPinLaw" (31 : Nat) "com/example/pathloom/pathloom/Condition$Kind" "COUNT_EQUALS" "Lcom/example/pathloom/pathloom/Condition$Kind;")).before a0 Z = true := hw _ (List.mem_of_getElem? (i := 95) rfl)
theorem w96 {Z : State} {a0 : Array Value} (hw : ∀ d ∈ tables_1, d.before a0 Z = true) : ((Jvm.Cond.laysStatic "com/example/pathloom/pathloom/Condition$Kind" "COUNT_EQUALS" "Lcom/example/pathloom/pathloom/Condition$Kind;")).before a0 Z = true := hw _ (List.mem_of_getElem? (i := 96) rfl)
theorem w97 {Z : State} {a0 : Array Value} (hw : ∀ d ∈ tables_1, d.before a0 Z = true) : ((Jvm.Cond.fieldLink "com/example/pathloom/pathloom/ConditionAboutActionsPinLaw" (19 : Nat) "com/example/pathloom/pathloom/Condition$Kind" "HIDDEN" "Lcom/example/pathloom/pathloom/Condition$Kind;")).before a0 Z = true := hw _ (List.mem_of_getElem? (i := 97) rfl)
theorem w98 {Z : State} {a0 : Array Value} (hw : ∀ d ∈ tables_1, d.before a0 Z = true) : ((Jvm.Cond.laysStatic "com/example/pathloom/pathloom/Condition$Kind" "HIDDEN" "Lcom/example/pathloom/pathloom/Condition$Kind;")).before a0 Z = true := hw _ (List.mem_of_getElem? (i := 98) rfl)
theorem w99 {Z : State} {a0 : Array Value} (hw : ∀ d ∈ tables_1, d.before a0 Z = true) : ((Jvm.Cond.fieldLink "com/example/pathloom/pathloom/ConditionAboutActionsPinLaw" (40 : Nat) "com/example/pathloom/pathloom/Condition$Kind" "EXPLORED" "Lcom/example/pathloom/pathloom/Condition$Kind;")).before a0 Z = true := hw _ (List.mem_of_getElem? (i := 99) rfl)
theorem w100 {Z : State} {a0 : Array Value} (hw : ∀ d ∈ tables_1, d.before a0 Z = true) : ((Jvm.Cond.fieldLink "com/example/pathloom/pathloom/ConditionAboutActionsPinLaw" (22 : Nat) "com/example/pathloom/pathloom/Condition$Kind" "CHECKED" "Lcom/example/pathloom/pathloom/Condition$Kind;")).before a0 Z = true := hw _ (List.mem_of_getElem? (i := 100) rfl)
theorem w101 {Z : State} {a0 : Array Value} (hw : ∀ d ∈ tables_1, d.before a0 Z = true) : ((Jvm.Cond.laysStatic "com/example/pathloom/pathloom/Condition$Kind" "CHECKED" "Lcom/example/pathloom/pathloom/Condition$Kind;")).before a0 Z = true := hw _ (List.mem_of_getElem? (i := 101) rfl)
theorem w102 {Z : State} {a0 : Array Value} (hw : ∀ d ∈ tables_1, d.before a0 Z = true) : ((Jvm.Cond.fieldLink "com/example/pathloom/pathloom/ConditionAboutActionsPinLaw" (25 : Nat) "com/example/pathloom/pathloom/Condition$Kind" "UNCHECKED" "Lcom/example/pathloom/pathloom/Condition$Kind;")).before a0 Z = true := hw _ (List.mem_of_getElem? (i := 102) rfl)
theorem w103 {Z : State} {a0 : Array Value} (hw : ∀ d ∈ tables_1, d.before a0 Z = true) : ((Jvm.Cond.laysStatic "com/example/pathloom/pathloom/Condition$Kind" "UNCHECKED" "Lcom/example/pathloom/pathloom/Condition$Kind;")).before a0 Z = true := hw _ (List.mem_of_getElem? (i := 103) rfl)
theorem w104 {Z : State} {a0 : Array Value} (hw : ∀ d ∈ tables_1, d.before a0 Z = true) : ((Jvm.Cond.fieldLink "com/example/pathloom/pathloom/ConditionAboutActionsPinLaw" (16 : Nat) "com/example/pathloom/pathloom/Condition$Kind" "VISIBLE" "Lcom/example/pathloom/pathloom/Condition$Kind;")).before a0 Z = true := hw _ (List.mem_of_getElem? (i := 104) rfl)
theorem w105 {Z : State} {a0 : Array Value} (hw : ∀ d ∈ tables_1, d.before a0 Z = true) : ((Jvm.Cond.laysStatic "com/example/pathloom/pathloom/Condition$Kind" "VISIBLE" "Lcom/example/pathloom/pathloom/Condition$Kind;")).before a0 Z = true := hw _ (List.mem_of_getElem? (i := 105) rfl)
theorem w106 {Z : State} {a0 : Array Value} (hw : ∀ d ∈ tables_1, d.before a0 Z = true) : ((Jvm.Cond.fieldLink "com/example/pathloom/pathloom/ConditionAboutActionsPinLaw" (37 : Nat) "com/example/pathloom/pathloom/Condition$Kind" "URL" "Lcom/example/pathloom/pathloom/Condition$Kind;")).before a0 Z = true := hw _ (List.mem_of_getElem? (i := 106) rfl)
theorem w107 {Z : State} {a0 : Array Value} (hw : ∀ d ∈ tables_1, d.before a0 Z = true) : ((Jvm.Cond.laysStatic "com/example/pathloom/pathloom/Condition$Kind" "URL" "Lcom/example/pathloom/pathloom/Condition$Kind;")).before a0 Z = true := hw _ (List.mem_of_getElem? (i := 107) rfl)
theorem d_jdk_30_m1_0 : decode jdk_30_method_1_code 0 = .ok (.aload_n 0, 1) := by decide +kernel
theorem d_jdk_30_m1_1 : decode jdk_30_method_1_code 1 = .ok (.invokespecial 1, 3) := by decide +kernel
theorem d_jdk_30_m1_4 : decode jdk_30_method_1_code 4 = .ok (.return_, 1) := by decide +kernel
theorem pn0 : plainName "java/lang/Record" = true := by first | (simp [plainName, overriddenIn]; done) | decide +kernel
theorem d_jdk_31_m11_0 : decode jdk_31_method_11_code 0 = .ok (.aload_n 0, 1) := by decide +kernel
theorem d_jdk_31_m11_1 : decode jdk_31_method_11_code 1 = .ok (.ifnonnull 12, 3) := by decide +kernel
theorem d_jdk_31_m11_13 : decode jdk_31_method_11_code 13 = .ok (.aload_n 0, 1) := by decide +kernel
theorem d_jdk_31_m11_14 : decode jdk_31_method_11_code 14 = .ok (.areturn, 1) := by decide +kernel
theorem pn1 : plainName "java/util/Objects" = true := by first | (simp [plainName, overriddenIn]; done) | decide +kernel
theorem d_jdk_43_m3_0 : decode jdk_43_method_3_code 0 = .ok (.iload_n 0, 1) := by decide +kernel
theorem d_jdk_43_m3_1 : decode jdk_43_method_3_code 1 = .ok (.sipush 255, 3) := by decide +kernel
theorem d_jdk_43_m3_4 : decode jdk_43_method_3_code 4 = .ok (.if_icmp .gt 7, 3) := by decide +kernel
theorem d_jdk_43_m3_7 : decode jdk_43_method_3_code 7 = .ok (.iconst 1, 1) := by decide +kernel
theorem d_jdk_43_m3_8 : decode jdk_43_method_3_code 8 = .ok (.goto 4, 3) := by decide +kernel
theorem d_jdk_43_m3_12 : decode jdk_43_method_3_code 12 = .ok (.ireturn, 1) := by decide +kernel
theorem pn2 : plainName "java/lang/StringLatin1" = true := by first | (simp [plainName, overriddenIn]; done) | decide +kernel
theorem d_jdk_42_m151_0 : decode jdk_42_method_151_code 0 = .ok (.aload_n 0, 1) := by decide +kernel
theorem d_jdk_42_m151_1 : decode jdk_42_method_151_code 1 = .ok (.invokespecial 1, 3) := by decide +kernel
theorem d_jdk_42_m151_4 : decode jdk_42_method_151_code 4 = .ok (.aload_n 0, 1) := by decide +kernel
theorem d_jdk_42_m151_5 : decode jdk_42_method_151_code 5 = .ok (.aload_n 1, 1) := by decide +kernel
theorem d_jdk_42_m151_6 : decode jdk_42_method_151_code 6 = .ok (.putfield 9, 3) := by decide +kernel
theorem d_jdk_42_m151_9 : decode jdk_42_method_151_code 9 = .ok (.aload_n 0, 1) := by decide +kernel
theorem d_jdk_42_m151_10 : decode jdk_42_method_151_code 10 = .ok (.iload_n 2, 1) := by decide +kernel
theorem d_jdk_42_m151_11 : decode jdk_42_method_151_code 11 = .ok (.putfield 15, 3) := by decide +kernel
theorem d_jdk_42_m151_14 : decode jdk_42_method_151_code 14 = .ok (.return_, 1) := by decide +kernel
theorem pn3 : plainName "java/lang/String" = true := by first | (simp [plainName, overriddenIn]; done) | decide +kernel
theorem d_jdk_43_m46_0 : decode jdk_43_method_46_code 0 = .ok (.iconst 1, 1) := by decide +kernel
theorem d_jdk_43_m46_1 : decode jdk_43_method_46_code 1 = .ok (.newarray .byte, 2) := by decide +kernel
theorem d_jdk_43_m46_3 : decode jdk_43_method_46_code 3 = .ok (.dup, 1) := by decide +kernel
theorem d_jdk_43_m46_4 : decode jdk_43_method_46_code 4 = .ok (.iconst 0, 1) := by decide +kernel
theorem d_jdk_43_m46_5 : decode jdk_43_method_46_code 5 = .ok (.iload_n 0, 1) := by decide +kernel
theorem d_jdk_43_m46_6 : decode jdk_43_method_46_code 6 = .ok (.i2b, 1) := by decide +kernel
theorem d_jdk_43_m46_7 : decode jdk_43_method_46_code 7 = .ok (.bastore, 1) := by decide +kernel
theorem d_jdk_43_m46_8 : decode jdk_43_method_46_code 8 = .ok (.areturn, 1) := by decide +kernel
theorem d_jdk_42_m139_0 : decode jdk_42_method_139_code 0 = .ok (.getstatic 38, 3) := by decide +kernel
theorem d_jdk_42_m139_3 : decode jdk_42_method_139_code 3 = .ok (.ifCond .eq 23, 3) := by decide +kernel
theorem d_jdk_42_m139_6 : decode jdk_42_method_139_code 6 = .ok (.iload_n 0, 1) := by decide +kernel
theorem d_jdk_42_m139_7 : decode jdk_42_method_139_code 7 = .ok (.invokestatic 1015, 3) := by decide +kernel
theorem pd0 : parseMethodDescriptor "(C)Z" = some ⟨[.char], some .boolean⟩ := by decide +kernel
theorem d_jdk_42_m139_10 : decode jdk_42_method_139_code 10 = .ok (.ifCond .eq 16, 3) := by decide +kernel
theorem d_jdk_42_m139_13 : decode jdk_42_method_139_code 13 = .ok (.new 10, 3) := by decide +kernel
theorem d_jdk_42_m139_16 : decode jdk_42_method_139_code 16 = .ok (.dup, 1) := by decide +kernel
theorem d_jdk_42_m139_17 : decode jdk_42_method_139_code 17 = .ok (.iload_n 0, 1) := by decide +kernel
theorem d_jdk_42_m139_18 : decode jdk_42_method_139_code 18 = .ok (.invokestatic 1018, 3) := by decide +kernel
theorem pd1 : parseMethodDescriptor "(C)[B" = some ⟨[.char], some (.array .byte)⟩ := by decide +kernel
theorem d_jdk_42_m139_21 : decode jdk_42_method_139_code 21 = .ok (.iconst 0, 1) := by decide +kernel
theorem d_jdk_42_m139_22 : decode jdk_42_method_139_code 22 = .ok (.invokespecial 209, 3) := by decide +kernel
theorem pd2 : parseMethodDescriptor "([BB)V" = some ⟨[(.array .byte), .byte], none⟩ := by decide +kernel
theorem d_jdk_42_m139_25 : decode jdk_42_method_139_code 25 = .ok (.areturn, 1) := by decide +kernel
theorem d_jdk_52_m21_3 : decode jdk_52_method_21_code 3 = .ok (.iload 5, 2) := by decide +kernel
theorem d_jdk_52_m21_5 : decode jdk_52_method_21_code 5 = .ok (.iload 4, 2) := by decide +kernel
theorem d_jdk_52_m21_7 : decode jdk_52_method_21_code 7 = .ok (.if_icmp .ge 37, 3) := by decide +kernel
theorem d_jdk_52_m21_44 : decode jdk_52_method_21_code 44 = .ok (.iload 4, 2) := by decide +kernel
theorem d_jdk_52_m21_46 : decode jdk_52_method_21_code 46 = .ok (.ireturn, 1) := by decide +kernel
theorem d_jdk_52_m21_10 : decode jdk_52_method_21_code 10 = .ok (.aload_n 0, 1) := by decide +kernel
theorem d_jdk_52_m21_11 : decode jdk_52_method_21_code 11 = .ok (.iload_n 1, 1) := by decide +kernel
theorem d_jdk_52_m21_12 : decode jdk_52_method_21_code 12 = .ok (.caload, 1) := by decide +kernel
theorem d_jdk_52_m21_13 : decode jdk_52_method_21_code 13 = .ok (.istore 6, 2) := by decide +kernel
theorem d_jdk_52_m21_15 : decode jdk_52_method_21_code 15 = .ok (.iload 6, 2) := by decide +kernel
theorem d_jdk_52_m21_17 : decode jdk_52_method_21_code 17 = .ok (.sipush 255, 3) := by decide +kernel
theorem d_jdk_52_m21_20 : decode jdk_52_method_21_code 20 = .ok (.if_icmp .le 6, 3) := by decide +kernel
theorem d_jdk_52_m21_23 : decode jdk_52_method_21_code 23 = .ok (.iload 5, 2) := by decide +kernel
theorem d_jdk_52_m21_25 : decode jdk_52_method_21_code 25 = .ok (.ireturn, 1) := by decide +kernel
theorem d_jdk_52_m21_26 : decode jdk_52_method_21_code 26 = .ok (.aload_n 2, 1) := by decide +kernel
theorem d_jdk_52_m21_27 : decode jdk_52_method_21_code 27 = .ok (.iload_n 3, 1) := by decide +kernel
theorem d_jdk_52_m21_28 : decode jdk_52_method_21_code 28 = .ok (.iload 6, 2) := by decide +kernel
theorem d_jdk_52_m21_30 : decode jdk_52_method_21_code 30 = .ok (.i2b, 1) := by decide +kernel
theorem d_jdk_52_m21_31 : decode jdk_52_method_21_code 31 = .ok (.bastore, 1) := by decide +kernel
theorem d_jdk_52_m21_32 : decode jdk_52_method_21_code 32 = .ok (.iinc 1 1, 3) := by decide +kernel
theorem d_jdk_52_m21_35 : decode jdk_52_method_21_code 35 = .ok (.iinc 3 1, 3) := by decide +kernel
theorem d_jdk_52_m21_38 : decode jdk_52_method_21_code 38 = .ok (.iinc 5 1, 3) := by decide +kernel
theorem d_jdk_52_m21_41 : decode jdk_52_method_21_code 41 = .ok (.goto (-38), 3) := by decide +kernel
theorem d_jdk_52_m21_0 : decode jdk_52_method_21_code 0 = .ok (.iconst 0, 1) := by decide +kernel
theorem d_jdk_52_m21_1 : decode jdk_52_method_21_code 1 = .ok (.istore 5, 2) := by decide +kernel
theorem pn4 : plainName "java/lang/StringUTF16" = true := by first | (simp [plainName, overriddenIn]; done) | decide +kernel
theorem d_jdk_52_m16_0 : decode jdk_52_method_16_code 0 = .ok (.iload_n 2, 1) := by decide +kernel
theorem d_jdk_52_m16_1 : decode jdk_52_method_16_code 1 = .ok (.newarray .byte, 2) := by decide +kernel
theorem d_jdk_52_m16_3 : decode jdk_52_method_16_code 3 = .ok (.astore_n 3, 1) := by decide +kernel
theorem d_jdk_52_m16_4 : decode jdk_52_method_16_code 4 = .ok (.aload_n 0, 1) := by decide +kernel
theorem d_jdk_52_m16_5 : decode jdk_52_method_16_code 5 = .ok (.iload_n 1, 1) := by decide +kernel
theorem d_jdk_52_m16_6 : decode jdk_52_method_16_code 6 = .ok (.aload_n 3, 1) := by decide +kernel
theorem d_jdk_52_m16_7 : decode jdk_52_method_16_code 7 = .ok (.iconst 0, 1) := by decide +kernel
theorem d_jdk_52_m16_8 : decode jdk_52_method_16_code 8 = .ok (.iload_n 2, 1) := by decide +kernel
theorem d_jdk_52_m16_9 : decode jdk_52_method_16_code 9 = .ok (.invokestatic 115, 3) := by decide +kernel
theorem pd3 : parseMethodDescriptor "([CI[BII)I" = some ⟨[(.array .char), .int, (.array .byte), .int, .int], some .int⟩ := by decide +kernel
theorem d_jdk_52_m16_12 : decode jdk_52_method_16_code 12 = .ok (.istore 4, 2) := by decide +kernel
theorem d_jdk_52_m16_14 : decode jdk_52_method_16_code 14 = .ok (.iload 4, 2) := by decide +kernel
theorem d_jdk_52_m16_16 : decode jdk_52_method_16_code 16 = .ok (.iload_n 2, 1) := by decide +kernel
theorem d_jdk_52_m16_17 : decode jdk_52_method_16_code 17 = .ok (.if_icmp .eq 40, 3) := by decide +kernel
theorem d_jdk_52_m16_57 : decode jdk_52_method_16_code 57 = .ok (.aload_n 3, 1) := by decide +kernel
theorem d_jdk_52_m16_58 : decode jdk_52_method_16_code 58 = .ok (.areturn, 1) := by decide +kernel
theorem d_jdk_52_m15_0 : decode jdk_52_method_15_code 0 = .ok (.iload_n 1, 1) := by decide +kernel
theorem d_jdk_52_m15_1 : decode jdk_52_method_15_code 1 = .ok (.aload_n 0, 1) := by decide +kernel
theorem d_jdk_52_m15_2 : decode jdk_52_method_15_code 2 = .ok (.arraylength, 1) := by decide +kernel
theorem d_jdk_52_m15_3 : decode jdk_52_method_15_code 3 = .ok (.isub, 1) := by decide +kernel
theorem d_jdk_52_m15_4 : decode jdk_52_method_15_code 4 = .ok (.bipush 31, 2) := by decide +kernel
theorem d_jdk_52_m15_6 : decode jdk_52_method_15_code 6 = .ok (.iushr, 1) := by decide +kernel
theorem d_jdk_52_m15_7 : decode jdk_52_method_15_code 7 = .ok (.i2b, 1) := by decide +kernel
theorem d_jdk_52_m15_8 : decode jdk_52_method_15_code 8 = .ok (.ireturn, 1) := by decide +kernel
theorem d_jdk_42_m149_0 : decode jdk_42_method_149_code 0 = .ok (.aload_n 0, 1) := by decide +kernel
theorem d_jdk_42_m149_1 : decode jdk_42_method_149_code 1 = .ok (.invokespecial 1, 3) := by decide +kernel
theorem d_jdk_42_m149_4 : decode jdk_42_method_149_code 4 = .ok (.iload_n 3, 1) := by decide +kernel
theorem d_jdk_42_m149_5 : decode jdk_42_method_149_code 5 = .ok (.ifCond .ne 22, 3) := by decide +kernel
theorem d_jdk_42_m149_27 : decode jdk_42_method_149_code 27 = .ok (.getstatic 38, 3) := by decide +kernel
theorem d_jdk_42_m149_30 : decode jdk_42_method_149_code 30 = .ok (.ifCond .eq 28, 3) := by decide +kernel
theorem d_jdk_42_m149_33 : decode jdk_42_method_149_code 33 = .ok (.aload_n 1, 1) := by decide +kernel
theorem d_jdk_42_m149_34 : decode jdk_42_method_149_code 34 = .ok (.iload_n 2, 1) := by decide +kernel
theorem d_jdk_42_m149_35 : decode jdk_42_method_149_code 35 = .ok (.iload_n 3, 1) := by decide +kernel
theorem d_jdk_42_m149_36 : decode jdk_42_method_149_code 36 = .ok (.invokestatic 177, 3) := by decide +kernel
theorem pd4 : parseMethodDescriptor "([CII)[B" = some ⟨[(.array .char), .int, .int], some (.array .byte)⟩ := by decide +kernel
theorem d_jdk_42_m149_39 : decode jdk_42_method_149_code 39 = .ok (.astore 5, 2) := by decide +kernel
theorem d_jdk_42_m149_41 : decode jdk_42_method_149_code 41 = .ok (.aload_n 0, 1) := by decide +kernel
theorem d_jdk_42_m149_42 : decode jdk_42_method_149_code 42 = .ok (.aload 5, 2) := by decide +kernel
theorem d_jdk_42_m149_44 : decode jdk_42_method_149_code 44 = .ok (.iload_n 3, 1) := by decide +kernel
theorem d_jdk_42_m149_45 : decode jdk_42_method_149_code 45 = .ok (.invokestatic 47, 3) := by decide +kernel
theorem pd5 : parseMethodDescriptor "([BI)B" = some ⟨[(.array .byte), .int], some .byte⟩ := by decide +kernel
theorem d_jdk_42_m149_48 : decode jdk_42_method_149_code 48 = .ok (.putfield 15, 3) := by decide +kernel
theorem d_jdk_42_m149_51 : decode jdk_42_method_149_code 51 = .ok (.aload_n 0, 1) := by decide +kernel
theorem d_jdk_42_m149_52 : decode jdk_42_method_149_code 52 = .ok (.aload 5, 2) := by decide +kernel
theorem d_jdk_42_m149_54 : decode jdk_42_method_149_code 54 = .ok (.putfield 9, 3) := by decide +kernel
theorem d_jdk_42_m149_57 : decode jdk_42_method_149_code 57 = .ok (.return_, 1) := by decide +kernel
theorem d_jdk_42_m3_0 : decode jdk_42_method_3_code 0 = .ok (.aload_n 0, 1) := by decide +kernel
theorem d_jdk_42_m3_1 : decode jdk_42_method_3_code 1 = .ok (.aload_n 1, 1) := by decide +kernel
theorem d_jdk_42_m3_2 : decode jdk_42_method_3_code 2 = .ok (.iconst 0, 1) := by decide +kernel
theorem d_jdk_42_m3_3 : decode jdk_42_method_3_code 3 = .ok (.aload_n 1, 1) := by decide +kernel
theorem d_jdk_42_m3_4 : decode jdk_42_method_3_code 4 = .ok (.arraylength, 1) := by decide +kernel
theorem d_jdk_42_m3_5 : decode jdk_42_method_3_code 5 = .ok (.aconst_null, 1) := by decide +kernel
theorem d_jdk_42_m3_6 : decode jdk_42_method_3_code 6 = .ok (.invokespecial 27, 3) := by decide +kernel
theorem pd6 : parseMethodDescriptor "([CIILjava/lang/Void;)V" = some ⟨[(.array .char), .int, .int, (.object "java/lang/Void")], none⟩ := by decide +kernel
theorem d_jdk_42_m3_9 : decode jdk_42_method_3_code 9 = .ok (.return_, 1) := by decide +kernel
theorem d_prog_7_m1_0 : decode prog_7_method_1_code 0 = .ok (.aload_n 0, 1) := by decide +kernel
theorem d_prog_7_m1_1 : decode prog_7_method_1_code 1 = .ok (.invokespecial 1, 3) := by decide +kernel
theorem pd7 : parseMethodDescriptor "()V" = some ⟨[], none⟩ := by decide +kernel
theorem d_prog_7_m1_4 : decode prog_7_method_1_code 4 = .ok (.aload_n 1, 1) := by decide +kernel
theorem d_prog_7_m1_5 : decode prog_7_method_1_code 5 = .ok (.ldc 7, 2) := by decide +kernel
theorem d_prog_7_m1_7 : decode prog_7_method_1_code 7 = .ok (.invokestatic 9, 3) := by decide +kernel
theorem pd8 : parseMethodDescriptor "(Ljava/lang/Object;Ljava/lang/String;)Ljava/lang/Object;" = some ⟨[(.object "java/lang/Object"), (.object "java/lang/String")], some (.object "java/lang/Object")⟩ := by decide +kernel
theorem d_prog_7_m1_10 : decode prog_7_method_1_code 10 = .ok (.pop, 1) := by decide +kernel
theorem d_prog_7_m1_11 : decode prog_7_method_1_code 11 = .ok (.aload_n 2, 1) := by decide +kernel
theorem d_prog_7_m1_12 : decode prog_7_method_1_code 12 = .ok (.ldc 15, 2) := by decide +kernel
theorem d_prog_7_m1_14 : decode prog_7_method_1_code 14 = .ok (.invokestatic 9, 3) := by decide +kernel
theorem d_prog_7_m1_17 : decode prog_7_method_1_code 17 = .ok (.pop, 1) := by decide +kernel
theorem d_prog_7_m1_18 : decode prog_7_method_1_code 18 = .ok (.aload_n 3, 1) := by decide +kernel
theorem d_prog_7_m1_19 : decode prog_7_method_1_code 19 = .ok (.ldc 17, 2) := by decide +kernel
theorem d_prog_7_m1_21 : decode prog_7_method_1_code 21 = .ok (.invokestatic 9, 3) := by decide +kernel
theorem d_prog_7_m1_24 : decode prog_7_method_1_code 24 = .ok (.pop, 1) := by decide +kernel
theorem d_prog_7_m1_25 : decode prog_7_method_1_code 25 = .ok (.aload_n 0, 1) := by decide +kernel
theorem d_prog_7_m1_26 : decode prog_7_method_1_code 26 = .ok (.aload_n 1, 1) := by decide +kernel
theorem d_prog_7_m1_27 : decode prog_7_method_1_code 27 = .ok (.putfield 19, 3) := by decide +kernel
theorem d_prog_7_m1_30 : decode prog_7_method_1_code 30 = .ok (.aload_n 0, 1) := by decide +kernel
theorem d_prog_7_m1_31 : decode prog_7_method_1_code 31 = .ok (.aload_n 2, 1) := by decide +kernel
theorem d_prog_7_m1_32 : decode prog_7_method_1_code 32 = .ok (.putfield 24, 3) := by decide +kernel
theorem d_prog_7_m1_35 : decode prog_7_method_1_code 35 = .ok (.aload_n 0, 1) := by decide +kernel
theorem d_prog_7_m1_36 : decode prog_7_method_1_code 36 = .ok (.aload_n 3, 1) := by decide +kernel
theorem d_prog_7_m1_37 : decode prog_7_method_1_code 37 = .ok (.putfield 27, 3) := by decide +kernel
theorem d_prog_7_m1_40 : decode prog_7_method_1_code 40 = .ok (.return_, 1) := by decide +kernel
theorem pn5 : plainName "com/example/pathloom/pathloom/Condition" = true := by first | (simp [plainName, overriddenIn]; done) | decide +kernel
theorem d_prog_7_m3_0 : decode prog_7_method_3_code 0 = .ok (.aload_n 0, 1) := by decide +kernel
theorem d_prog_7_m3_1 : decode prog_7_method_3_code 1 = .ok (.getfield 19, 3) := by decide +kernel
theorem d_prog_7_m3_4 : decode prog_7_method_3_code 4 = .ok (.getstatic 35, 3) := by decide +kernel
theorem d_prog_7_m3_7 : decode prog_7_method_3_code 7 = .ok (.if_acmp .eq 13, 3) := by decide +kernel
theorem d_prog_7_m3_20 : decode prog_7_method_3_code 20 = .ok (.iconst 1, 1) := by decide +kernel
theorem d_prog_7_m3_21 : decode prog_7_method_3_code 21 = .ok (.goto 4, 3) := by decide +kernel
theorem d_prog_7_m3_25 : decode prog_7_method_3_code 25 = .ok (.ireturn, 1) := by decide +kernel
theorem d_prog_7_m3_10 : decode prog_7_method_3_code 10 = .ok (.aload_n 0, 1) := by decide +kernel
theorem d_prog_7_m3_11 : decode prog_7_method_3_code 11 = .ok (.getfield 19, 3) := by decide +kernel
theorem d_prog_7_m3_14 : decode prog_7_method_3_code 14 = .ok (.getstatic 38, 3) := by decide +kernel
theorem d_prog_7_m3_17 : decode prog_7_method_3_code 17 = .ok (.if_acmp .ne 7, 3) := by decide +kernel
theorem d_prog_7_m3_24 : decode prog_7_method_3_code 24 = .ok (.iconst 0, 1) := by decide +kernel
theorem d_m2_0 : decode method_2_code 0 = .ok (.iload_n 0, 1) := by decide +kernel
theorem d_m2_1 : decode method_2_code 1 = .ok (.ifCond .ne 7, 3) := by decide +kernel
theorem d_m2_4 : decode method_2_code 4 = .ok (.getstatic 7, 3) := by decide +kernel
theorem d_m2_7 : decode method_2_code 7 = .ok (.areturn, 1) := by decide +kernel
theorem d_m2_8 : decode method_2_code 8 = .ok (.iload_n 0, 1) := by decide +kernel
theorem d_m2_9 : decode method_2_code 9 = .ok (.iconst 1, 1) := by decide +kernel
theorem d_m2_10 : decode method_2_code 10 = .ok (.if_icmp .ne 7, 3) := by decide +kernel
theorem d_m2_13 : decode method_2_code 13 = .ok (.getstatic 13, 3) := by decide +kernel
theorem d_m2_16 : decode method_2_code 16 = .ok (.areturn, 1) := by decide +kernel
theorem d_m2_17 : decode method_2_code 17 = .ok (.iload_n 0, 1) := by decide +kernel
theorem d_m2_18 : decode method_2_code 18 = .ok (.iconst 2, 1) := by decide +kernel
theorem d_m2_19 : decode method_2_code 19 = .ok (.if_icmp .ne 7, 3) := by decide +kernel
theorem d_m2_22 : decode method_2_code 22 = .ok (.getstatic 16, 3) := by decide +kernel
theorem d_m2_25 : decode method_2_code 25 = .ok (.areturn, 1) := by decide +kernel
theorem d_m2_26 : decode method_2_code 26 = .ok (.iload_n 0, 1) := by decide +kernel
theorem d_m2_27 : decode method_2_code 27 = .ok (.iconst 3, 1) := by decide +kernel
theorem d_m2_28 : decode method_2_code 28 = .ok (.if_icmp .ne 7, 3) := by decide +kernel
theorem d_m2_31 : decode method_2_code 31 = .ok (.getstatic 19, 3) := by decide +kernel
theorem d_m2_34 : decode method_2_code 34 = .ok (.areturn, 1) := by decide +kernel
theorem d_m2_35 : decode method_2_code 35 = .ok (.iload_n 0, 1) := by decide +kernel
theorem d_m2_36 : decode method_2_code 36 = .ok (.iconst 4, 1) := by decide +kernel
theorem d_m2_37 : decode method_2_code 37 = .ok (.if_icmp .ne 7, 3) := by decide +kernel
theorem d_m2_40 : decode method_2_code 40 = .ok (.getstatic 22, 3) := by decide +kernel
theorem d_m2_43 : decode method_2_code 43 = .ok (.areturn, 1) := by decide +kernel
theorem d_m2_44 : decode method_2_code 44 = .ok (.iload_n 0, 1) := by decide +kernel
theorem d_m2_45 : decode method_2_code 45 = .ok (.iconst 5, 1) := by decide +kernel
theorem d_m2_46 : decode method_2_code 46 = .ok (.if_icmp .ne 7, 3) := by decide +kernel
theorem d_m2_49 : decode method_2_code 49 = .ok (.getstatic 25, 3) := by decide +kernel
theorem d_m2_52 : decode method_2_code 52 = .ok (.areturn, 1) := by decide +kernel
theorem d_m2_53 : decode method_2_code 53 = .ok (.iload_n 0, 1) := by decide +kernel
theorem d_m2_54 : decode method_2_code 54 = .ok (.bipush 6, 2) := by decide +kernel
theorem d_m2_56 : decode method_2_code 56 = .ok (.if_icmp .ne 7, 3) := by decide +kernel
theorem d_m2_59 : decode method_2_code 59 = .ok (.getstatic 28, 3) := by decide +kernel
theorem d_m2_62 : decode method_2_code 62 = .ok (.areturn, 1) := by decide +kernel
theorem d_m2_63 : decode method_2_code 63 = .ok (.iload_n 0, 1) := by decide +kernel
theorem d_m2_64 : decode method_2_code 64 = .ok (.bipush 7, 2) := by decide +kernel
theorem d_m2_66 : decode method_2_code 66 = .ok (.if_icmp .ne 7, 3) := by decide +kernel
theorem d_m2_69 : decode method_2_code 69 = .ok (.getstatic 31, 3) := by decide +kernel
theorem d_m2_72 : decode method_2_code 72 = .ok (.areturn, 1) := by decide +kernel
theorem d_m2_73 : decode method_2_code 73 = .ok (.iload_n 0, 1) := by decide +kernel
theorem d_m2_74 : decode method_2_code 74 = .ok (.bipush 8, 2) := by decide +kernel
theorem d_m2_76 : decode method_2_code 76 = .ok (.if_icmp .ne 7, 3) := by decide +kernel
theorem d_m2_79 : decode method_2_code 79 = .ok (.getstatic 34, 3) := by decide +kernel
theorem d_m2_82 : decode method_2_code 82 = .ok (.areturn, 1) := by decide +kernel
theorem d_m2_83 : decode method_2_code 83 = .ok (.iload_n 0, 1) := by decide +kernel
theorem d_m2_84 : decode method_2_code 84 = .ok (.bipush 9, 2) := by decide +kernel
theorem d_m2_86 : decode method_2_code 86 = .ok (.if_icmp .ne 7, 3) := by decide +kernel
theorem d_m2_89 : decode method_2_code 89 = .ok (.getstatic 37, 3) := by decide +kernel
theorem d_m2_92 : decode method_2_code 92 = .ok (.areturn, 1) := by decide +kernel
theorem d_m2_93 : decode method_2_code 93 = .ok (.iload_n 0, 1) := by decide +kernel
theorem d_m2_94 : decode method_2_code 94 = .ok (.bipush 10, 2) := by decide +kernel
theorem d_m2_96 : decode method_2_code 96 = .ok (.if_icmp .ne 7, 3) := by decide +kernel
theorem d_m2_99 : decode method_2_code 99 = .ok (.getstatic 40, 3) := by decide +kernel
theorem d_m2_102 : decode method_2_code 102 = .ok (.areturn, 1) := by decide +kernel
theorem d_m2_103 : decode method_2_code 103 = .ok (.getstatic 43, 3) := by decide +kernel
theorem d_m2_106 : decode method_2_code 106 = .ok (.areturn, 1) := by decide +kernel
theorem pn6 : plainName "com/example/pathloom/pathloom/ConditionAboutActionsPinLaw" = true := by first | (simp [plainName, overriddenIn]; done) | decide +kernel
theorem pd9 : parseMethodDescriptor "([C)V" = some ⟨[(.array .char)], none⟩ := by decide +kernel
theorem pd10 : parseMethodDescriptor "(C)Ljava/lang/String;" = some ⟨[.char], some (.object "java/lang/String")⟩ := by decide +kernel
theorem pd11 : parseMethodDescriptor "(I)Lcom/example/pathloom/pathloom/Condition$Kind;" = some ⟨[.int], some (.object "com/example/pathloom/pathloom/Condition$Kind")⟩ := by decide +kernel
theorem pd12 : parseMethodDescriptor "(Lcom/example/pathloom/pathloom/Condition$Kind;Ljava/lang/String;Ljava/lang/String;)V" = some ⟨[(.object "com/example/pathloom/pathloom/Condition$Kind"), (.object "java/lang/String"), (.object "java/lang/String")], none⟩ := by decide +kernel
theorem pd13 : parseMethodDescriptor "()Z" = some ⟨[], some .boolean⟩ := by decide +kernel
def EL : List (String × Nat) := []
theorem eW {Z : State} {a0 : Array Value} (hw : ∀ d ∈ tables_1, d.before a0 Z = true) : EW Z a0 EL := EW.nil
theorem sA {Z : State} {a0 : Array Value} (hw : ∀ d ∈ tables_1, d.before a0 Z = true) : ∀ a ∈ Bundle.stringAtoms, a.before a0 Z = true := fun a ha => hw a ((by decide +kernel : ∀ a ∈ Bundle.stringAtoms, a ∈ tables_1) a ha)
set_option maxRecDepth 65536 in
set_option maxHeartbeats 40000000 in
theorem rm_record {l : Launch} {Z : State} {a0 : Array Value} (hw : ∀ d ∈ tables_1, d.before a0 Z = true) (a : Addr) (h0 : Heap) :
    Con l Z EL ⟨"java/lang/Record", "<init>", "()V"⟩ jdk_30_method_1_code 1 none [] { frames := 1, cells := 0, slots := 0, locals := 12 } #[(.ref a)] h0 [] (fun v h ws => v = none ∧ h0 = h ∧ ws = []) := by
  refine con_of (a0 := a0) (Ls := #[.val (.ref a)]) (plainFor_of_name pn0) (eW hw) (fun m => by first | (simp [entryFrame, mkF, argsToLocals, Value.category]; done) | rfl) ?_
  intro p e s m below meth c
  refine g_aloadN d_jdk_30_m1_0 (pc' := 1) rfl rfl rfl ?_
  refine go_init d_jdk_30_m1_1 (w63 hw) (w13 hw) (w14 hw) rfl (by decide) (W := 0) (Nat.le_of_ble_eq_true rfl) (by decide) (pc' := 4) rfl ?_
  exact go_return d_jdk_30_m1_4 rfl (ws' := []) (fun _ q => q) ⟨rfl, rfl, rfl⟩
set_option maxRecDepth 65536 in
set_option maxHeartbeats 40000000 in
theorem rm_require2 {l : Launch} {Z : State} {a0 : Array Value} (hw : ∀ d ∈ tables_1, d.before a0 Z = true) (a b : Addr) (h0 : Heap) :
    Con l Z EL ⟨"java/util/Objects", "requireNonNull", "(Ljava/lang/Object;Ljava/lang/String;)Ljava/lang/Object;"⟩ jdk_31_method_11_code 2 (some (.object "java/lang/Object")) [] { frames := 0, cells := 0, slots := 0, locals := 0 } #[(.ref a), (.ref b)] h0 [] (fun v h ws => v = some (.ref a) ∧ h0 = h ∧ ws = []) := by
  refine con_of (a0 := a0) (Ls := #[.val (.ref a), .val (.ref b)]) (plainFor_of_name pn1) (eW hw) (fun m => by first | (simp [entryFrame, mkF, argsToLocals, Value.category]; done) | rfl) ?_
  intro p e s m below meth c
  refine g_aloadN d_jdk_31_m11_0 (pc' := 1) rfl rfl rfl ?_
  refine g_ifnonnullYes d_jdk_31_m11_1 (pc' := 13) (by decide) (by decide) ?_
  refine g_aloadN d_jdk_31_m11_13 (pc' := 14) rfl rfl rfl ?_
  exact go_areturn d_jdk_31_m11_14 rfl rfl rfl (ws' := []) (fun _ q => q) ⟨rfl, rfl, rfl⟩
set_option maxRecDepth 65536 in
set_option maxHeartbeats 40000000 in
theorem rm_canEncode {l : Launch} {Z : State} {a0 : Array Value} (hw : ∀ d ∈ tables_1, d.before a0 Z = true) (x : Int32) (h0 : Heap) (hq : ¬ (255 : Int32) < x) :
    Con l Z EL ⟨"java/lang/StringLatin1", "canEncode", "(C)Z"⟩ jdk_43_method_3_code 1 (some .boolean) [] { frames := 0, cells := 0, slots := 0, locals := 0 } #[(.int x)] h0 [] (fun v h ws => v = some (.int (1 : Int32)) ∧ h0 = h ∧ ws = []) := by
  refine con_of (a0 := a0) (Ls := #[.val (.int x)]) (plainFor_of_name pn2) (eW hw) (fun m => by first | (simp [entryFrame, mkF, argsToLocals, Value.category]; done) | rfl) ?_
  intro p e s m below meth c
  refine g_iloadN d_jdk_43_m3_0 (pc' := 1) rfl rfl ?_
  refine g_sipush d_jdk_43_m3_1 (pc' := 4) rfl (z := 255) rfl ?_
  refine g_icmpNo d_jdk_43_m3_4 (pc' := 7) rfl (flt hq).2.2.1 ?_
  refine g_iconst d_jdk_43_m3_7 (pc' := 8) rfl (z := 1) rfl ?_
  refine g_goto d_jdk_43_m3_8 (pc' := 12) (by decide) (by decide) ?_
  exact go_ireturn d_jdk_43_m3_12 rfl (Or.inr (Or.inl rfl)) rfl (ws' := []) (fun _ q => q) ⟨rfl, rfl, rfl⟩
set_option maxRecDepth 65536 in
set_option maxHeartbeats 40000000 in
theorem rm_initBB {l : Launch} {Z : State} {a0 : Array Value} (hw : ∀ d ∈ tables_1, d.before a0 Z = true) (a b : Addr) (x : Int32) (o1 o2 : Value) (h0 : Heap) (hn : narrow .byte (.int x) = .int x) (hf : fits .byte (.int x) = true) (E : Exa Z h0 a "java/lang/String") (Fv : Fld Z h0 a "java/lang/String" "value" "[B" o1) (Fc : Fld Z h0 a "java/lang/String" "coder" "B" o2) :
    Con l Z EL ⟨"java/lang/String", "<init>", "([BB)V"⟩ jdk_42_method_151_code 3 none [] { frames := 1, cells := 0, slots := 0, locals := 12 } #[(.ref a), (.ref b), (.int x)] h0 [a] (fun v h ws => v = none ∧ ws = [] ∧ Keep h0 h [a] ∧ Fld Z h a "java/lang/String" "value" "[B" (.ref b) ∧ Fld Z h a "java/lang/String" "coder" "B" (.int x)) := by
  refine con_of (a0 := a0) (Ls := #[.val (.ref a), .val (.ref b), .val (.int x)]) (plainFor_of_name pn3) (eW hw) (fun m => by first | (simp [entryFrame, mkF, argsToLocals, Value.category]; done) | rfl) ?_
  intro p e s m below meth c
  refine g_aloadN d_jdk_42_m151_0 (pc' := 1) rfl rfl rfl ?_
  refine go_init d_jdk_42_m151_1 (w12 hw) (w13 hw) (w14 hw) rfl (by decide) (W := 0) (Nat.le_of_ble_eq_true rfl) (by decide) (pc' := 4) rfl ?_
  refine g_aloadN d_jdk_42_m151_4 (pc' := 5) rfl rfl rfl ?_
  refine g_aloadN d_jdk_42_m151_5 (pc' := 6) rfl rfl rfl ?_
  refine go_putfield d_jdk_42_m151_6 (w29 hw) Via.refl Fv E (Or.inr ⟨(w30 hw), rfl, rfl⟩) (w3 hw) (ty := (.array .byte)) (by decide) (v' := (.ref b)) rfl rfl (List.mem_of_getElem? (i := 0) rfl) (pc' := 9) rfl ?_
  intro h1 W2
  have F3 := Fld.same W2 Fv
  refine g_aloadN d_jdk_42_m151_9 (pc' := 10) rfl rfl rfl ?_
  refine g_iloadN d_jdk_42_m151_10 (pc' := 11) rfl rfl ?_
  have f4 := (Fld.other W2 Fc (Or.inr (slot_ne (Or.inr (w28 hw)) (Or.inr (w30 hw)) (by decide) (t := .byte) (t' := (.array .byte)) (by decide) (by decide))))
  refine go_putfield d_jdk_42_m151_11 (w27 hw) Via.refl f4 (Exa.wr W2 E) (Or.inr ⟨(w28 hw), rfl, rfl⟩) (w3 hw) (ty := .byte) (by decide) (v' := (.int x)) hn hf (List.mem_of_getElem? (i := 0) rfl) (pc' := 14) rfl ?_
  intro h5 W6
  have F7 := Fld.same W6 f4
  have K8 : Keep h0 h1 [a] := ((Keep.refl h0 [a]).wr W2 (Or.inl (List.mem_of_getElem? (i := 0) rfl)))
  have K9 : Keep h0 h5 [a] := (K8.wr W6 (Or.inl (List.mem_of_getElem? (i := 0) rfl)))
  have f10 := (Fld.other W6 F3 (Or.inr (slot_ne (Or.inr (w30 hw)) (Or.inr (w28 hw)) (by decide) (t := (.array .byte)) (t' := .byte) (by decide) (by decide))))
  exact go_return d_jdk_42_m151_14 rfl (ws' := []) all0 ⟨rfl, rfl, K9, f10, F7⟩
set_option maxRecDepth 65536 in
set_option maxHeartbeats 40000000 in
theorem rm_toBytes1 {l : Launch} {Z : State} {a0 : Array Value} (hw : ∀ d ∈ tables_1, d.before a0 Z = true) (x : Int32) (h0 : Heap) :
    Con l Z EL ⟨"java/lang/StringLatin1", "toBytes", "(C)[B"⟩ jdk_43_method_46_code 1 (some (.array .byte)) [] { frames := 0, cells := 1, slots := 1, locals := 0 } #[(.int x)] h0 [] (fun v h ws => ∃ b k, v = some (.ref b) ∧ ws = [b] ∧ h0.size ≤ b ∧ Keep h0 h [] ∧ Arv Z h b k .byte 1 [by8 x] (.int 0)) := by
  refine con_of (a0 := a0) (Ls := #[.val (.int x)]) (plainFor_of_name pn2) (eW hw) (fun m => by first | (simp [entryFrame, mkF, argsToLocals, Value.category]; done) | rfl) ?_
  intro p e s m below meth c
  refine g_iconst d_jdk_43_m46_0 (pc' := 1) rfl (z := 1) rfl ?_
  refine go_newarray d_jdk_43_m46_1 (w20 hw) (by decide) (cap := 1) (by decide) (by decide) (by decide) (by decide) (ad := "[B") rfl (pc' := 3) rfl ?_
  intro h11 a12 k13 g14 E15 A16 X17
  have A18 : Arv Z h11 a12 k13 .byte (1 : Int32) [.int 0] (.int 0) := Arv.pad A16 (pad_rep [] (.int 0) 1)
  refine g_dup d_jdk_43_m46_3 (pc' := 4) rfl rfl ?_
  refine g_iconst d_jdk_43_m46_4 (pc' := 5) rfl (z := 0) rfl ?_
  refine g_iloadN d_jdk_43_m46_5 (pc' := 6) rfl rfl ?_
  refine g_i2b d_jdk_43_m46_6 (pc' := 7) rfl ?_
  refine go_bastore 0 d_jdk_43_m46_7 A18 ⟨by decide, by decide⟩ rfl (Nat.le_of_ble_eq_true rfl) (x' := x.toInt8.toInt32) (i2b2 x) (List.mem_of_getElem? (i := 0) rfl) (pc' := 8) rfl ?_
  intro h19 W20 A21
  have K22 : Keep h0 h11 [] := ((Keep.refl h0 []).ext E15)
  have K23 : Keep h0 h19 [] := (K22.wr W20 (Or.inr (Nat.le_of_eq g14.symm)))
  exact go_areturn d_jdk_43_m46_8 rfl rfl rfl (ws' := [a12]) (fun _ q => q) ⟨_, _, rfl, rfl, (Nat.le_of_eq g14.symm), K23, A21⟩
set_option maxRecDepth 65536 in
set_option maxHeartbeats 40000000 in
theorem rm_valueOfC {l : Launch} {Z : State} {a0 : Array Value} (hw : ∀ d ∈ tables_1, d.before a0 Z = true) (x : Int32) (co : Int32) (h0 : Heap) (hq : ¬ x < 0 ∧ ¬ (255 : Int32) < x) (Sc : Sta Z Z.heap "java/lang/String" "COMPACT_STRINGS" "Z" (.int co)) (hco : ¬ co = 0) :
    Con l Z EL ⟨"java/lang/String", "valueOf", "(C)Ljava/lang/String;"⟩ jdk_42_method_139_code 1 (some (.object "java/lang/String")) [] { frames := 2, cells := 2, slots := 5, locals := 27 } #[(.int x)] h0 [] (fun v h ws => ∃ a b, v = some (.ref a) ∧ ws = [] ∧ h0.size ≤ a ∧ h0.size ≤ b ∧ Keep h0 h [] ∧ LatB Z h a b [x]) := by
  refine con_of (a0 := a0) (Ls := #[.val (.int x)]) (plainFor_of_name pn3) (eW hw) (fun m => by first | (simp [entryFrame, mkF, argsToLocals, Value.category]; done) | rfl) ?_
  intro p e s m below meth c
  refine go_getstatic d_jdk_42_m139_0 (w15 hw) Via.refl Sc (pc' := 3) rfl ?_
  refine g_ifNo d_jdk_42_m139_3 (pc' := 6) rfl (feq hco).1 ?_
  refine g_iloadN d_jdk_42_m139_6 (pc' := 7) rfl rfl ?_
  refine go_static d_jdk_42_m139_7 (rm_canEncode hw x h0 hq.2) (fun _ q => q) (w34 hw) (w35 hw) (w36 hw) (w37 hw) (by decide) (argsL := [(.int x)]) (rest := []) (lenOf pd0 rfl) rfl rfl rfl (W := 0) (Nat.le_of_ble_eq_true rfl) (by decide) (by decide) (by decide) (by decide) (pc' := 10) rfl ?_
  rintro _ _ _ ⟨rfl, rfl, rfl⟩ z24
  show Go _ _ _ _ _ _ _ _ _ _ _ _ _ _ _ _ _ _ _ _ _ _ _ _ [(.int (1 : Int32))] _
  refine g_ifNo d_jdk_42_m139_10 (pc' := 13) rfl (feq (by decide : ¬ ((1 : Int32) = (0 : Int32)))).1 ?_
  refine go_new d_jdk_42_m139_13 (w38 hw) (w3 hw) (w4 hw) (by decide) (by decide) (pc' := 16) rfl ?_
  intro h25 a26 g27 E28 A29 D30
  have F31 : Fld Z h25 a26 "java/lang/String" "coder" "B" (.int (0 : Int32)) := D30 (Or.inr (w28 hw)) (ty := .byte) (by decide)
  have F32 : Fld Z h25 a26 "java/lang/String" "value" "[B" .null := D30 (Or.inr (w30 hw)) (ty := (.array .byte)) (by decide)
  refine g_dup d_jdk_42_m139_16 (pc' := 17) rfl rfl ?_
  refine g_iloadN d_jdk_42_m139_17 (pc' := 18) rfl rfl ?_
  refine go_static d_jdk_42_m139_18 (rm_toBytes1 hw x h25) all0 (w39 hw) (w40 hw) (w36 hw) (w41 hw) (by decide) (argsL := [(.int x)]) (rest := [(.ref a26), (.ref a26)]) (lenOf pd1 rfl) rfl rfl rfl (W := 2) (Nat.le_of_ble_eq_true rfl) (by decide) (by decide) (by decide) (by decide) (pc' := 21) rfl ?_
  rintro _ h33 _ ⟨b34, k35, rfl, rfl, B36, K37, A38⟩ z39
  show Go _ _ _ _ _ _ _ _ _ _ _ _ _ _ _ _ _ _ _ _ _ _ _ _ [(.ref b34), (.ref a26), (.ref a26)] _
  refine g_iconst d_jdk_42_m139_21 (pc' := 22) rfl (z := 0) rfl ?_
  refine go_special d_jdk_42_m139_22 (rm_initBB hw a26 b34 (0 : Int32) _ _ h33 rfl rfl (A29.keep K37) (F32.keep K37 nin0) (F31.keep K37 nin0)) (allS (List.mem_of_getElem? (i := 1) rfl) all0) rfl (w42 hw) (w43 hw) (w4 hw) (w44 hw) (by decide) (argsL := [(.ref b34), (.int (0 : Int32))]) (rest := [(.ref a26)]) (lenOf pd2 rfl) rfl rfl rfl (W := 1) (Nat.le_of_ble_eq_true rfl) (by decide) (by decide) (by decide) (by decide) (pc' := 25) rfl ?_
  rintro _ h40 _ ⟨rfl, rfl, K41, F42, G43⟩ z44
  show Go _ _ _ _ _ _ _ _ _ _ _ _ _ _ _ _ _ _ _ _ _ _ _ _ [(.ref a26)] _
  have ne45 : b34 ≠ a26 := Ne.symm (Nat.ne_of_lt (Nat.lt_of_lt_of_le A29.lt B36))
  have K46 : Keep h0 h25 [] := ((Keep.refl h0 []).ext E28)
  have K47 : Keep h0 h33 [] := (K46.trans K37 all0)
  have K48 : Keep h0 h40 [] := (K47.trans K41 (allS (Or.inr (Nat.le_of_eq g27.symm)) all0))
  exact go_areturn d_jdk_42_m139_25 rfl rfl rfl (ws' := []) all0 ⟨_, _, rfl, rfl, (Nat.le_of_eq g27.symm), (Nat.le_trans (K46).1 B36), K48, LatB.mk ((A29.keep K37).keep K41) G43 F42 (A38.keep K41 (ninS ne45 nin0)) rfl rfl⟩
set_option maxRecDepth 65536 in
set_option maxHeartbeats 40000000 in
theorem lp_compress {l : Launch} {Z : State} {a0 : Array Value} (hw : ∀ d ∈ tables_1, d.before a0 Z = true) {p : Program} {e : Env} {R : Room} {s : State} {m : MethodId} {args : Array Value} {below : List Frame} {meth : Method} {c : Code} (cs : List Int32) (hN : cs.length ≤ 4000) (a b : Addr) (k kb : ClassId) (hne : a ≠ b) (h0 : Heap) :
    ∀ (d j : Nat), j + d = cs.length → ∀ (hh : Heap) (vs : List Value) (s6 : Slot), One s6 → (∀ i, i < j → ¬ (255 : Int32) < cs.getD i 0) → vs.length = cs.length → (∀ i, i < j → vs.getD i (.int 0) = by8 (cs.getD i 0)) →
      Arv Z hh a k .char (Int32.ofNat cs.length) (cs.map Value.int) (.int 0) → Arv Z hh b kb .byte (Int32.ofNat cs.length) vs (.int 0) → Keep h0 hh [b] →
      Go p l e R s m args below meth c Z a0 EL "java/lang/StringUTF16" jdk_52_method_21_code 7 (some .int) "compress" [b] hh 0 0 3 #[.val (.ref a), .val (.int (Int32.ofNat j)), .val (.ref b), .val (.int (Int32.ofNat j)), .val (.int (Int32.ofNat cs.length)), .val (.int (Int32.ofNat j)), s6] [] (fun v h ws => ∃ (r : Nat) (vs : List Value), v = some (.int (Int32.ofNat r)) ∧ ws = [] ∧ r ≤ cs.length ∧ (r < cs.length → (255 : Int32) < cs.getD r 0) ∧ (∀ i, i < r → ¬ (255 : Int32) < cs.getD i 0) ∧ vs.length = cs.length ∧ (∀ i, i < r → vs.getD i (.int 0) = by8 (cs.getD i 0)) ∧ Keep h0 h [b] ∧ Arv Z h b kb .byte (Int32.ofNat cs.length) vs (.int 0)) := by
  intro d; induction d with
  | zero =>
    intro j hd hh vs s6 h6 hlo hvl hby Aa Ab K
    have hj31 : j < 2147483648 := by omega
    have hN31 : cs.length < 2147483648 := by omega
    refine g_iload d_jdk_52_m21_3 (pc' := 5) rfl rfl ?_
    refine g_iload d_jdk_52_m21_5 (pc' := 7) rfl rfl ?_
    refine g_icmpYes d_jdk_52_m21_7 (pc' := 44) (flt (fun q => by have := (o_lt hj31 hN31).mp q; omega)).2.1 (by decide) (by decide) ?_
    refine g_iload d_jdk_52_m21_44 (pc' := 46) rfl rfl ?_
    exact go_ireturn d_jdk_52_m21_46 rfl (Or.inl rfl) rfl (ws' := []) all0 ⟨cs.length, vs, rfl, rfl, Nat.le_refl _, fun q => absurd q (Nat.lt_irrefl _), fun i hi => hlo i (by omega), hvl, fun i hi => hby i (by omega), K, Ab⟩
  | succ d ih =>
    intro j hd hh vs s6 h6 hlo hvl hby Aa Ab K
    have hj31 : j < 2147483648 := by omega
    have hN31 : cs.length < 2147483648 := by omega
    refine g_iload d_jdk_52_m21_3 (pc' := 5) rfl rfl ?_
    refine g_iload d_jdk_52_m21_5 (pc' := 7) rfl rfl ?_
    refine g_icmpNo d_jdk_52_m21_7 (pc' := 10) rfl (tlt ((o_lt hj31 hN31).mpr (by omega))).2.1 ?_
    refine g_aloadN d_jdk_52_m21_10 (pc' := 11) rfl rfl rfl ?_
    refine g_iloadN d_jdk_52_m21_11 (pc' := 12) rfl rfl ?_
    refine go_caload d_jdk_52_m21_12 Aa (v := (.int (cs.getD j 0))) ⟨o_nn hj31, (o_lt hj31 hN31).mpr (by omega)⟩ (by rw [o_cl hj31]; exact map_getD cs j) (pc' := 13) rfl ?_
    refine g_istore d_jdk_52_m21_13 (pc' := 15) (Ls' := #[.val (.ref a), .val (.int (Int32.ofNat j)), .val (.ref b), .val (.int (Int32.ofNat j)), .val (.int (Int32.ofNat cs.length)), .val (.int (Int32.ofNat j)), .val (.int (cs.getD j 0))]) rfl (XS.store1 rfl h6 rfl) ?_
    refine g_iload d_jdk_52_m21_15 (pc' := 17) rfl rfl ?_
    refine g_sipush d_jdk_52_m21_17 (pc' := 20) rfl (z := 255) rfl ?_
    by_cases hc : (255 : Int32) < (cs.getD j 0)
    · -- hc holds
      refine g_icmpNo d_jdk_52_m21_20 (pc' := 23) rfl (tlt hc).2.2.2 ?_
      refine g_iload d_jdk_52_m21_23 (pc' := 25) rfl rfl ?_
      exact go_ireturn d_jdk_52_m21_25 rfl (Or.inl rfl) rfl (ws' := []) all0 ⟨j, vs, rfl, rfl, by omega, fun _ => hc, hlo, hvl, hby, K, Ab⟩
    · -- hc does not hold
      refine g_icmpYes d_jdk_52_m21_20 (pc' := 26) (flt hc).2.2.2 (by decide) (by decide) ?_
      refine g_aloadN d_jdk_52_m21_26 (pc' := 27) rfl rfl rfl ?_
      refine g_iloadN d_jdk_52_m21_27 (pc' := 28) rfl rfl ?_
      refine g_iload d_jdk_52_m21_28 (pc' := 30) rfl rfl ?_
      refine g_i2b d_jdk_52_m21_30 (pc' := 31) rfl ?_
      refine go_bastore j d_jdk_52_m21_31 Ab ⟨o_nn hj31, (o_lt hj31 hN31).mpr (by omega)⟩ (o_cl hj31) (by omega) (x' := (cs.getD j 0).toInt8.toInt32) (i2b2 _) (List.mem_of_getElem? (i := 0) rfl) (pc' := 32) rfl ?_
      intro h49 W50 A51
      refine g_iinc d_jdk_52_m21_32 (pc' := 35) (Ls' := #[.val (.ref a), .val (.int ((Int32.ofNat j) + (1 : Int32))), .val (.ref b), .val (.int (Int32.ofNat j)), .val (.int (Int32.ofNat cs.length)), .val (.int (Int32.ofNat j)), .val (.int (cs.getD j 0))]) rfl rfl rfl ?_
      refine g_iinc d_jdk_52_m21_35 (pc' := 38) (Ls' := #[.val (.ref a), .val (.int ((Int32.ofNat j) + (1 : Int32))), .val (.ref b), .val (.int ((Int32.ofNat j) + (1 : Int32))), .val (.int (Int32.ofNat cs.length)), .val (.int (Int32.ofNat j)), .val (.int (cs.getD j 0))]) rfl rfl rfl ?_
      refine g_iinc d_jdk_52_m21_38 (pc' := 41) (Ls' := #[.val (.ref a), .val (.int ((Int32.ofNat j) + (1 : Int32))), .val (.ref b), .val (.int ((Int32.ofNat j) + (1 : Int32))), .val (.int (Int32.ofNat cs.length)), .val (.int ((Int32.ofNat j) + (1 : Int32))), .val (.int (cs.getD j 0))]) rfl rfl rfl ?_
      refine g_goto d_jdk_52_m21_41 (pc' := 3) (by decide) (by decide) ?_
      rw [o_inc j]
      refine ih (j + 1) (by omega) _ _ _ (One.val rfl) (fun i hi => ?_) (by rw [List.length_set]; exact hvl) (fun i hi => ?_) (Aa.other W50 hne) A51 (K.wr W50 (Or.inl (List.mem_of_getElem? (i := 0) rfl)))
      · rcases Nat.lt_succ_iff_lt_or_eq.mp hi with q | q
        · exact hlo i q
        · rw [q]; exact hc
      · rcases Nat.lt_succ_iff_lt_or_eq.mp hi with q | q
        · rw [getD_set_ne (by omega)]; exact hby i q
        · rw [q, getD_set_eq (by omega)]; rfl
set_option maxRecDepth 65536 in
set_option maxHeartbeats 40000000 in
theorem rm_compressI {l : Launch} {Z : State} {a0 : Array Value} (hw : ∀ d ∈ tables_1, d.before a0 Z = true) (cs : List Int32) (a b : Addr) (k kb : ClassId) (vs : List Value) (h0 : Heap) (hN : cs.length ≤ 4000) (hne : a ≠ b) (hvl : vs.length = cs.length) (Aa : Arv Z h0 a k .char (Int32.ofNat cs.length) (cs.map Value.int) (.int 0)) (Ab : Arv Z h0 b kb .byte (Int32.ofNat cs.length) vs (.int 0)) :
    Con l Z EL ⟨"java/lang/StringUTF16", "compress", "([CI[BII)I"⟩ jdk_52_method_21_code 7 (some .int) [] { frames := 0, cells := 0, slots := 0, locals := 0 } #[(.ref a), (.int (0 : Int32)), (.ref b), (.int (0 : Int32)), (.int (Int32.ofNat cs.length))] h0 [b] (fun v h ws => ∃ (r : Nat) (vs : List Value), v = some (.int (Int32.ofNat r)) ∧ ws = [] ∧ r ≤ cs.length ∧ (r < cs.length → (255 : Int32) < cs.getD r 0) ∧ (∀ i, i < r → ¬ (255 : Int32) < cs.getD i 0) ∧ vs.length = cs.length ∧ (∀ i, i < r → vs.getD i (.int 0) = by8 (cs.getD i 0)) ∧ Keep h0 h [b] ∧ Arv Z h b kb .byte (Int32.ofNat cs.length) vs (.int 0)) := by
  refine con_of (a0 := a0) (Ls := #[.val (.ref a), .val (.int (0 : Int32)), .val (.ref b), .val (.int (0 : Int32)), .val (.int (Int32.ofNat cs.length)), .unset, .unset]) (plainFor_of_name pn4) (eW hw) (fun m => by first | (simp [entryFrame, mkF, argsToLocals, Value.category]; done) | rfl) ?_
  intro p e s m below meth c
  refine g_iconst d_jdk_52_m21_0 (pc' := 1) rfl (z := 0) rfl ?_
  refine g_istore d_jdk_52_m21_1 (pc' := 3) (Ls' := #[.val (.ref a), .val (.int (0 : Int32)), .val (.ref b), .val (.int (0 : Int32)), .val (.int (Int32.ofNat cs.length)), .val (.int (0 : Int32)), .unset]) rfl rfl ?_
  exact lp_compress hw cs hN a b k kb hne h0 cs.length 0 (by omega) h0 vs .unset One.u (fun i hi => absurd hi (Nat.not_lt_zero _)) hvl (fun i hi => absurd hi (Nat.not_lt_zero _)) Aa Ab (Keep.refl _ _)
set_option maxRecDepth 65536 in
set_option maxHeartbeats 40000000 in
theorem rm_compressLat {l : Launch} {Z : State} {a0 : Array Value} (hw : ∀ d ∈ tables_1, d.before a0 Z = true) (cs : List Int32) (a : Addr) (k : ClassId) (h0 : Heap) (hN : cs.length ≤ 16) (hlat : ∀ c ∈ cs, ¬ (255 : Int32) < c) (Aa : Arv Z h0 a k .char (Int32.ofNat cs.length) (cs.map Value.int) (.int 0)) :
    Con l Z EL ⟨"java/lang/StringUTF16", "compress", "([CII)[B"⟩ jdk_52_method_16_code 6 (some (.array .byte)) [] { frames := 1, cells := 1, slots := 16, locals := 18 } #[(.ref a), (.int (0 : Int32)), (.int (Int32.ofNat cs.length))] h0 [] (fun v h ws => ∃ b kb, v = some (.ref b) ∧ ws = [b] ∧ h0.size ≤ b ∧ Keep h0 h [] ∧ Arv Z h b kb .byte (Int32.ofNat cs.length) (cs.map by8) (.int 0)) := by
  refine con_of (a0 := a0) (Ls := #[.val (.ref a), .val (.int (0 : Int32)), .val (.int (Int32.ofNat cs.length)), .unset, .unset, .unset]) (plainFor_of_name pn4) (eW hw) (fun m => by first | (simp [entryFrame, mkF, argsToLocals, Value.category]; done) | rfl) ?_
  intro p e s m below meth c
  refine g_iloadN d_jdk_52_m16_0 (pc' := 1) rfl rfl ?_
  refine go_newarray d_jdk_52_m16_1 (w20 hw) (o_nn (by omega)) (cap := 16) (by rw [o_cl (by omega)]; exact hN) (by decide) (by decide) (by decide) (ad := "[B") rfl (pc' := 3) rfl ?_
  intro h52 a53 k54 g55 E56 A57 X58
  have A59 := Arv.pad A57 (pad_rep [] (.int 0) cs.length)
  refine g_astoreN d_jdk_52_m16_3 (pc' := 4) (Ls' := #[.val (.ref a), .val (.int (0 : Int32)), .val (.int (Int32.ofNat cs.length)), .val (.ref a53), .unset, .unset]) rfl rfl rfl ?_
  refine g_aloadN d_jdk_52_m16_4 (pc' := 5) rfl rfl rfl ?_
  refine g_iloadN d_jdk_52_m16_5 (pc' := 6) rfl rfl ?_
  refine g_aloadN d_jdk_52_m16_6 (pc' := 7) rfl rfl rfl ?_
  refine g_iconst d_jdk_52_m16_7 (pc' := 8) rfl (z := 0) rfl ?_
  refine g_iloadN d_jdk_52_m16_8 (pc' := 9) rfl rfl ?_
  have ne60 : a ≠ a53 := Nat.ne_of_lt (Nat.lt_of_lt_of_le Aa.lt (Nat.le_of_eq g55.symm))
  refine go_static d_jdk_52_m16_9 (rm_compressI hw cs a a53 k _ _ h52 (by omega) ne60 (by rw [List.length_append, List.length_replicate]; simp) (Aa.ext E56) A59) (fun _ q => q) (w21 hw) (w22 hw) (w18 hw) (w23 hw) (by decide) (argsL := [(.ref a), (.int (0 : Int32)), (.ref a53), (.int (0 : Int32)), (.int (Int32.ofNat cs.length))]) (rest := []) (lenOf pd3 rfl) rfl rfl rfl (W := 0) (Nat.le_of_ble_eq_true rfl) (by decide) (by decide) (by decide) (by decide) (pc' := 12) rfl ?_
  rintro _ h61 _ ⟨r, vs, rfl, rfl, hr, hr2, hr3, hvl, hby, K, Ab⟩ hsz
  have er : r = cs.length := by rcases Nat.lt_or_ge r cs.length with q | q; exact absurd (hr2 q) (getD_lat hlat r); omega
  subst er
  show Go _ _ _ _ _ _ _ _ _ _ _ _ _ _ _ _ _ _ _ _ _ _ _ _ [(.int (Int32.ofNat cs.length))] _
  refine g_istore d_jdk_52_m16_12 (pc' := 14) (Ls' := #[.val (.ref a), .val (.int (0 : Int32)), .val (.int (Int32.ofNat cs.length)), .val (.ref a53), .val (.int (Int32.ofNat cs.length)), .unset]) rfl rfl ?_
  refine g_iload d_jdk_52_m16_14 (pc' := 16) rfl rfl ?_
  refine g_iloadN d_jdk_52_m16_16 (pc' := 17) rfl rfl ?_
  refine g_icmpYes d_jdk_52_m16_17 (pc' := 57) (teq rfl).1 (by decide) (by decide) ?_
  refine g_aloadN d_jdk_52_m16_57 (pc' := 58) rfl rfl rfl ?_
  have K1 := (Keep_of_ext E56).trans K (allS (Or.inr (Nat.le_of_eq g55.symm)) all0)
  have A1 := Arv_congr (vs' := cs.map by8) Ab (fun i hi => by rw [map8_getD]; exact (hby i (by rw [o_cl (by omega)] at hi; exact hi)).symm)
  exact go_areturn d_jdk_52_m16_58 rfl rfl rfl (ws' := [a53]) (fun _ q => q) ⟨_, _, rfl, rfl, (Nat.le_of_eq g55.symm), K1, A1⟩
set_option maxRecDepth 65536 in
set_option maxHeartbeats 40000000 in
theorem rm_coderLat {l : Launch} {Z : State} {a0 : Array Value} (hw : ∀ d ∈ tables_1, d.before a0 Z = true) (b : Addr) (kb : ClassId) (z : Int32) (vs : List Value) (h0 : Heap) (Ab : Arv Z h0 b kb .byte z vs (.int 0)) :
    Con l Z EL ⟨"java/lang/StringUTF16", "coderFromArrayLen", "([BI)B"⟩ jdk_52_method_15_code 2 (some .byte) [] { frames := 0, cells := 0, slots := 0, locals := 0 } #[(.ref b), (.int z)] h0 [] (fun v h ws => v = some (.int 0) ∧ h0 = h ∧ ws = []) := by
  refine con_of (a0 := a0) (Ls := #[.val (.ref b), .val (.int z)]) (plainFor_of_name pn4) (eW hw) (fun m => by first | (simp [entryFrame, mkF, argsToLocals, Value.category]; done) | rfl) ?_
  intro p e s m below meth c
  refine g_iloadN d_jdk_52_m15_0 (pc' := 1) rfl rfl ?_
  refine g_aloadN d_jdk_52_m15_1 (pc' := 2) rfl rfl rfl ?_
  refine go_arraylength d_jdk_52_m15_2 Ab (pc' := 3) rfl ?_
  refine g_isub d_jdk_52_m15_3 (pc' := 4) rfl ?_
  refine g_bipush d_jdk_52_m15_4 (pc' := 6) rfl (z := 31) rfl ?_
  refine g_iushr d_jdk_52_m15_6 (pc' := 7) rfl ?_
  refine g_i2b d_jdk_52_m15_7 (pc' := 8) rfl ?_
  rw [show ((((((z - z)).toUInt32 >>> (((31 : Int32) &&& 31)).toUInt32).toInt32)).toInt8.toInt32) = (0 : Int32) from by rw [Int32.sub_self]; rfl]
  exact go_ireturn d_jdk_52_m15_8 rfl (Or.inr (Or.inr (Or.inl rfl))) rfl (ws' := []) (fun _ q => q) ⟨rfl, rfl, rfl⟩
set_option maxRecDepth 65536 in
set_option maxHeartbeats 40000000 in
theorem rm_initCV {l : Launch} {Z : State} {a0 : Array Value} (hw : ∀ d ∈ tables_1, d.before a0 Z = true) (cs : List Int32) (a ca : Addr) (k : ClassId) (o1 o2 : Value) (co : Int32) (W : List Addr) (h0 : Heap) (hN : cs.length ≤ 16) (hpos : 0 < cs.length) (hlat : ∀ c ∈ cs, ¬ (255 : Int32) < c) (E : Exa Z h0 a "java/lang/String") (Fv : Fld Z h0 a "java/lang/String" "value" "[B" o1) (Fc : Fld Z h0 a "java/lang/String" "coder" "B" o2) (Aa : Arv Z h0 ca k .char (Int32.ofNat cs.length) (cs.map Value.int) (.int 0)) (Sc : Sta Z Z.heap "java/lang/String" "COMPACT_STRINGS" "Z" (.int co)) (hco : ¬ co = 0) :
    Con l Z EL ⟨"java/lang/String", "<init>", "([CIILjava/lang/Void;)V"⟩ jdk_42_method_149_code 6 none [] { frames := 2, cells := 1, slots := 16, locals := 35 } #[(.ref a), (.ref ca), (.int (0 : Int32)), (.int (Int32.ofNat cs.length)), .null] h0 (a :: W) (fun v h ws => v = none ∧ ∃ b, ws = [] ∧ Keep h0 h [a] ∧ LatB Z h a b cs ∧ (∀ x ∈ a :: W, x ≠ b)) := by
  refine con_of (a0 := a0) (Ls := #[.val (.ref a), .val (.ref ca), .val (.int (0 : Int32)), .val (.int (Int32.ofNat cs.length)), .val .null, .unset]) (plainFor_of_name pn3) (eW hw) (fun m => by first | (simp [entryFrame, mkF, argsToLocals, Value.category]; done) | rfl) ?_
  intro p e s m below meth c
  refine go_safe (fun hsf => ?_)
  refine g_aloadN d_jdk_42_m149_0 (pc' := 1) rfl rfl rfl ?_
  refine go_init d_jdk_42_m149_1 (w12 hw) (w13 hw) (w14 hw) rfl (by decide) (W := 0) (Nat.le_of_ble_eq_true rfl) (by decide) (pc' := 4) rfl ?_
  refine g_iloadN d_jdk_42_m149_4 (pc' := 5) rfl rfl ?_
  refine g_ifYes d_jdk_42_m149_5 (pc' := 27) (feq (fun q => by have := (o_eq (by omega) (by omega)).mp (q.trans (show (0 : Int32) = Int32.ofNat 0 from rfl)); omega)).2 (by decide) (by decide) ?_
  refine go_getstatic d_jdk_42_m149_27 (w15 hw) Via.refl Sc (pc' := 30) rfl ?_
  refine g_ifNo d_jdk_42_m149_30 (pc' := 33) rfl (feq hco).1 ?_
  refine g_aloadN d_jdk_42_m149_33 (pc' := 34) rfl rfl rfl ?_
  refine g_iloadN d_jdk_42_m149_34 (pc' := 35) rfl rfl ?_
  refine g_iloadN d_jdk_42_m149_35 (pc' := 36) rfl rfl ?_
  refine go_static d_jdk_42_m149_36 (rm_compressLat hw cs ca k h0 hN hlat Aa) all0 (w16 hw) (w17 hw) (w18 hw) (w19 hw) (by decide) (argsL := [(.ref ca), (.int (0 : Int32)), (.int (Int32.ofNat cs.length))]) (rest := []) (lenOf pd4 rfl) rfl rfl rfl (W := 0) (Nat.le_of_ble_eq_true rfl) (by decide) (by decide) (by decide) (by decide) (pc' := 39) rfl ?_
  rintro _ h62 _ ⟨b, kb, rfl, rfl, hb0, Kc, Ab⟩ hsz
  show Go _ _ _ _ _ _ _ _ _ _ _ _ _ _ _ _ _ _ _ _ _ _ _ _ [(.ref b)] _
  refine g_astore d_jdk_42_m149_39 (pc' := 41) (Ls' := #[.val (.ref a), .val (.ref ca), .val (.int (0 : Int32)), .val (.int (Int32.ofNat cs.length)), .val .null, .val (.ref b)]) rfl rfl rfl ?_
  refine g_aloadN d_jdk_42_m149_41 (pc' := 42) rfl rfl rfl ?_
  refine g_aload d_jdk_42_m149_42 (pc' := 44) rfl rfl rfl ?_
  refine g_iloadN d_jdk_42_m149_44 (pc' := 45) rfl rfl ?_
  refine go_static d_jdk_42_m149_45 (rm_coderLat hw b _ (Int32.ofNat cs.length) _ h62 Ab) all0 (w24 hw) (w25 hw) (w18 hw) (w26 hw) (by decide) (argsL := [(.ref b), (.int (Int32.ofNat cs.length))]) (rest := [(.ref a)]) (lenOf pd5 rfl) rfl rfl rfl (W := 1) (Nat.le_of_ble_eq_true rfl) (by decide) (by decide) (by decide) (by decide) (pc' := 48) rfl ?_
  rintro _ _ _ ⟨rfl, rfl, rfl⟩ z63
  show Go _ _ _ _ _ _ _ _ _ _ _ _ _ _ _ _ _ _ _ _ _ _ _ _ [(.int (0 : Int32)), (.ref a)] _
  refine go_putfield d_jdk_42_m149_48 (w27 hw) Via.refl (Fc.keep Kc nin0) (E.keep Kc) (Or.inr ⟨(w28 hw), rfl, rfl⟩) (w3 hw) (ty := .byte) (by decide) (v' := (.int (0 : Int32))) rfl rfl (List.mem_of_getElem? (i := 1) rfl) (pc' := 51) rfl ?_
  intro h64 W65
  have F66 := Fld.same W65 (Fc.keep Kc nin0)
  refine g_aloadN d_jdk_42_m149_51 (pc' := 52) rfl rfl rfl ?_
  refine g_aload d_jdk_42_m149_52 (pc' := 54) rfl rfl rfl ?_
  have f67 := (Fld.other W65 (Fv.keep Kc nin0) (Or.inr (slot_ne (Or.inr (w30 hw)) (Or.inr (w28 hw)) (by decide) (t := (.array .byte)) (t' := .byte) (by decide) (by decide))))
  refine go_putfield d_jdk_42_m149_54 (w29 hw) Via.refl f67 (Exa.wr W65 (E.keep Kc)) (Or.inr ⟨(w30 hw), rfl, rfl⟩) (w3 hw) (ty := (.array .byte)) (by decide) (v' := (.ref b)) rfl rfl (List.mem_of_getElem? (i := 1) rfl) (pc' := 57) rfl ?_
  intro h68 W69
  have F70 := Fld.same W69 f67
  have K71 : Keep h0 h62 [a] := ((Keep.refl h0 [a]).trans Kc all0)
  have K72 : Keep h0 h64 [a] := (K71.wr W65 (Or.inl (List.mem_of_getElem? (i := 0) rfl)))
  have K73 : Keep h0 h68 [a] := (K72.wr W69 (Or.inl (List.mem_of_getElem? (i := 0) rfl)))
  have f74 := (Fld.other W69 F66 (Or.inr (slot_ne (Or.inr (w28 hw)) (Or.inr (w30 hw)) (by decide) (t := .byte) (t' := (.array .byte)) (by decide) (by decide))))
  have ne75 : b ≠ a := Ne.symm (Nat.ne_of_lt (Nat.lt_of_lt_of_le E.lt hb0))
  exact go_return d_jdk_42_m149_57 rfl (ws' := []) all0 ⟨rfl, b, rfl, K73, LatB.mk (Exa.wr W69 (Exa.wr W65 (E.keep Kc))) f74 F70 ((Ab.other W65 ne75).other W69 ne75) rfl rfl, fun x hx => Nat.ne_of_lt (Nat.lt_of_lt_of_le (hsf x hx).2 hb0)⟩
set_option maxRecDepth 65536 in
set_option maxHeartbeats 40000000 in
theorem rm_initC {l : Launch} {Z : State} {a0 : Array Value} (hw : ∀ d ∈ tables_1, d.before a0 Z = true) (cs : List Int32) (a ca : Addr) (k : ClassId) (o1 o2 : Value) (co : Int32) (W : List Addr) (h0 : Heap) (hN : cs.length ≤ 16) (hpos : 0 < cs.length) (hlat : ∀ c ∈ cs, ¬ (255 : Int32) < c) (E : Exa Z h0 a "java/lang/String") (Fv : Fld Z h0 a "java/lang/String" "value" "[B" o1) (Fc : Fld Z h0 a "java/lang/String" "coder" "B" o2) (Aa : Arv Z h0 ca k .char (Int32.ofNat cs.length) (cs.map Value.int) (.int 0)) (Sc : Sta Z Z.heap "java/lang/String" "COMPACT_STRINGS" "Z" (.int co)) (hco : ¬ co = 0) :
    Con l Z EL ⟨"java/lang/String", "<init>", "([C)V"⟩ jdk_42_method_3_code 2 none [] { frames := 3, cells := 1, slots := 16, locals := 52 } #[(.ref a), (.ref ca)] h0 (a :: W) (fun v h ws => v = none ∧ ∃ b, ws = [] ∧ Keep h0 h [a] ∧ LatB Z h a b cs ∧ (∀ x ∈ a :: W, x ≠ b)) := by
  refine con_of (a0 := a0) (Ls := #[.val (.ref a), .val (.ref ca)]) (plainFor_of_name pn3) (eW hw) (fun m => by first | (simp [entryFrame, mkF, argsToLocals, Value.category]; done) | rfl) ?_
  intro p e s m below meth c
  refine g_aloadN d_jdk_42_m3_0 (pc' := 1) rfl rfl rfl ?_
  refine g_aloadN d_jdk_42_m3_1 (pc' := 2) rfl rfl rfl ?_
  refine g_iconst d_jdk_42_m3_2 (pc' := 3) rfl (z := 0) rfl ?_
  refine g_aloadN d_jdk_42_m3_3 (pc' := 4) rfl rfl rfl ?_
  refine go_arraylength d_jdk_42_m3_4 Aa (pc' := 5) rfl ?_
  refine g_aconstNull d_jdk_42_m3_5 (pc' := 6) rfl ?_
  refine go_special d_jdk_42_m3_6 (rm_initCV hw cs a ca k _ _ co W h0 hN hpos hlat E Fv Fc Aa Sc hco) (fun _ q => q) rfl (w8 hw) (w9 hw) (w4 hw) (w11 hw) (by decide) (argsL := [(.ref ca), (.int (0 : Int32)), (.int (Int32.ofNat cs.length)), .null]) (rest := []) (lenOf pd6 rfl) rfl rfl rfl (W := 0) (Nat.le_of_ble_eq_true rfl) (by decide) (by decide) (by decide) (by decide) (pc' := 9) rfl ?_
  rintro _ h76 _ ⟨rfl, b, rfl, K, L, hnb⟩ hsz
  show Go _ _ _ _ _ _ _ _ _ _ _ _ _ _ _ _ _ _ _ _ _ _ _ _ [] _
  exact go_return d_jdk_42_m3_9 rfl (ws' := []) all0 ⟨rfl, b, rfl, K, L, hnb⟩
set_option maxRecDepth 65536 in
set_option maxHeartbeats 40000000 in
theorem rm_cond {l : Launch} {Z : State} {a0 : Array Value} (hw : ∀ d ∈ tables_1, d.before a0 Z = true) (a kd sj ex : Addr) (o1 o2 o3 : Value) (h0 : Heap) (E : Exa Z h0 a "com/example/pathloom/pathloom/Condition") (F1 : Fld Z h0 a "com/example/pathloom/pathloom/Condition" "kind" "Lcom/example/pathloom/pathloom/Condition$Kind;" o1) (F2 : Fld Z h0 a "com/example/pathloom/pathloom/Condition" "subject" "Ljava/lang/String;" o2) (F3 : Fld Z h0 a "com/example/pathloom/pathloom/Condition" "expected" "Ljava/lang/String;" o3) :
    Con l Z EL ⟨"com/example/pathloom/pathloom/Condition", "<init>", "(Lcom/example/pathloom/pathloom/Condition$Kind;Ljava/lang/String;Ljava/lang/String;)V"⟩ prog_7_method_1_code 4 none [] { frames := 2, cells := 6, slots := 88, locals := 24 } #[(.ref a), (.ref kd), (.ref sj), (.ref ex)] h0 [a] (fun v h ws => v = none ∧ ws = [] ∧ Keep h0 h [a] ∧ Fld Z h a "com/example/pathloom/pathloom/Condition" "kind" "Lcom/example/pathloom/pathloom/Condition$Kind;" (.ref kd)) := by
  refine con_of (a0 := a0) (Ls := #[.val (.ref a), .val (.ref kd), .val (.ref sj), .val (.ref ex)]) (plainFor_of_name pn5) (eW hw) (fun m => by first | (simp [entryFrame, mkF, argsToLocals, Value.category]; done) | rfl) ?_
  intro p e s m below meth c
  refine g_aloadN d_prog_7_m1_0 (pc' := 1) rfl rfl rfl ?_
  refine go_special d_prog_7_m1_1 (rm_record hw a h0) all0 rfl (w58 hw) (w59 hw) (w61 hw) (w62 hw) (by decide) (argsL := []) (rest := []) (lenOf pd7 rfl) rfl rfl rfl (W := 0) (Nat.le_of_ble_eq_true rfl) (by decide) (by decide) (by decide) (by decide) (pc' := 4) rfl ?_
  rintro _ _ _ ⟨rfl, rfl, rfl⟩ z77
  show Go _ _ _ _ _ _ _ _ _ _ _ _ _ _ _ _ _ _ _ _ _ _ _ _ [] _
  refine g_aloadN d_prog_7_m1_4 (pc' := 5) rfl rfl rfl ?_
  refine go_ldcO d_prog_7_m1_5 (w64 hw) (sA hw) (n := 16) (by decide) (by decide) (by decide) (by decide) (pc' := 7) rfl ?_
  intro h78 a79 E80
  refine go_static d_prog_7_m1_7 (rm_require2 hw kd a79 h78) all0 (w67 hw) (w68 hw) (w69 hw) (w70 hw) (by decide) (argsL := [(.ref kd), (.ref a79)]) (rest := []) (lenOf pd8 rfl) rfl rfl rfl (W := 0) (Nat.le_of_ble_eq_true rfl) (by decide) (by decide) (by decide) (by decide) (pc' := 10) rfl ?_
  rintro _ _ _ ⟨rfl, rfl, rfl⟩ z81
  show Go _ _ _ _ _ _ _ _ _ _ _ _ _ _ _ _ _ _ _ _ _ _ _ _ [(.ref kd)] _
  refine g_pop d_prog_7_m1_10 (pc' := 11) rfl rfl ?_
  refine g_aloadN d_prog_7_m1_11 (pc' := 12) rfl rfl rfl ?_
  refine go_ldcO d_prog_7_m1_12 (w71 hw) (sA hw) (n := 28) (by decide) (by decide) (by decide) (by decide) (pc' := 14) rfl ?_
  intro h82 a83 E84
  refine go_static d_prog_7_m1_14 (rm_require2 hw sj a83 h82) all0 (w67 hw) (w68 hw) (w69 hw) (w70 hw) (by decide) (argsL := [(.ref sj), (.ref a83)]) (rest := []) (lenOf pd8 rfl) rfl rfl rfl (W := 0) (Nat.le_of_ble_eq_true rfl) (by decide) (by decide) (by decide) (by decide) (pc' := 17) rfl ?_
  rintro _ _ _ ⟨rfl, rfl, rfl⟩ z85
  show Go _ _ _ _ _ _ _ _ _ _ _ _ _ _ _ _ _ _ _ _ _ _ _ _ [(.ref sj)] _
  refine g_pop d_prog_7_m1_17 (pc' := 18) rfl rfl ?_
  refine g_aloadN d_prog_7_m1_18 (pc' := 19) rfl rfl rfl ?_
  refine go_ldcO d_prog_7_m1_19 (w72 hw) (sA hw) (n := 32) (by decide) (by decide) (by decide) (by decide) (pc' := 21) rfl ?_
  intro h86 a87 E88
  refine go_static d_prog_7_m1_21 (rm_require2 hw ex a87 h86) all0 (w67 hw) (w68 hw) (w69 hw) (w70 hw) (by decide) (argsL := [(.ref ex), (.ref a87)]) (rest := []) (lenOf pd8 rfl) rfl rfl rfl (W := 0) (Nat.le_of_ble_eq_true rfl) (by decide) (by decide) (by decide) (by decide) (pc' := 24) rfl ?_
  rintro _ _ _ ⟨rfl, rfl, rfl⟩ z89
  show Go _ _ _ _ _ _ _ _ _ _ _ _ _ _ _ _ _ _ _ _ _ _ _ _ [(.ref ex)] _
  refine g_pop d_prog_7_m1_24 (pc' := 25) rfl rfl ?_
  refine g_aloadN d_prog_7_m1_25 (pc' := 26) rfl rfl rfl ?_
  refine g_aloadN d_prog_7_m1_26 (pc' := 27) rfl rfl rfl ?_
  refine go_putfield d_prog_7_m1_27 (w73 hw) Via.refl (((F1.ext E80).ext E84).ext E88) (((E.ext E80).ext E84).ext E88) (Or.inr ⟨(w74 hw), rfl, rfl⟩) (w46 hw) (ty := (.object "com/example/pathloom/pathloom/Condition$Kind")) (by decide) (v' := (.ref kd)) rfl rfl (List.mem_of_getElem? (i := 0) rfl) (pc' := 30) rfl ?_
  intro h90 W91
  have F92 := Fld.same W91 (((F1.ext E80).ext E84).ext E88)
  refine g_aloadN d_prog_7_m1_30 (pc' := 31) rfl rfl rfl ?_
  refine g_aloadN d_prog_7_m1_31 (pc' := 32) rfl rfl rfl ?_
  have f93 := (Fld.other W91 (((F2.ext E80).ext E84).ext E88) (Or.inr (slot_ne (Or.inr (w76 hw)) (Or.inr (w74 hw)) (by decide) (t := (.object "java/lang/String")) (t' := (.object "com/example/pathloom/pathloom/Condition$Kind")) (by decide) (by decide))))
  refine go_putfield d_prog_7_m1_32 (w75 hw) Via.refl f93 (Exa.wr W91 (((E.ext E80).ext E84).ext E88)) (Or.inr ⟨(w76 hw), rfl, rfl⟩) (w46 hw) (ty := (.object "java/lang/String")) (by decide) (v' := (.ref sj)) rfl rfl (List.mem_of_getElem? (i := 0) rfl) (pc' := 35) rfl ?_
  intro h94 W95
  have F96 := Fld.same W95 f93
  refine g_aloadN d_prog_7_m1_35 (pc' := 36) rfl rfl rfl ?_
  refine g_aloadN d_prog_7_m1_36 (pc' := 37) rfl rfl rfl ?_
  have f97 := (Fld.other W95 (Fld.other W91 (((F3.ext E80).ext E84).ext E88) (Or.inr (slot_ne (Or.inr (w78 hw)) (Or.inr (w74 hw)) (by decide) (t := (.object "java/lang/String")) (t' := (.object "com/example/pathloom/pathloom/Condition$Kind")) (by decide) (by decide)))) (Or.inr (slot_ne (Or.inr (w78 hw)) (Or.inr (w76 hw)) (by decide) (t := (.object "java/lang/String")) (t' := (.object "java/lang/String")) (by decide) (by decide))))
  refine go_putfield d_prog_7_m1_37 (w77 hw) Via.refl f97 (Exa.wr W95 (Exa.wr W91 (((E.ext E80).ext E84).ext E88))) (Or.inr ⟨(w78 hw), rfl, rfl⟩) (w46 hw) (ty := (.object "java/lang/String")) (by decide) (v' := (.ref ex)) rfl rfl (List.mem_of_getElem? (i := 0) rfl) (pc' := 40) rfl ?_
  intro h98 W99
  have F100 := Fld.same W99 f97
  have K101 : Keep h0 h78 [a] := ((Keep.refl h0 [a]).ext E80)
  have K102 : Keep h0 h82 [a] := (K101.ext E84)
  have K103 : Keep h0 h86 [a] := (K102.ext E88)
  have K104 : Keep h0 h90 [a] := (K103.wr W91 (Or.inl (List.mem_of_getElem? (i := 0) rfl)))
  have K105 : Keep h0 h94 [a] := (K104.wr W95 (Or.inl (List.mem_of_getElem? (i := 0) rfl)))
  have K106 : Keep h0 h98 [a] := (K105.wr W99 (Or.inl (List.mem_of_getElem? (i := 0) rfl)))
  have f107 := (Fld.other W99 (Fld.other W95 F92 (Or.inr (slot_ne (Or.inr (w74 hw)) (Or.inr (w76 hw)) (by decide) (t := (.object "com/example/pathloom/pathloom/Condition$Kind")) (t' := (.object "java/lang/String")) (by decide) (by decide)))) (Or.inr (slot_ne (Or.inr (w74 hw)) (Or.inr (w78 hw)) (by decide) (t := (.object "com/example/pathloom/pathloom/Condition$Kind")) (t' := (.object "java/lang/String")) (by decide) (by decide))))
  exact go_return d_prog_7_m1_40 rfl (ws' := []) all0 ⟨rfl, rfl, K106, f107⟩
set_option maxRecDepth 65536 in
set_option maxHeartbeats 40000000 in
theorem rm_about {l : Launch} {Z : State} {a0 : Array Value} (hw : ∀ d ∈ tables_1, d.before a0 Z = true) (a kd ex nx : Addr) (h0 : Heap) (F : Fld Z h0 a "com/example/pathloom/pathloom/Condition" "kind" "Lcom/example/pathloom/pathloom/Condition$Kind;" (.ref kd)) (Sx : Sta Z Z.heap "com/example/pathloom/pathloom/Condition$Kind" "EXPLORED" "Lcom/example/pathloom/pathloom/Condition$Kind;" (.ref ex)) (Sn : Sta Z Z.heap "com/example/pathloom/pathloom/Condition$Kind" "NOT_EXPLORED" "Lcom/example/pathloom/pathloom/Condition$Kind;" (.ref nx)) :
    Con l Z EL ⟨"com/example/pathloom/pathloom/Condition", "aboutActions", "()Z"⟩ prog_7_method_3_code 1 (some .boolean) [] { frames := 0, cells := 0, slots := 0, locals := 0 } #[(.ref a)] h0 [] (fun v h ws => v = some (.int (if kd = ex ∨ kd = nx then 1 else 0)) ∧ h0 = h ∧ ws = []) := by
  refine con_of (a0 := a0) (Ls := #[.val (.ref a)]) (plainFor_of_name pn5) (eW hw) (fun m => by first | (simp [entryFrame, mkF, argsToLocals, Value.category]; done) | rfl) ?_
  intro p e s m below meth c
  refine g_aloadN d_prog_7_m3_0 (pc' := 1) rfl rfl rfl ?_
  refine go_getfield d_prog_7_m3_1 (host := "") (Or.inl (w73 hw)) Via.refl F (pc' := 4) rfl ?_
  refine go_getstatic d_prog_7_m3_4 (w84 hw) Via.refl Sx (pc' := 7) rfl ?_
  by_cases h7 : kd = ex
  · -- h7 holds
    refine g_acmp d_prog_7_m3_7 rfl rfl (same := true) (decide_eq_true (congrArg Value.ref h7)) (by decide) (pc' := 20) rfl ?_
    refine g_iconst d_prog_7_m3_20 (pc' := 21) rfl (z := 1) rfl ?_
    refine g_goto d_prog_7_m3_21 (pc' := 25) (by decide) (by decide) ?_
    exact go_ireturn d_prog_7_m3_25 rfl (Or.inr (Or.inl rfl)) rfl (ws' := []) (fun _ q => q) ⟨by first | rw [if_pos (Or.inl h7)] | rw [if_pos (Or.inr h17)] | rw [if_neg (fun q => q.elim h7 h17)], rfl, rfl⟩
  · -- h7 does not hold
    refine g_acmp d_prog_7_m3_7 rfl rfl (same := false) (decide_eq_false (fun q => h7 (Value.ref.inj q))) (by decide) (pc' := 10) rfl ?_
    refine g_aloadN d_prog_7_m3_10 (pc' := 11) rfl rfl rfl ?_
    refine go_getfield d_prog_7_m3_11 (host := "") (Or.inl (w73 hw)) Via.refl F (pc' := 14) rfl ?_
    refine go_getstatic d_prog_7_m3_14 (w86 hw) Via.refl Sn (pc' := 17) rfl ?_
    by_cases h17 : kd = nx
    · -- h17 holds
      refine g_acmp d_prog_7_m3_17 rfl rfl (same := true) (decide_eq_true (congrArg Value.ref h17)) (by decide) (pc' := 20) rfl ?_
      refine g_iconst d_prog_7_m3_20 (pc' := 21) rfl (z := 1) rfl ?_
      refine g_goto d_prog_7_m3_21 (pc' := 25) (by decide) (by decide) ?_
      exact go_ireturn d_prog_7_m3_25 rfl (Or.inr (Or.inl rfl)) rfl (ws' := []) (fun _ q => q) ⟨by first | rw [if_pos (Or.inl h7)] | rw [if_pos (Or.inr h17)] | rw [if_neg (fun q => q.elim h7 h17)], rfl, rfl⟩
    · -- h17 does not hold
      refine g_acmp d_prog_7_m3_17 rfl rfl (same := false) (decide_eq_false (fun q => h17 (Value.ref.inj q))) (by decide) (pc' := 24) rfl ?_
      refine g_iconst d_prog_7_m3_24 (pc' := 25) rfl (z := 0) rfl ?_
      exact go_ireturn d_prog_7_m3_25 rfl (Or.inr (Or.inl rfl)) rfl (ws' := []) (fun _ q => q) ⟨by first | rw [if_pos (Or.inl h7)] | rw [if_pos (Or.inr h17)] | rw [if_neg (fun q => q.elim h7 h17)], rfl, rfl⟩
theorem rem_nn (x : Int32) : ¬ (x &&& (2147483647 : Int32)) % (12 : Int32) < 0 := by
  have h := c_and x 2147483647 (by decide)
  have q := (c_irem (x &&& 2147483647) 12 12 (by decide)).1 h.1
  rw [Int32.lt_iff_toInt_lt, q]; show ¬ _ < (0 : Int); omega
theorem ge10 {x : Int32} (h0 : ¬ x < 0) (a0 : ¬ x = 0) (a1 : ¬ x = 1) (a2 : ¬ x = 2) (a3 : ¬ x = 3) (a4 : ¬ x = 4) (a5 : ¬ x = 5) (a6 : ¬ x = 6) (a7 : ¬ x = 7) (a8 : ¬ x = 8) (a9 : ¬ x = 9) : ¬ x < 10 := by
  simp only [Int32.lt_iff_toInt_lt, ← Int32.toInt_inj, Int32.reduceToInt] at *; omega
set_option maxRecDepth 65536 in
set_option maxHeartbeats 40000000 in
theorem rm_kindOf {l : Launch} {Z : State} {a0 : Array Value} (hw : ∀ d ∈ tables_1, d.before a0 Z = true) (x : Int32) (o0 o1 o2 o3 o4 o5 o6 o7 o8 o9 o10 o11 : Addr) (h0 : Heap) (hx0 : ¬ x < 0) (S0 : Sta Z Z.heap "com/example/pathloom/pathloom/Condition$Kind" "PRESENT" "Lcom/example/pathloom/pathloom/Condition$Kind;" (.ref o0)) (S1 : Sta Z Z.heap "com/example/pathloom/pathloom/Condition$Kind" "ABSENT" "Lcom/example/pathloom/pathloom/Condition$Kind;" (.ref o1)) (S2 : Sta Z Z.heap "com/example/pathloom/pathloom/Condition$Kind" "VISIBLE" "Lcom/example/pathloom/pathloom/Condition$Kind;" (.ref o2)) (S3 : Sta Z Z.heap "com/example/pathloom/pathloom/Condition$Kind" "HIDDEN" "Lcom/example/pathloom/pathloom/Condition$Kind;" (.ref o3)) (S4 : Sta Z Z.heap "com/example/pathloom/pathloom/Condition$Kind" "CHECKED" "Lcom/example/pathloom/pathloom/Condition$Kind;" (.ref o4)) (S5 : Sta Z Z.heap "com/example/pathloom/pathloom/Condition$Kind" "UNCHECKED" "Lcom/example/pathloom/pathloom/Condition$Kind;" (.ref o5)) (S6 : Sta Z Z.heap "com/example/pathloom/pathloom/Condition$Kind" "TEXT" "Lcom/example/pathloom/pathloom/Condition$Kind;" (.ref o6)) (S7 : Sta Z Z.heap "com/example/pathloom/pathloom/Condition$Kind" "COUNT_EQUALS" "Lcom/example/pathloom/pathloom/Condition$Kind;" (.ref o7)) (S8 : Sta Z Z.heap "com/example/pathloom/pathloom/Condition$Kind" "COUNT_AT_LEAST" "Lcom/example/pathloom/pathloom/Condition$Kind;" (.ref o8)) (S9 : Sta Z Z.heap "com/example/pathloom/pathloom/Condition$Kind" "URL" "Lcom/example/pathloom/pathloom/Condition$Kind;" (.ref o9)) (S10 : Sta Z Z.heap "com/example/pathloom/pathloom/Condition$Kind" "EXPLORED" "Lcom/example/pathloom/pathloom/Condition$Kind;" (.ref o10)) (S11 : Sta Z Z.heap "com/example/pathloom/pathloom/Condition$Kind" "NOT_EXPLORED" "Lcom/example/pathloom/pathloom/Condition$Kind;" (.ref o11)) :
    Con l Z EL ⟨"com/example/pathloom/pathloom/ConditionAboutActionsPinLaw", "kindOf", "(I)Lcom/example/pathloom/pathloom/Condition$Kind;"⟩ method_2_code 1 (some (.object "com/example/pathloom/pathloom/Condition$Kind")) [] { frames := 0, cells := 0, slots := 0, locals := 0 } #[(.int x)] h0 [] (fun v h ws => (∃ o, v = some (.ref o) ∧ ((o = o10 ∧ x = 10) ∨ (o = o11 ∧ ¬ x < 10 ∧ ¬ x = 10) ∨ ((o = o0 ∧ x = 0) ∨ (o = o1 ∧ x = 1) ∨ (o = o2 ∧ x = 2) ∨ (o = o3 ∧ x = 3) ∨ (o = o4 ∧ x = 4) ∨ (o = o5 ∧ x = 5) ∨ (o = o6 ∧ x = 6) ∨ (o = o7 ∧ x = 7) ∨ (o = o8 ∧ x = 8) ∨ (o = o9 ∧ x = 9)))) ∧ h0 = h ∧ ws = []) := by
  refine con_of (a0 := a0) (Ls := #[.val (.int x)]) (plainFor_of_name pn6) (eW hw) (fun m => by first | (simp [entryFrame, mkF, argsToLocals, Value.category]; done) | rfl) ?_
  intro p e s m below meth c
  refine g_iloadN d_m2_0 (pc' := 1) rfl rfl ?_
  by_cases h1 : x = (0 : Int32)
  · -- h1 holds
    refine g_ifNo d_m2_1 (pc' := 4) rfl (teq h1).2 ?_
    refine go_getstatic d_m2_4 (w52 hw) Via.refl S0 (pc' := 7) rfl ?_
    exact go_areturn d_m2_7 rfl rfl rfl (ws' := []) (fun _ q => q) ⟨⟨_, rfl, Or.inr (Or.inr (Or.inl ⟨rfl, h1⟩))⟩, rfl, rfl⟩
  · -- h1 does not hold
    refine g_ifYes d_m2_1 (pc' := 8) (feq h1).2 (by decide) (by decide) ?_
    refine g_iloadN d_m2_8 (pc' := 9) rfl rfl ?_
    refine g_iconst d_m2_9 (pc' := 10) rfl (z := 1) rfl ?_
    by_cases h10 : x = (1 : Int32)
    · -- h10 holds
      refine g_icmpNo d_m2_10 (pc' := 13) rfl (teq h10).2 ?_
      refine go_getstatic d_m2_13 (w88 hw) Via.refl S1 (pc' := 16) rfl ?_
      exact go_areturn d_m2_16 rfl rfl rfl (ws' := []) (fun _ q => q) ⟨⟨_, rfl, Or.inr (Or.inr (Or.inr (Or.inl ⟨rfl, h10⟩)))⟩, rfl, rfl⟩
    · -- h10 does not hold
      refine g_icmpYes d_m2_10 (pc' := 17) (feq h10).2 (by decide) (by decide) ?_
      refine g_iloadN d_m2_17 (pc' := 18) rfl rfl ?_
      refine g_iconst d_m2_18 (pc' := 19) rfl (z := 2) rfl ?_
      by_cases h19 : x = (2 : Int32)
      · -- h19 holds
        refine g_icmpNo d_m2_19 (pc' := 22) rfl (teq h19).2 ?_
        refine go_getstatic d_m2_22 (w104 hw) Via.refl S2 (pc' := 25) rfl ?_
        exact go_areturn d_m2_25 rfl rfl rfl (ws' := []) (fun _ q => q) ⟨⟨_, rfl, Or.inr (Or.inr (Or.inr (Or.inr (Or.inl ⟨rfl, h19⟩))))⟩, rfl, rfl⟩
      · -- h19 does not hold
        refine g_icmpYes d_m2_19 (pc' := 26) (feq h19).2 (by decide) (by decide) ?_
        refine g_iloadN d_m2_26 (pc' := 27) rfl rfl ?_
        refine g_iconst d_m2_27 (pc' := 28) rfl (z := 3) rfl ?_
        by_cases h28 : x = (3 : Int32)
        · -- h28 holds
          refine g_icmpNo d_m2_28 (pc' := 31) rfl (teq h28).2 ?_
          refine go_getstatic d_m2_31 (w97 hw) Via.refl S3 (pc' := 34) rfl ?_
          exact go_areturn d_m2_34 rfl rfl rfl (ws' := []) (fun _ q => q) ⟨⟨_, rfl, Or.inr (Or.inr (Or.inr (Or.inr (Or.inr (Or.inl ⟨rfl, h28⟩)))))⟩, rfl, rfl⟩
        · -- h28 does not hold
          refine g_icmpYes d_m2_28 (pc' := 35) (feq h28).2 (by decide) (by decide) ?_
          refine g_iloadN d_m2_35 (pc' := 36) rfl rfl ?_
          refine g_iconst d_m2_36 (pc' := 37) rfl (z := 4) rfl ?_
          by_cases h37 : x = (4 : Int32)
          · -- h37 holds
            refine g_icmpNo d_m2_37 (pc' := 40) rfl (teq h37).2 ?_
            refine go_getstatic d_m2_40 (w100 hw) Via.refl S4 (pc' := 43) rfl ?_
            exact go_areturn d_m2_43 rfl rfl rfl (ws' := []) (fun _ q => q) ⟨⟨_, rfl, Or.inr (Or.inr (Or.inr (Or.inr (Or.inr (Or.inr (Or.inl ⟨rfl, h37⟩))))))⟩, rfl, rfl⟩
          · -- h37 does not hold
            refine g_icmpYes d_m2_37 (pc' := 44) (feq h37).2 (by decide) (by decide) ?_
            refine g_iloadN d_m2_44 (pc' := 45) rfl rfl ?_
            refine g_iconst d_m2_45 (pc' := 46) rfl (z := 5) rfl ?_
            by_cases h46 : x = (5 : Int32)
            · -- h46 holds
              refine g_icmpNo d_m2_46 (pc' := 49) rfl (teq h46).2 ?_
              refine go_getstatic d_m2_49 (w102 hw) Via.refl S5 (pc' := 52) rfl ?_
              exact go_areturn d_m2_52 rfl rfl rfl (ws' := []) (fun _ q => q) ⟨⟨_, rfl, Or.inr (Or.inr (Or.inr (Or.inr (Or.inr (Or.inr (Or.inr (Or.inl ⟨rfl, h46⟩)))))))⟩, rfl, rfl⟩
            · -- h46 does not hold
              refine g_icmpYes d_m2_46 (pc' := 53) (feq h46).2 (by decide) (by decide) ?_
              refine g_iloadN d_m2_53 (pc' := 54) rfl rfl ?_
              refine g_bipush d_m2_54 (pc' := 56) rfl (z := 6) rfl ?_
              by_cases h56 : x = (6 : Int32)
              · -- h56 holds
                refine g_icmpNo d_m2_56 (pc' := 59) rfl (teq h56).2 ?_
                refine go_getstatic d_m2_59 (w93 hw) Via.refl S6 (pc' := 62) rfl ?_
                exact go_areturn d_m2_62 rfl rfl rfl (ws' := []) (fun _ q => q) ⟨⟨_, rfl, Or.inr (Or.inr (Or.inr (Or.inr (Or.inr (Or.inr (Or.inr (Or.inr (Or.inl ⟨rfl, h56⟩))))))))⟩, rfl, rfl⟩
              · -- h56 does not hold
                refine g_icmpYes d_m2_56 (pc' := 63) (feq h56).2 (by decide) (by decide) ?_
                refine g_iloadN d_m2_63 (pc' := 64) rfl rfl ?_
                refine g_bipush d_m2_64 (pc' := 66) rfl (z := 7) rfl ?_
                by_cases h66 : x = (7 : Int32)
                · -- h66 holds
                  refine g_icmpNo d_m2_66 (pc' := 69) rfl (teq h66).2 ?_
                  refine go_getstatic d_m2_69 (w95 hw) Via.refl S7 (pc' := 72) rfl ?_
                  exact go_areturn d_m2_72 rfl rfl rfl (ws' := []) (fun _ q => q) ⟨⟨_, rfl, Or.inr (Or.inr (Or.inr (Or.inr (Or.inr (Or.inr (Or.inr (Or.inr (Or.inr (Or.inl ⟨rfl, h66⟩)))))))))⟩, rfl, rfl⟩
                · -- h66 does not hold
                  refine g_icmpYes d_m2_66 (pc' := 73) (feq h66).2 (by decide) (by decide) ?_
                  refine g_iloadN d_m2_73 (pc' := 74) rfl rfl ?_
                  refine g_bipush d_m2_74 (pc' := 76) rfl (z := 8) rfl ?_
                  by_cases h76 : x = (8 : Int32)
                  · -- h76 holds
                    refine g_icmpNo d_m2_76 (pc' := 79) rfl (teq h76).2 ?_
                    refine go_getstatic d_m2_79 (w90 hw) Via.refl S8 (pc' := 82) rfl ?_
                    exact go_areturn d_m2_82 rfl rfl rfl (ws' := []) (fun _ q => q) ⟨⟨_, rfl, Or.inr (Or.inr (Or.inr (Or.inr (Or.inr (Or.inr (Or.inr (Or.inr (Or.inr (Or.inr (Or.inl ⟨rfl, h76⟩))))))))))⟩, rfl, rfl⟩
                  · -- h76 does not hold
                    refine g_icmpYes d_m2_76 (pc' := 83) (feq h76).2 (by decide) (by decide) ?_
                    refine g_iloadN d_m2_83 (pc' := 84) rfl rfl ?_
                    refine g_bipush d_m2_84 (pc' := 86) rfl (z := 9) rfl ?_
                    by_cases h86 : x = (9 : Int32)
                    · -- h86 holds
                      refine g_icmpNo d_m2_86 (pc' := 89) rfl (teq h86).2 ?_
                      refine go_getstatic d_m2_89 (w106 hw) Via.refl S9 (pc' := 92) rfl ?_
                      exact go_areturn d_m2_92 rfl rfl rfl (ws' := []) (fun _ q => q) ⟨⟨_, rfl, Or.inr (Or.inr (Or.inr (Or.inr (Or.inr (Or.inr (Or.inr (Or.inr (Or.inr (Or.inr (Or.inr (⟨rfl, h86⟩)))))))))))⟩, rfl, rfl⟩
                    · -- h86 does not hold
                      refine g_icmpYes d_m2_86 (pc' := 93) (feq h86).2 (by decide) (by decide) ?_
                      refine g_iloadN d_m2_93 (pc' := 94) rfl rfl ?_
                      refine g_bipush d_m2_94 (pc' := 96) rfl (z := 10) rfl ?_
                      by_cases h96 : x = (10 : Int32)
                      · -- h96 holds
                        refine g_icmpNo d_m2_96 (pc' := 99) rfl (teq h96).2 ?_
                        refine go_getstatic d_m2_99 (w99 hw) Via.refl S10 (pc' := 102) rfl ?_
                        exact go_areturn d_m2_102 rfl rfl rfl (ws' := []) (fun _ q => q) ⟨⟨_, rfl, Or.inl ⟨rfl, h96⟩⟩, rfl, rfl⟩
                      · -- h96 does not hold
                        refine g_icmpYes d_m2_96 (pc' := 103) (feq h96).2 (by decide) (by decide) ?_
                        refine go_getstatic d_m2_103 (w92 hw) Via.refl S11 (pc' := 106) rfl ?_
                        exact go_areturn d_m2_106 rfl rfl rfl (ws' := []) (fun _ q => q) ⟨⟨_, rfl, Or.inr (Or.inl ⟨rfl, ge10 hx0 h1 h10 h19 h28 h37 h46 h56 h66 h76 h86, h96⟩)⟩, rfl, rfl⟩
theorem isX {x : Int32} {o o0 o1 o2 o3 o4 o5 o6 o7 o8 o9 o10 o11 : Addr} (h : ((o = o10 ∧ x = 10) ∨ (o = o11 ∧ ¬ x < 10 ∧ ¬ x = 10) ∨ ((o = o0 ∧ x = 0) ∨ (o = o1 ∧ x = 1) ∨ (o = o2 ∧ x = 2) ∨ (o = o3 ∧ x = 3) ∨ (o = o4 ∧ x = 4) ∨ (o = o5 ∧ x = 5) ∨ (o = o6 ∧ x = 6) ∨ (o = o7 ∧ x = 7) ∨ (o = o8 ∧ x = 8) ∨ (o = o9 ∧ x = 9)))) (hx : ¬ x < 10) : o = o10 ∨ o = o11 := by
  rcases h with ⟨q, -⟩ | ⟨q, -⟩ | ⟨q, r⟩ | ⟨q, r⟩ | ⟨q, r⟩ | ⟨q, r⟩ | ⟨q, r⟩ | ⟨q, r⟩ | ⟨q, r⟩ | ⟨q, r⟩ | ⟨q, r⟩ | ⟨q, r⟩
  · exact Or.inl q
  · exact Or.inr q
  all_goals (subst r; exact absurd (by decide) hx)
theorem notX {x : Int32} {o o0 o1 o2 o3 o4 o5 o6 o7 o8 o9 o10 o11 : Addr} (h : ((o = o10 ∧ x = 10) ∨ (o = o11 ∧ ¬ x < 10 ∧ ¬ x = 10) ∨ ((o = o0 ∧ x = 0) ∨ (o = o1 ∧ x = 1) ∨ (o = o2 ∧ x = 2) ∨ (o = o3 ∧ x = 3) ∨ (o = o4 ∧ x = 4) ∨ (o = o5 ∧ x = 5) ∨ (o = o6 ∧ x = 6) ∨ (o = o7 ∧ x = 7) ∨ (o = o8 ∧ x = 8) ∨ (o = o9 ∧ x = 9)))) (hx : x < 10) (hd : (o0 ≠ o10 ∧ o0 ≠ o11 ∧ o1 ≠ o10 ∧ o1 ≠ o11 ∧ o2 ≠ o10 ∧ o2 ≠ o11 ∧ o3 ≠ o10 ∧ o3 ≠ o11 ∧ o4 ≠ o10 ∧ o4 ≠ o11 ∧ o5 ≠ o10 ∧ o5 ≠ o11 ∧ o6 ≠ o10 ∧ o6 ≠ o11 ∧ o7 ≠ o10 ∧ o7 ≠ o11 ∧ o8 ≠ o10 ∧ o8 ≠ o11 ∧ o9 ≠ o10 ∧ o9 ≠ o11)) : ¬ (o = o10 ∨ o = o11) := by
  obtain ⟨d0, f0, d1, f1, d2, f2, d3, f3, d4, f4, d5, f5, d6, f6, d7, f7, d8, f8, d9, f9⟩ := hd
  rcases h with ⟨q, r⟩ | ⟨q, r, -⟩ | ⟨q, r⟩ | ⟨q, r⟩ | ⟨q, r⟩ | ⟨q, r⟩ | ⟨q, r⟩ | ⟨q, r⟩ | ⟨q, r⟩ | ⟨q, r⟩ | ⟨q, r⟩ | ⟨q, r⟩
  · subst r; exact absurd hx (by decide)
  · exact absurd hx r
  · subst q; exact fun z => z.elim d0 f0
  · subst q; exact fun z => z.elim d1 f1
  · subst q; exact fun z => z.elim d2 f2
  · subst q; exact fun z => z.elim d3 f3
  · subst q; exact fun z => z.elim d4 f4
  · subst q; exact fun z => z.elim d5 f5
  · subst q; exact fun z => z.elim d6 f6
  · subst q; exact fun z => z.elim d7 f7
  · subst q; exact fun z => z.elim d8 f8
  · subst q; exact fun z => z.elim d9 f9
set_option maxRecDepth 65536 in
set_option maxHeartbeats 40000000 in
theorem law_con {l : Launch} {Z : State} {a0 : Array Value} (hw : ∀ d ∈ tables_1, d.before a0 Z = true) (p1 p2 p3 co : Int32) (o0 o1 o2 o3 o4 o5 o6 o7 o8 o9 o10 o11 : Addr) (h0 : Heap) (Sc : Sta Z Z.heap "java/lang/String" "COMPACT_STRINGS" "Z" (.int co)) (hco : ¬ co = 0) (S0 : Sta Z Z.heap "com/example/pathloom/pathloom/Condition$Kind" "PRESENT" "Lcom/example/pathloom/pathloom/Condition$Kind;" (.ref o0)) (S1 : Sta Z Z.heap "com/example/pathloom/pathloom/Condition$Kind" "ABSENT" "Lcom/example/pathloom/pathloom/Condition$Kind;" (.ref o1)) (S2 : Sta Z Z.heap "com/example/pathloom/pathloom/Condition$Kind" "VISIBLE" "Lcom/example/pathloom/pathloom/Condition$Kind;" (.ref o2)) (S3 : Sta Z Z.heap "com/example/pathloom/pathloom/Condition$Kind" "HIDDEN" "Lcom/example/pathloom/pathloom/Condition$Kind;" (.ref o3)) (S4 : Sta Z Z.heap "com/example/pathloom/pathloom/Condition$Kind" "CHECKED" "Lcom/example/pathloom/pathloom/Condition$Kind;" (.ref o4)) (S5 : Sta Z Z.heap "com/example/pathloom/pathloom/Condition$Kind" "UNCHECKED" "Lcom/example/pathloom/pathloom/Condition$Kind;" (.ref o5)) (S6 : Sta Z Z.heap "com/example/pathloom/pathloom/Condition$Kind" "TEXT" "Lcom/example/pathloom/pathloom/Condition$Kind;" (.ref o6)) (S7 : Sta Z Z.heap "com/example/pathloom/pathloom/Condition$Kind" "COUNT_EQUALS" "Lcom/example/pathloom/pathloom/Condition$Kind;" (.ref o7)) (S8 : Sta Z Z.heap "com/example/pathloom/pathloom/Condition$Kind" "COUNT_AT_LEAST" "Lcom/example/pathloom/pathloom/Condition$Kind;" (.ref o8)) (S9 : Sta Z Z.heap "com/example/pathloom/pathloom/Condition$Kind" "URL" "Lcom/example/pathloom/pathloom/Condition$Kind;" (.ref o9)) (S10 : Sta Z Z.heap "com/example/pathloom/pathloom/Condition$Kind" "EXPLORED" "Lcom/example/pathloom/pathloom/Condition$Kind;" (.ref o10)) (S11 : Sta Z Z.heap "com/example/pathloom/pathloom/Condition$Kind" "NOT_EXPLORED" "Lcom/example/pathloom/pathloom/Condition$Kind;" (.ref o11)) (hd : (o0 ≠ o10 ∧ o0 ≠ o11 ∧ o1 ≠ o10 ∧ o1 ≠ o11 ∧ o2 ≠ o10 ∧ o2 ≠ o11 ∧ o3 ≠ o10 ∧ o3 ≠ o11 ∧ o4 ≠ o10 ∧ o4 ≠ o11 ∧ o5 ≠ o10 ∧ o5 ≠ o11 ∧ o6 ≠ o10 ∧ o6 ≠ o11 ∧ o7 ≠ o10 ∧ o7 ≠ o11 ∧ o8 ≠ o10 ∧ o8 ≠ o11 ∧ o9 ≠ o10 ∧ o9 ≠ o11)) :
    Con l Z EL ⟨"com/example/pathloom/pathloom/ConditionAboutActionsPinLaw", "law", "(III)Z"⟩ code 9 ret tables_1 room_1 #[(.int p1), (.int p2), (.int p3)] h0 [] (fun v h ws => v = some (.int 1)) := by
  refine con_of (a0 := a0) (Ls := #[.val (.int p1), .val (.int p2), .val (.int p3), .unset, .unset, .unset, .unset, .unset, .unset]) (plainFor_of_name pn6) (eW hw) (fun m => by first | (simp [entryFrame, mkF, argsToLocals, Value.category, maxLocals]; done) | rfl) ?_
  intro p e s m below meth c
  refine g_iloadN at_0 (pc' := 1) rfl rfl ?_
  refine go_ldcI at_1 (w0 hw) (pc' := 3) rfl ?_
  refine g_iand at_3 (pc' := 4) rfl ?_
  refine g_bipush at_4 (pc' := 6) rfl (z := 12) rfl ?_
  refine g_irem at_6 (pc' := 7) rfl (by decide) ?_
  refine g_istoreN at_7 (pc' := 8) (Ls' := #[.val (.int p1), .val (.int p2), .val (.int p3), .val (.int ((p1 &&& (2147483647 : Int32)) % (12 : Int32))), .unset, .unset, .unset, .unset, .unset]) rfl rfl ?_
  refine g_iconst at_8 (pc' := 9) rfl (z := 2) rfl ?_
  refine go_newarray at_9 (w1 hw) (by decide) (cap := 2) (by decide) (by decide) (by decide) (by decide) (ad := "[C") rfl (pc' := 11) rfl ?_
  intro h108 a109 k110 g111 E112 A113 X114
  have A115 : Arv Z h108 a109 k110 .char (2 : Int32) [.int 0, .int 0] (.int 0) := Arv.pad A113 (pad_rep [] (.int 0) 2)
  refine g_astore at_11 (pc' := 13) (Ls' := #[.val (.int p1), .val (.int p2), .val (.int p3), .val (.int ((p1 &&& (2147483647 : Int32)) % (12 : Int32))), .val (.ref a109), .unset, .unset, .unset, .unset]) rfl rfl rfl ?_
  refine g_aload at_13 (pc' := 15) rfl rfl rfl ?_
  refine g_iconst at_15 (pc' := 16) rfl (z := 0) rfl ?_
  refine g_iloadN at_16 (pc' := 17) rfl rfl ?_
  refine g_sipush at_17 (pc' := 20) rfl (z := 255) rfl ?_
  refine g_iand at_20 (pc' := 21) rfl ?_
  refine g_i2c at_21 (pc' := 22) rfl ?_
  refine go_castore 0 at_22 A115 ⟨by decide, by decide⟩ rfl (Nat.le_of_ble_eq_true rfl) (x' := (((p2 &&& (255 : Int32))).toUInt32.toUInt16.toUInt32.toInt32)) (nar_i2c _) (List.mem_of_getElem? (i := 0) rfl) (pc' := 23) rfl ?_
  intro h116 W117 A118
  refine g_aload at_23 (pc' := 25) rfl rfl rfl ?_
  refine g_iconst at_25 (pc' := 26) rfl (z := 1) rfl ?_
  refine g_iloadN at_26 (pc' := 27) rfl rfl ?_
  refine g_bipush at_27 (pc' := 29) rfl (z := 8) rfl ?_
  refine g_iushr at_29 (pc' := 30) rfl ?_
  refine g_sipush at_30 (pc' := 33) rfl (z := 255) rfl ?_
  refine g_iand at_33 (pc' := 34) rfl ?_
  refine g_i2c at_34 (pc' := 35) rfl ?_
  refine go_castore 1 at_35 A118 ⟨by decide, by decide⟩ rfl (Nat.le_of_ble_eq_true rfl) (x' := ((((((p2).toUInt32 >>> (((8 : Int32) &&& 31)).toUInt32).toInt32) &&& (255 : Int32))).toUInt32.toUInt16.toUInt32.toInt32)) (nar_i2c _) (List.mem_of_getElem? (i := 0) rfl) (pc' := 36) rfl ?_
  intro h119 W120 A121
  refine go_new at_36 (w2 hw) (w3 hw) (w4 hw) (by decide) (by decide) (pc' := 39) rfl ?_
  intro h122 a123 g124 E125 A126 D127
  have F128 : Fld Z h122 a123 "java/lang/String" "coder" "B" (.int (0 : Int32)) := D127 (Or.inr (w28 hw)) (ty := .byte) (by decide)
  have F129 : Fld Z h122 a123 "java/lang/String" "value" "[B" .null := D127 (Or.inr (w30 hw)) (ty := (.array .byte)) (by decide)
  refine g_dup at_39 (pc' := 40) rfl rfl ?_
  refine g_aload at_40 (pc' := 42) rfl rfl rfl ?_
  refine go_special at_42 (rm_initC hw [(((p2 &&& (255 : Int32))).toUInt32.toUInt16.toUInt32.toInt32), ((((((p2).toUInt32 >>> (((8 : Int32) &&& 31)).toUInt32).toInt32) &&& (255 : Int32))).toUInt32.toUInt16.toUInt32.toInt32)] a123 a109 _ _ _ co [a109] h122 (Nat.le_of_ble_eq_true rfl) (Nat.le_of_ble_eq_true rfl) (Byt.lat (Byt.cons (byt255 _) (Byt.cons (byt255 _) Byt.nil))) A126 F129 F128 (A121.ext E125) Sc hco) (fun _ q => q) rfl (w5 hw) (w6 hw) (w4 hw) (w7 hw) (by decide) (argsL := [(.ref a109)]) (rest := [(.ref a123)]) (lenOf pd9 rfl) rfl rfl rfl (W := 1) (Nat.le_of_ble_eq_true rfl) (by decide) (by decide) (by decide) (by decide) (pc' := 45) rfl ?_
  rintro _ h130 _ ⟨rfl, b131, rfl, K132, L133, N134⟩ z135
  show Go _ _ _ _ _ _ _ _ _ _ _ _ _ _ _ _ _ _ _ _ _ _ _ _ [(.ref a123)] _
  refine g_astore at_45 (pc' := 47) (Ls' := #[.val (.int p1), .val (.int p2), .val (.int p3), .val (.int ((p1 &&& (2147483647 : Int32)) % (12 : Int32))), .val (.ref a109), .val (.ref a123), .unset, .unset, .unset]) rfl rfl rfl ?_
  refine g_iloadN at_47 (pc' := 48) rfl rfl ?_
  refine g_sipush at_48 (pc' := 51) rfl (z := 255) rfl ?_
  refine g_iand at_51 (pc' := 52) rfl ?_
  refine g_i2c at_52 (pc' := 53) rfl ?_
  refine go_static at_53 (rm_valueOfC hw (((p3 &&& (255 : Int32))).toUInt32.toUInt16.toUInt32.toInt32) co h130 (byt255 _) Sc hco) all0 (w31 hw) (w32 hw) (w4 hw) (w33 hw) (by decide) (argsL := [(.int (((p3 &&& (255 : Int32))).toUInt32.toUInt16.toUInt32.toInt32))]) (rest := []) (lenOf pd10 rfl) rfl rfl rfl (W := 0) (Nat.le_of_ble_eq_true rfl) (by decide) (by decide) (by decide) (by decide) (pc' := 56) rfl ?_
  rintro _ h136 _ ⟨a137, b138, rfl, rfl, B139, B140, K141, L142⟩ z143
  show Go _ _ _ _ _ _ _ _ _ _ _ _ _ _ _ _ _ _ _ _ _ _ _ _ [(.ref a137)] _
  refine g_astore at_56 (pc' := 58) (Ls' := #[.val (.int p1), .val (.int p2), .val (.int p3), .val (.int ((p1 &&& (2147483647 : Int32)) % (12 : Int32))), .val (.ref a109), .val (.ref a123), .val (.ref a137), .unset, .unset]) rfl rfl rfl ?_
  refine go_new at_58 (w45 hw) (w46 hw) (w47 hw) (by decide) (by decide) (pc' := 61) rfl ?_
  intro h144 a145 g146 E147 A148 D149
  have F150 : Fld Z h144 a145 "com/example/pathloom/pathloom/Condition" "kind" "Lcom/example/pathloom/pathloom/Condition$Kind;" .null := D149 (Or.inr (w74 hw)) (ty := (.object "com/example/pathloom/pathloom/Condition$Kind")) (by decide)
  have F151 : Fld Z h144 a145 "com/example/pathloom/pathloom/Condition" "subject" "Ljava/lang/String;" .null := D149 (Or.inr (w76 hw)) (ty := (.object "java/lang/String")) (by decide)
  have F152 : Fld Z h144 a145 "com/example/pathloom/pathloom/Condition" "expected" "Ljava/lang/String;" .null := D149 (Or.inr (w78 hw)) (ty := (.object "java/lang/String")) (by decide)
  refine g_dup at_61 (pc' := 62) rfl rfl ?_
  refine g_iloadN at_62 (pc' := 63) rfl rfl ?_
  refine go_static at_63 (rm_kindOf hw ((p1 &&& (2147483647 : Int32)) % (12 : Int32)) o0 o1 o2 o3 o4 o5 o6 o7 o8 o9 o10 o11 h144 (rem_nn _) S0 S1 S2 S3 S4 S5 S6 S7 S8 S9 S10 S11) all0 (w48 hw) (w49 hw) (w50 hw) (w51 hw) (by decide) (argsL := [(.int ((p1 &&& (2147483647 : Int32)) % (12 : Int32)))]) (rest := [(.ref a145), (.ref a145)]) (lenOf pd11 rfl) rfl rfl rfl (W := 2) (Nat.le_of_ble_eq_true rfl) (by decide) (by decide) (by decide) (by decide) (pc' := 66) rfl ?_
  rintro _ _ _ ⟨⟨kd, rfl, hkd⟩, rfl, rfl⟩ hz
  show Go _ _ _ _ _ _ _ _ _ _ _ _ _ _ _ _ _ _ _ _ _ _ _ _ [(.ref kd), (.ref a145), (.ref a145)] _
  refine g_aload at_66 (pc' := 68) rfl rfl rfl ?_
  refine g_aload at_68 (pc' := 70) rfl rfl rfl ?_
  refine go_special at_70 (rm_cond hw a145 kd a123 a137 _ _ _ h144 A148 F150 F151 F152) (allS (List.mem_of_getElem? (i := 0) rfl) all0) rfl (w55 hw) (w56 hw) (w47 hw) (w57 hw) (by decide) (argsL := [(.ref kd), (.ref a123), (.ref a137)]) (rest := [(.ref a145)]) (lenOf pd12 rfl) rfl rfl rfl (W := 1) (Nat.le_of_ble_eq_true rfl) (by decide) (by decide) (by decide) (by decide) (pc' := 73) rfl ?_
  rintro _ h153 _ ⟨rfl, rfl, K154, F155⟩ z156
  show Go _ _ _ _ _ _ _ _ _ _ _ _ _ _ _ _ _ _ _ _ _ _ _ _ [(.ref a145)] _
  refine g_astore at_73 (pc' := 75) (Ls' := #[.val (.int p1), .val (.int p2), .val (.int p3), .val (.int ((p1 &&& (2147483647 : Int32)) % (12 : Int32))), .val (.ref a109), .val (.ref a123), .val (.ref a137), .val (.ref a145), .unset]) rfl rfl rfl ?_
  refine g_iloadN at_75 (pc' := 76) rfl rfl ?_
  refine g_bipush at_76 (pc' := 78) rfl (z := 10) rfl ?_
  by_cases h78 : ((p1 &&& (2147483647 : Int32)) % (12 : Int32)) < (10 : Int32)
  · -- h78 holds
    refine g_icmpYes at_78 (pc' := 85) (tlt h78).1 (by decide) (by decide) ?_
    refine g_iconst at_85 (pc' := 86) rfl (z := 0) rfl ?_
    refine g_istore at_86 (pc' := 88) (Ls' := #[.val (.int p1), .val (.int p2), .val (.int p3), .val (.int ((p1 &&& (2147483647 : Int32)) % (12 : Int32))), .val (.ref a109), .val (.ref a123), .val (.ref a137), .val (.ref a145), .val (.int (0 : Int32))]) rfl rfl ?_
    refine g_aload at_88 (pc' := 90) rfl rfl rfl ?_
    refine go_virtual at_90 (rm_about hw a145 kd o10 o11 h153 F155 S10 S11) all0 (A148.keep K154) (w79 hw) (w80 hw) (w82 hw) (nf_sel (w82 hw)) (w81 hw) (w47 hw) (w83 hw) (by decide) (argsL := []) (rest := []) (lenOf pd13 rfl) rfl rfl rfl (W := 0) (Nat.le_of_ble_eq_true rfl) (by decide) (by decide) (by decide) (by decide) (pc' := 93) rfl ?_
    rintro _ _ _ ⟨rfl, rfl, rfl⟩ hz2
    rw [show (if kd = o10 ∨ kd = o11 then (1 : Int32) else 0) = 0 from if_neg (notX hkd h78 hd)]
    show Go _ _ _ _ _ _ _ _ _ _ _ _ _ _ _ _ _ _ _ _ _ _ _ _ [(.int (0 : Int32))] _
    refine g_iload at_93 (pc' := 95) rfl rfl ?_
    refine g_icmpNo at_95 (pc' := 98) rfl (teq (by decide : (0 : Int32) = (0 : Int32))).2 ?_
    refine g_iconst at_98 (pc' := 99) rfl (z := 1) rfl ?_
    refine g_goto at_99 (pc' := 103) (by decide) (by decide) ?_
    exact go_ireturn at_103 rfl (Or.inr (Or.inl rfl)) rfl (ws' := []) all0 rfl
  · -- h78 does not hold
    refine g_icmpNo at_78 (pc' := 81) rfl (flt h78).1 ?_
    refine g_iconst at_81 (pc' := 82) rfl (z := 1) rfl ?_
    refine g_goto at_82 (pc' := 86) (by decide) (by decide) ?_
    refine g_istore at_86 (pc' := 88) (Ls' := #[.val (.int p1), .val (.int p2), .val (.int p3), .val (.int ((p1 &&& (2147483647 : Int32)) % (12 : Int32))), .val (.ref a109), .val (.ref a123), .val (.ref a137), .val (.ref a145), .val (.int (1 : Int32))]) rfl rfl ?_
    refine g_aload at_88 (pc' := 90) rfl rfl rfl ?_
    refine go_virtual at_90 (rm_about hw a145 kd o10 o11 h153 F155 S10 S11) all0 (A148.keep K154) (w79 hw) (w80 hw) (w82 hw) (nf_sel (w82 hw)) (w81 hw) (w47 hw) (w83 hw) (by decide) (argsL := []) (rest := []) (lenOf pd13 rfl) rfl rfl rfl (W := 0) (Nat.le_of_ble_eq_true rfl) (by decide) (by decide) (by decide) (by decide) (pc' := 93) rfl ?_
    rintro _ _ _ ⟨rfl, rfl, rfl⟩ hz2
    rw [show (if kd = o10 ∨ kd = o11 then (1 : Int32) else 0) = 1 from if_pos (isX hkd h78)]
    show Go _ _ _ _ _ _ _ _ _ _ _ _ _ _ _ _ _ _ _ _ _ _ _ _ [(.int (1 : Int32))] _
    refine g_iload at_93 (pc' := 95) rfl rfl ?_
    refine g_icmpNo at_95 (pc' := 98) rfl (teq (by decide : (1 : Int32) = (1 : Int32))).2 ?_
    refine g_iconst at_98 (pc' := 99) rfl (z := 1) rfl ?_
    refine g_goto at_99 (pc' := 103) (by decide) (by decide) ?_
    exact go_ireturn at_103 rfl (Or.inr (Or.inl rfl)) rfl (ws' := []) all0 rfl
set_option maxRecDepth 65536 in
set_option maxHeartbeats 40000000 in
theorem comes_1 {Post : Tables → Env → Array Value → State → Outcome → State → Prop} (hpost : ∀ tb e args s v u, (limb_1_1.after args s (.returned v) u = true ∧ limb_1_2.after args s (.returned v) u = true ∧ True) → FramedW s (.returned v) u (Jvm.fieldLocs frame_1_writes args s ++ Jvm.arrayLocs frame_1_arrays args s ++ Jvm.staticLocs frame_1_statics s) 32 3200 → Post tb e args s (.returned v) u) :
    ArmFor flags0 classFile x code maxLocals ret World_1 tables_1 room_1 Calls_1 rest_1 Pre_1 Post := by
  intro l hfl _ _ p e ha hc hk s m args below hf hA hF happ hP
  obtain ⟨hcalls, hrest, hpre⟩ := hP
  obtain ⟨-, -, -, hnamed, -, -, -, hat⟩ := (Spec.applies_iff hf).mp happ
  obtain ⟨hg, hn⟩ := and_e (Cond.before_iff.mp (show (Jvm.Cond.and given_1 narrow_1).before args s = true from hpre))
  obtain ⟨hcnt, hg0⟩ := and_e hg
  obtain ⟨ga0, hg1⟩ := and_e hg0
  obtain ⟨ga1, hg2⟩ := and_e hg1
  have ga2 := hg2
  obtain ⟨w0, w1, w2, rfl⟩ : ∃ w0 w1 w2 : Value, args = #[w0, w1, w2] := by
    have hs : args.size = 3 := by simpa [Cond.value, given_1] using hcnt
    obtain ⟨L⟩ := args
    match L, hs with
    | [w0, w1, w2], _ => exact ⟨w0, w1, w2, rfl⟩
  have hw := fun d (hd : d ∈ tables_1) => atoms_spec (ws := Jvm.Cond.code x code maxLocals ret :: tables_1) hat d (List.mem_cons_of_mem _ hd)
  obtain ⟨hsets, hown0⟩ := atoms_of _ (rest_1_c_eq ▸ (show rest_1_c.before _ s = true from hrest))
  obtain ⟨i0, e0⟩ := is_v ga0
  obtain rfl : w0 = (.int i0) := Option.some.inj e0
  obtain ⟨i1, e1⟩ := is_v ga1
  obtain rfl : w1 = (.int i1) := Option.some.inj e1
  obtain ⟨i2, e2⟩ := is_v ga2
  obtain rfl : w2 = (.int i2) := Option.some.inj e2
  obtain ⟨co, eco⟩ := is_v (Cond.before_iff.mp (hsets _ (List.mem_of_getElem? (i := 1) rfl)))
  have Sc : Sta s s.heap "java/lang/String" "COMPACT_STRINGS" "Z" (.int co) := Sta.start eco (Or.inl (hsets _ (List.mem_of_getElem? (i := 0) rfl)))
  have hco : ¬ (co = (0 : Int32)) := gotF (Cond.eq_ints eco (Term.int_eval (0))) (not_v (Cond.before_iff.mp (hsets _ (List.mem_of_getElem? (i := 2) rfl))))
  obtain ⟨n0, nr0⟩ := and_e hn
  obtain ⟨n1, nr1⟩ := and_e nr0
  obtain ⟨n2, nr2⟩ := and_e nr1
  obtain ⟨n3, nr3⟩ := and_e nr2
  obtain ⟨n4, nr4⟩ := and_e nr3
  obtain ⟨n5, nr5⟩ := and_e nr4
  obtain ⟨n6, nr6⟩ := and_e nr5
  obtain ⟨n7, nr7⟩ := and_e nr6
  obtain ⟨n8, nr8⟩ := and_e nr7
  obtain ⟨n9, nr9⟩ := and_e nr8
  obtain ⟨n10, nr10⟩ := and_e nr9
  obtain ⟨n11, nr11⟩ := and_e nr10
  obtain ⟨n12, nr12⟩ := and_e nr11
  obtain ⟨n13, nr13⟩ := and_e nr12
  obtain ⟨n14, nr14⟩ := and_e nr13
  obtain ⟨n15, nr15⟩ := and_e nr14
  obtain ⟨n16, nr16⟩ := and_e nr15
  obtain ⟨n17, nr17⟩ := and_e nr16
  obtain ⟨n18, nr18⟩ := and_e nr17
  obtain ⟨n19, nr19⟩ := and_e nr18
  obtain ⟨n20, nr20⟩ := and_e nr19
  obtain ⟨n21, nr21⟩ := and_e nr20
  obtain ⟨n22, nr22⟩ := and_e nr21
  have n23 := nr22
  obtain ⟨ob0, oe0⟩ := exa_v n0
  have oS0 := Sta.start oe0 (Or.inr ⟨(w53 hw), (w54 hw)⟩)
  have oX0 := Exa.start oe0 n0
  obtain ⟨ob1, oe1⟩ := exa_v n1
  have oS1 := Sta.start oe1 (Or.inr ⟨(w53 hw), (w85 hw)⟩)
  have oX1 := Exa.start oe1 n1
  obtain ⟨ob4, oe4⟩ := exa_v n4
  have oS4 := Sta.start oe4 (Or.inr ⟨(w53 hw), (w87 hw)⟩)
  have oX4 := Exa.start oe4 n4
  obtain ⟨ob6, oe6⟩ := exa_v n6
  have oS6 := Sta.start oe6 (Or.inr ⟨(w53 hw), (w89 hw)⟩)
  have oX6 := Exa.start oe6 n6
  obtain ⟨ob8, oe8⟩ := exa_v n8
  have oS8 := Sta.start oe8 (Or.inr ⟨(w53 hw), (w91 hw)⟩)
  have oX8 := Exa.start oe8 n8
  obtain ⟨ob10, oe10⟩ := exa_v n10
  have oS10 := Sta.start oe10 (Or.inr ⟨(w53 hw), (w94 hw)⟩)
  have oX10 := Exa.start oe10 n10
  obtain ⟨ob12, oe12⟩ := exa_v n12
  have oS12 := Sta.start oe12 (Or.inr ⟨(w53 hw), (w96 hw)⟩)
  have oX12 := Exa.start oe12 n12
  obtain ⟨ob14, oe14⟩ := exa_v n14
  have oS14 := Sta.start oe14 (Or.inr ⟨(w53 hw), (w98 hw)⟩)
  have oX14 := Exa.start oe14 n14
  obtain ⟨ob16, oe16⟩ := exa_v n16
  have oS16 := Sta.start oe16 (Or.inr ⟨(w53 hw), (w101 hw)⟩)
  have oX16 := Exa.start oe16 n16
  obtain ⟨ob18, oe18⟩ := exa_v n18
  have oS18 := Sta.start oe18 (Or.inr ⟨(w53 hw), (w103 hw)⟩)
  have oX18 := Exa.start oe18 n18
  obtain ⟨ob20, oe20⟩ := exa_v n20
  have oS20 := Sta.start oe20 (Or.inr ⟨(w53 hw), (w105 hw)⟩)
  have oX20 := Exa.start oe20 n20
  obtain ⟨ob22, oe22⟩ := exa_v n22
  have oS22 := Sta.start oe22 (Or.inr ⟨(w53 hw), (w107 hw)⟩)
  have oX22 := Exa.start oe22 n22
  have oF2 := Fld.start (fld_eq oe0 n2)
  have oF3 := Fld.start (fld_eq oe1 n3)
  have oF5 := Fld.start (fld_eq oe4 n5)
  have oF7 := Fld.start (fld_eq oe6 n7)
  have oF9 := Fld.start (fld_eq oe8 n9)
  have oF11 := Fld.start (fld_eq oe10 n11)
  have oF13 := Fld.start (fld_eq oe12 n13)
  have oF15 := Fld.start (fld_eq oe14 n15)
  have oF17 := Fld.start (fld_eq oe16 n17)
  have oF19 := Fld.start (fld_eq oe18 n19)
  have oF21 := Fld.start (fld_eq oe20 n21)
  have oF23 := Fld.start (fld_eq oe22 n23)
  obtain ⟨n, o, g1, g2, g3, v, L, ws', rfl, rfl, N, -, -, W⟩ := (law_con hw i0 i1 i2 co ob0 ob6 ob20 ob14 ob16 ob18 ob10 ob12 ob8 ob22 ob1 ob4 s.heap Sc hco oS0 oS6 oS20 oS14 oS16 oS18 oS10 oS12 oS8 oS22 oS1 oS4 ⟨Fld.ne oF2 oF3 (by decide), Fld.ne oF2 oF5 (by decide), Fld.ne oF7 oF3 (by decide), Fld.ne oF7 oF5 (by decide), Fld.ne oF21 oF3 (by decide), Fld.ne oF21 oF5 (by decide), Fld.ne oF15 oF3 (by decide), Fld.ne oF15 oF5 (by decide), Fld.ne oF17 oF3 (by decide), Fld.ne oF17 oF5 (by decide), Fld.ne oF19 oF3 (by decide), Fld.ne oF19 oF5 (by decide), Fld.ne oF11 oF3 (by decide), Fld.ne oF11 oF5 (by decide), Fld.ne oF13 oF3 (by decide), Fld.ne oF13 oF5 (by decide), Fld.ne oF9 oF3 (by decide), Fld.ne oF9 oF5 (by decide), Fld.ne oF23 oF3 (by decide), Fld.ne oF23 oF5 (by decide)⟩) p e ha hc hk s m _ below hf ((Spec.applies_iff_loose hf).mp happ).1 ⟨rfl, State.Warmed39.refl s, rfl, Inv_start0⟩ trivial
  refine ⟨n, _, g1, g2, g3, hpost _ _ _ _ _ _ ⟨Cond.after_iff.mpr rfl, Cond.after_iff.mpr (eq_i res_at (Term.int_eval (1)) rfl), trivial⟩ ⟨W.1, W.2.1, W.2.2.1, (W.2.2.2.sift fun y hy => Or.inr (N y hy)).mono (by decide) (by decide)⟩⟩
theorem main_1_1 : Claimed_1_1 := comes_1 fun _ _ _ _ _ _ h hF => ⟨h.1, hF⟩
theorem main_1_2 : Claimed_1_2 := comes_1 fun _ _ _ _ _ _ h hF => ⟨h.2.1, hF⟩
end Jvm.Pilot.@@N@@
namespace Jvm.Pilot.@@N@@
open Jvm Jvm.ClassFile Sem Op Lib Jvm.Free Jvm.Stand Jvm.Pilot.@@N@@.Jvm.D
/-! MADE BY PROGRAM (witnessworld.py) out of the Statement's table words and the real class files: 24 classes; the members and pool entries that the words name. The judged class is class 1, her method 2. -/
namespace start1
open Jvm.ClassFile
def u (s : String) : CpInfo := .utf8 (stringToUtf16 s)
/-- a pool by its gaps: so many unusable entries, then the entry; so many at the end -/
def gap : Nat → List CpInfo → List CpInfo
  | 0, r => r
  | n + 1, r => .unusable :: gap n r
def poolList (es : List (Nat × CpInfo)) (last : Nat) : List CpInfo := es.foldr (fun e r => gap e.1 (e.2 :: r)) (gap last [])
def pool (es : List (Nat × CpInfo)) (last : Nat) : Array CpInfo := ⟨poolList es last⟩
def fileOf (pool : Array CpInfo) (this : Nat) (attrs : Array Attribute := #[]) (ms : Array MethodInfo := #[]) (fl : Nat := 33) (sup : Nat := 0) (ifs : Array Nat := #[]) (fds : Array FieldInfo := #[]) : ClassFile where
  minorVersion := 0
  majorVersion := 65
  constantPool := pool
  accessFlags := fl
  thisClass := this
  superClass := sup
  interfaces := ifs
  fields := fds
  methods := ms
  attributes := attrs
def plain (name : String) (sup : Option ClassId) : Class where
  name := name
  kind := .ordinary
  loader := none
  accessFlags := 33
  super := sup
  interfaces := #[]
  cf := none
  fields := #[]
  methods := #[]
  instanceTypes := #[]
  staticTypes := #[]
  resolved := #[]
  callSites := []
  init := .initialized
  statics := none
  mirror := none

def pool0 : Array CpInfo := pool [(5, u "<init>"), (0, u "()V"), (1, .class_ 10), (1, u "java/lang/Object")] 113

def k0c0 : Code := { maxStack := 0, maxLocals := 1, code := object_method_1_code, exceptionTable := #[], attributes := #[] }
def k0m0 : Method := { name := "<init>", desc := "()V", sig := { parameters := [], returnType := none }, accessFlags := 1, code := some k0c0 }
/-- java/lang/Object -/
def k0 : Class := { plain "java/lang/Object" none with
  accessFlags := 33
  interfaces := #[]
  cf := some (fileOf pool0 8 #[] #[{ accessFlags := 1, nameIndex := 5, descriptorIndex := 6, attributes := #[] }] 33 0 #[] #[])
  fields := #[]
  methods := #[k0m0]
  instanceTypes := #[]
  staticTypes := #[]
  resolved := Array.replicate 124 none
  statics := none }

def pool1 : Array CpInfo := pool [(2, .class_ 4), (1, u "java/lang/Object"), (0, u "<init>"), (0, u "()V"), (0, .fieldref 8 9), (0, .class_ 10), (0, .nameAndType 11 12), (0, u "com/example/pathloom/pathloom/Condition$Kind"), (0, u "PRESENT"), (0, u "Lcom/example/pathloom/pathloom/Condition$Kind;"), (0, .fieldref 8 14), (0, .nameAndType 15 12), (0, u "ABSENT"), (0, .fieldref 8 17), (0, .nameAndType 18 12), (0, u "VISIBLE"), (0, .fieldref 8 20), (0, .nameAndType 21 12), (0, u "HIDDEN"), (0, .fieldref 8 23), (0, .nameAndType 24 12), (0, u "CHECKED"), (0, .fieldref 8 26), (0, .nameAndType 27 12), (0, u "UNCHECKED"), (0, .fieldref 8 29), (0, .nameAndType 30 12), (0, u "TEXT"), (0, .fieldref 8 32), (0, .nameAndType 33 12), (0, u "COUNT_EQUALS"), (0, .fieldref 8 35), (0, .nameAndType 36 12), (0, u "COUNT_AT_LEAST"), (0, .fieldref 8 38), (0, .nameAndType 39 12), (0, u "URL"), (0, .fieldref 8 41), (0, .nameAndType 42 12), (0, u "EXPLORED"), (0, .fieldref 8 44), (0, .nameAndType 45 12), (0, u "NOT_EXPLORED"), (0, .integer 2147483647), (0, .class_ 48), (0, u "java/lang/String"), (0, .methodref 47 50), (0, .nameAndType 5 51), (0, u "([C)V"), (0, .methodref 47 53), (0, .nameAndType 54 55), (0, u "valueOf"), (0, u "(C)Ljava/lang/String;"), (0, .class_ 57), (0, u "com/example/pathloom/pathloom/Condition"), (0, .methodref 59 60), (0, .class_ 61), (0, .nameAndType 62 63), (0, u "com/example/pathloom/pathloom/ConditionAboutActionsPinLaw"), (0, u "kindOf"), (0, u "(I)Lcom/example/pathloom/pathloom/Condition$Kind;"), (0, .methodref 56 65), (0, .nameAndType 5 66), (0, u "(Lcom/example/pathloom/pathloom/Condition$Kind;Ljava/lang/String;Ljava/lang/String;)V"), (0, .methodref 56 68), (0, .nameAndType 69 70), (0, u "aboutActions"), (0, u "()Z"), (3, u "law"), (0, u "(III)Z")] 6

def k1m0 : Method := { name := "<init>", desc := "()V", sig := { parameters := [], returnType := none }, accessFlags := 1, code := none }
def k1c1 : Code := { maxStack := 2, maxLocals := 1, code := method_2_code, exceptionTable := #[], attributes := #[] }
def k1m1 : Method := { name := "kindOf", desc := "(I)Lcom/example/pathloom/pathloom/Condition$Kind;", sig := { parameters := [.int], returnType := some (.object "com/example/pathloom/pathloom/Condition$Kind") }, accessFlags := 10, code := some k1c1 }
def k1c2 : Code := { maxStack := 5, maxLocals := 9, code := code, exceptionTable := #[], attributes := #[] }
def k1m2 : Method := { name := "law", desc := "(III)Z", sig := { parameters := [.int, .int, .int], returnType := some .boolean }, accessFlags := 9, code := some k1c2 }
/-- com/example/pathloom/pathloom/ConditionAboutActionsPinLaw -/
def k1 : Class := { plain "com/example/pathloom/pathloom/ConditionAboutActionsPinLaw" (some 0) with
  accessFlags := 49
  interfaces := #[]
  cf := some (fileOf pool1 59 #[] #[{ accessFlags := 1, nameIndex := 5, descriptorIndex := 6, attributes := #[] }, { accessFlags := 10, nameIndex := 62, descriptorIndex := 63, attributes := #[] }, { accessFlags := 9, nameIndex := 74, descriptorIndex := 75, attributes := #[] }] 49 2 #[] #[])
  fields := #[]
  methods := #[k1m0, k1m1, k1m2]
  instanceTypes := #[]
  staticTypes := #[]
  resolved := Array.replicate 82 none
  statics := none }

def pool2 : Array CpInfo := pool [(1, .class_ 2), (0, u "java/io/Serializable"), (0, .class_ 4), (0, u "java/lang/Object")] 2

/-- java/io/Serializable -/
def k2 : Class := { plain "java/io/Serializable" (some 0) with
  accessFlags := 1537
  interfaces := #[]
  cf := some (fileOf pool2 1 #[] #[] 1537 3 #[] #[])
  fields := #[]
  methods := #[]
  instanceTypes := #[]
  staticTypes := #[]
  resolved := Array.replicate 7 none
  statics := none }

def pool3 : Array CpInfo := pool [(1, .class_ 2), (0, u "java/lang/Comparable"), (0, .class_ 4), (0, u "java/lang/Object")] 7

/-- java/lang/Comparable -/
def k3 : Class := { plain "java/lang/Comparable" (some 0) with
  accessFlags := 1537
  interfaces := #[]
  cf := some (fileOf pool3 1 #[] #[] 1537 3 #[] #[])
  fields := #[]
  methods := #[]
  instanceTypes := #[]
  staticTypes := #[]
  resolved := Array.replicate 12 none
  statics := none }

def pool4 : Array CpInfo := pool [(2, .class_ 4), (1, u "java/lang/CharSequence"), (42, .class_ 48), (0, u "java/lang/CharSequence$1CodePointIterator"), (10, .class_ 60), (0, u "java/lang/CharSequence$1CharIterator"), (5, .class_ 67), (0, u "java/lang/Object")] 63

/-- java/lang/CharSequence -/
def k4 : Class := { plain "java/lang/CharSequence" (some 0) with
  accessFlags := 1537
  interfaces := #[]
  cf := some (fileOf pool4 2 #[.nestMembers #[47, 59]] #[] 1537 66 #[] #[])
  fields := #[]
  methods := #[]
  instanceTypes := #[]
  staticTypes := #[]
  resolved := Array.replicate 131 none
  statics := none }

def pool5 : Array CpInfo := pool [(1, .class_ 2), (0, u "java/lang/constant/Constable"), (0, .class_ 4), (0, u "java/lang/Object")] 6

/-- java/lang/constant/Constable -/
def k5 : Class := { plain "java/lang/constant/Constable" (some 0) with
  accessFlags := 1537
  interfaces := #[]
  cf := some (fileOf pool5 1 #[] #[] 1537 3 #[] #[])
  fields := #[]
  methods := #[]
  instanceTypes := #[]
  staticTypes := #[]
  resolved := Array.replicate 11 none
  statics := none }

def pool6 : Array CpInfo := pool [(1, .class_ 2), (0, u "java/lang/constant/ConstantDesc"), (0, .class_ 4), (0, u "java/lang/Object")] 32

/-- java/lang/constant/ConstantDesc -/
def k6 : Class := { plain "java/lang/constant/ConstantDesc" (some 0) with
  accessFlags := 1537
  interfaces := #[]
  cf := some (fileOf pool6 1 #[] #[] 1537 3 #[] #[])
  fields := #[]
  methods := #[]
  instanceTypes := #[]
  staticTypes := #[]
  resolved := Array.replicate 37 none
  statics := none }

def pool7 : Array CpInfo := pool [(1, .methodref 2 3), (0, .class_ 4), (0, .nameAndType 5 6), (0, u "java/lang/Object"), (0, u "<init>"), (0, u "()V"), (2, .fieldref 10 11), (0, .class_ 12), (0, .nameAndType 13 14), (0, u "java/lang/String"), (0, u "value"), (0, u "[B"), (0, .fieldref 10 16), (0, .nameAndType 17 18), (0, u "coder"), (0, u "B"), (2, u "hash"), (0, u "I"), (2, u "hashIsZero"), (0, u "Z"), (0, .methodref 10 28), (0, .nameAndType 5 29), (0, u "([CIILjava/lang/Void;)V"), (8, .fieldref 10 39), (0, .nameAndType 40 26), (0, u "COMPACT_STRINGS"), (1, .class_ 44), (1, u "java/lang/StringUTF16"), (0, u "compress"), (1, .methodref 42 48), (0, .nameAndType 49 50), (0, u "coderFromArrayLen"), (0, u "([BI)B"), (2, u "toBytes"), (53, .class_ 109), (1, u "java/lang/StringLatin1"), (67, .methodref 42 178), (0, .nameAndType 45 179), (0, u "([CII)[B"), (29, .methodref 10 210), (0, .nameAndType 5 211), (0, u "([BB)V"), (157, u "(C)Z"), (205, .class_ 576), (0, u "java/lang/CharSequence"), (22, u "CASE_INSENSITIVE_ORDER"), (0, u "Ljava/util/Comparator;"), (181, u "valueOf"), (0, u "(C)Ljava/lang/String;"), (226, u "([C)V"), (4, .methodref 107 1016), (0, .nameAndType 1017 369), (0, u "canEncode"), (0, .methodref 107 1019), (0, .nameAndType 53 1020), (0, u "(C)[B"), (80, u "serialPersistentFields"), (0, u "[Ljava/io/ObjectStreamField;"), (0, .class_ 1104), (0, u "java/lang/String$CaseInsensitiveComparator"), (1, .class_ 1107), (0, u "java/io/Serializable"), (0, .class_ 1109), (0, u "java/lang/Comparable"), (0, .class_ 1111), (0, u "java/lang/constant/Constable"), (0, .class_ 1113), (0, u "java/lang/constant/ConstantDesc"), (2, u "serialVersionUID"), (0, u "J"), (3, u "REPL"), (0, u "C"), (2, u "LATIN1"), (1, u "UTF16")] 323

def k7m0 : Method := { name := "<init>", desc := "()V", sig := { parameters := [], returnType := none }, accessFlags := 1, code := none }
def k7c1 : Code := { maxStack := 5, maxLocals := 2, code := jdk_42_method_3_code, exceptionTable := #[], attributes := #[] }
def k7m1 : Method := { name := "<init>", desc := "([C)V", sig := { parameters := [(.array .char)], returnType := none }, accessFlags := 1, code := some k7c1 }
def k7c2 : Code := { maxStack := 4, maxLocals := 1, code := jdk_42_method_139_code, exceptionTable := #[], attributes := #[] }
def k7m2 : Method := { name := "valueOf", desc := "(C)Ljava/lang/String;", sig := { parameters := [.char], returnType := some (.object "java/lang/String") }, accessFlags := 9, code := some k7c2 }
def k7c3 : Code := { maxStack := 4, maxLocals := 6, code := jdk_42_method_149_code, exceptionTable := #[], attributes := #[] }
def k7m3 : Method := { name := "<init>", desc := "([CIILjava/lang/Void;)V", sig := { parameters := [(.array .char), .int, .int, (.object "java/lang/Void")], returnType := none }, accessFlags := 2, code := some k7c3 }
def k7c4 : Code := { maxStack := 2, maxLocals := 3, code := jdk_42_method_151_code, exceptionTable := #[], attributes := #[] }
def k7m4 : Method := { name := "<init>", desc := "([BB)V", sig := { parameters := [(.array .byte), .byte], returnType := none }, accessFlags := 0, code := some k7c4 }
/-- java/lang/String -/
def k7 : Class := { plain "java/lang/String" (some 0) with
  accessFlags := 49
  interfaces := #[2, 3, 4, 5, 6]
  cf := some (fileOf pool7 10 #[.nestMembers #[1103]] #[{ accessFlags := 1, nameIndex := 5, descriptorIndex := 6, attributes := #[] }, { accessFlags := 1, nameIndex := 5, descriptorIndex := 1010, attributes := #[] }, { accessFlags := 9, nameIndex := 782, descriptorIndex := 783, attributes := #[] }, { accessFlags := 2, nameIndex := 5, descriptorIndex := 29, attributes := #[] }, { accessFlags := 0, nameIndex := 5, descriptorIndex := 211, attributes := #[] }] 49 2 #[1106, 1108, 575, 1110, 1112] #[{ accessFlags := 18, nameIndex := 13, descriptorIndex := 14, attributes := #[] }, { accessFlags := 18, nameIndex := 17, descriptorIndex := 18, attributes := #[] }, { accessFlags := 2, nameIndex := 21, descriptorIndex := 22, attributes := #[] }, { accessFlags := 2, nameIndex := 25, descriptorIndex := 26, attributes := #[] }, { accessFlags := 26, nameIndex := 1116, descriptorIndex := 1117, attributes := #[] }, { accessFlags := 24, nameIndex := 40, descriptorIndex := 26, attributes := #[] }, { accessFlags := 26, nameIndex := 1101, descriptorIndex := 1102, attributes := #[] }, { accessFlags := 26, nameIndex := 1121, descriptorIndex := 1122, attributes := #[] }, { accessFlags := 25, nameIndex := 599, descriptorIndex := 600, attributes := #[] }, { accessFlags := 24, nameIndex := 1125, descriptorIndex := 18, attributes := #[] }, { accessFlags := 24, nameIndex := 1127, descriptorIndex := 18, attributes := #[] }])
  fields := #[{ name := "value", type := (.array .byte), accessFlags := 18, slot := 0, constantValue := 0 }, { name := "coder", type := .byte, accessFlags := 18, slot := 1, constantValue := 0 }, { name := "hash", type := .int, accessFlags := 2, slot := 2, constantValue := 0 }, { name := "hashIsZero", type := .boolean, accessFlags := 2, slot := 3, constantValue := 0 }, { name := "serialVersionUID", type := .long, accessFlags := 26, slot := 0, constantValue := 0 }, { name := "COMPACT_STRINGS", type := .boolean, accessFlags := 24, slot := 1, constantValue := 0 }, { name := "serialPersistentFields", type := (.array (.object "java/io/ObjectStreamField")), accessFlags := 26, slot := 2, constantValue := 0 }, { name := "REPL", type := .char, accessFlags := 26, slot := 3, constantValue := 0 }, { name := "CASE_INSENSITIVE_ORDER", type := (.object "java/util/Comparator"), accessFlags := 25, slot := 4, constantValue := 0 }, { name := "LATIN1", type := .byte, accessFlags := 24, slot := 5, constantValue := 0 }, { name := "UTF16", type := .byte, accessFlags := 24, slot := 6, constantValue := 0 }]
  methods := #[k7m0, k7m1, k7m2, k7m3, k7m4]
  instanceTypes := #[(.array .byte), .byte, .int, .boolean]
  staticTypes := #[.long, .boolean, (.array (.object "java/io/ObjectStreamField")), .char, (.object "java/util/Comparator"), .byte, .byte]
  resolved := Array.replicate 1451 none
  statics := some 0 }

def pool8 : Array CpInfo := pool [(6, .class_ 8), (1, u "java/lang/Object"), (0, u "<init>"), (0, u "()V"), (1, .class_ 14), (1, u "java/lang/StringUTF16"), (31, u "$assertionsDisabled"), (0, u "Z"), (13, u "HI_BYTE_SHIFT"), (0, u "I"), (2, u "LO_BYTE_SHIFT"), (49, .methodref 12 116), (0, .nameAndType 117 118), (0, u "compress"), (0, u "([CI[BII)I"), (3, u "([CII)[B"), (138, u "coderFromArrayLen"), (0, u "([BI)B"), (106, .class_ 371), (1, u "java/lang/StringUTF16$LinesSpliterator"), (58, u "MAX_LENGTH"), (196, .class_ 628), (0, u "java/lang/StringUTF16$CodePointsSpliterator"), (0, .class_ 630), (0, u "java/lang/StringUTF16$CharsSpliterator")] 4

def k8m0 : Method := { name := "<init>", desc := "()V", sig := { parameters := [], returnType := none }, accessFlags := 0, code := none }
def k8c1 : Code := { maxStack := 2, maxLocals := 2, code := jdk_52_method_15_code, exceptionTable := #[], attributes := #[] }
def k8m1 : Method := { name := "coderFromArrayLen", desc := "([BI)B", sig := { parameters := [(.array .byte), .int], returnType := some .byte }, accessFlags := 8, code := some k8c1 }
def k8c2 : Code := { maxStack := 5, maxLocals := 6, code := jdk_52_method_16_code, exceptionTable := #[], attributes := #[] }
def k8m2 : Method := { name := "compress", desc := "([CII)[B", sig := { parameters := [(.array .char), .int, .int], returnType := some (.array .byte) }, accessFlags := 9, code := some k8c2 }
def k8c3 : Code := { maxStack := 3, maxLocals := 7, code := jdk_52_method_21_code, exceptionTable := #[], attributes := #[] }
def k8m3 : Method := { name := "compress", desc := "([CI[BII)I", sig := { parameters := [(.array .char), .int, (.array .byte), .int, .int], returnType := some .int }, accessFlags := 9, code := some k8c3 }
/-- java/lang/StringUTF16 -/
def k8 : Class := { plain "java/lang/StringUTF16" (some 0) with
  accessFlags := 48
  interfaces := #[]
  cf := some (fileOf pool8 12 #[.nestMembers #[627, 629, 369]] #[{ accessFlags := 0, nameIndex := 9, descriptorIndex := 10, attributes := #[] }, { accessFlags := 8, nameIndex := 261, descriptorIndex := 262, attributes := #[] }, { accessFlags := 9, nameIndex := 117, descriptorIndex := 122, attributes := #[] }, { accessFlags := 9, nameIndex := 117, descriptorIndex := 118, attributes := #[] }] 48 6 #[] #[{ accessFlags := 26, nameIndex := 61, descriptorIndex := 62, attributes := #[] }, { accessFlags := 26, nameIndex := 65, descriptorIndex := 62, attributes := #[] }, { accessFlags := 24, nameIndex := 430, descriptorIndex := 62, attributes := #[] }, { accessFlags := 4120, nameIndex := 46, descriptorIndex := 47, attributes := #[] }])
  fields := #[{ name := "HI_BYTE_SHIFT", type := .int, accessFlags := 26, slot := 0, constantValue := 0 }, { name := "LO_BYTE_SHIFT", type := .int, accessFlags := 26, slot := 1, constantValue := 0 }, { name := "MAX_LENGTH", type := .int, accessFlags := 24, slot := 2, constantValue := 0 }, { name := "$assertionsDisabled", type := .boolean, accessFlags := 4120, slot := 3, constantValue := 0 }]
  methods := #[k8m0, k8m1, k8m2, k8m3]
  instanceTypes := #[]
  staticTypes := #[.int, .int, .int, .boolean]
  resolved := Array.replicate 635 none
  statics := none }

def pool9 : Array CpInfo := pool [(4, .class_ 6), (1, u "java/lang/Object"), (0, u "<init>"), (0, u "()V"), (5, .class_ 16), (1, u "java/lang/StringLatin1"), (73, u "canEncode"), (14, u "(C)Z"), (15, u "$assertionsDisabled"), (0, u "Z"), (98, .class_ 223), (1, u "java/lang/StringLatin1$LinesSpliterator"), (156, u "toBytes"), (1, u "(C)[B"), (7, .class_ 391), (0, u "java/lang/StringLatin1$CharsSpliterator")] 3

def k9m0 : Method := { name := "<init>", desc := "()V", sig := { parameters := [], returnType := none }, accessFlags := 0, code := none }
def k9c1 : Code := { maxStack := 2, maxLocals := 1, code := jdk_43_method_3_code, exceptionTable := #[], attributes := #[] }
def k9m1 : Method := { name := "canEncode", desc := "(C)Z", sig := { parameters := [.char], returnType := some .boolean }, accessFlags := 9, code := some k9c1 }
def k9c2 : Code := { maxStack := 4, maxLocals := 1, code := jdk_43_method_46_code, exceptionTable := #[], attributes := #[] }
def k9m2 : Method := { name := "toBytes", desc := "(C)[B", sig := { parameters := [.char], returnType := some (.array .byte) }, accessFlags := 9, code := some k9c2 }
/-- java/lang/StringLatin1 -/
def k9 : Class := { plain "java/lang/StringLatin1" (some 0) with
  accessFlags := 48
  interfaces := #[]
  cf := some (fileOf pool9 14 #[.nestMembers #[390, 221]] #[{ accessFlags := 0, nameIndex := 7, descriptorIndex := 8, attributes := #[] }, { accessFlags := 9, nameIndex := 90, descriptorIndex := 105, attributes := #[] }, { accessFlags := 9, nameIndex := 380, descriptorIndex := 382, attributes := #[] }] 48 4 #[] #[{ accessFlags := 4120, nameIndex := 121, descriptorIndex := 122, attributes := #[] }])
  fields := #[{ name := "$assertionsDisabled", type := .boolean, accessFlags := 4120, slot := 0, constantValue := 0 }]
  methods := #[k9m0, k9m1, k9m2]
  instanceTypes := #[]
  staticTypes := #[.boolean]
  resolved := Array.replicate 395 none
  statics := none }

def pool10 : Array CpInfo := pool [(1, .methodref 2 3), (0, .class_ 4), (0, .nameAndType 5 6), (0, u "java/lang/Object"), (0, u "<init>"), (0, u "()V"), (0, .class_ 8), (0, u "java/lang/Record")] 13

def k10c0 : Code := { maxStack := 1, maxLocals := 1, code := jdk_30_method_1_code, exceptionTable := #[], attributes := #[] }
def k10m0 : Method := { name := "<init>", desc := "()V", sig := { parameters := [], returnType := none }, accessFlags := 4, code := some k10c0 }
/-- java/lang/Record -/
def k10 : Class := { plain "java/lang/Record" (some 0) with
  accessFlags := 1057
  interfaces := #[]
  cf := some (fileOf pool10 7 #[] #[{ accessFlags := 4, nameIndex := 5, descriptorIndex := 6, attributes := #[] }] 1057 2 #[] #[])
  fields := #[]
  methods := #[k10m0]
  instanceTypes := #[]
  staticTypes := #[]
  resolved := Array.replicate 22 none
  statics := none }

def pool11 : Array CpInfo := pool [(1, .methodref 2 3), (0, .class_ 4), (0, .nameAndType 5 6), (0, u "java/lang/Record"), (0, u "<init>"), (0, u "()V"), (0, .string 8), (0, u "kind"), (0, .methodref 10 11), (0, .class_ 12), (0, .nameAndType 13 14), (0, u "java/util/Objects"), (0, u "requireNonNull"), (0, u "(Ljava/lang/Object;Ljava/lang/String;)Ljava/lang/Object;"), (0, .string 16), (0, u "subject"), (0, .string 18), (0, u "expected"), (0, .fieldref 20 21), (0, .class_ 22), (0, .nameAndType 8 23), (0, u "com/example/pathloom/pathloom/Condition"), (0, u "Lcom/example/pathloom/pathloom/Condition$Kind;"), (0, .fieldref 20 25), (0, .nameAndType 16 26), (0, u "Ljava/lang/String;"), (0, .fieldref 20 28), (0, .nameAndType 18 26), (1, .class_ 32), (1, u "com/example/pathloom/pathloom/Condition$Kind"), (2, .fieldref 30 36), (0, .nameAndType 37 23), (0, u "EXPLORED"), (0, .fieldref 30 39), (0, .nameAndType 40 23), (0, u "NOT_EXPLORED"), (2, u "aboutActions"), (0, u "()Z"), (16, .class_ 63), (1, u "com/example/pathloom/pathloom/Condition$Status"), (66, u "VISIBILITY_WAIT_MS"), (1, u "(Lcom/example/pathloom/pathloom/Condition$Kind;Ljava/lang/String;Ljava/lang/String;)V")] 51

def k11c0 : Code := { maxStack := 2, maxLocals := 4, code := prog_7_method_1_code, exceptionTable := #[], attributes := #[] }
def k11m0 : Method := { name := "<init>", desc := "(Lcom/example/pathloom/pathloom/Condition$Kind;Ljava/lang/String;Ljava/lang/String;)V", sig := { parameters := [(.object "com/example/pathloom/pathloom/Condition$Kind"), (.object "java/lang/String"), (.object "java/lang/String")], returnType := none }, accessFlags := 1, code := some k11c0 }
def k11c1 : Code := { maxStack := 2, maxLocals := 1, code := prog_7_method_3_code, exceptionTable := #[], attributes := #[] }
def k11m1 : Method := { name := "aboutActions", desc := "()Z", sig := { parameters := [], returnType := some .boolean }, accessFlags := 1, code := some k11c1 }
/-- com/example/pathloom/pathloom/Condition -/
def k11 : Class := { plain "com/example/pathloom/pathloom/Condition" (some 10) with
  accessFlags := 49
  interfaces := #[]
  cf := some (fileOf pool11 20 #[.nestMembers #[61, 30]] #[{ accessFlags := 1, nameIndex := 5, descriptorIndex := 132, attributes := #[] }, { accessFlags := 1, nameIndex := 43, descriptorIndex := 44, attributes := #[] }] 49 2 #[] #[{ accessFlags := 18, nameIndex := 8, descriptorIndex := 23, attributes := #[] }, { accessFlags := 18, nameIndex := 16, descriptorIndex := 26, attributes := #[] }, { accessFlags := 18, nameIndex := 18, descriptorIndex := 26, attributes := #[] }, { accessFlags := 24, nameIndex := 130, descriptorIndex := 26, attributes := #[] }])
  fields := #[{ name := "kind", type := (.object "com/example/pathloom/pathloom/Condition$Kind"), accessFlags := 18, slot := 0, constantValue := 0 }, { name := "subject", type := (.object "java/lang/String"), accessFlags := 18, slot := 1, constantValue := 0 }, { name := "expected", type := (.object "java/lang/String"), accessFlags := 18, slot := 2, constantValue := 0 }, { name := "VISIBILITY_WAIT_MS", type := (.object "java/lang/String"), accessFlags := 24, slot := 0, constantValue := 0 }]
  methods := #[k11m0, k11m1]
  instanceTypes := #[(.object "com/example/pathloom/pathloom/Condition$Kind"), (.object "java/lang/String"), (.object "java/lang/String")]
  staticTypes := #[(.object "java/lang/String")]
  resolved := Array.replicate 184 none
  statics := none }

def pool12 : Array CpInfo := pool [(2, .class_ 4), (1, u "java/lang/Enum"), (0, u "name"), (0, u "Ljava/lang/String;"), (2, u "ordinal"), (0, u "I"), (1, .class_ 14), (1, u "java/lang/Object"), (4, u "hash"), (86, .class_ 108), (1, u "java/lang/Enum$EnumDesc"), (2, .class_ 112), (0, u "java/lang/constant/Constable"), (0, .class_ 114), (0, u "java/lang/Comparable"), (0, .class_ 116), (0, u "java/io/Serializable")] 87

/-- java/lang/Enum -/
def k12 : Class := { plain "java/lang/Enum" (some 0) with
  accessFlags := 1057
  interfaces := #[5, 3, 2]
  cf := some (fileOf pool12 2 #[.nestMembers #[106]] #[] 1057 12 #[111, 113, 115] #[{ accessFlags := 18, nameIndex := 5, descriptorIndex := 6, attributes := #[] }, { accessFlags := 18, nameIndex := 9, descriptorIndex := 10, attributes := #[] }, { accessFlags := 2, nameIndex := 19, descriptorIndex := 10, attributes := #[] }])
  fields := #[{ name := "name", type := (.object "java/lang/String"), accessFlags := 18, slot := 0, constantValue := 0 }, { name := "ordinal", type := .int, accessFlags := 18, slot := 1, constantValue := 0 }, { name := "hash", type := .int, accessFlags := 2, slot := 2, constantValue := 0 }]
  methods := #[]
  instanceTypes := #[(.object "java/lang/String"), .int, .int]
  staticTypes := #[]
  resolved := Array.replicate 204 none
  statics := none }

def pool13 : Array CpInfo := pool [(1, .class_ 2), (0, u "com/example/pathloom/pathloom/Condition$Kind"), (2, u "PRESENT"), (0, u "Lcom/example/pathloom/pathloom/Condition$Kind;"), (2, u "ABSENT"), (2, u "VISIBLE"), (2, u "HIDDEN"), (2, u "CHECKED"), (2, u "UNCHECKED"), (2, u "TEXT"), (2, u "COUNT_EQUALS"), (2, u "COUNT_AT_LEAST"), (2, u "URL"), (2, u "EXPLORED"), (2, u "NOT_EXPLORED"), (2, u "$VALUES"), (0, u "[Lcom/example/pathloom/pathloom/Condition$Kind;"), (6, .class_ 52), (1, u "java/lang/Enum"), (8, u "key"), (0, u "Ljava/lang/String;"), (2, u "alwaysEvaluable"), (0, u "Z"), (55, .class_ 123), (0, u "com/example/pathloom/pathloom/Condition")] 2

/-- com/example/pathloom/pathloom/Condition$Kind -/
def k13 : Class := { plain "com/example/pathloom/pathloom/Condition$Kind" (some 12) with
  accessFlags := 16433
  interfaces := #[]
  cf := some (fileOf pool13 1 #[.nestHost 122] #[] 16433 50 #[] #[{ accessFlags := 16409, nameIndex := 5, descriptorIndex := 6, attributes := #[] }, { accessFlags := 16409, nameIndex := 9, descriptorIndex := 6, attributes := #[] }, { accessFlags := 16409, nameIndex := 12, descriptorIndex := 6, attributes := #[] }, { accessFlags := 16409, nameIndex := 15, descriptorIndex := 6, attributes := #[] }, { accessFlags := 16409, nameIndex := 18, descriptorIndex := 6, attributes := #[] }, { accessFlags := 16409, nameIndex := 21, descriptorIndex := 6, attributes := #[] }, { accessFlags := 16409, nameIndex := 24, descriptorIndex := 6, attributes := #[] }, { accessFlags := 16409, nameIndex := 27, descriptorIndex := 6, attributes := #[] }, { accessFlags := 16409, nameIndex := 30, descriptorIndex := 6, attributes := #[] }, { accessFlags := 16409, nameIndex := 33, descriptorIndex := 6, attributes := #[] }, { accessFlags := 16409, nameIndex := 36, descriptorIndex := 6, attributes := #[] }, { accessFlags := 16409, nameIndex := 39, descriptorIndex := 6, attributes := #[] }, { accessFlags := 18, nameIndex := 61, descriptorIndex := 62, attributes := #[] }, { accessFlags := 18, nameIndex := 65, descriptorIndex := 66, attributes := #[] }, { accessFlags := 4122, nameIndex := 42, descriptorIndex := 43, attributes := #[] }])
  fields := #[{ name := "PRESENT", type := (.object "com/example/pathloom/pathloom/Condition$Kind"), accessFlags := 16409, slot := 0, constantValue := 0 }, { name := "ABSENT", type := (.object "com/example/pathloom/pathloom/Condition$Kind"), accessFlags := 16409, slot := 1, constantValue := 0 }, { name := "VISIBLE", type := (.object "com/example/pathloom/pathloom/Condition$Kind"), accessFlags := 16409, slot := 2, constantValue := 0 }, { name := "HIDDEN", type := (.object "com/example/pathloom/pathloom/Condition$Kind"), accessFlags := 16409, slot := 3, constantValue := 0 }, { name := "CHECKED", type := (.object "com/example/pathloom/pathloom/Condition$Kind"), accessFlags := 16409, slot := 4, constantValue := 0 }, { name := "UNCHECKED", type := (.object "com/example/pathloom/pathloom/Condition$Kind"), accessFlags := 16409, slot := 5, constantValue := 0 }, { name := "TEXT", type := (.object "com/example/pathloom/pathloom/Condition$Kind"), accessFlags := 16409, slot := 6, constantValue := 0 }, { name := "COUNT_EQUALS", type := (.object "com/example/pathloom/pathloom/Condition$Kind"), accessFlags := 16409, slot := 7, constantValue := 0 }, { name := "COUNT_AT_LEAST", type := (.object "com/example/pathloom/pathloom/Condition$Kind"), accessFlags := 16409, slot := 8, constantValue := 0 }, { name := "URL", type := (.object "com/example/pathloom/pathloom/Condition$Kind"), accessFlags := 16409, slot := 9, constantValue := 0 }, { name := "EXPLORED", type := (.object "com/example/pathloom/pathloom/Condition$Kind"), accessFlags := 16409, slot := 10, constantValue := 0 }, { name := "NOT_EXPLORED", type := (.object "com/example/pathloom/pathloom/Condition$Kind"), accessFlags := 16409, slot := 11, constantValue := 0 }, { name := "key", type := (.object "java/lang/String"), accessFlags := 18, slot := 3, constantValue := 0 }, { name := "alwaysEvaluable", type := .boolean, accessFlags := 18, slot := 4, constantValue := 0 }, { name := "$VALUES", type := (.array (.object "com/example/pathloom/pathloom/Condition$Kind")), accessFlags := 4122, slot := 12, constantValue := 0 }]
  methods := #[]
  instanceTypes := #[(.object "java/lang/String"), .int, .int, (.object "java/lang/String"), .boolean]
  staticTypes := #[(.object "com/example/pathloom/pathloom/Condition$Kind"), (.object "com/example/pathloom/pathloom/Condition$Kind"), (.object "com/example/pathloom/pathloom/Condition$Kind"), (.object "com/example/pathloom/pathloom/Condition$Kind"), (.object "com/example/pathloom/pathloom/Condition$Kind"), (.object "com/example/pathloom/pathloom/Condition$Kind"), (.object "com/example/pathloom/pathloom/Condition$Kind"), (.object "com/example/pathloom/pathloom/Condition$Kind"), (.object "com/example/pathloom/pathloom/Condition$Kind"), (.object "com/example/pathloom/pathloom/Condition$Kind"), (.object "com/example/pathloom/pathloom/Condition$Kind"), (.object "com/example/pathloom/pathloom/Condition$Kind"), (.array (.object "com/example/pathloom/pathloom/Condition$Kind"))]
  resolved := Array.replicate 126 none
  statics := some 1 }

def pool14 : Array CpInfo := pool [(2, .class_ 4), (1, u "java/lang/Object"), (0, u "<init>"), (0, u "()V"), (35, .class_ 44), (1, u "java/util/Objects"), (0, u "requireNonNull"), (48, u "(Ljava/lang/Object;Ljava/lang/String;)Ljava/lang/Object;")] 89

def k14m0 : Method := { name := "<init>", desc := "()V", sig := { parameters := [], returnType := none }, accessFlags := 2, code := none }
def k14c1 : Code := { maxStack := 3, maxLocals := 2, code := jdk_31_method_11_code, exceptionTable := #[], attributes := #[] }
def k14m1 : Method := { name := "requireNonNull", desc := "(Ljava/lang/Object;Ljava/lang/String;)Ljava/lang/Object;", sig := { parameters := [(.object "java/lang/Object"), (.object "java/lang/String")], returnType := some (.object "java/lang/Object") }, accessFlags := 9, code := some k14c1 }
/-- java/util/Objects -/
def k14 : Class := { plain "java/util/Objects" (some 0) with
  accessFlags := 49
  interfaces := #[]
  cf := some (fileOf pool14 42 #[] #[{ accessFlags := 2, nameIndex := 5, descriptorIndex := 6, attributes := #[] }, { accessFlags := 9, nameIndex := 45, descriptorIndex := 94, attributes := #[] }] 49 2 #[] #[])
  fields := #[]
  methods := #[k14m0, k14m1]
  instanceTypes := #[]
  staticTypes := #[]
  resolved := Array.replicate 184 none
  statics := none }

def pool15 : Array CpInfo := pool [(2, .class_ 4), (1, u "java/lang/Object"), (0, u "<init>"), (0, u "()V"), (17, .class_ 26), (1, u "jdk/internal/util/Preconditions"), (28, .class_ 56), (0, u "jdk/internal/util/Preconditions$4"), (57, .class_ 115), (0, u "jdk/internal/util/Preconditions$1"), (7, u "SIOOBE_FORMATTER"), (0, u "Ljava/util/function/BiFunction;"), (0, .class_ 126), (0, u "jdk/internal/util/Preconditions$2"), (3, u "AIOOBE_FORMATTER"), (0, .class_ 132), (0, u "jdk/internal/util/Preconditions$3"), (3, u "IOOBE_FORMATTER")] 57

def k15m0 : Method := { name := "<init>", desc := "()V", sig := { parameters := [], returnType := none }, accessFlags := 1, code := none }
/-- jdk/internal/util/Preconditions -/
def k15 : Class := { plain "jdk/internal/util/Preconditions" (some 0) with
  accessFlags := 33
  interfaces := #[]
  cf := some (fileOf pool15 24 #[.nestMembers #[55, 131, 125, 114]] #[{ accessFlags := 1, nameIndex := 5, descriptorIndex := 6, attributes := #[] }] 33 2 #[] #[{ accessFlags := 25, nameIndex := 123, descriptorIndex := 124, attributes := #[] }, { accessFlags := 25, nameIndex := 130, descriptorIndex := 124, attributes := #[] }, { accessFlags := 25, nameIndex := 136, descriptorIndex := 124, attributes := #[] }])
  fields := #[{ name := "SIOOBE_FORMATTER", type := (.object "java/util/function/BiFunction"), accessFlags := 25, slot := 0, constantValue := 0 }, { name := "AIOOBE_FORMATTER", type := (.object "java/util/function/BiFunction"), accessFlags := 25, slot := 1, constantValue := 0 }, { name := "IOOBE_FORMATTER", type := (.object "java/util/function/BiFunction"), accessFlags := 25, slot := 2, constantValue := 0 }]
  methods := #[k15m0]
  instanceTypes := #[]
  staticTypes := #[(.object "java/util/function/BiFunction"), (.object "java/util/function/BiFunction"), (.object "java/util/function/BiFunction")]
  resolved := Array.replicate 194 none
  statics := some 2 }

def pool16 : Array CpInfo := pool [(9, u "<init>"), (6, .class_ 18), (1, u "java/lang/Object"), (0, u "()V"), (1, .class_ 23), (1, u "jdk/internal/util/ArraysSupport"), (0, u "LOG2_ARRAY_LONG_INDEX_SCALE"), (0, u "I"), (2, u "U"), (0, u "Ljdk/internal/misc/Unsafe;"), (8, u "BIG_ENDIAN"), (0, u "Z"), (8, u "LOG2_BYTE_BIT_SIZE"), (4, u "LOG2_ARRAY_INT_INDEX_SCALE"), (54, u "JLA"), (0, u "Ljdk/internal/access/JavaLangAccess;"), (11, u "LOG2_ARRAY_BOOLEAN_INDEX_SCALE"), (9, u "LOG2_ARRAY_BYTE_INDEX_SCALE"), (5, u "LOG2_ARRAY_CHAR_INDEX_SCALE"), (5, u "LOG2_ARRAY_SHORT_INDEX_SCALE"), (18, u "LOG2_ARRAY_FLOAT_INDEX_SCALE"), (24, u "LOG2_ARRAY_DOUBLE_INDEX_SCALE"), (89, u "T_BOOLEAN"), (2, u "T_CHAR"), (1, u "T_FLOAT"), (1, u "T_DOUBLE"), (1, u "T_BYTE"), (1, u "T_SHORT"), (1, u "T_INT"), (1, u "T_LONG"), (1, u "SOFT_MAX_ARRAY_LENGTH")] 83

def k16m0 : Method := { name := "<init>", desc := "()V", sig := { parameters := [], returnType := none }, accessFlags := 2, code := none }
/-- jdk/internal/util/ArraysSupport -/
def k16 : Class := { plain "jdk/internal/util/ArraysSupport" (some 0) with
  accessFlags := 33
  interfaces := #[]
  cf := some (fileOf pool16 21 #[] #[{ accessFlags := 2, nameIndex := 9, descriptorIndex := 19, attributes := #[] }] 33 16 #[] #[{ accessFlags := 24, nameIndex := 28, descriptorIndex := 29, attributes := #[] }, { accessFlags := 26, nameIndex := 38, descriptorIndex := 39, attributes := #[] }, { accessFlags := 25, nameIndex := 121, descriptorIndex := 25, attributes := #[] }, { accessFlags := 25, nameIndex := 131, descriptorIndex := 25, attributes := #[] }, { accessFlags := 25, nameIndex := 137, descriptorIndex := 25, attributes := #[] }, { accessFlags := 25, nameIndex := 143, descriptorIndex := 25, attributes := #[] }, { accessFlags := 25, nameIndex := 53, descriptorIndex := 25, attributes := #[] }, { accessFlags := 25, nameIndex := 24, descriptorIndex := 25, attributes := #[] }, { accessFlags := 25, nameIndex := 162, descriptorIndex := 25, attributes := #[] }, { accessFlags := 25, nameIndex := 187, descriptorIndex := 25, attributes := #[] }, { accessFlags := 26, nameIndex := 48, descriptorIndex := 25, attributes := #[] }, { accessFlags := 25, nameIndex := 277, descriptorIndex := 25, attributes := #[] }, { accessFlags := 25, nameIndex := 280, descriptorIndex := 25, attributes := #[] }, { accessFlags := 25, nameIndex := 282, descriptorIndex := 25, attributes := #[] }, { accessFlags := 25, nameIndex := 284, descriptorIndex := 25, attributes := #[] }, { accessFlags := 25, nameIndex := 286, descriptorIndex := 25, attributes := #[] }, { accessFlags := 25, nameIndex := 288, descriptorIndex := 25, attributes := #[] }, { accessFlags := 25, nameIndex := 290, descriptorIndex := 25, attributes := #[] }, { accessFlags := 25, nameIndex := 292, descriptorIndex := 25, attributes := #[] }, { accessFlags := 26, nameIndex := 108, descriptorIndex := 109, attributes := #[] }, { accessFlags := 25, nameIndex := 294, descriptorIndex := 25, attributes := #[] }])
  fields := #[{ name := "U", type := (.object "jdk/internal/misc/Unsafe"), accessFlags := 24, slot := 0, constantValue := 0 }, { name := "BIG_ENDIAN", type := .boolean, accessFlags := 26, slot := 1, constantValue := 0 }, { name := "LOG2_ARRAY_BOOLEAN_INDEX_SCALE", type := .int, accessFlags := 25, slot := 2, constantValue := 0 }, { name := "LOG2_ARRAY_BYTE_INDEX_SCALE", type := .int, accessFlags := 25, slot := 3, constantValue := 0 }, { name := "LOG2_ARRAY_CHAR_INDEX_SCALE", type := .int, accessFlags := 25, slot := 4, constantValue := 0 }, { name := "LOG2_ARRAY_SHORT_INDEX_SCALE", type := .int, accessFlags := 25, slot := 5, constantValue := 0 }, { name := "LOG2_ARRAY_INT_INDEX_SCALE", type := .int, accessFlags := 25, slot := 6, constantValue := 0 }, { name := "LOG2_ARRAY_LONG_INDEX_SCALE", type := .int, accessFlags := 25, slot := 7, constantValue := 0 }, { name := "LOG2_ARRAY_FLOAT_INDEX_SCALE", type := .int, accessFlags := 25, slot := 8, constantValue := 0 }, { name := "LOG2_ARRAY_DOUBLE_INDEX_SCALE", type := .int, accessFlags := 25, slot := 9, constantValue := 0 }, { name := "LOG2_BYTE_BIT_SIZE", type := .int, accessFlags := 26, slot := 10, constantValue := 0 }, { name := "T_BOOLEAN", type := .int, accessFlags := 25, slot := 11, constantValue := 0 }, { name := "T_CHAR", type := .int, accessFlags := 25, slot := 12, constantValue := 0 }, { name := "T_FLOAT", type := .int, accessFlags := 25, slot := 13, constantValue := 0 }, { name := "T_DOUBLE", type := .int, accessFlags := 25, slot := 14, constantValue := 0 }, { name := "T_BYTE", type := .int, accessFlags := 25, slot := 15, constantValue := 0 }, { name := "T_SHORT", type := .int, accessFlags := 25, slot := 16, constantValue := 0 }, { name := "T_INT", type := .int, accessFlags := 25, slot := 17, constantValue := 0 }, { name := "T_LONG", type := .int, accessFlags := 25, slot := 18, constantValue := 0 }, { name := "JLA", type := (.object "jdk/internal/access/JavaLangAccess"), accessFlags := 26, slot := 19, constantValue := 0 }, { name := "SOFT_MAX_ARRAY_LENGTH", type := .int, accessFlags := 25, slot := 20, constantValue := 0 }]
  methods := #[k16m0]
  instanceTypes := #[]
  staticTypes := #[(.object "jdk/internal/misc/Unsafe"), .boolean, .int, .int, .int, .int, .int, .int, .int, .int, .int, .int, .int, .int, .int, .int, .int, .int, .int, (.object "jdk/internal/access/JavaLangAccess"), .int]
  resolved := Array.replicate 378 none
  statics := none }

def pool17 : Array CpInfo := pool [(1, u "java/lang/Cloneable"), (0, .class_ 1), (0, u "java/lang/Object"), (0, .class_ 3)] 3

/-- java/lang/Cloneable -/
def k17 : Class := { plain "java/lang/Cloneable" (some 0) with
  accessFlags := 1537
  interfaces := #[]
  cf := some (fileOf pool17 2 #[] #[] 1537 4 #[] #[])
  fields := #[]
  methods := #[]
  instanceTypes := #[]
  staticTypes := #[]
  resolved := Array.replicate 8 none
  statics := none }

/-- the primitive byte -/
def k18 : Class := { plain "byte" none with kind := .primitive 'B', accessFlags := 0x411 }
/-- [B -/
def k19 : Class := { plain "[B" (some 0) with kind := .array 18 .byte, interfaces := #[17, 2], accessFlags := 1041 }

/-- the primitive char -/
def k20 : Class := { plain "char" none with kind := .primitive 'C', accessFlags := 0x411 }
/-- [C -/
def k21 : Class := { plain "[C" (some 0) with kind := .array 20 .char, interfaces := #[17, 2], accessFlags := 1041 }

/-- the primitive int -/
def k22 : Class := { plain "int" none with kind := .primitive 'I', accessFlags := 0x411 }
/-- [I -/
def k23 : Class := { plain "[I" (some 0) with kind := .array 22 .int, interfaces := #[17, 2], accessFlags := 1041 }

def heap : Heap := #[{ cls := 7, slots := #[.long 0, .int 1, .null, .int 0, .null, .int 0, .int 0], vm := .statics 7 },
  { cls := 13, slots := #[.ref 3, .ref 6, .ref 13, .ref 10, .ref 11, .ref 12, .ref 8, .ref 9, .ref 7, .ref 14, .ref 4, .ref 5, .null], vm := .statics 13 },
  { cls := 15, slots := #[.null, .null, .null], vm := .statics 15 },
  { cls := 13, slots := #[.null, .int 0, .int 0, .null, .int 0], vm := .none },
  { cls := 13, slots := #[.null, .int 10, .int 0, .null, .int 0], vm := .none },
  { cls := 13, slots := #[.null, .int 11, .int 0, .null, .int 0], vm := .none },
  { cls := 13, slots := #[.null, .int 1, .int 0, .null, .int 0], vm := .none },
  { cls := 13, slots := #[.null, .int 8, .int 0, .null, .int 0], vm := .none },
  { cls := 13, slots := #[.null, .int 6, .int 0, .null, .int 0], vm := .none },
  { cls := 13, slots := #[.null, .int 7, .int 0, .null, .int 0], vm := .none },
  { cls := 13, slots := #[.null, .int 3, .int 0, .null, .int 0], vm := .none },
  { cls := 13, slots := #[.null, .int 4, .int 0, .null, .int 0], vm := .none },
  { cls := 13, slots := #[.null, .int 5, .int 0, .null, .int 0], vm := .none },
  { cls := 13, slots := #[.null, .int 2, .int 0, .null, .int 0], vm := .none },
  { cls := 13, slots := #[.null, .int 9, .int 0, .null, .int 0], vm := .none }]
def classes : Array Class := #[k0, k1, k2, k3, k4, k5, k6, k7, k8, k9, k10, k11, k12, k13, k14, k15, k16, k17, k18, k19, k20, k21, k22, k23]
def interned : List (Array UInt16 × Addr) := []
def slotsUsed : Nat := 83
def theMethod : MethodId := ⟨1, 2⟩
def args0 : Array Value := #[.int 5, .int 5, .int 5]
def aboutOver (below : List Frame) : State where
  vm := { classes := classes, interned := interned.toArray }
  heap := heap
  slotsUsed := slotsUsed
  threads := #[{ frames := .invoking theMethod args0 :: below }]
def below0 : List Frame := [.native { method := ⟨0, 0⟩, args := #[] }]
def about1 : State := aboutOver below0
def p0 : Program := .bare "" "" ""
def e0 : Env := launch0.env 0 0 0
theorem w_frames : about1.frames = Frame.invoking theMethod args0 :: below0 := rfl
set_option maxRecDepth 65536 in
theorem w_args : argsFit about1.vm theMethod args0 = true := by decide +kernel
set_option maxRecDepth 65536 in
theorem w_heap : heapFits about1 = true := by decide +kernel
set_option maxRecDepth 65536 in
theorem w_runnable : about1.curStatus? = some .runnable := by decide +kernel
set_option maxRecDepth 65536 in
theorem w_alone : about1.alone = true := by decide +kernel
set_option maxRecDepth 65536 in
theorem w_named : about1.methodNamed? x = some theMethod := by decide +kernel
set_option maxRecDepth 65536 in
theorem w_hears : about1.hears theMethod below0 = true := by decide +kernel
set_option maxRecDepth 65536 in
theorem w_ripe : about1.ripe theMethod args0 below0 = true := by decide +kernel
theorem w_running : about1.status = .running := rfl
set_option maxRecDepth 65536 in
theorem w_room : about1.hasRoom e0.platform room_1 = true :=
  launch0.hasRoom_least _ room_1 (by decide +kernel) (by decide +kernel) (by decide +kernel) (by decide +kernel) (by decide +kernel) (by decide +kernel)
theorem allAtoms_all (ts : List Jvm.Cond) (a : Array Jvm.Value) (st : Jvm.State) : (allAtoms ts).before a st = ts.all (fun c => c.before a st) := by
  induction ts with
  | nil => rfl
  | cons c t ih =>
    show (Jvm.Cond.and c (allAtoms t)).before a st = _
    rw [Jvm.Cond.before_and, ih, List.all_cons]
def words1 : List Jvm.Cond := Jvm.Cond.code x code maxLocals ret :: tables_1
/-- a 'code' word, met by the world's own term for the bytes: nothing is compared byte by byte -/
theorem code_word {y : MethodName} {bytes : ByteArray} {mx : Nat} {rt : Option FieldType} {a : Array Value} {s : State} {m : MethodId} {meth : Method} {c : Code} (h1 : s.methodNamed? y = some m) (h2 : s.vm.method? m = some meth) (h3 : meth.code = some c) (h4 : c.code = bytes)
    (h5 : (c.maxLocals == mx && c.exceptionTable.isEmpty && decide (c.maxStack ≤ mostOperands) && decide (meth.sig.returnType = rt) && !meth.locks && decide (parseMethodDescriptor y.desc = some meth.sig)) = true) : (Jvm.Cond.code y bytes mx rt).before a s = true := by
  simp only [Bool.and_eq_true, beq_iff_eq, Bool.not_eq_true', decide_eq_true_eq] at h5
  obtain ⟨⟨⟨⟨⟨g1, g2⟩, g3⟩, g4⟩, g5⟩, g6⟩ := h5
  simp [Cond.before, Cond.holds, Cond.value, h1, h2, h3, h4, g1, g2, g3, g4, g5, g6]
def isCode : Jvm.Cond → Bool
  | .code _ _ _ _ => true
  | _ => false
theorem all_split {L : List Jvm.Cond} {P : Jvm.Cond → Bool} (h1 : L.all (fun c => isCode c || P c) = true) (h2 : ∀ c ∈ L.filter isCode, P c = true) : L.all P = true := by
  refine List.all_eq_true.mpr fun c hc => ?_
  have h := List.all_eq_true.mp h1 c hc
  rcases Bool.eq_false_or_eq_true (isCode c) with hi | hi
  · exact h2 c (List.mem_filter.mpr ⟨hc, hi⟩)
  · simpa [hi] using h
set_option maxRecDepth 65536 in
theorem w_c0 : (Jvm.Cond.code x code maxLocals ret).before args0 about1 = true := code_word (m := ⟨1, 2⟩) (meth := k1m2) (c := k1c2) (by decide +kernel) rfl rfl rfl (by decide +kernel)
set_option maxRecDepth 65536 in
theorem w_c1 : (Jvm.Cond.code ({ cls := "java/lang/String", name := "<init>", desc := "([C)V" } : Jvm.MethodName) jdk_42_method_3_code (2 : Nat) (Option.none : Option Jvm.ClassFile.FieldType)).before args0 about1 = true := code_word (m := ⟨7, 1⟩) (meth := k7m1) (c := k7c1) (by decide +kernel) rfl rfl rfl (by decide +kernel)
set_option maxRecDepth 65536 in
theorem w_c2 : (Jvm.Cond.code ({ cls := "java/lang/String", name := "<init>", desc := "([CIILjava/lang/Void;)V" } : Jvm.MethodName) jdk_42_method_149_code (6 : Nat) (Option.none : Option Jvm.ClassFile.FieldType)).before args0 about1 = true := code_word (m := ⟨7, 3⟩) (meth := k7m3) (c := k7c3) (by decide +kernel) rfl rfl rfl (by decide +kernel)
set_option maxRecDepth 65536 in
theorem w_c3 : (Jvm.Cond.code ({ cls := "java/lang/Object", name := "<init>", desc := "()V" } : Jvm.MethodName) object_method_1_code (1 : Nat) (Option.none : Option Jvm.ClassFile.FieldType)).before args0 about1 = true := code_word (m := ⟨0, 0⟩) (meth := k0m0) (c := k0c0) (by decide +kernel) rfl rfl rfl (by decide +kernel)
set_option maxRecDepth 65536 in
theorem w_c4 : (Jvm.Cond.code ({ cls := "java/lang/StringUTF16", name := "compress", desc := "([CII)[B" } : Jvm.MethodName) jdk_52_method_16_code (6 : Nat) (Option.some (Jvm.ClassFile.FieldType.array Jvm.ClassFile.FieldType.byte))).before args0 about1 = true := code_word (m := ⟨8, 2⟩) (meth := k8m2) (c := k8c2) (by decide +kernel) rfl rfl rfl (by decide +kernel)
set_option maxRecDepth 65536 in
theorem w_c5 : (Jvm.Cond.code ({ cls := "java/lang/StringUTF16", name := "compress", desc := "([CI[BII)I" } : Jvm.MethodName) jdk_52_method_21_code (7 : Nat) (Option.some Jvm.ClassFile.FieldType.int)).before args0 about1 = true := code_word (m := ⟨8, 3⟩) (meth := k8m3) (c := k8c3) (by decide +kernel) rfl rfl rfl (by decide +kernel)
set_option maxRecDepth 65536 in
theorem w_c6 : (Jvm.Cond.code ({ cls := "java/lang/StringUTF16", name := "coderFromArrayLen", desc := "([BI)B" } : Jvm.MethodName) jdk_52_method_15_code (2 : Nat) (Option.some Jvm.ClassFile.FieldType.byte)).before args0 about1 = true := code_word (m := ⟨8, 1⟩) (meth := k8m1) (c := k8c1) (by decide +kernel) rfl rfl rfl (by decide +kernel)
set_option maxRecDepth 65536 in
theorem w_c7 : (Jvm.Cond.code ({ cls := "java/lang/String", name := "valueOf", desc := "(C)Ljava/lang/String;" } : Jvm.MethodName) jdk_42_method_139_code (1 : Nat) (Option.some (Jvm.ClassFile.FieldType.object "java/lang/String"))).before args0 about1 = true := code_word (m := ⟨7, 2⟩) (meth := k7m2) (c := k7c2) (by decide +kernel) rfl rfl rfl (by decide +kernel)
set_option maxRecDepth 65536 in
theorem w_c8 : (Jvm.Cond.code ({ cls := "java/lang/StringLatin1", name := "canEncode", desc := "(C)Z" } : Jvm.MethodName) jdk_43_method_3_code (1 : Nat) (Option.some Jvm.ClassFile.FieldType.boolean)).before args0 about1 = true := code_word (m := ⟨9, 1⟩) (meth := k9m1) (c := k9c1) (by decide +kernel) rfl rfl rfl (by decide +kernel)
set_option maxRecDepth 65536 in
theorem w_c9 : (Jvm.Cond.code ({ cls := "java/lang/StringLatin1", name := "toBytes", desc := "(C)[B" } : Jvm.MethodName) jdk_43_method_46_code (1 : Nat) (Option.some (Jvm.ClassFile.FieldType.array Jvm.ClassFile.FieldType.byte))).before args0 about1 = true := code_word (m := ⟨9, 2⟩) (meth := k9m2) (c := k9c2) (by decide +kernel) rfl rfl rfl (by decide +kernel)
set_option maxRecDepth 65536 in
theorem w_c10 : (Jvm.Cond.code ({ cls := "java/lang/String", name := "<init>", desc := "([BB)V" } : Jvm.MethodName) jdk_42_method_151_code (3 : Nat) (Option.none : Option Jvm.ClassFile.FieldType)).before args0 about1 = true := code_word (m := ⟨7, 4⟩) (meth := k7m4) (c := k7c4) (by decide +kernel) rfl rfl rfl (by decide +kernel)
set_option maxRecDepth 65536 in
theorem w_c11 : (Jvm.Cond.code ({ cls := "com/example/pathloom/pathloom/ConditionAboutActionsPinLaw", name := "kindOf", desc := "(I)Lcom/example/pathloom/pathloom/Condition$Kind;" } : Jvm.MethodName) method_2_code (1 : Nat) (Option.some (Jvm.ClassFile.FieldType.object "com/example/pathloom/pathloom/Condition$Kind"))).before args0 about1 = true := code_word (m := ⟨1, 1⟩) (meth := k1m1) (c := k1c1) (by decide +kernel) rfl rfl rfl (by decide +kernel)
set_option maxRecDepth 65536 in
theorem w_c12 : (Jvm.Cond.code ({ cls := "com/example/pathloom/pathloom/Condition", name := "<init>", desc := "(Lcom/example/pathloom/pathloom/Condition$Kind;Ljava/lang/String;Ljava/lang/String;)V" } : Jvm.MethodName) prog_7_method_1_code (4 : Nat) (Option.none : Option Jvm.ClassFile.FieldType)).before args0 about1 = true := code_word (m := ⟨11, 0⟩) (meth := k11m0) (c := k11c0) (by decide +kernel) rfl rfl rfl (by decide +kernel)
set_option maxRecDepth 65536 in
theorem w_c13 : (Jvm.Cond.code ({ cls := "java/lang/Record", name := "<init>", desc := "()V" } : Jvm.MethodName) jdk_30_method_1_code (1 : Nat) (Option.none : Option Jvm.ClassFile.FieldType)).before args0 about1 = true := code_word (m := ⟨10, 0⟩) (meth := k10m0) (c := k10c0) (by decide +kernel) rfl rfl rfl (by decide +kernel)
set_option maxRecDepth 65536 in
theorem w_c14 : (Jvm.Cond.code ({ cls := "java/util/Objects", name := "requireNonNull", desc := "(Ljava/lang/Object;Ljava/lang/String;)Ljava/lang/Object;" } : Jvm.MethodName) jdk_31_method_11_code (2 : Nat) (Option.some (Jvm.ClassFile.FieldType.object "java/lang/Object"))).before args0 about1 = true := code_word (m := ⟨14, 1⟩) (meth := k14m1) (c := k14c1) (by decide +kernel) rfl rfl rfl (by decide +kernel)
set_option maxRecDepth 65536 in
theorem w_c15 : (Jvm.Cond.code ({ cls := "com/example/pathloom/pathloom/Condition", name := "aboutActions", desc := "()Z" } : Jvm.MethodName) prog_7_method_3_code (1 : Nat) (Option.some Jvm.ClassFile.FieldType.boolean)).before args0 about1 = true := code_word (m := ⟨11, 1⟩) (meth := k11m1) (c := k11c1) (by decide +kernel) rfl rfl rfl (by decide +kernel)
def codes1 : List Jvm.Cond := [Jvm.Cond.code x code maxLocals ret, Jvm.Cond.code ({ cls := "java/lang/String", name := "<init>", desc := "([C)V" } : Jvm.MethodName) jdk_42_method_3_code (2 : Nat) (Option.none : Option Jvm.ClassFile.FieldType), Jvm.Cond.code ({ cls := "java/lang/String", name := "<init>", desc := "([CIILjava/lang/Void;)V" } : Jvm.MethodName) jdk_42_method_149_code (6 : Nat) (Option.none : Option Jvm.ClassFile.FieldType), Jvm.Cond.code ({ cls := "java/lang/Object", name := "<init>", desc := "()V" } : Jvm.MethodName) object_method_1_code (1 : Nat) (Option.none : Option Jvm.ClassFile.FieldType), Jvm.Cond.code ({ cls := "java/lang/StringUTF16", name := "compress", desc := "([CII)[B" } : Jvm.MethodName) jdk_52_method_16_code (6 : Nat) (Option.some (Jvm.ClassFile.FieldType.array Jvm.ClassFile.FieldType.byte)), Jvm.Cond.code ({ cls := "java/lang/StringUTF16", name := "compress", desc := "([CI[BII)I" } : Jvm.MethodName) jdk_52_method_21_code (7 : Nat) (Option.some Jvm.ClassFile.FieldType.int), Jvm.Cond.code ({ cls := "java/lang/StringUTF16", name := "coderFromArrayLen", desc := "([BI)B" } : Jvm.MethodName) jdk_52_method_15_code (2 : Nat) (Option.some Jvm.ClassFile.FieldType.byte), Jvm.Cond.code ({ cls := "java/lang/String", name := "valueOf", desc := "(C)Ljava/lang/String;" } : Jvm.MethodName) jdk_42_method_139_code (1 : Nat) (Option.some (Jvm.ClassFile.FieldType.object "java/lang/String")), Jvm.Cond.code ({ cls := "java/lang/StringLatin1", name := "canEncode", desc := "(C)Z" } : Jvm.MethodName) jdk_43_method_3_code (1 : Nat) (Option.some Jvm.ClassFile.FieldType.boolean), Jvm.Cond.code ({ cls := "java/lang/StringLatin1", name := "toBytes", desc := "(C)[B" } : Jvm.MethodName) jdk_43_method_46_code (1 : Nat) (Option.some (Jvm.ClassFile.FieldType.array Jvm.ClassFile.FieldType.byte)), Jvm.Cond.code ({ cls := "java/lang/String", name := "<init>", desc := "([BB)V" } : Jvm.MethodName) jdk_42_method_151_code (3 : Nat) (Option.none : Option Jvm.ClassFile.FieldType), Jvm.Cond.code ({ cls := "com/example/pathloom/pathloom/ConditionAboutActionsPinLaw", name := "kindOf", desc := "(I)Lcom/example/pathloom/pathloom/Condition$Kind;" } : Jvm.MethodName) method_2_code (1 : Nat) (Option.some (Jvm.ClassFile.FieldType.object "com/example/pathloom/pathloom/Condition$Kind")), Jvm.Cond.code ({ cls := "com/example/pathloom/pathloom/Condition", name := "<init>", desc := "(Lcom/example/pathloom/pathloom/Condition$Kind;Ljava/lang/String;Ljava/lang/String;)V" } : Jvm.MethodName) prog_7_method_1_code (4 : Nat) (Option.none : Option Jvm.ClassFile.FieldType), Jvm.Cond.code ({ cls := "java/lang/Record", name := "<init>", desc := "()V" } : Jvm.MethodName) jdk_30_method_1_code (1 : Nat) (Option.none : Option Jvm.ClassFile.FieldType), Jvm.Cond.code ({ cls := "java/util/Objects", name := "requireNonNull", desc := "(Ljava/lang/Object;Ljava/lang/String;)Ljava/lang/Object;" } : Jvm.MethodName) jdk_31_method_11_code (2 : Nat) (Option.some (Jvm.ClassFile.FieldType.object "java/lang/Object")), Jvm.Cond.code ({ cls := "com/example/pathloom/pathloom/Condition", name := "aboutActions", desc := "()Z" } : Jvm.MethodName) prog_7_method_3_code (1 : Nat) (Option.some Jvm.ClassFile.FieldType.boolean)]
set_option maxRecDepth 65536 in
theorem codes_eq : words1.filter isCode = codes1 := rfl
theorem w_codes : ∀ c ∈ words1.filter isCode, c.before args0 about1 = true := by
  rw [codes_eq]
  intro c hc
  simp only [codes1, List.mem_cons, List.not_mem_nil, or_false] at hc
  rcases hc with rfl | rfl | rfl | rfl | rfl | rfl | rfl | rfl | rfl | rfl | rfl | rfl | rfl | rfl | rfl | rfl
  · exact w_c0
  · exact w_c1
  · exact w_c2
  · exact w_c3
  · exact w_c4
  · exact w_c5
  · exact w_c6
  · exact w_c7
  · exact w_c8
  · exact w_c9
  · exact w_c10
  · exact w_c11
  · exact w_c12
  · exact w_c13
  · exact w_c14
  · exact w_c15
set_option maxRecDepth 65536 in
theorem w_t1 : (words1.take 24).all (fun c => isCode c || c.before args0 about1) = true := by decide +kernel
set_option maxRecDepth 65536 in
theorem w_t2 : ((words1.drop 24).take 24).all (fun c => isCode c || c.before args0 about1) = true := by decide +kernel
set_option maxRecDepth 65536 in
theorem w_t3 : (((words1.drop 24).drop 24).take 24).all (fun c => isCode c || c.before args0 about1) = true := by decide +kernel
set_option maxRecDepth 65536 in
theorem w_t4 : ((((words1.drop 24).drop 24).drop 24).take 24).all (fun c => isCode c || c.before args0 about1) = true := by decide +kernel
set_option maxRecDepth 65536 in
theorem w_t5 : ((((words1.drop 24).drop 24).drop 24).drop 24).all (fun c => isCode c || c.before args0 about1) = true := by decide +kernel
theorem w_tables : (allAtoms (Jvm.Cond.code x code maxLocals ret :: tables_1)).before args0 about1 = true := by
  rw [allAtoms_all]
  show words1.all (fun c => c.before args0 about1) = true
  refine all_split ?_ w_codes
  rw [← List.take_append_drop 24 words1, List.all_append, w_t1, ← List.take_append_drop 24 (words1.drop 24), List.all_append, w_t2, ← List.take_append_drop 24 ((words1.drop 24).drop 24), List.all_append, w_t3, ← List.take_append_drop 24 (((words1.drop 24).drop 24).drop 24), List.all_append, w_t4, w_t5]
  rfl
set_option maxRecDepth 65536 in
theorem w_rest : rest_1_c.before args0 about1 = true := by decide +kernel
set_option maxRecDepth 65536 in
theorem w_case : (Jvm.Cond.and given_1 narrow_1).before args0 about1 = true := by decide +kernel
theorem w_applies : (headSpec (Jvm.Cond.code x code maxLocals ret :: tables_1) room_1).applies x e0.platform about1 = true :=
  (Spec.applies_iff w_frames).mpr ⟨w_running, w_runnable, w_alone, w_named, w_hears, w_ripe, w_room, w_tables⟩
theorem atStart : AtStart classFile x code maxLocals ret World_1 tables_1 room_1 Calls_1 rest_1 Pre_1 launch0 p0 e0 about1 theMethod args0 below0 :=
  ⟨lists_1, trivial, launch0.admits_env _ _ _, launch0.least_env, fairChoices_fair.cas, fairChoices_fair.clock, w_frames, w_args, w_heap, w_applies, trivial, w_rest, w_case⟩
end start1
theorem witness_1 : WitnessClaimed_1 := ⟨start1.p0, start1.e0, start1.about1, start1.theMethod, start1.args0, start1.below0, start1.atStart⟩
end Jvm.Pilot.@@N@@
