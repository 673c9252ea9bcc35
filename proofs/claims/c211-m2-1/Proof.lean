import JvmDerived
import JvmDerived.Pilot.@@N@@Statement
import JvmDerived.Pilot.@@N@@Code
set_option linter.unusedVariables false
set_option linter.unusedSimpArgs false
namespace Jvm.Own
open Sem ClassFile Op Lib Bundle Jvm.Stand Jvm.Free Jvm.LawKit Jvm.RoadKit
/-! A small calculus of weakest conditions over the library's walks: 'Go' says that from here the body comes to its end with Q; each rule goes back over one instruction. -/
/-- what is kept up at every point: the constants of EL say their texts; the cells of the start stand; the cells in ws are new and no constant's -/
def Inv (Z : State) (EL : List (String × Nat)) (ws : List Addr) (vm : Vm) (h : Heap) : Prop :=
  CHv Z EL vm h ∧ Ext Z.heap h ∧ ∀ x ∈ ws, Z.heap.size ≤ x ∧ x < h.size ∧ Safe Z EL vm h x
section Facts
variable {Z : State} {a0 : Array Value} {EL : List (String × Nat)} {ws ws' : List Addr} {vm vm1 : Vm} {h h' : Heap} {a : Addr} {sl : Nat} {v : Value}
theorem Inv.ext (I : Inv Z EL ws vm h) (E : Ext h h') : Inv Z EL ws vm h' :=
  ⟨I.1.ext E, ⟨Nat.le_trans I.2.1.1 E.1, fun x c q => E.2 x c (I.2.1.2 x c q)⟩, fun x hx => ⟨(I.2.2 x hx).1, Nat.lt_of_lt_of_le (I.2.2 x hx).2.1 E.1, Safe.ext E I.1 (I.2.2 x hx).2.2⟩⟩
theorem Inv.new (I : Inv Z EL ws vm h) (E : Ext h h') (ha : a = h.size) (hl : a < h'.size) : Inv Z EL (a :: ws) vm h' :=
  ⟨(I.ext E).1, (I.ext E).2.1, fun x hx => by
    rcases List.mem_cons.mp hx with rfl | hx
    · exact ⟨by rw [ha]; exact I.2.1.1, hl, Safe.ext E I.1 (Safe.new (Nat.le_of_eq ha.symm))⟩
    · exact (I.ext E).2.2 x hx⟩
theorem Inv.wr (I : Inv Z EL ws vm h) (W : Wr h h' a sl v) (ha : a ∈ ws) : Inv Z EL ws vm h' :=
  have S := (I.2.2 a ha).2.2
  ⟨I.1.wr W S, (Old.wr (n0 := Z.heap.size) ⟨rfl, I.2.1⟩ W (I.2.2 a ha).1).2, fun x hx => ⟨(I.2.2 x hx).1, by rw [W.size]; exact (I.2.2 x hx).2.1, Safe.wr W S I.1 (I.2.2 x hx).2.2⟩⟩
theorem Inv.keep {xs : List Addr} (I : Inv Z EL ws vm h) (K : Keep h h' xs) (hs : ∀ x ∈ xs, x ∈ ws) : Inv Z EL ws vm h' :=
  have S : ∀ x ∈ xs, Safe Z EL vm h x := fun x hx => (I.2.2 x (hs x hx)).2.2
  ⟨I.1.keep K S, (Old.keep (n0 := Z.heap.size) ⟨rfl, I.2.1⟩ K fun x hx => (I.2.2 x (hs x hx)).1).2, fun x hx => ⟨(I.2.2 x hx).1, Nat.lt_of_lt_of_le (I.2.2 x hx).2.1 K.1, Safe.keep K S I.1 (I.2.2 x hx).2.2⟩⟩
theorem Inv.sub (I : Inv Z EL ws vm h) (hs : ∀ x ∈ ws', x ∈ ws) : Inv Z EL ws' vm h := ⟨I.1, I.2.1, fun x hx => I.2.2 x (hs x hx)⟩
/-- behind an end: what was writable is writable still, and what the end says besides -/
theorem Inv.later (I : Inv Z EL ws vm h) (C : CHr Z EL vm h vm1 h') (J : Inv Z EL ws' vm1 h') : Inv Z EL (ws' ++ ws) vm1 h' :=
  ⟨C.1, J.2.1, fun x hx => (List.mem_append.mp hx).elim (J.2.2 x) fun q => ⟨(I.2.2 x q).1, Nat.lt_of_lt_of_le (I.2.2 x q).2.1 C.2.1, C.safe (I.2.2 x q).2.1 (I.2.2 x q).2.2⟩⟩
theorem Inv.moved (I : Inv Z EL ws vm h) (C : CHr Z EL vm h vm1 h) : Inv Z EL ws vm1 h :=
  ⟨C.1, I.2.1, fun x q => ⟨(I.2.2 x q).1, (I.2.2 x q).2.1, C.safe (I.2.2 x q).2.1 (I.2.2 x q).2.2⟩⟩
theorem Inv.ld (I : Inv Z EL ws vm h) (C : CHr Z EL vm h vm1 h') (E : Ext h h') : Inv Z EL ws vm1 h' :=
  ⟨C.1, (I.ext E).2.1, fun x q => ⟨(I.2.2 x q).1, Nat.lt_of_lt_of_le (I.2.2 x q).2.1 C.2.1, C.safe (I.2.2 x q).2.1 (I.2.2 x q).2.2⟩⟩
end Facts
/-- what a body's walk may lean on, all along -/
def Cst (p : Program) (meth : Method) (c : Code) (Z : State) (a0 : Array Value) (EL : List (String × Nat)) (bytes : ByteArray) (maxL : Nat) (ret : Option FieldType) (nm : String) : Prop :=
  p.tables.exec = Jvm.exec ∧ c.code = bytes ∧ c.maxLocals = maxL ∧ meth.sig.returnType = ret ∧ meth.locks = false ∧ meth.name = nm ∧ EW Z a0 EL
/-- the walk stands at T -/
def Pos (p : Program) (l : Launch) (e : Env) (R : Room) (s : State) (m : MethodId) (args : Array Value) (below : List Frame) (meth : Method) (c : Code) (Z : State) (EL : List (String × Nat)) (own : String) (ws : List Addr) (h : Heap) (cells slots : Nat) (T : State) : Prop :=
  ∃ (vm0 : Vm) (k0 : Nat) (locs : List Loc), Stand p l e R (s.setVm vm0) m args below meth c T locs cells slots ∧ T.heap = h ∧ s.Since vm0 k0 ∧ k0 ≤ h.size ∧ Z.Warmed39 vm0 ∧ vm0.findClass own = some m.cls ∧ Fr Z.heap.size locs ∧ Inv Z EL ws vm0 h ∧ CHr Z EL s.vm s.heap vm0 h ∧ cells ≤ R.cells ∧ slots ≤ R.slots
/-- the body has come to its end -/
def Done (s : State) (below : List Frame) (R : Room) (Z : State) (EL : List (String × Nat)) (Q : Option Value → Heap → List Addr → Prop) (u : State) : Prop :=
  u.status = .running ∧ ∃ (v : Option Value) (L : List Loc) (ws' : List Addr), Ended u below (.returned v) ∧ Q v u.heap ws' ∧ Fr Z.heap.size L ∧ Inv Z EL ws' u.vm u.heap ∧ CHr Z EL s.vm s.heap u.vm u.heap ∧ ReturnedEndW s (.returned v) u L R.cells R.slots
def Go (p : Program) (l : Launch) (e : Env) (R : Room) (s : State) (m : MethodId) (args : Array Value) (below : List Frame) (meth : Method) (c : Code) (Z : State) (a0 : Array Value) (EL : List (String × Nat)) (own : String) (bytes : ByteArray) (maxL : Nat) (ret : Option FieldType) (nm : String)
    (ws : List Addr) (h : Heap) (cells slots : Nat) (pc : Nat) (Ls : Array Slot) (st : List Value) (Q : Option Value → Heap → List Addr → Prop) : Prop :=
  Cst p meth c Z a0 EL bytes maxL ret nm → ∀ T : State, Pos p l e R s m args below meth c Z EL own ws h cells slots T → ∃ u, Steps p.tables e below (T.setTop (mkF m pc Ls st)) u ∧ Done s below R Z EL Q u
/-- a method's contract: for these arguments, over the heap h, ws writable: it returns, with Q -/
def Con (l : Launch) (Z : State) (EL : List (String × Nat)) (y : MethodName) (bytes : ByteArray) (maxL : Nat) (ret : Option FieldType) (cs : List Cond) (rm : Room) (as' : Array Value) (h : Heap) (ws : List Addr) (Q : Option Value → Heap → List Addr → Prop) : Prop :=
  MetFree l y (head1 (Cond.code y bytes maxL ret :: cs) rm) (fun a U => a = as' ∧ Z.Warmed39 U.vm ∧ U.heap = h ∧ Inv Z EL ws U.vm h) (fun _ _ _ _ _ => True)
    (fun _ U o U' => ∃ (v : Option Value) (L : List Loc) (ws' : List Addr), o = .returned v ∧ Q v U'.heap ws' ∧ Fr Z.heap.size L ∧ Inv Z EL ws' U'.vm U'.heap ∧ CHr Z EL U.vm U.heap U'.vm U'.heap ∧ ReturnedEndW U o U' L rm.cells rm.slots)
section Rules
variable {p : Program} {l : Launch} {e : Env} {R : Room} {s : State} {m : MethodId} {args : Array Value} {below : List Frame} {meth : Method} {c : Code} {Z : State} {a0 : Array Value} {EL : List (String × Nat)} {own : String} {bytes : ByteArray} {maxL : Nat} {ret : Option FieldType} {nm : String}
  {ws : List Addr} {h : Heap} {cells slots : Nat} {pc pc' : Nat} {Ls Ls' : Array Slot} {st st' rest : List Value} {Q Q' : Option Value → Heap → List Addr → Prop}
theorem con_of {y : MethodName} {rm : Room} {as' : Array Value} {cs : List Cond} (hn : plainFor y = true) (hEL : EW Z a0 EL) (hef : ∀ m, entryFrame m as' maxL = mkF m 0 Ls [])
    (go : ∀ p e s m below meth c, Go p l e rm s m as' below meth c Z a0 EL y.cls bytes maxL ret y.name ws h 0 0 0 Ls [] Q) : Con l Z EL y bytes maxL ret cs rm as' h ws Q := by
  refine MetFree.of_bodySF hn hisR ?_
  intro p e s m args below meth c s₁ Bd hml hP hK
  obtain ⟨rfl, hZ, hh, I⟩ := hP
  have X0 : Stand p l e rm s m args below meth c s₁ [] 0 0 := Stand.of_body Bd
  have e0 : s₁.heap = h := by rw [← hh, Bd.state]; rfl
  obtain ⟨u, S2, hrun, v, L, ws', hend, q, N, I2, C, W⟩ := go p e s m below meth c ⟨Bd.exec, Bd.bytes, hml, Bd.returns, Bd.notSynchronized, (name_of_methodNamed Bd.named Bd.method).1, hEL⟩ s₁
    ⟨s.vm, 0, [], X0, e0, (State.WarmedH.refl s).since _, Nat.zero_le _, hZ, findClass_of_methodNamed Bd.named, Fr.nil _, I, by rw [hh]; exact CHr.refl I.1, Nat.zero_le _, Nat.zero_le _⟩
  exact ⟨u, _, castTop (hef m) S2, hrun, hend, v, L, ws', rfl, q, N, I2, C, W⟩
theorem Con.mono {y : MethodName} {rm : Room} {as' : Array Value} {cs : List Cond} (K : Con l Z EL y bytes maxL ret cs rm as' h ws Q) (hq : ∀ v h ws, Q v h ws → Q' v h ws) : Con l Z EL y bytes maxL ret cs rm as' h ws Q' := by
  intro p e h1 h2 h3 s m args below hf ha hP hK
  obtain ⟨n, o, g1, g2, g3, v, L, ws', e1, q, r⟩ := K p e h1 h2 h3 s m args below hf ha hP hK
  exact ⟨n, o, g1, g2, g3, v, L, ws', e1, hq _ _ _ q, r⟩
/-- the payer of a call -/
theorem backC {vm0 : Vm} {y : MethodName} {bY : ByteArray} {mY : Nat} {rY : Option FieldType} {rm : Room} {len W : Nat} {as' : Array Value} {ws0 : List Addr} (hM : Con l Z EL y bY mY rY [] rm as' h ws0 Q)
    (hZ : Z.Warmed39 vm0) (wc : (Cond.code y bY mY rY).before a0 Z = true) (wz : (Cond.initialized y.cls).before a0 Z = true) (hf : rm.frames + 1 ≤ R.frames) (hl : W + (mY + 11) + rm.locals ≤ R.locals) (hEL : EW Z a0 EL) (I : Inv Z EL ws vm0 h) (hs : ∀ x ∈ ws0, x ∈ ws) :
    BackS l R p e below (s.setVm vm0) args y len W (fun A a => a = as' ∧ A.U.heap = h ∧ A.cells + rm.cells ≤ R.cells ∧ A.slots + rm.slots ≤ R.slots)
      (fun A _ v B => ∃ (L : List Loc) (ws' : List Addr), Q v B.U.heap ws' ∧ Fr Z.heap.size L ∧ B.locs = A.locs ++ L ∧ B.cells = A.cells + rm.cells ∧ B.slots = A.slots + rm.slots ∧ CHr Z EL vm0 h B.U.vm B.U.heap ∧ Inv Z EL (ws' ++ ws) B.U.vm B.U.heap) :=
  BackS.of_freeW (bytes := bY) (maxL := mY) (ret := rY) (E := fun _ first o t L k n => k = rm.cells ∧ n = rm.slots ∧ ∃ (v : Option Value) (ws' : List Addr), o = .returned v ∧ Q v t.heap ws' ∧ Fr Z.heap.size L ∧ Inv Z EL ws' t.vm t.heap ∧ CHr Z EL first.vm first.heap t.vm t.heap) hM hf hl
    (fun m meth c A a Y hp => have hU : Z.Warmed39 A.U.vm := wtrans (s := s.setVm vm0) hZ Y.warmed
      ⟨by show (Cond.and _ .tt).before a A.U = true; rw [Cond.before_and, mv hU wc]; rfl, mv hU wc, mv hU wz, hp.2.2.1, hp.2.2.2⟩)
    (fun m meth c A a g mk Y hp => ⟨hp.1, wtrans (s := s.setVm vm0) hZ Y.warmed, hp.2.1, show Inv Z EL ws0 A.U.vm h from (I.sub hs).moved (CHv.at Y hZ hEL I.1)⟩) (fun _ _ _ _ _ _ _ _ _ => trivial)
    (fun _ _ _ _ ⟨v, L, ws', h1, h2, h3, h4, h5, h6⟩ => ⟨L, _, _, h6, rfl, rfl, v, ws', h1, h2, h3, h4, h5⟩)
    (fun m meth c A a g mk v t L k n Y hp _ _ ⟨e1, e2, v', ws', e3, e4, e5, e6, e7⟩ => by
      cases e3; subst e1 e2
      have C : CHr Z EL vm0 h t.vm t.heap := (CHv.at Y hZ hEL I.1).trans (by rw [← hp.2.1]; exact e7)
      exact ⟨L, ws', e4, e5, rfl, rfl, rfl, C, I.later C e6⟩)
theorem go_step (hs : p.tables.exec = Jvm.exec → c.code = bytes → ∀ T : State, At T m c below → ∀ t, Steps p.tables e below (T.setTop (mkF m pc' Ls' st')) t → Steps p.tables e below (T.setTop (mkF m pc Ls st)) t)
    (n : Go p l e R s m args below meth c Z a0 EL own bytes maxL ret nm ws h cells slots pc' Ls' st' Q) : Go p l e R s m args below meth c Z a0 EL own bytes maxL ret nm ws h cells slots pc Ls st Q := fun K T P => by
  obtain ⟨u, S, E⟩ := n K T P
  obtain ⟨vm0, k0, locs, X, -⟩ := P
  exact ⟨u, hs K.1 K.2.1 T X.here _ S, E⟩
theorem go_mono (hq : ∀ v h ws, Q v h ws → Q' v h ws) (n : Go p l e R s m args below meth c Z a0 EL own bytes maxL ret nm ws h cells slots pc Ls st Q) : Go p l e R s m args below meth c Z a0 EL own bytes maxL ret nm ws h cells slots pc Ls st Q' := fun K T P => by
  obtain ⟨u, S, r, v, L, ws', e1, q, x⟩ := n K T P
  exact ⟨u, S, r, v, L, ws', e1, hq _ _ _ q, x⟩
theorem go_old (n : Ext Z.heap h → Go p l e R s m args below meth c Z a0 EL own bytes maxL ret nm ws h cells slots pc Ls st Q) : Go p l e R s m args below meth c Z a0 EL own bytes maxL ret nm ws h cells slots pc Ls st Q := fun K T P => by
  obtain ⟨vm0, k0, locs, X, eT, hS, hk, hZ, hown, N, I, C, r⟩ := id P
  exact n I.2.1 K T P
theorem go_safe (n : (∀ x ∈ ws, Z.heap.size ≤ x ∧ x < h.size) → Go p l e R s m args below meth c Z a0 EL own bytes maxL ret nm ws h cells slots pc Ls st Q) : Go p l e R s m args below meth c Z a0 EL own bytes maxL ret nm ws h cells slots pc Ls st Q := fun K T P => by
  obtain ⟨vm0, k0, locs, X, eT, hS, hk, hZ, hown, N, I, C, r⟩ := id P
  exact n (fun x hx => ⟨(I.2.2 x hx).1, (I.2.2 x hx).2.1⟩) K T P
theorem go_room (n : cells ≤ R.cells → slots ≤ R.slots → Go p l e R s m args below meth c Z a0 EL own bytes maxL ret nm ws h cells slots pc Ls st Q) : Go p l e R s m args below meth c Z a0 EL own bytes maxL ret nm ws h cells slots pc Ls st Q := fun K T P => by
  obtain ⟨vm0, k0, locs, X, eT, hS, hk, hZ, hown, N, I, C, r1, r2⟩ := id P
  exact n r1 r2 K T P
/-- fewer writable cells, more made: the same walk -/
theorem go_less {ws' : List Addr} {cells' slots' : Nat} (hs : ∀ x ∈ ws', x ∈ ws) (hc : cells ≤ cells') (hl : slots ≤ slots') (hc' : cells' ≤ R.cells) (hl' : slots' ≤ R.slots) (n : Go p l e R s m args below meth c Z a0 EL own bytes maxL ret nm ws' h cells' slots' pc Ls st Q) :
    Go p l e R s m args below meth c Z a0 EL own bytes maxL ret nm ws h cells slots pc Ls st Q := fun K T P => by
  obtain ⟨vm0, k0, locs, X, eT, hS, hk, hZ, hown, N, I, C, r1, r2⟩ := P
  exact n K T ⟨vm0, k0, locs, X.mono hc hl, eT, hS, hk, hZ, hown, N, I.sub hs, C, hc', hl'⟩
/-! ## returns -/
theorem go_ret {i : Instr} {w : Value} {t : FieldType} (hd : decode bytes pc = .ok (i, 1)) (ht : ret = some t) (hn : narrow t w = w)
    (hi : (i = .ireturn ∧ (t = .int ∨ t = .boolean ∨ t = .byte ∨ t = .char ∨ t = .short) ∧ ∃ z, w = .int z) ∨ (i = .lreturn ∧ t = .long ∧ ∃ z, w = .long z) ∨ (i = .dreturn ∧ t = .double ∧ ∃ z, w = .double z) ∨ (i = .freturn ∧ t = .float ∧ ∃ z, w = .float z) ∨ (i = .areturn ∧ t.isReference = true ∧ w.isRef = true))
    {ws' : List Addr} (hs : ∀ x ∈ ws', x ∈ ws) (q : Q (some w) h ws') : Go p l e R s m args below meth c Z a0 EL own bytes maxL ret nm ws h cells slots pc Ls (w :: rest) Q := fun K T P => by
  obtain ⟨vm0, k0, locs, X, eT, hS, hk, hZ, hown, N, I, C, r1, r2⟩ := P
  obtain ⟨hx, hby, hml, hrt, hlk, hnm, hEL⟩ := K
  obtain ⟨fs, hr, hrun, hended, hW⟩ := X.leaveW hS (by rw [eT]; exact hk) (v := some w) (fun h => by rw [hrt, ht] at h; cases h) hlk
  have D := CHv.at X hZ hEL I.1
  refine ⟨T.setFrames fs, retOut X hx (hrt.trans ht) hn hi (hb hby hd) hr, hrun, some w, locs, ws', hended, ?_, N, ?_, ?_, hW.1, hW.2.1, hW.2.2.1, hW.2.2.2.mono r1 r2⟩
  · show Q (some w) T.heap ws'; rw [eT]; exact q
  · show Inv Z EL ws' T.vm T.heap; rw [eT]; exact (I.sub hs).moved D
  · show CHr Z EL s.vm s.heap T.vm T.heap; rw [eT]; exact C.trans D
theorem go_ireturn {z : Int32} {t : FieldType} (hd : decode bytes pc = .ok (.ireturn, 1)) (ht : ret = some t) (ht' : t = .int ∨ t = .boolean ∨ t = .byte ∨ t = .char ∨ t = .short) (hn : narrow t (.int z) = .int z) {ws' : List Addr} (hs : ∀ x ∈ ws', x ∈ ws) (q : Q (some (.int z)) h ws') :
    Go p l e R s m args below meth c Z a0 EL own bytes maxL ret nm ws h cells slots pc Ls (.int z :: rest) Q := go_ret hd ht hn (Or.inl ⟨rfl, ht', z, rfl⟩) hs q
theorem go_areturn {w : Value} {t : FieldType} (hd : decode bytes pc = .ok (.areturn, 1)) (ht : ret = some t) (ht' : t.isReference = true) (hw : w.isRef = true) {ws' : List Addr} (hs : ∀ x ∈ ws', x ∈ ws) (q : Q (some w) h ws') :
    Go p l e R s m args below meth c Z a0 EL own bytes maxL ret nm ws h cells slots pc Ls (w :: rest) Q := go_ret hd ht (by cases t <;> first | (cases ht'; done) | (cases w <;> first | rfl | (cases hw; done))) (Or.inr (Or.inr (Or.inr (Or.inr ⟨rfl, ht', hw⟩)))) hs q
theorem go_return (hd : decode bytes pc = .ok (.return_, 1)) (ht : ret = none) {ws' : List Addr} (hs : ∀ x ∈ ws', x ∈ ws) (q : Q none h ws') : Go p l e R s m args below meth c Z a0 EL own bytes maxL ret nm ws h cells slots pc Ls [] Q := fun K T P => by
  obtain ⟨vm0, k0, locs, X, eT, hS, hk, hZ, hown, N, I, C, r1, r2⟩ := P
  obtain ⟨hx, hby, hml, hrt, hlk, hnm, hEL⟩ := K
  obtain ⟨fs, hr, hrun, hended, hW⟩ := X.leaveW hS (by rw [eT]; exact hk) (v := none) (fun _ => rfl) hlk
  have D := CHv.at X hZ hEL I.1
  refine ⟨T.setFrames fs, X.returnOut hx (hrt.trans ht) (hb hby hd) hr, hrun, none, locs, ws', hended, ?_, N, ?_, ?_, hW.1, hW.2.1, hW.2.2.1, hW.2.2.2.mono r1 r2⟩
  · show Q none T.heap ws'; rw [eT]; exact q
  · show Inv Z EL ws' T.vm T.heap; rw [eT]; exact (I.sub hs).moved D
  · show CHr Z EL s.vm s.heap T.vm T.heap; rw [eT]; exact C.trans D
/-! ## fields, statics -/
theorem go_getstatic {R0 O n d : String} {idx : Nat} {v : Value} (hd : decode bytes pc = .ok (.getstatic idx, 3)) (w : (Cond.fieldLink own idx R0 n d).before a0 Z = true) (via : Via Z R0 O n d) (F : Sta Z Z.heap O n d v) (hp : pc + 3 = pc')
    (nx : Go p l e R s m args below meth c Z a0 EL own bytes maxL ret nm ws h cells slots pc' Ls (v :: st) Q) : Go p l e R s m args below meth c Z a0 EL own bytes maxL ret nm ws h cells slots pc Ls st Q := fun K T P => by
  obtain ⟨vm0, k0, locs, X, eT, hS, hk, hZ, hown, N, I, C, r⟩ := P
  obtain ⟨T', X', e', stp⟩ := getS (host := "") X K.1 hZ hown w via eT (F.ext I.2.1) (g := mkF m pc Ls st) rfl (hb K.2.1 hd)
  subst hp
  obtain ⟨u, S2, E⟩ := nx K T' ⟨vm0, k0, locs, X', e', hS, hk, hZ, hown, N, I, C, r⟩
  exact ⟨u, stp _ S2, E⟩
theorem go_getstaticN {R0 O n d host : String} {idx : Nat} {v : Value} (hd : decode bytes pc = .ok (.getstatic idx, 3)) (w : (Cond.fieldLinkNest own idx R0 n d host).before a0 Z = true) (via : Via Z R0 O n d) (F : Sta Z Z.heap O n d v) (hp : pc + 3 = pc')
    (nx : Go p l e R s m args below meth c Z a0 EL own bytes maxL ret nm ws h cells slots pc' Ls (v :: st) Q) : Go p l e R s m args below meth c Z a0 EL own bytes maxL ret nm ws h cells slots pc Ls st Q := fun K T P => by
  obtain ⟨vm0, k0, locs, X, eT, hS, hk, hZ, hown, N, I, C, r⟩ := P
  obtain ⟨T', X', e', stp⟩ := getS2 X K.1 hZ hown (Or.inr w) via eT (F.ext I.2.1) (g := mkF m pc Ls st) rfl (hb K.2.1 hd)
  subst hp
  obtain ⟨u, S2, E⟩ := nx K T' ⟨vm0, k0, locs, X', e', hS, hk, hZ, hown, N, I, C, r⟩
  exact ⟨u, stp _ S2, E⟩
theorem go_getfield {R0 O n d host : String} {idx : Nat} {a : Addr} {v : Value} (hd : decode bytes pc = .ok (.getfield idx, 3)) (w : (Cond.fieldLink own idx R0 n d).before a0 Z = true ∨ (Cond.fieldLinkNest own idx R0 n d host).before a0 Z = true) (via : Via Z R0 O n d) (F : Fld Z h a O n d v) (hp : pc + 3 = pc')
    (nx : Go p l e R s m args below meth c Z a0 EL own bytes maxL ret nm ws h cells slots pc' Ls (v :: rest) Q) : Go p l e R s m args below meth c Z a0 EL own bytes maxL ret nm ws h cells slots pc Ls (.ref a :: rest) Q := fun K T P => by
  obtain ⟨vm0, k0, locs, X, eT, hS, hk, hZ, hown, N, I, C, r⟩ := P
  obtain ⟨T', X', e', stp⟩ := getF X K.1 hZ hown w via eT F (g := mkF m pc Ls (.ref a :: rest)) rfl rfl (hb K.2.1 hd)
  subst hp
  obtain ⟨u, S2, E⟩ := nx K T' ⟨vm0, k0, locs, X', e', hS, hk, hZ, hown, N, I, C, r⟩
  exact ⟨u, stp _ S2, E⟩
/-- a store into a field of a new object; of the narrow kinds too -/
theorem go_putfield {R0 O n d C0 : String} {idx kk : Nat} {a : Addr} {v v' old : Value} {ty : FieldType} (hd : decode bytes pc = .ok (.putfield idx, 3)) (w : (Cond.fieldLink own idx R0 n d).before a0 Z = true) (via : Via Z R0 O n d) (F : Fld Z h a O n d old) (E : Exa Z h a C0)
    (L : (Cond.lays C0 O n d).before a0 Z = true ∨ ((Cond.laysFinal C0 O n d).before a0 Z = true ∧ own = O ∧ nm = "<init>")) (wi : (Cond.instantiable C0 kk).before a0 Z = true) (hty : parseFieldDescriptor d = some ty) (hn : narrow ty v = v') (hf : fits ty v' = true) (ha : a ∈ ws) (hp : pc + 3 = pc')
    (nx : ∀ h', Wr h h' a (Jvm.RoadKit.slotOf Z O n d) v' → Go p l e R s m args below meth c Z a0 EL own bytes maxL ret nm ws h' cells slots pc' Ls rest Q) : Go p l e R s m args below meth c Z a0 EL own bytes maxL ret nm ws h cells slots pc Ls (v :: .ref a :: rest) Q := fun K T P => by
  obtain ⟨vm0, k0, locs, X, eT, hS, hk, hZ, hown, N, I, C, r⟩ := P
  obtain ⟨T', h', X', e', W, stp⟩ := putFN X K.1 hZ hown w via eT F E (L.imp id fun q => ⟨q.1, q.2.1, K.2.2.2.2.2.1.trans q.2.2⟩) wi hty hn hf (g := mkF m pc Ls (v :: .ref a :: rest)) rfl rfl (hb K.2.1 hd)
  subst hp
  obtain ⟨u, S2, E⟩ := nx h' W K T' ⟨vm0, k0, _, X', e', hS, by rw [W.size]; exact hk, hZ, hown, Fr.snoc X' N (I.2.2 a ha).1, I.wr W ha, C.trans (CHr.wr W (I.2.2 a ha).2.2 I.1), r⟩
  exact ⟨u, stp _ S2, E⟩
/-! ## new objects and arrays -/
theorem go_new {C0 : String} {idx k : Nat} (hd : decode bytes pc = .ok (.new idx, 3)) (w : (Cond.classLink own idx C0).before a0 Z = true) (wi : (Cond.instantiable C0 k).before a0 Z = true) (wz : (Cond.initialized C0).before a0 Z = true) (hc : cells + 1 ≤ R.cells) (hl : slots + k ≤ R.slots) (hp : pc + 3 = pc')
    (nx : ∀ h' a, a = h.size → Ext h h' → Exa Z h' a C0 → (∀ {O n d : String} {ty : FieldType}, Laid Z a0 C0 O n d → parseFieldDescriptor d = some ty → Fld Z h' a O n d (defaultValue ty)) → Go p l e R s m args below meth c Z a0 EL own bytes maxL ret nm (a :: ws) h' (cells + 1) (slots + k) pc' Ls (.ref a :: st) Q) :
    Go p l e R s m args below meth c Z a0 EL own bytes maxL ret nm ws h cells slots pc Ls st Q := fun K T P => by
  obtain ⟨vm0, k0, locs, X, eT, hS, hk, hZ, hown, N, I, C, r⟩ := P
  obtain ⟨T', h', X', e', E', A', D', -, stp⟩ := newO X K.1 hZ hown w wi wz eT (g := mkF m pc Ls st) rfl (hb K.2.1 hd) hc hl
  subst hp
  obtain ⟨u, S2, E⟩ := nx h' h.size rfl E' A' D' K T' ⟨vm0, k0, _, X', e', hS, Nat.le_trans hk E'.1, hZ, hown, N, I.new E' rfl A'.lt, C.trans (CHr.ext E' I.1), hc, hl⟩
  exact ⟨u, stp _ S2, E⟩
theorem go_newarray {aty : ArrayType} {z : Int32} {cap : Nat} (hd : decode bytes pc = .ok (.newarray aty, 2)) (w : (Cond.arrayClass (newarray.typeOf aty)).before a0 Z = true) (hz : ¬ z < 0) (hcap : z.toNatClampNeg ≤ cap) (hb8 : cap * 8 ≤ 536870912) (hc : cells + 1 ≤ R.cells) (hl : slots + cap ≤ R.slots) {ad : String} (had : "[" ++ (newarray.typeOf aty).toString = ad) (hp : pc + 2 = pc')
    (nx : ∀ h' a k, a = h.size → Ext h h' → Arv Z h' a k (newarray.typeOf aty) z [] (defaultValue (newarray.typeOf aty)) → Exa Z h' a ad → Go p l e R s m args below meth c Z a0 EL own bytes maxL ret nm (a :: ws) h' (cells + 1) (slots + cap) pc' Ls (.ref a :: rest) Q) :
    Go p l e R s m args below meth c Z a0 EL own bytes maxL ret nm ws h cells slots pc Ls (.int z :: rest) Q := fun K T P => by
  obtain ⟨vm0, k0, locs, X, eT, hS, hk, hZ, hown, N, I, C, r⟩ := P
  obtain ⟨T', h', k, X', e', E', A', D', stp⟩ := newPE X K.1 hZ w eT (g := mkF m pc Ls (.int z :: rest)) rfl (hb K.2.1 hd) rfl hz hcap hb8 hc hl had
  subst hp
  obtain ⟨u, S2, E⟩ := nx h' h.size k rfl E' (Arv.new A' hz) D' K T' ⟨vm0, k0, _, X', e', hS, Nat.le_trans hk E'.1, hZ, hown, N, I.new E' rfl A'.lt, C.trans (CHr.ext E' I.1), hc, hl⟩
  exact ⟨u, stp _ S2, E⟩
theorem go_anewarray {C0 : String} {idx : Nat} {z : Int32} {cap : Nat} (hd : decode bytes pc = .ok (.anewarray idx, 3)) (w : (Cond.classLink own idx C0).before a0 Z = true) (w2 : (Cond.arrayOver (.object C0)).before a0 Z = true) (hz : ¬ z < 0) (hcap : z.toNatClampNeg ≤ cap) (hb8 : cap * 8 ≤ 536870912) (hc : cells + 1 ≤ R.cells) (hl : slots + cap ≤ R.slots) {ad : String} (had : "[" ++ (FieldType.object C0).toString = ad) (hp : pc + 3 = pc')
    (nx : ∀ h' a k, a = h.size → Ext h h' → Arv Z h' a k (.object C0) z [] .null → Exa Z h' a ad → Ovr Z k C0 → Go p l e R s m args below meth c Z a0 EL own bytes maxL ret nm (a :: ws) h' (cells + 1) (slots + cap) pc' Ls (.ref a :: rest) Q) :
    Go p l e R s m args below meth c Z a0 EL own bytes maxL ret nm ws h cells slots pc Ls (.int z :: rest) Q := fun K T P => by
  obtain ⟨vm0, k0, locs, X, eT, hS, hk, hZ, hown, N, I, C, r⟩ := P
  obtain ⟨T', h', k, X', e', E', A', D', O', stp⟩ := newRE X K.1 hZ hown w w2 eT (g := mkF m pc Ls (.int z :: rest)) rfl (hb K.2.1 hd) rfl hz hcap hb8 hc hl had
  subst hp
  obtain ⟨u, S2, E⟩ := nx h' h.size k rfl E' (Arv.new A' hz) D' O' K T' ⟨vm0, k0, _, X', e', hS, Nat.le_trans hk E'.1, hZ, hown, N, I.new E' rfl A'.lt, C.trans (CHr.ext E' I.1), hc, hl⟩
  exact ⟨u, stp _ S2, E⟩
/-! ## arrays: length, loads, stores -/
theorem go_arraylength {a : Addr} {k : ClassId} {ty : FieldType} {z : Int32} {vs : List Value} {dv : Value} (hd : decode bytes pc = .ok (.arraylength, 1)) (F : Arv Z h a k ty z vs dv) (hp : pc + 1 = pc')
    (nx : Go p l e R s m args below meth c Z a0 EL own bytes maxL ret nm ws h cells slots pc' Ls (.int z :: rest) Q) : Go p l e R s m args below meth c Z a0 EL own bytes maxL ret nm ws h cells slots pc Ls (.ref a :: rest) Q := fun K T P => by
  obtain ⟨u, S2, E⟩ := nx K T P
  obtain ⟨vm0, k0, locs, X, eT, hS, hk, hZ, hown, N, I, C, r⟩ := P
  obtain ⟨cl, A, q1, S, q3, H, G⟩ := F
  subst hp
  refine ⟨u, X.arraylength K.1 (cell := cl) (by rw [eT]; exact A.1) (State.isArrayOf_alike hZ.alike A.2.1) (g := mkF m pc Ls (.ref a :: rest)) rfl rfl (hb K.2.1 hd) _ ?_, E⟩
  rw [len_of S q3]; exact S2
theorem go_caload {a : Addr} {k : ClassId} {z j : Int32} {vs : List Value} {dv v : Value} (hd : decode bytes pc = .ok (.caload, 1)) (F : Arv Z h a k .char z vs dv) (hj : ¬ j < 0 ∧ j < z) (hv : vs.getD j.toNatClampNeg dv = v) (hp : pc + 1 = pc')
    (nx : Go p l e R s m args below meth c Z a0 EL own bytes maxL ret nm ws h cells slots pc' Ls (v :: rest) Q) : Go p l e R s m args below meth c Z a0 EL own bytes maxL ret nm ws h cells slots pc Ls (.int j :: .ref a :: rest) Q := fun K T P => by
  obtain ⟨u, S2, E⟩ := nx K T P
  obtain ⟨vm0, k0, locs, X, eT, hS, hk, hZ, hown, N, I, C, r⟩ := P
  obtain ⟨cl, A, q1, S, q3, H, G⟩ := F
  subst hp
  exact ⟨u, X.caload K.1 (j := j) (v := v) (by rw [eT]; exact A.1) (State.isArrayOf_alike hZ.alike A.2.1) A.2.2 (inb_of S hj) (H.at (inb_of S hj) hv) (g := mkF m pc Ls (.int j :: .ref a :: rest)) rfl rfl (hb K.2.1 hd) _ S2, E⟩
theorem go_baload {a : Addr} {k : ClassId} {z j : Int32} {vs : List Value} {dv v : Value} (hd : decode bytes pc = .ok (.baload, 1)) (F : Arv Z h a k .byte z vs dv) (hj : ¬ j < 0 ∧ j < z) (hv : vs.getD j.toNatClampNeg dv = v) (hp : pc + 1 = pc')
    (nx : Go p l e R s m args below meth c Z a0 EL own bytes maxL ret nm ws h cells slots pc' Ls (v :: rest) Q) : Go p l e R s m args below meth c Z a0 EL own bytes maxL ret nm ws h cells slots pc Ls (.int j :: .ref a :: rest) Q := fun K T P => by
  obtain ⟨u, S2, E⟩ := nx K T P
  obtain ⟨vm0, k0, locs, X, eT, hS, hk, hZ, hown, N, I, C, r⟩ := P
  obtain ⟨cl, A, q1, S, q3, H, G⟩ := F
  subst hp
  exact ⟨u, X.baloadBytes K.1 (j := j) (v := v) (by rw [eT]; exact A.1) (State.isArrayOf_alike hZ.alike A.2.1) A.2.2 (inb_of S hj) (H.at (inb_of S hj) hv) (g := mkF m pc Ls (.int j :: .ref a :: rest)) rfl rfl (hb K.2.1 hd) _ S2, E⟩
theorem go_aaload {a : Addr} {k : ClassId} {ty : FieldType} {z j : Int32} {vs : List Value} {dv v : Value} (hd : decode bytes pc = .ok (.aaload, 1)) (hty : ty.isReference = true) (F : Arv Z h a k ty z vs dv) (hj : ¬ j < 0 ∧ j < z) (hv : vs.getD j.toNatClampNeg dv = v) (hp : pc + 1 = pc')
    (nx : Go p l e R s m args below meth c Z a0 EL own bytes maxL ret nm ws h cells slots pc' Ls (v :: rest) Q) : Go p l e R s m args below meth c Z a0 EL own bytes maxL ret nm ws h cells slots pc Ls (.int j :: .ref a :: rest) Q := fun K T P => by
  obtain ⟨u, S2, E⟩ := nx K T P
  obtain ⟨vm0, k0, locs, X, eT, hS, hk, hZ, hown, N, I, C, r⟩ := P
  obtain ⟨cl, A, q1, S, q3, H, G⟩ := F
  subst hp
  exact ⟨u, X.aaload K.1 (j := j) (v := v) (by rw [eT]; exact A.1) (State.isArrayOf_alike hZ.alike A.2.1) hty A.2.2 (inb_of S hj) (H.at (inb_of S hj) hv) (g := mkF m pc Ls (.int j :: .ref a :: rest)) rfl rfl (hb K.2.1 hd) _ S2, E⟩
/-- a char stored: as the array keeps it -/
theorem go_castore {a : Addr} {k : ClassId} {z j x x' : Int32} {vs : List Value} {dv : Value} (i : Nat) (hd : decode bytes pc = .ok (.castore, 1)) (F : Arv Z h a k .char z vs dv) (hj : ¬ j < 0 ∧ j < z) (hi : j.toNatClampNeg = i) (hl : i < vs.length) (hx' : nar .char x = x') (ha : a ∈ ws) (hp : pc + 1 = pc')
    (nx : ∀ h', Wr h h' a j.toNatClampNeg (.int x') → Arv Z h' a k .char z (vs.set i (.int x')) dv → Go p l e R s m args below meth c Z a0 EL own bytes maxL ret nm ws h' cells slots pc' Ls rest Q) : Go p l e R s m args below meth c Z a0 EL own bytes maxL ret nm ws h cells slots pc Ls (.int x :: .int j :: .ref a :: rest) Q := fun K T P => by
  obtain ⟨vm0, k0, locs, X, eT, hS, hk, hZ, hown, N, I, C, r⟩ := P
  obtain ⟨cl, A, q1, S, q3, H, G⟩ := F
  obtain ⟨T', h', X', e', W, stp⟩ := stC X K.1 hZ eT A (inb_of S hj) (g := mkF m pc Ls (.int x :: .int j :: .ref a :: rest)) rfl rfl (hb K.2.1 hd)
  subst hp hx'
  obtain ⟨u, S2, E⟩ := nx h' W (Arv.set A q1 S q3 H G (fits_nar_char _) W i hi hl) K T' ⟨vm0, k0, _, X', e', hS, by rw [W.size]; exact hk, hZ, hown, Fr.snoc X' N (I.2.2 a ha).1, I.wr W ha, C.trans (CHr.wr W (I.2.2 a ha).2.2 I.1), r⟩
  exact ⟨u, stp _ S2, E⟩
theorem go_bastore {a : Addr} {k : ClassId} {z j x x' : Int32} {vs : List Value} {dv : Value} (i : Nat) (hd : decode bytes pc = .ok (.bastore, 1)) (F : Arv Z h a k .byte z vs dv) (hj : ¬ j < 0 ∧ j < z) (hi : j.toNatClampNeg = i) (hl : i < vs.length) (hx' : x.toInt8.toInt32 = x') (ha : a ∈ ws) (hp : pc + 1 = pc')
    (nx : ∀ h', Wr h h' a j.toNatClampNeg (.int x') → Arv Z h' a k .byte z (vs.set i (.int x')) dv → Go p l e R s m args below meth c Z a0 EL own bytes maxL ret nm ws h' cells slots pc' Ls rest Q) : Go p l e R s m args below meth c Z a0 EL own bytes maxL ret nm ws h cells slots pc Ls (.int x :: .int j :: .ref a :: rest) Q := fun K T P => by
  obtain ⟨vm0, k0, locs, X, eT, hS, hk, hZ, hown, N, I, C, r⟩ := P
  obtain ⟨cl, A, q1, S, q3, H, G⟩ := F
  obtain ⟨T', h', X', e', W, stp⟩ := stB X K.1 hZ eT A (inb_of S hj) (g := mkF m pc Ls (.int x :: .int j :: .ref a :: rest)) rfl rfl (hb K.2.1 hd)
  subst hp hx'
  obtain ⟨u, S2, E⟩ := nx h' W (Arv.set A q1 S q3 H G (fits_nar_byte _) W i hi hl) K T' ⟨vm0, k0, _, X', e', hS, by rw [W.size]; exact hk, hZ, hown, Fr.snoc X' N (I.2.2 a ha).1, I.wr W ha, C.trans (CHr.wr W (I.2.2 a ha).2.2 I.1), r⟩
  exact ⟨u, stp _ S2, E⟩
theorem go_aastore {a : Addr} {k : ClassId} {ty : FieldType} {z j : Int32} {v : Value} {vs : List Value} {dv : Value} (i : Nat) (hd : decode bytes pc = .ok (.aastore, 1)) (hty : ty.isReference = true) (F : Arv Z h a k ty z vs dv) (hf : fits ty v = true) (hS' : Sto Z h a v) (hj : ¬ j < 0 ∧ j < z) (hi : j.toNatClampNeg = i) (hl : i < vs.length) (ha : a ∈ ws) (hp : pc + 1 = pc')
    (nx : ∀ h', Wr h h' a j.toNatClampNeg v → Arv Z h' a k ty z (vs.set i v) dv → Go p l e R s m args below meth c Z a0 EL own bytes maxL ret nm ws h' cells slots pc' Ls rest Q) : Go p l e R s m args below meth c Z a0 EL own bytes maxL ret nm ws h cells slots pc Ls (v :: .int j :: .ref a :: rest) Q := fun K T P => by
  obtain ⟨vm0, k0, locs, X, eT, hS, hk, hZ, hown, N, I, C, r⟩ := P
  obtain ⟨cl, A, q1, S, q3, H, G⟩ := F
  obtain ⟨T', h', X', e', W, stp⟩ := stR X K.1 hZ eT A (inb_of S hj) hty hS' (g := mkF m pc Ls (v :: .int j :: .ref a :: rest)) rfl rfl (hb K.2.1 hd)
  subst hp
  obtain ⟨u, S2, E⟩ := nx h' W (Arv.set A q1 S q3 H G hf W i hi hl) K T' ⟨vm0, k0, _, X', e', hS, by rw [W.size]; exact hk, hZ, hown, Fr.snoc X' N (I.2.2 a ha).1, I.wr W ha, C.trans (CHr.wr W (I.2.2 a ha).2.2 I.1), r⟩
  exact ⟨u, stp _ S2, E⟩
/-! ## casts -/
theorem go_checkcast {K0 : String} {idx : Nat} {a : Addr} (hd : decode bytes pc = .ok (.checkcast idx, 3)) (w : (Cond.classLink own idx K0).before a0 Z = true) (F : Ins Z h a K0 true) (hp : pc + 3 = pc')
    (nx : Go p l e R s m args below meth c Z a0 EL own bytes maxL ret nm ws h cells slots pc' Ls (.ref a :: rest) Q) : Go p l e R s m args below meth c Z a0 EL own bytes maxL ret nm ws h cells slots pc Ls (.ref a :: rest) Q := fun K T P => by
  obtain ⟨vm0, k0, locs, X, eT, hS, hk, hZ, hown, N, I, C, r⟩ := P
  obtain ⟨T', X', e', stp⟩ := castY X K.1 hZ hown w eT F (g := mkF m pc Ls (.ref a :: rest)) rfl rfl (hb K.2.1 hd)
  subst hp
  obtain ⟨u, S2, E⟩ := nx K T' ⟨vm0, k0, locs, X', e', hS, hk, hZ, hown, N, I, C, r⟩
  exact ⟨u, stp _ S2, E⟩
theorem go_instYes {K0 : String} {idx : Nat} {a : Addr} (hd : decode bytes pc = .ok (.instanceof idx, 3)) (w : (Cond.classLink own idx K0).before a0 Z = true) (F : Ins Z h a K0 true) (hp : pc + 3 = pc')
    (nx : Go p l e R s m args below meth c Z a0 EL own bytes maxL ret nm ws h cells slots pc' Ls (.int 1 :: rest) Q) : Go p l e R s m args below meth c Z a0 EL own bytes maxL ret nm ws h cells slots pc Ls (.ref a :: rest) Q := fun K T P => by
  obtain ⟨vm0, k0, locs, X, eT, hS, hk, hZ, hown, N, I, C, r⟩ := P
  obtain ⟨T', X', e', stp⟩ := instY X K.1 hZ hown w eT F (g := mkF m pc Ls (.ref a :: rest)) rfl rfl (hb K.2.1 hd)
  subst hp
  obtain ⟨u, S2, E⟩ := nx K T' ⟨vm0, k0, locs, X', e', hS, hk, hZ, hown, N, I, C, r⟩
  exact ⟨u, stp _ S2, E⟩
theorem go_instNo {K0 C0 : String} {idx : Nat} {a : Addr} (hd : decode bytes pc = .ok (.instanceof idx, 3)) (w : (Cond.classLink own idx K0).before a0 Z = true) (E0 : Exa Z h a C0) (F : ∃ c t, Z.vm.findClass C0 = some c ∧ Z.vm.findClass K0 = some t ∧ Z.vm.assignable c t = false) (hp : pc + 3 = pc')
    (nx : Go p l e R s m args below meth c Z a0 EL own bytes maxL ret nm ws h cells slots pc' Ls (.int 0 :: rest) Q) : Go p l e R s m args below meth c Z a0 EL own bytes maxL ret nm ws h cells slots pc Ls (.ref a :: rest) Q := fun K T P => by
  obtain ⟨vm0, k0, locs, X, eT, hS, hk, hZ, hown, N, I, C, r⟩ := P
  obtain ⟨T', X', e', stp⟩ := instNo X K.1 hZ hown w eT E0 F (g := mkF m pc Ls (.ref a :: rest)) rfl rfl (hb K.2.1 hd)
  subst hp
  obtain ⟨u, S2, E⟩ := nx K T' ⟨vm0, k0, locs, X', e', hS, hk, hZ, hown, N, I, C, r⟩
  exact ⟨u, stp _ S2, E⟩
/-! ## String constants -/
theorem go_ldcO {text : String} {idx n : Nat} (hd : decode bytes pc = .ok (.ldc idx, 2)) (w : (Cond.stringLink own idx text).before a0 Z = true) (wS : ∀ a ∈ Bundle.stringAtoms, a.before a0 Z = true) (hn : 4 * text.toList.length ≤ n) (hbig : n ≤ 536870912) (hc : cells + 2 ≤ R.cells) (hl : slots + (n + 4) ≤ R.slots) (hp : pc + 2 = pc')
    (nx : ∀ h' a, Ext h h' → Go p l e R s m args below meth c Z a0 EL own bytes maxL ret nm ws h' (cells + 2) (slots + (n + 4)) pc' Ls (.ref a :: st) Q) : Go p l e R s m args below meth c Z a0 EL own bytes maxL ret nm ws h cells slots pc Ls st Q := fun K T P => by
  obtain ⟨vm0, k0, locs, X, eT, hS, hk, hZ, hown, N, I, C, r⟩ := P
  obtain ⟨a, T', h', k1, X', e', E', hS', hk', hZ', hown', C', -, stp⟩ := ldcOH X K.1 hZ hown w wS eT hS hk K.2.2.2.2.2.2 I.1 (g := mkF m pc Ls st) rfl (hb K.2.1 hd) hn hbig hc hl
  subst hp
  obtain ⟨u, S2, E⟩ := nx h' a E' K T' ⟨T'.vm, k1, locs, X', e', hS', hk', hZ', hown', N, I.ld C' E', C.trans C', hc, hl⟩
  exact ⟨u, stp _ S2, E⟩
theorem go_ldcR {text : String} {idx n : Nat} {vs : List Value} {z : Int32} (hd : decode bytes pc = .ok (.ldc idx, 2)) (w : (Cond.stringLink own idx text).before a0 Z = true) (wS : ∀ a ∈ Bundle.stringAtoms, a.before a0 Z = true) (hm : (own, idx) ∈ EL)
    (ht : (∀ c ∈ text.toList, c.toNat < 256) ∧ text.toList.map (fun c => Value.int (Jvm.Lit.byteI c.toNat.toUInt16)) = vs) (hz : ¬ z < 0) (hzl : z.toNatClampNeg = vs.length) (hn : 4 * text.toList.length ≤ n) (hbig : n ≤ 536870912) (hc : cells + 2 ≤ R.cells) (hl : slots + (n + 4) ≤ R.slots) (hp : pc + 2 = pc')
    (nx : ∀ h' a b k, Ext h h' → Exa Z h' a "java/lang/String" → Fld Z h' a "java/lang/String" "coder" "B" (.int 0) → Fld Z h' a "java/lang/String" "value" "[B" (.ref b) → Arv Z h' b k .byte z vs (.int 0) → (∀ x ∈ ws, x ≠ a ∧ x ≠ b) →
      Go p l e R s m args below meth c Z a0 EL own bytes maxL ret nm ws h' (cells + 2) (slots + (n + 4)) pc' Ls (.ref a :: st) Q) : Go p l e R s m args below meth c Z a0 EL own bytes maxL ret nm ws h cells slots pc Ls st Q := fun K T P => by
  obtain ⟨vm0, k0, locs, X, eT, hS, hk, hZ, hown, N, I, C, r⟩ := P
  obtain ⟨a, T', h', k1, b, k, X', e', E', hS', hk', hZ', hown', A1, A2, A3, A4, -, -, C', -, hne, stp⟩ := ldcCH X K.1 hZ hown w wS eT hS hk K.2.2.2.2.2.2 hm I.1 ht hz hzl (g := mkF m pc Ls st) rfl (hb K.2.1 hd) hn hbig hc hl
  subst hp
  have I' := I.ld C' E'
  obtain ⟨u, S2, E⟩ := nx h' a b k E' A1 A2 A3 A4 (fun x hx => hne x (I'.2.2 x hx).2.2) K T' ⟨T'.vm, k1, locs, X', e', hS', hk', hZ', hown', N, I', C.trans C', hc, hl⟩
  exact ⟨u, stp _ S2, E⟩
theorem go_ldcI {idx : Nat} {z : Int32} (hd : decode bytes pc = .ok (.ldc idx, 2)) (w : (Cond.constant own idx z).before a0 Z = true) (hp : pc + 2 = pc')
    (nx : Go p l e R s m args below meth c Z a0 EL own bytes maxL ret nm ws h cells slots pc' Ls (.int z :: st) Q) : Go p l e R s m args below meth c Z a0 EL own bytes maxL ret nm ws h cells slots pc Ls st Q := fun K T P => by
  obtain ⟨u, S2, E⟩ := nx K T P
  obtain ⟨vm0, k0, locs, X, eT, hS, hk, hZ, hown, N, I, C, r⟩ := P
  subst hp
  exact ⟨u, X.ldcInt K.1 hown (mv (s := s.setVm vm0) hZ w) (g := mkF m pc Ls st) rfl (hb K.2.1 hd) _ S2, E⟩
/-! ## calls -/
theorem go_init {idx W : Nat} {a : Addr} (hd : decode bytes pc = .ok (.invokespecial idx, 3)) (w1 : (Cond.methodLink own idx Lib.objectInit).before a0 Z = true) (w2 : (Cond.instanceMethod Lib.objectInit).before a0 Z = true) (w3 : (Cond.code Lib.objectInit ⟨#[0xb1]⟩ 1 none).before a0 Z = true) (hsz : Ls.size = maxL) (hf : 1 ≤ R.frames)
    (hW : (rest.map fun v => v.category).sum ≤ W) (hl : W + 12 ≤ R.locals) (hp : pc + 3 = pc') (nx : Go p l e R s m args below meth c Z a0 EL own bytes maxL ret nm ws h cells slots pc' Ls rest Q) : Go p l e R s m args below meth c Z a0 EL own bytes maxL ret nm ws h cells slots pc Ls (.ref a :: rest) Q := fun K T P => by
  obtain ⟨vm0, k0, locs, X, eT, hS, hk, hZ, hown, N, I, C, r⟩ := P
  obtain ⟨T', X', e', stp⟩ := initO X K.1 hZ hown w1 w2 w3 eT (g := mkF m pc Ls (.ref a :: rest)) rfl (hsz.trans K.2.2.1.symm) rfl (hb K.2.1 hd) hf (W := W) (by show 2 * 0 + _ ≤ _; omega) hl
  subst hp
  obtain ⟨u, S2, E⟩ := nx K T' ⟨vm0, k0, locs, X', e', hS, hk, hZ, hown, N, I, C, r⟩
  exact ⟨u, stp _ S2, E⟩
/-- what comes behind a call's return -/
theorem go_after {vm0 : Vm} {k0 : Nat} {locs : List Loc} {T : State} {B : Pt} {v : Option Value} {rm : Room} (K : Cst p meth c Z a0 EL bytes maxL ret nm) (eT : T.heap = h) (hS : s.Since vm0 k0) (hk : k0 ≤ h.size) (hZ : Z.Warmed39 vm0) (hown : vm0.findClass own = some m.cls) (N : Fr Z.heap.size locs) (C : CHr Z EL s.vm s.heap vm0 h)
    (hc : cells + rm.cells ≤ R.cells) (hl : slots + rm.slots ≤ R.slots)
    (X' : Stand p l e R ((s.setVm vm0).setVm B.U.vm) m args below meth c B.U B.locs B.cells B.slots) (h2 : (s.setVm vm0).Since B.U.vm B.U.heap.size) (hgr : T.heap.size ≤ B.U.heap.size)
    (hp : ∃ (L : List Loc) (ws' : List Addr), Q v B.U.heap ws' ∧ Fr Z.heap.size L ∧ B.locs = locs ++ L ∧ B.cells = cells + rm.cells ∧ B.slots = slots + rm.slots ∧ CHr Z EL vm0 h B.U.vm B.U.heap ∧ Inv Z EL (ws' ++ ws) B.U.vm B.U.heap) {st0 : State} (hst : Steps p.tables e below st0 (B.U.setTop (mkF m pc' Ls st')))
    (nx : ∀ h' ws', Q v h' ws' → h.size ≤ h'.size → Go p l e R s m args below meth c Z a0 EL own bytes maxL ret nm (ws' ++ ws) h' (cells + rm.cells) (slots + rm.slots) pc' Ls st' Q') : ∃ u, Steps p.tables e below st0 u ∧ Done s below R Z EL Q' u := by
  obtain ⟨L, ws', q, N', e1, e2, e3, C', I'⟩ := hp
  have hgr' : h.size ≤ B.U.heap.size := by rw [← eT]; exact hgr
  rw [e1, e2, e3] at X'
  obtain ⟨u, S2, E⟩ := nx B.U.heap ws' q hgr' K B.U ⟨B.U.vm, B.U.heap.size, _, X', rfl, hS.trans h2 (Nat.le_trans hk hgr'), Nat.le_refl _, State.Warmed39.trans (t := s.setVm vm0) hZ h2.1, (h2.1.alike.findClass _ _).trans hown, N.app N', I', C.trans C', hc, hl⟩
  exact ⟨u, hst.trans S2, E⟩
theorem go_static {idx W : Nat} {y : MethodName} {bY : ByteArray} {mY : Nat} {rY : Option FieldType} {rm : Room} {as' : Array Value} {ws0 : List Addr} {argsL : List Value} (hd : decode bytes pc = .ok (.invokestatic idx, 3)) (hM : Con l Z EL y bY mY rY [] rm as' h ws0 Q) (hs : ∀ x ∈ ws0, x ∈ ws)
    (w1 : (Cond.methodLink own idx y).before a0 Z = true) (w2 : (Cond.static y).before a0 Z = true) (w3 : (Cond.initialized y.cls).before a0 Z = true) (w4 : (Cond.code y bY mY rY).before a0 Z = true) (hy : y.cls ≠ "java/lang/invoke/MethodHandle" ∧ y.cls ≠ "java/lang/invoke/VarHandle")
    (hlen : ∀ sig, parseMethodDescriptor y.desc = some sig → argsL.length = sig.parameters.length) (has : argsL.toArray = as') (hst : st = argsL.reverse ++ rest) (hsz : Ls.size = maxL) (hW : (rest.map fun v => v.category).sum ≤ W) (hf : rm.frames + 1 ≤ R.frames) (hlo : W + (mY + 11) + rm.locals ≤ R.locals) (hc : cells + rm.cells ≤ R.cells) (hl : slots + rm.slots ≤ R.slots) (hp : pc + 3 = pc')
    (nx : ∀ v h' ws', Q v h' ws' → h.size ≤ h'.size → Go p l e R s m args below meth c Z a0 EL own bytes maxL ret nm (ws' ++ ws) h' (cells + rm.cells) (slots + rm.slots) pc' Ls (v.toList ++ rest) Q') :
    Go p l e R s m args below meth c Z a0 EL own bytes maxL ret nm ws h cells slots pc Ls st Q' := fun K T P => by
  obtain ⟨vm0, k0, locs, X, eT, hS, hk, hZ, hown, N, I, C, r⟩ := P
  subst hst hp
  obtain ⟨v, vm₁, B, hW1, X', h2, hgr, hpost, hsteps⟩ := callSS X K.1 hown (mvT (s := s.setVm vm0) hZ w1) (mvT (s := s.setVm vm0) hZ w2) (mvT (s := s.setVm vm0) hZ w3) (mvT (s := s.setVm vm0) hZ w4) hy (backC (W := W) hM hZ w4 w3 hf hlo K.2.2.2.2.2.2 I hs) (g := mkF m pc Ls (argsL.reverse ++ rest)) rfl (hsz.trans K.2.2.1.symm) hlen rfl (by show 2 * 0 + _ ≤ _; omega) (hb K.2.1 hd) (fun _ _ => ⟨has, eT, hc, hl⟩)
  exact go_after K eT hS hk hZ hown N C hc hl X' h2 hgr hpost hsteps (nx v)
theorem go_special {idx W : Nat} {y : MethodName} {bY : ByteArray} {mY : Nat} {rm : Room} {as' : Array Value} {ws0 : List Addr} {argsL : List Value} {a : Addr} (hd : decode bytes pc = .ok (.invokespecial idx, 3)) (hM : Con l Z EL y bY mY none [] rm as' h ws0 Q) (hs : ∀ x ∈ ws0, x ∈ ws) (hy1 : y.name = "<init>")
    (w1 : (Cond.methodLink own idx y).before a0 Z = true) (w2 : (Cond.instanceMethod y).before a0 Z = true) (w3 : (Cond.initialized y.cls).before a0 Z = true) (w4 : (Cond.code y bY mY none).before a0 Z = true) (hy : y.cls ≠ "java/lang/invoke/MethodHandle" ∧ y.cls ≠ "java/lang/invoke/VarHandle")
    (hlen : ∀ sig, parseMethodDescriptor y.desc = some sig → argsL.length = sig.parameters.length) (has : (Value.ref a :: argsL).toArray = as') (hst : st = argsL.reverse ++ .ref a :: rest) (hsz : Ls.size = maxL) (hW : (rest.map fun v => v.category).sum ≤ W) (hf : rm.frames + 1 ≤ R.frames) (hlo : W + (mY + 11) + rm.locals ≤ R.locals) (hc : cells + rm.cells ≤ R.cells) (hl : slots + rm.slots ≤ R.slots) (hp : pc + 3 = pc')
    (nx : ∀ v h' ws', Q v h' ws' → h.size ≤ h'.size → Go p l e R s m args below meth c Z a0 EL own bytes maxL ret nm (ws' ++ ws) h' (cells + rm.cells) (slots + rm.slots) pc' Ls (v.toList ++ rest) Q') :
    Go p l e R s m args below meth c Z a0 EL own bytes maxL ret nm ws h cells slots pc Ls st Q' := fun K T P => by
  obtain ⟨vm0, k0, locs, X, eT, hS, hk, hZ, hown, N, I, C, r⟩ := P
  subst hst hp
  obtain ⟨v, vm₁, B, hW1, X', h2, hgr, hpost, hsteps⟩ := X.specialBackS K.1 hy1 hown (mvT (s := s.setVm vm0) hZ w1) (mvT (s := s.setVm vm0) hZ w2) (mvT (s := s.setVm vm0) hZ w4) hy (backC (W := W) hM hZ w4 w3 hf hlo K.2.2.2.2.2.2 I hs) (g := mkF m pc Ls (argsL.reverse ++ .ref a :: rest)) rfl (hsz.trans K.2.2.1.symm) (Steps.refl _) hlen rfl (by show 2 * 0 + _ ≤ _; omega) (hb K.2.1 hd) (fun _ _ => ⟨has, eT, hc, hl⟩)
  exact go_after K eT hS hk hZ hown N C hc hl X' h2 hgr hpost hsteps (nx v)
theorem go_virtual {idx W : Nat} {y z : MethodName} {C0 : String} {bY : ByteArray} {mY : Nat} {rY : Option FieldType} {rm : Room} {as' : Array Value} {ws0 : List Addr} {argsL : List Value} {a : Addr} (hd : decode bytes pc = .ok (.invokevirtual idx, 3)) (hM : Con l Z EL z bY mY rY [] rm as' h ws0 Q) (hs : ∀ x ∈ ws0, x ∈ ws) (E0 : Exa Z h a C0)
    (w1 : (Cond.methodLink own idx y).before a0 Z = true) (w2 : (Cond.declares y).before a0 Z = true) (w5 : (Cond.selects C0 y z).before a0 Z = true) (hnf : ∀ s' : State, Z.Warmed39 s'.vm → NotFace s' y) (w6 : (Cond.instanceMethod z).before a0 Z = true) (w3 : (Cond.initialized z.cls).before a0 Z = true) (w4 : (Cond.code z bY mY rY).before a0 Z = true) (hy : y.cls ≠ "java/lang/invoke/MethodHandle" ∧ y.cls ≠ "java/lang/invoke/VarHandle")
    (hlen : ∀ sig, parseMethodDescriptor y.desc = some sig → argsL.length = sig.parameters.length) (has : (Value.ref a :: argsL).toArray = as') (hst : st = argsL.reverse ++ .ref a :: rest) (hsz : Ls.size = maxL) (hW : (rest.map fun v => v.category).sum ≤ W) (hf : rm.frames + 1 ≤ R.frames) (hlo : W + (mY + 11) + rm.locals ≤ R.locals) (hc : cells + rm.cells ≤ R.cells) (hl : slots + rm.slots ≤ R.slots) (hp : pc + 3 = pc')
    (nx : ∀ v h' ws', Q v h' ws' → h.size ≤ h'.size → Go p l e R s m args below meth c Z a0 EL own bytes maxL ret nm (ws' ++ ws) h' (cells + rm.cells) (slots + rm.slots) pc' Ls (v.toList ++ rest) Q') :
    Go p l e R s m args below meth c Z a0 EL own bytes maxL ret nm ws h cells slots pc Ls st Q' := fun K T P => by
  obtain ⟨vm0, k0, locs, X, eT, hS, hk, hZ, hown, N, I, C, r⟩ := P
  subst hst hp
  obtain ⟨cB, kB, i1, i2, i3⟩ := isOf (s := s.setVm vm0) hZ eT E0
  obtain ⟨v, vm₁, B, hW1, X', h2, hgr, hpost, hsteps⟩ := X.virtualBackS K.1 hown (mvT (s := s.setVm vm0) hZ w1) (mvT (s := s.setVm vm0) hZ w2) (hnf (s.setVm vm0) hZ) (mvT (s := s.setVm vm0) hZ w5) (mvT (s := s.setVm vm0) hZ w6) hy (backC (W := W) hM hZ w4 w3 hf hlo K.2.2.2.2.2.2 I hs) i1 i3 (g := mkF m pc Ls (argsL.reverse ++ .ref a :: rest)) rfl (hsz.trans K.2.2.1.symm) (Steps.refl _) hlen rfl (by show 2 * 0 + _ ≤ _; omega) (hb K.2.1 hd) (fun _ _ => ⟨has, eT, hc, hl⟩)
  exact go_after K eT hS hk hZ hown N C hc hl X' h2 hgr hpost hsteps (nx v)
theorem nf_sel {y : MethodName} {C0 : String} (w : (Cond.selects C0 y y).before a0 Z = true) : ∀ s' : State, Z.Warmed39 s'.vm → NotFace s' y := fun s' hZ => notFace_of_selects (args := #[]) (mvT hZ w)
end Rules
end Jvm.Own
namespace Jvm.Own
open Sem ClassFile Op Lib Bundle Jvm.Stand Jvm.Free Jvm.LawKit Jvm.RoadKit
section Rules2
variable {p : Program} {l : Launch} {e : Env} {R : Room} {s : State} {m : MethodId} {args : Array Value} {below : List Frame} {meth : Method} {c : Code} {Z : State} {a0 : Array Value} {EL : List (String × Nat)} {own : String} {bytes : ByteArray} {maxL : Nat} {ret : Option FieldType} {nm : String}
  {ws : List Addr} {h : Heap} {cells slots : Nat} {pc pc' : Nat} {Ls Ls' : Array Slot} {st st' rest : List Value} {Q Q' : Option Value → Heap → List Addr → Prop}
theorem g_iload {k : Nat} {v : Int32} (hd : decode bytes pc = .ok (.iload k, 2)) (hp : pc + 2 = pc') (hl : Ls[k]? = some (.val (.int v))) (n : Go p l e R s m args below meth c Z a0 EL own bytes maxL ret nm ws h cells slots pc' Ls (.int v :: st) Q) : Go p l e R s m args below meth c Z a0 EL own bytes maxL ret nm ws h cells slots pc Ls st Q := by
  subst hp; exact go_step (fun hx q _ A _ k => XS.iload A hx rfl (hb q hd) hl k) n
theorem g_iloadN {k : Fin 4} {v : Int32} (hd : decode bytes pc = .ok (.iload_n k, 1)) (hp : pc + 1 = pc') (hl : Ls[k.val]? = some (.val (.int v))) (n : Go p l e R s m args below meth c Z a0 EL own bytes maxL ret nm ws h cells slots pc' Ls (.int v :: st) Q) : Go p l e R s m args below meth c Z a0 EL own bytes maxL ret nm ws h cells slots pc Ls st Q := by
  subst hp; exact go_step (fun hx q _ A _ k => XS.iloadN A hx rfl (hb q hd) hl k) n
theorem g_lload {k : Nat} {v : Int64} (hd : decode bytes pc = .ok (.lload k, 2)) (hp : pc + 2 = pc') (hl : Ls[k]? = some (.val (.long v))) (n : Go p l e R s m args below meth c Z a0 EL own bytes maxL ret nm ws h cells slots pc' Ls (.long v :: st) Q) : Go p l e R s m args below meth c Z a0 EL own bytes maxL ret nm ws h cells slots pc Ls st Q := by
  subst hp; exact go_step (fun hx q _ A _ k => XS.lload A hx rfl (hb q hd) hl k) n
theorem g_lloadN {k : Fin 4} {v : Int64} (hd : decode bytes pc = .ok (.lload_n k, 1)) (hp : pc + 1 = pc') (hl : Ls[k.val]? = some (.val (.long v))) (n : Go p l e R s m args below meth c Z a0 EL own bytes maxL ret nm ws h cells slots pc' Ls (.long v :: st) Q) : Go p l e R s m args below meth c Z a0 EL own bytes maxL ret nm ws h cells slots pc Ls st Q := by
  subst hp; exact go_step (fun hx q _ A _ k => XS.lloadN A hx rfl (hb q hd) hl k) n
theorem g_aload {k : Nat} {v : Value} (hd : decode bytes pc = .ok (.aload k, 2)) (hp : pc + 2 = pc') (hl : Ls[k]? = some (.val v)) (hv : v.isRef = true) (n : Go p l e R s m args below meth c Z a0 EL own bytes maxL ret nm ws h cells slots pc' Ls (v :: st) Q) : Go p l e R s m args below meth c Z a0 EL own bytes maxL ret nm ws h cells slots pc Ls st Q := by
  subst hp; exact go_step (fun hx q _ A _ k => XS.aload A hx rfl (hb q hd) hl hv k) n
theorem g_aloadN {k : Fin 4} {v : Value} (hd : decode bytes pc = .ok (.aload_n k, 1)) (hp : pc + 1 = pc') (hl : Ls[k.val]? = some (.val v)) (hv : v.isRef = true) (n : Go p l e R s m args below meth c Z a0 EL own bytes maxL ret nm ws h cells slots pc' Ls (v :: st) Q) : Go p l e R s m args below meth c Z a0 EL own bytes maxL ret nm ws h cells slots pc Ls st Q := by
  subst hp; exact go_step (fun hx q _ A _ k => XS.aloadN A hx rfl (hb q hd) hl hv k) n
theorem g_iconst {i : Int} {z : Int32} (hd : decode bytes pc = .ok (.iconst i, 1)) (hp : pc + 1 = pc') (hz : Int32.ofInt i = z) (n : Go p l e R s m args below meth c Z a0 EL own bytes maxL ret nm ws h cells slots pc' Ls (.int z :: st) Q) : Go p l e R s m args below meth c Z a0 EL own bytes maxL ret nm ws h cells slots pc Ls st Q := by
  subst hp hz; exact go_step (fun hx q _ A _ k => XS.iconst A hx rfl (hb q hd) k) n
theorem g_bipush {i : Int} {z : Int32} (hd : decode bytes pc = .ok (.bipush i, 2)) (hp : pc + 2 = pc') (hz : (Int8.ofInt i).toInt32 = z) (n : Go p l e R s m args below meth c Z a0 EL own bytes maxL ret nm ws h cells slots pc' Ls (.int z :: st) Q) : Go p l e R s m args below meth c Z a0 EL own bytes maxL ret nm ws h cells slots pc Ls st Q := by
  subst hp hz; exact go_step (fun hx q _ A _ k => XS.bipush A hx rfl (hb q hd) k) n
theorem g_sipush {i : Int} {z : Int32} (hd : decode bytes pc = .ok (.sipush i, 3)) (hp : pc + 3 = pc') (hz : (Int16.ofInt i).toInt32 = z) (n : Go p l e R s m args below meth c Z a0 EL own bytes maxL ret nm ws h cells slots pc' Ls (.int z :: st) Q) : Go p l e R s m args below meth c Z a0 EL own bytes maxL ret nm ws h cells slots pc Ls st Q := by
  subst hp hz; exact go_step (fun hx q _ A _ k => XS.sipush A hx rfl (hb q hd) k) n
theorem g_aconstNull  (hd : decode bytes pc = .ok (.aconst_null, 1)) (hp : pc + 1 = pc') (n : Go p l e R s m args below meth c Z a0 EL own bytes maxL ret nm ws h cells slots pc' Ls (.null :: st) Q) : Go p l e R s m args below meth c Z a0 EL own bytes maxL ret nm ws h cells slots pc Ls st Q := by
  subst hp; exact go_step (fun hx q _ A _ k => XS.aconstNull A hx rfl (hb q hd) k) n
theorem g_lconst {i : Fin 2} {z : Int64} (hd : decode bytes pc = .ok (.lconst i, 1)) (hp : pc + 1 = pc') (hz : Int64.ofNat i = z) (n : Go p l e R s m args below meth c Z a0 EL own bytes maxL ret nm ws h cells slots pc' Ls (.long z :: st) Q) : Go p l e R s m args below meth c Z a0 EL own bytes maxL ret nm ws h cells slots pc Ls st Q := by
  subst hp hz; exact go_step (fun hx q _ A _ k => XS.lconst A hx rfl (hb q hd) k) n
theorem g_istore {k : Nat} {x : Int32} (hd : decode bytes pc = .ok (.istore k, 2)) (hp : pc + 2 = pc') (hl : storeLocals Ls k (.int x) = some Ls') (n : Go p l e R s m args below meth c Z a0 EL own bytes maxL ret nm ws h cells slots pc' Ls' rest Q) : Go p l e R s m args below meth c Z a0 EL own bytes maxL ret nm ws h cells slots pc Ls (.int x :: rest) Q := by
  subst hp; exact go_step (fun hx q _ A _ k => XS.istore A hx rfl (hb q hd) rfl hl k) n
theorem g_istoreN {k : Fin 4} {x : Int32} (hd : decode bytes pc = .ok (.istore_n k, 1)) (hp : pc + 1 = pc') (hl : storeLocals Ls k.val (.int x) = some Ls') (n : Go p l e R s m args below meth c Z a0 EL own bytes maxL ret nm ws h cells slots pc' Ls' rest Q) : Go p l e R s m args below meth c Z a0 EL own bytes maxL ret nm ws h cells slots pc Ls (.int x :: rest) Q := by
  subst hp; exact go_step (fun hx q _ A _ k => XS.istoreN A hx rfl (hb q hd) rfl hl k) n
theorem g_lstore {k : Nat} {x : Int64} (hd : decode bytes pc = .ok (.lstore k, 2)) (hp : pc + 2 = pc') (hl : storeLocals Ls k (.long x) = some Ls') (n : Go p l e R s m args below meth c Z a0 EL own bytes maxL ret nm ws h cells slots pc' Ls' rest Q) : Go p l e R s m args below meth c Z a0 EL own bytes maxL ret nm ws h cells slots pc Ls (.long x :: rest) Q := by
  subst hp; exact go_step (fun hx q _ A _ k => XS.lstore A hx rfl (hb q hd) rfl hl k) n
theorem g_lstoreN {k : Fin 4} {x : Int64} (hd : decode bytes pc = .ok (.lstore_n k, 1)) (hp : pc + 1 = pc') (hl : storeLocals Ls k.val (.long x) = some Ls') (n : Go p l e R s m args below meth c Z a0 EL own bytes maxL ret nm ws h cells slots pc' Ls' rest Q) : Go p l e R s m args below meth c Z a0 EL own bytes maxL ret nm ws h cells slots pc Ls (.long x :: rest) Q := by
  subst hp; exact go_step (fun hx q _ A _ k => XS.lstoreN A hx rfl (hb q hd) rfl hl k) n
theorem g_astore {k : Nat} {x : Value} (hd : decode bytes pc = .ok (.astore k, 2)) (hp : pc + 2 = pc') (hv : x.isRef = true) (hl : storeLocals Ls k x = some Ls') (n : Go p l e R s m args below meth c Z a0 EL own bytes maxL ret nm ws h cells slots pc' Ls' rest Q) : Go p l e R s m args below meth c Z a0 EL own bytes maxL ret nm ws h cells slots pc Ls (x :: rest) Q := by
  subst hp; exact go_step (fun hx q _ A _ k => XS.astore A hx rfl (hb q hd) rfl hv hl k) n
theorem g_astoreN {k : Fin 4} {x : Value} (hd : decode bytes pc = .ok (.astore_n k, 1)) (hp : pc + 1 = pc') (hv : x.isRef = true) (hl : storeLocals Ls k.val x = some Ls') (n : Go p l e R s m args below meth c Z a0 EL own bytes maxL ret nm ws h cells slots pc' Ls' rest Q) : Go p l e R s m args below meth c Z a0 EL own bytes maxL ret nm ws h cells slots pc Ls (x :: rest) Q := by
  subst hp; exact go_step (fun hx q _ A _ k => XS.astoreN A hx rfl (hb q hd) rfl hv hl k) n
theorem g_iinc {k : Nat} {cst : Int} {x : Int32} (hd : decode bytes pc = .ok (.iinc k cst, 3)) (hp : pc + 3 = pc') (hl : Ls[k]? = some (.val (.int x))) (hl' : storeLocals Ls k (.int (x + Int32.ofInt cst)) = some Ls') (n : Go p l e R s m args below meth c Z a0 EL own bytes maxL ret nm ws h cells slots pc' Ls' st Q) : Go p l e R s m args below meth c Z a0 EL own bytes maxL ret nm ws h cells slots pc Ls st Q := by
  subst hp; exact go_step (fun hx q _ A _ k => XS.iinc A hx rfl (hb q hd) hl hl' k) n
theorem g_iadd {x y : Int32} (hd : decode bytes pc = .ok (.iadd, 1)) (hp : pc + 1 = pc') (n : Go p l e R s m args below meth c Z a0 EL own bytes maxL ret nm ws h cells slots pc' Ls (.int (x + y) :: rest) Q) : Go p l e R s m args below meth c Z a0 EL own bytes maxL ret nm ws h cells slots pc Ls (.int y :: .int x :: rest) Q := by
  subst hp; exact go_step (fun hx q _ A _ k => XS.iadd A hx rfl (hb q hd) rfl k) n
theorem g_isub {x y : Int32} (hd : decode bytes pc = .ok (.isub, 1)) (hp : pc + 1 = pc') (n : Go p l e R s m args below meth c Z a0 EL own bytes maxL ret nm ws h cells slots pc' Ls (.int (x - y) :: rest) Q) : Go p l e R s m args below meth c Z a0 EL own bytes maxL ret nm ws h cells slots pc Ls (.int y :: .int x :: rest) Q := by
  subst hp; exact go_step (fun hx q _ A _ k => XS.isub A hx rfl (hb q hd) rfl k) n
theorem g_imul {x y : Int32} (hd : decode bytes pc = .ok (.imul, 1)) (hp : pc + 1 = pc') (n : Go p l e R s m args below meth c Z a0 EL own bytes maxL ret nm ws h cells slots pc' Ls (.int (x * y) :: rest) Q) : Go p l e R s m args below meth c Z a0 EL own bytes maxL ret nm ws h cells slots pc Ls (.int y :: .int x :: rest) Q := by
  subst hp; exact go_step (fun hx q _ A _ k => XS.imul A hx rfl (hb q hd) rfl k) n
theorem g_iand {x y : Int32} (hd : decode bytes pc = .ok (.iand, 1)) (hp : pc + 1 = pc') (n : Go p l e R s m args below meth c Z a0 EL own bytes maxL ret nm ws h cells slots pc' Ls (.int (x &&& y) :: rest) Q) : Go p l e R s m args below meth c Z a0 EL own bytes maxL ret nm ws h cells slots pc Ls (.int y :: .int x :: rest) Q := by
  subst hp; exact go_step (fun hx q _ A _ k => XS.iand A hx rfl (hb q hd) rfl k) n
theorem g_ior {x y : Int32} (hd : decode bytes pc = .ok (.ior, 1)) (hp : pc + 1 = pc') (n : Go p l e R s m args below meth c Z a0 EL own bytes maxL ret nm ws h cells slots pc' Ls (.int (x ||| y) :: rest) Q) : Go p l e R s m args below meth c Z a0 EL own bytes maxL ret nm ws h cells slots pc Ls (.int y :: .int x :: rest) Q := by
  subst hp; exact go_step (fun hx q _ A _ k => XS.ior A hx rfl (hb q hd) rfl k) n
theorem g_ixor {x y : Int32} (hd : decode bytes pc = .ok (.ixor, 1)) (hp : pc + 1 = pc') (n : Go p l e R s m args below meth c Z a0 EL own bytes maxL ret nm ws h cells slots pc' Ls (.int (x ^^^ y) :: rest) Q) : Go p l e R s m args below meth c Z a0 EL own bytes maxL ret nm ws h cells slots pc Ls (.int y :: .int x :: rest) Q := by
  subst hp; exact go_step (fun hx q _ A _ k => XS.ixor A hx rfl (hb q hd) rfl k) n
theorem g_ishl {x y : Int32} (hd : decode bytes pc = .ok (.ishl, 1)) (hp : pc + 1 = pc') (n : Go p l e R s m args below meth c Z a0 EL own bytes maxL ret nm ws h cells slots pc' Ls (.int (x <<< (y &&& 31)) :: rest) Q) : Go p l e R s m args below meth c Z a0 EL own bytes maxL ret nm ws h cells slots pc Ls (.int y :: .int x :: rest) Q := by
  subst hp; exact go_step (fun hx q _ A _ k => XS.ishl A hx rfl (hb q hd) rfl k) n
theorem g_ishr {x y : Int32} (hd : decode bytes pc = .ok (.ishr, 1)) (hp : pc + 1 = pc') (n : Go p l e R s m args below meth c Z a0 EL own bytes maxL ret nm ws h cells slots pc' Ls (.int (x >>> (y &&& 31)) :: rest) Q) : Go p l e R s m args below meth c Z a0 EL own bytes maxL ret nm ws h cells slots pc Ls (.int y :: .int x :: rest) Q := by
  subst hp; exact go_step (fun hx q _ A _ k => XS.ishr A hx rfl (hb q hd) rfl k) n
theorem g_iushr {x y : Int32} (hd : decode bytes pc = .ok (.iushr, 1)) (hp : pc + 1 = pc') (n : Go p l e R s m args below meth c Z a0 EL own bytes maxL ret nm ws h cells slots pc' Ls (.int ((x.toUInt32 >>> (y &&& 31).toUInt32).toInt32) :: rest) Q) : Go p l e R s m args below meth c Z a0 EL own bytes maxL ret nm ws h cells slots pc Ls (.int y :: .int x :: rest) Q := by
  subst hp; exact go_step (fun hx q _ A _ k => XS.iushr A hx rfl (hb q hd) rfl k) n
theorem g_ineg {x : Int32} (hd : decode bytes pc = .ok (.ineg, 1)) (hp : pc + 1 = pc') (n : Go p l e R s m args below meth c Z a0 EL own bytes maxL ret nm ws h cells slots pc' Ls (.int (-x) :: rest) Q) : Go p l e R s m args below meth c Z a0 EL own bytes maxL ret nm ws h cells slots pc Ls (.int x :: rest) Q := by
  subst hp; exact go_step (fun hx q _ A _ k => XS.ineg A hx rfl (hb q hd) rfl k) n
theorem g_irem {x y : Int32} (hd : decode bytes pc = .ok (.irem, 1)) (hp : pc + 1 = pc') (hy : y ≠ 0) (n : Go p l e R s m args below meth c Z a0 EL own bytes maxL ret nm ws h cells slots pc' Ls (.int (x % y) :: rest) Q) : Go p l e R s m args below meth c Z a0 EL own bytes maxL ret nm ws h cells slots pc Ls (.int y :: .int x :: rest) Q := by
  subst hp; exact go_step (fun hx q _ A _ k => XS.irem A hx rfl (hb q hd) rfl hy (by rw [irem_eq_mod]; exact k)) n
theorem g_i2b {x : Int32} (hd : decode bytes pc = .ok (.i2b, 1)) (hp : pc + 1 = pc') (n : Go p l e R s m args below meth c Z a0 EL own bytes maxL ret nm ws h cells slots pc' Ls (.int (x.toInt8.toInt32) :: rest) Q) : Go p l e R s m args below meth c Z a0 EL own bytes maxL ret nm ws h cells slots pc Ls (.int x :: rest) Q := by
  subst hp; exact go_step (fun hx q _ A _ k => XS.i2b A hx rfl (hb q hd) rfl k) n
theorem g_i2c {x : Int32} (hd : decode bytes pc = .ok (.i2c, 1)) (hp : pc + 1 = pc') (n : Go p l e R s m args below meth c Z a0 EL own bytes maxL ret nm ws h cells slots pc' Ls (.int (x.toUInt32.toUInt16.toUInt32.toInt32) :: rest) Q) : Go p l e R s m args below meth c Z a0 EL own bytes maxL ret nm ws h cells slots pc Ls (.int x :: rest) Q := by
  subst hp; exact go_step (fun hx q _ A _ k => XS.i2c A hx rfl (hb q hd) rfl k) n
theorem g_i2l {x : Int32} (hd : decode bytes pc = .ok (.i2l, 1)) (hp : pc + 1 = pc') (n : Go p l e R s m args below meth c Z a0 EL own bytes maxL ret nm ws h cells slots pc' Ls (.long (x.toInt64) :: rest) Q) : Go p l e R s m args below meth c Z a0 EL own bytes maxL ret nm ws h cells slots pc Ls (.int x :: rest) Q := by
  subst hp; exact go_step (fun hx q _ A _ k => XS.i2l A hx rfl (hb q hd) rfl k) n
theorem g_l2i {x : Int64} (hd : decode bytes pc = .ok (.l2i, 1)) (hp : pc + 1 = pc') (n : Go p l e R s m args below meth c Z a0 EL own bytes maxL ret nm ws h cells slots pc' Ls (.int (x.toInt32) :: rest) Q) : Go p l e R s m args below meth c Z a0 EL own bytes maxL ret nm ws h cells slots pc Ls (.long x :: rest) Q := by
  subst hp; exact go_step (fun hx q _ A _ k => XS.l2i A hx rfl (hb q hd) rfl k) n
theorem g_ladd {x y : Int64} (hd : decode bytes pc = .ok (.ladd, 1)) (hp : pc + 1 = pc') (n : Go p l e R s m args below meth c Z a0 EL own bytes maxL ret nm ws h cells slots pc' Ls (.long (x + y) :: rest) Q) : Go p l e R s m args below meth c Z a0 EL own bytes maxL ret nm ws h cells slots pc Ls (.long y :: .long x :: rest) Q := by
  subst hp; exact go_step (fun hx q _ A _ k => XS.ladd A hx rfl (hb q hd) rfl k) n
theorem g_lsub {x y : Int64} (hd : decode bytes pc = .ok (.lsub, 1)) (hp : pc + 1 = pc') (n : Go p l e R s m args below meth c Z a0 EL own bytes maxL ret nm ws h cells slots pc' Ls (.long (x - y) :: rest) Q) : Go p l e R s m args below meth c Z a0 EL own bytes maxL ret nm ws h cells slots pc Ls (.long y :: .long x :: rest) Q := by
  subst hp; exact go_step (fun hx q _ A _ k => XS.lsub A hx rfl (hb q hd) rfl k) n
theorem g_land {x y : Int64} (hd : decode bytes pc = .ok (.land, 1)) (hp : pc + 1 = pc') (n : Go p l e R s m args below meth c Z a0 EL own bytes maxL ret nm ws h cells slots pc' Ls (.long (x &&& y) :: rest) Q) : Go p l e R s m args below meth c Z a0 EL own bytes maxL ret nm ws h cells slots pc Ls (.long y :: .long x :: rest) Q := by
  subst hp; exact go_step (fun hx q _ A _ k => XS.land A hx rfl (hb q hd) rfl k) n
theorem g_lor {x y : Int64} (hd : decode bytes pc = .ok (.lor, 1)) (hp : pc + 1 = pc') (n : Go p l e R s m args below meth c Z a0 EL own bytes maxL ret nm ws h cells slots pc' Ls (.long (x ||| y) :: rest) Q) : Go p l e R s m args below meth c Z a0 EL own bytes maxL ret nm ws h cells slots pc Ls (.long y :: .long x :: rest) Q := by
  subst hp; exact go_step (fun hx q _ A _ k => XS.lor A hx rfl (hb q hd) rfl k) n
theorem g_lushr {x : Int64} {y : Int32} (hd : decode bytes pc = .ok (.lushr, 1)) (hp : pc + 1 = pc') (n : Go p l e R s m args below meth c Z a0 EL own bytes maxL ret nm ws h cells slots pc' Ls (.long ((x.toUInt64 >>> (y &&& 0x3f).toInt64.toUInt64).toInt64) :: rest) Q) : Go p l e R s m args below meth c Z a0 EL own bytes maxL ret nm ws h cells slots pc Ls (.int y :: .long x :: rest) Q := by
  subst hp; exact go_step (fun hx q _ A _ k => XS.lushr A hx rfl (hb q hd) rfl k) n
theorem g_lcmp {x y : Int64} (hd : decode bytes pc = .ok (.lcmp, 1)) (hp : pc + 1 = pc') (n : Go p l e R s m args below meth c Z a0 EL own bytes maxL ret nm ws h cells slots pc' Ls (.int (if x > y then 1 else if x = y then 0 else -1) :: rest) Q) : Go p l e R s m args below meth c Z a0 EL own bytes maxL ret nm ws h cells slots pc Ls (.long y :: .long x :: rest) Q := by
  subst hp; exact go_step (fun hx q _ A _ k => XS.lcmp A hx rfl (hb q hd) rfl k) n
theorem g_pop {x : Value} (hd : decode bytes pc = .ok (.pop, 1)) (hp : pc + 1 = pc') (hc : x.category = 1) (n : Go p l e R s m args below meth c Z a0 EL own bytes maxL ret nm ws h cells slots pc' Ls rest Q) : Go p l e R s m args below meth c Z a0 EL own bytes maxL ret nm ws h cells slots pc Ls (x :: rest) Q := by
  subst hp; exact go_step (fun hx q _ A _ k => XS.pop A hx rfl (hb q hd) rfl hc k) n
theorem g_dup {x : Value} (hd : decode bytes pc = .ok (.dup, 1)) (hp : pc + 1 = pc') (hc : x.category = 1) (n : Go p l e R s m args below meth c Z a0 EL own bytes maxL ret nm ws h cells slots pc' Ls (x :: x :: rest) Q) : Go p l e R s m args below meth c Z a0 EL own bytes maxL ret nm ws h cells slots pc Ls (x :: rest) Q := by
  subst hp; exact go_step (fun hx q _ A _ k => XS.dup A hx rfl (hb q hd) rfl hc k) n
theorem g_dup2 {x y : Value} (hd : decode bytes pc = .ok (.dup2, 1)) (hp : pc + 1 = pc') (hc : x.category = 1) (hc' : y.category = 1) (n : Go p l e R s m args below meth c Z a0 EL own bytes maxL ret nm ws h cells slots pc' Ls (x :: y :: x :: y :: rest) Q) : Go p l e R s m args below meth c Z a0 EL own bytes maxL ret nm ws h cells slots pc Ls (x :: y :: rest) Q := by
  subst hp; exact go_step (fun hx q _ A _ k => XT.dup2 A hx rfl (hb q hd) rfl hc hc' k) n
theorem g_dupX1 {x y : Value} (hd : decode bytes pc = .ok (.dup_x1, 1)) (hp : pc + 1 = pc') (hc : x.category = 1) (hc' : y.category = 1) (n : Go p l e R s m args below meth c Z a0 EL own bytes maxL ret nm ws h cells slots pc' Ls (x :: y :: x :: rest) Q) : Go p l e R s m args below meth c Z a0 EL own bytes maxL ret nm ws h cells slots pc Ls (x :: y :: rest) Q := by
  subst hp; exact go_step (fun hx q _ A _ k => XS.dupX1 A hx rfl (hb q hd) rfl hc hc' k) n
theorem g_goto {o : Int} (hd : decode bytes pc = .ok (.goto o, 3)) (ho : 0 ≤ (pc : Int) + o) (hp : ((pc : Int) + o).toNat = pc') (n : Go p l e R s m args below meth c Z a0 EL own bytes maxL ret nm ws h cells slots pc' Ls st Q) : Go p l e R s m args below meth c Z a0 EL own bytes maxL ret nm ws h cells slots pc Ls st Q :=
  go_step (fun hx q _ A _ k => XS.goto A hx rfl rfl (hb q hd)  ho hp k) n
theorem g_ifYes {cd : ClassFile.Cond} {x : Int32} {o : Int} (hd : decode bytes pc = .ok (.ifCond cd o, 3)) (hc : if_icmp.holds cd x 0 = true) (ho : 0 ≤ (pc : Int) + o) (hp : ((pc : Int) + o).toNat = pc') (n : Go p l e R s m args below meth c Z a0 EL own bytes maxL ret nm ws h cells slots pc' Ls rest Q) : Go p l e R s m args below meth c Z a0 EL own bytes maxL ret nm ws h cells slots pc Ls (.int x :: rest) Q :=
  go_step (fun hx q _ A _ k => XS.ifYes A hx rfl rfl (hb q hd) rfl ((if0 _ _).trans hc) ho hp k) n
theorem g_ifNo {cd : ClassFile.Cond} {x : Int32} {o : Int} (hd : decode bytes pc = .ok (.ifCond cd o, 3)) (hp : pc + 3 = pc') (hc : if_icmp.holds cd x 0 = false) (n : Go p l e R s m args below meth c Z a0 EL own bytes maxL ret nm ws h cells slots pc' Ls rest Q) : Go p l e R s m args below meth c Z a0 EL own bytes maxL ret nm ws h cells slots pc Ls (.int x :: rest) Q := by
  subst hp; exact go_step (fun hx q _ A _ k => XS.ifNo A hx rfl (hb q hd) rfl ((if0 _ _).trans hc) k) n
theorem g_icmpYes {cd : ClassFile.Cond} {x y : Int32} {o : Int} (hd : decode bytes pc = .ok (.if_icmp cd o, 3)) (hc : if_icmp.holds cd x y = true) (ho : 0 ≤ (pc : Int) + o) (hp : ((pc : Int) + o).toNat = pc') (n : Go p l e R s m args below meth c Z a0 EL own bytes maxL ret nm ws h cells slots pc' Ls rest Q) : Go p l e R s m args below meth c Z a0 EL own bytes maxL ret nm ws h cells slots pc Ls (.int y :: .int x :: rest) Q :=
  go_step (fun hx q _ A _ k => XS.icmpYes A hx rfl rfl (hb q hd) rfl hc ho hp k) n
theorem g_icmpNo {cd : ClassFile.Cond} {x y : Int32} {o : Int} (hd : decode bytes pc = .ok (.if_icmp cd o, 3)) (hp : pc + 3 = pc') (hc : if_icmp.holds cd x y = false) (n : Go p l e R s m args below meth c Z a0 EL own bytes maxL ret nm ws h cells slots pc' Ls rest Q) : Go p l e R s m args below meth c Z a0 EL own bytes maxL ret nm ws h cells slots pc Ls (.int y :: .int x :: rest) Q := by
  subst hp; exact go_step (fun hx q _ A _ k => XS.icmpNo A hx rfl (hb q hd) rfl hc k) n
theorem g_ifnullYes {o : Int} (hd : decode bytes pc = .ok (.ifnull o, 3)) (ho : 0 ≤ (pc : Int) + o) (hp : ((pc : Int) + o).toNat = pc') (n : Go p l e R s m args below meth c Z a0 EL own bytes maxL ret nm ws h cells slots pc' Ls rest Q) : Go p l e R s m args below meth c Z a0 EL own bytes maxL ret nm ws h cells slots pc Ls (.null :: rest) Q :=
  go_step (fun hx q _ A _ k => XS.ifnullYes A hx rfl rfl (hb q hd) rfl ho hp k) n
theorem g_ifnullNo {o : Int} {a : Addr} (hd : decode bytes pc = .ok (.ifnull o, 3)) (hp : pc + 3 = pc') (n : Go p l e R s m args below meth c Z a0 EL own bytes maxL ret nm ws h cells slots pc' Ls rest Q) : Go p l e R s m args below meth c Z a0 EL own bytes maxL ret nm ws h cells slots pc Ls (.ref a :: rest) Q := by
  subst hp; exact go_step (fun hx q _ A _ k => XS.ifnullNo A hx rfl (hb q hd) rfl k) n
theorem g_ifnonnullYes {o : Int} {a : Addr} (hd : decode bytes pc = .ok (.ifnonnull o, 3)) (ho : 0 ≤ (pc : Int) + o) (hp : ((pc : Int) + o).toNat = pc') (n : Go p l e R s m args below meth c Z a0 EL own bytes maxL ret nm ws h cells slots pc' Ls rest Q) : Go p l e R s m args below meth c Z a0 EL own bytes maxL ret nm ws h cells slots pc Ls (.ref a :: rest) Q :=
  go_step (fun hx q _ A _ k => XS.ifnonnullYes A hx rfl rfl (hb q hd) rfl ho hp k) n
theorem g_ifnonnullNo {o : Int} (hd : decode bytes pc = .ok (.ifnonnull o, 3)) (hp : pc + 3 = pc') (n : Go p l e R s m args below meth c Z a0 EL own bytes maxL ret nm ws h cells slots pc' Ls rest Q) : Go p l e R s m args below meth c Z a0 EL own bytes maxL ret nm ws h cells slots pc Ls (.null :: rest) Q := by
  subst hp; exact go_step (fun hx q _ A _ k => XS.ifnonnullNo A hx rfl (hb q hd) rfl k) n
theorem g_acmp {cd : ClassFile.ACond} {x y : Value} {o : Int} {same : Bool} (hd : decode bytes pc = .ok (.if_acmp cd o, 3)) (hx' : x.isRef = true) (hy' : y.isRef = true) (hq : decide (x = y) = same) (ho : 0 ≤ (pc : Int) + o) (hp : pc' = if acV cd same = true then ((pc : Int) + o).toNat else pc + 3) (n : Go p l e R s m args below meth c Z a0 EL own bytes maxL ret nm ws h cells slots pc' Ls rest Q) : Go p l e R s m args below meth c Z a0 EL own bytes maxL ret nm ws h cells slots pc Ls (y :: x :: rest) Q := fun K T P => by
  obtain ⟨u, S, E⟩ := n K T P
  obtain ⟨vm0, k0, locs, X, -⟩ := P
  exact ⟨u, acmp X K.1 (g := mkF m pc Ls (y :: x :: rest)) rfl hx' hy' rfl (hb K.2.1 hd) rfl hq ho hp S, E⟩
end Rules2
end Jvm.Own
namespace Jvm.Own
open Sem ClassFile Op Lib Bundle Jvm.Stand Jvm.Free Jvm.LawKit Jvm.RoadKit
/-! ## counting in ints -/
theorem o_int {i : Nat} (hi : i < 2147483648) : (Int32.ofNat i).toInt = (i : Int) := toInt_of rfl hi
theorem o_lt {i n : Nat} (hi : i < 2147483648) (hn : n < 2147483648) : Int32.ofNat i < Int32.ofNat n ↔ i < n := by
  rw [Int32.lt_iff_toInt_lt, o_int hi, o_int hn]; omega
theorem o_nn {i : Nat} (hi : i < 2147483648) : ¬ Int32.ofNat i < 0 := by
  rw [Int32.lt_iff_toInt_lt, o_int hi]; show ¬ ((i : Int) < 0); omega
theorem o_cl {i : Nat} (hi : i < 2147483648) : (Int32.ofNat i).toNatClampNeg = i := clamp_of rfl hi
theorem o_inc (i : Nat) : Int32.ofNat i + (1 : Int32) = Int32.ofNat (i + 1) := (inc_ofNat i).symm
theorem o_eq {i n : Nat} (hi : i < 2147483648) (hn : n < 2147483648) : Int32.ofNat i = Int32.ofNat n ↔ i = n := by
  constructor
  · intro q; have := congrArg Int32.toInt q; rw [o_int hi, o_int hn] at this; omega
  · intro q; rw [q]
/-! ## arrays by their values within the length -/
theorem Arv_congr {Z : State} {h : Heap} {a : Addr} {k : ClassId} {ty : FieldType} {z : Int32} {vs vs' : List Value} {dv : Value} (F : Arv Z h a k ty z vs dv) (q : ∀ i, i < z.toNatClampNeg → vs'.getD i dv = vs.getD i dv) : Arv Z h a k ty z vs' dv := by
  obtain ⟨c, A, r1, r2, r3, H, G⟩ := F
  exact ⟨c, A, r1, r2, r3, fun i hi => by rw [q i (by rw [← r2]; exact hi)]; exact H i hi, fun i hi => by rw [q i (by rw [← r2]; exact hi)]; exact G i hi⟩
theorem Arv_nn {Z : State} {h : Heap} {a : Addr} {k : ClassId} {ty : FieldType} {z : Int32} {vs : List Value} {dv : Value} (F : Arv Z h a k ty z vs dv) : ¬ z < 0 := by obtain ⟨c, A, r1, r2, r3, H, G⟩ := F; exact r3
theorem getD_set_eq {vs : List Value} {i : Nat} {v d : Value} (hi : i < vs.length) : (vs.set i v).getD i d = v := by simp [List.getD, hi]
theorem getD_set_ne {vs : List Value} {i j : Nat} {v d : Value} (hne : j ≠ i) : (vs.set i v).getD j d = vs.getD j d := by
  simp only [List.getD]; rw [List.getElem?_set_ne (Ne.symm hne)]
theorem Keep_of_ext {h h' : Heap} (E : Ext h h') : Keep h h' [] := (Keep.refl h []).ext E
theorem Ext_of_keep {h h' : Heap} (K : Keep h h' []) : Ext h h' := ⟨K.1, fun x c q => K.2.1 x c q nin0⟩
theorem Keep_mono {h h' : Heap} {ws ws' : List Addr} (K : Keep h h' ws) (q : ∀ x ∈ ws, x ∈ ws') : Keep h h' ws' := ⟨K.1, fun x c r s => K.2.1 x c r fun z => s (q x z), K.2.2⟩
/-- bytes as signed -/
def by8 (c : Int32) : Value := .int c.toInt8.toInt32
theorem fits_by8 (c : Int32) : fits .byte (by8 c) = true := fits_nar_byte c
end Jvm.Own
namespace Jvm.Own
open Sem ClassFile Op Lib Bundle Jvm.Stand Jvm.Free Jvm.LawKit Jvm.RoadKit
theorem i2b2 (x : Int32) : x.toInt8.toInt32.toInt8.toInt32 = x.toInt8.toInt32 := by simp
theorem map_getD (cs : List Int32) (j : Nat) : (cs.map Value.int).getD j (.int 0) = .int (cs.getD j 0) := by
  simp only [List.getD, List.getElem?_map]; cases cs[j]? <;> rfl
theorem map8_getD (cs : List Int32) (j : Nat) : (cs.map by8).getD j (.int 0) = by8 (cs.getD j 0) := by
  simp only [List.getD, List.getElem?_map]; cases cs[j]? <;> rfl
theorem getD_lat {cs : List Int32} (h : ∀ c ∈ cs, ¬ (255 : Int32) < c) (j : Nat) : ¬ (255 : Int32) < cs.getD j 0 := by
  by_cases hj : j < cs.length
  · simp only [List.getD, List.getElem?_eq_getElem hj, Option.getD_some]; exact h _ (List.getElem_mem hj)
  · simp only [List.getD, List.getElem?_eq_none (Nat.le_of_not_lt hj), Option.getD_none]; decide
end Jvm.Own
namespace Jvm.Own
open Sem ClassFile Op Lib Bundle Jvm.Stand Jvm.Free Jvm.LawKit Jvm.RoadKit
theorem fld_eq {args : Array Value} {s : State} {t : Term} {C n d : String} {k : Int32} {x : Addr} (ht : t.eval args s none [] s = some (.ref x)) (h : (Cond.eq (Term.field t C n d) (Term.int k)).value args s none s [] = some true) : s.fieldOf? x C n d = some (.int k) := by
  have q := Cond.eq_int (Cond.before_iff.mpr h) rfl
  simpa [Term.eval, ht] using q
theorem Inv_start0 {s : State} : Inv s [] [] s.vm s.heap := ⟨(fun p hp => nomatch hp), ⟨Nat.le_refl _, fun _ _ q => q⟩, all0⟩
theorem lat255 (x : Int32) : ¬ (255 : Int32) < (x &&& 255).toUInt32.toUInt16.toUInt32.toInt32 := by
  rw [i2c_mask]
  have h := c_and x 255 (by decide)
  rw [Int32.lt_iff_toInt_lt]; exact fun q => absurd q (Int.not_lt.mpr h.2)
theorem all1 {P : Int32 → Prop} {x : Int32} {L : List Int32} (q : P x) (r : ∀ y ∈ L, P y) : ∀ y ∈ x :: L, P y := fun y z => (List.mem_cons.mp z).elim (fun u => u ▸ q) (r y)
theorem allN {P : Int32 → Prop} : ∀ y ∈ ([] : List Int32), P y := fun _ q => nomatch q
theorem nar_i2c (x : Int32) : nar .char (x.toUInt32.toUInt16.toUInt32.toInt32) = x.toUInt32.toUInt16.toUInt32.toInt32 := by
  apply Int32.toInt_inj.mp
  have a := c_i2c x
  have b := c_i2c (x.toUInt32.toUInt16.toUInt32.toInt32)
  show (x.toUInt32.toUInt16.toUInt32.toInt32.toUInt32.toUInt16.toUInt32.toInt32).toInt = _
  omega
end Jvm.Own
namespace Jvm.Own
open Sem ClassFile Op Lib Bundle Jvm.Stand Jvm.Free Jvm.LawKit Jvm.RoadKit
/-! ## Strings of one byte a char -/
/-- the object a is a String, one byte a char, that spells cs; its array is b -/
def LatB (Z : State) (h : Heap) (a b : Addr) (cs : List Int32) : Prop :=
  Exa Z h a "java/lang/String" ∧ Fld Z h a "java/lang/String" "coder" "B" (.int 0) ∧ Fld Z h a "java/lang/String" "value" "[B" (.ref b) ∧ ∃ k, Arv Z h b k .byte (Int32.ofNat cs.length) (cs.map by8) (.int 0)
section LatFacts
variable {Z : State} {h h' : Heap} {a b x : Addr} {cs ds : List Int32} {ws : List Addr} {sl : Nat} {v : Value}
theorem LatB.ext (F : LatB Z h a b cs) (E : Ext h h') : LatB Z h' a b cs := ⟨F.1.ext E, F.2.1.ext E, F.2.2.1.ext E, by obtain ⟨k, A⟩ := F.2.2.2; exact ⟨k, A.ext E⟩⟩
theorem LatB.keep (F : LatB Z h a b cs) (K : Keep h h' ws) (q : a ∉ ws) (r : b ∉ ws) : LatB Z h' a b cs := ⟨F.1.keep K, F.2.1.keep K q, F.2.2.1.keep K q, by obtain ⟨k, A⟩ := F.2.2.2; exact ⟨k, A.keep K r⟩⟩
theorem LatB.other (F : LatB Z h a b cs) (W : Wr h h' x sl v) (q : a ≠ x) (r : b ≠ x) : LatB Z h' a b cs := ⟨Exa.wr W F.1, Fld.other W F.2.1 (Or.inl q), Fld.other W F.2.2.1 (Or.inl q), by obtain ⟨k, A⟩ := F.2.2.2; exact ⟨k, A.other W r⟩⟩
theorem LatB.lt (F : LatB Z h a b cs) : a < h.size := F.1.lt
theorem LatB.blt (F : LatB Z h a b cs) : b < h.size := by obtain ⟨k, A⟩ := F.2.2.2; exact A.lt
theorem LatB.mk {k : ClassId} {z : Int32} {vs : List Value} (E : Exa Z h a "java/lang/String") (C : Fld Z h a "java/lang/String" "coder" "B" (.int 0)) (V : Fld Z h a "java/lang/String" "value" "[B" (.ref b)) (A : Arv Z h b k .byte z vs (.int 0)) (hz : z = Int32.ofNat cs.length) (hv : vs = cs.map by8) : LatB Z h a b cs := ⟨E, C, V, k, by subst hz hv; exact A⟩
end LatFacts
theorem shr0 (x : Int32) : x >>> ((0 : Int32) &&& 31) = x := by
  apply Int32.toInt_inj.mp
  rw [c_ishr x 0 0 (by decide)]; omega
/-- a char up to 255, kept as a byte and read back -/
theorem by8_back {c : Int32} (h0 : ¬ c < 0) (h1 : ¬ (255 : Int32) < c) : (c.toInt8.toInt32 &&& 255) = c := by
  apply Int32.toInt_inj.mp
  have q := c_i2b c
  have m := c_mask c.toInt8.toInt32 255 8 (by decide) (by decide)
  rw [m]
  simp only [Int32.lt_iff_toInt_lt, Int32.reduceToInt] at h0 h1
  have : ((2 : Nat) ^ 8 : Nat) = 256 := rfl
  omega
theorem by8_char {c : Int32} (h0 : ¬ c < 0) (h1 : ¬ (255 : Int32) < c) : (c.toInt8.toInt32 &&& 255).toUInt32.toUInt16.toUInt32.toInt32 = c := by rw [i2c_mask, by8_back h0 h1]
theorem by8_inj {c d : Int32} (h0 : ¬ c < 0) (h1 : ¬ (255 : Int32) < c) (g0 : ¬ d < 0) (g1 : ¬ (255 : Int32) < d) (h : c.toInt8.toInt32 = d.toInt8.toInt32) : c = d := by
  rw [← by8_back h0 h1, ← by8_back g0 g1, h]
/-- each of them lies from 0 to 255 -/
def Byt (cs : List Int32) : Prop := ∀ c ∈ cs, ¬ c < 0 ∧ ¬ (255 : Int32) < c
theorem Byt.nil : Byt [] := fun _ q => nomatch q
theorem Byt.cons {c : Int32} {cs : List Int32} (q : ¬ c < 0 ∧ ¬ (255 : Int32) < c) (r : Byt cs) : Byt (c :: cs) := fun y z => (List.mem_cons.mp z).elim (fun u => u ▸ q) (r y)
theorem Byt.at {cs : List Int32} (B : Byt cs) (j : Nat) : ¬ cs.getD j 0 < 0 ∧ ¬ (255 : Int32) < cs.getD j 0 := by
  by_cases hj : j < cs.length
  · simp only [List.getD, List.getElem?_eq_getElem hj, Option.getD_some]; exact B _ (List.getElem_mem hj)
  · simp only [List.getD, List.getElem?_eq_none (Nat.le_of_not_lt hj), Option.getD_none]; decide
theorem Byt.lat {cs : List Int32} (B : Byt cs) : ∀ c ∈ cs, ¬ (255 : Int32) < c := fun c q => (B c q).2
theorem byt255 (x : Int32) : ¬ (x &&& 255).toUInt32.toUInt16.toUInt32.toInt32 < 0 ∧ ¬ (255 : Int32) < (x &&& 255).toUInt32.toUInt16.toUInt32.toInt32 := by
  refine ⟨?_, lat255 x⟩
  rw [i2c_mask]
  have h := c_and x 255 (by decide)
  rw [Int32.lt_iff_toInt_lt]; exact fun q => absurd q (Int.not_lt.mpr h.1)
theorem list_ext_getD {cs ds : List Int32} (hl : cs.length = ds.length) (h : ∀ i, i < cs.length → cs.getD i 0 = ds.getD i 0) : cs = ds := by
  apply List.ext_getElem hl
  intro i h1 h2
  have q := h i h1
  simpa [List.getD, List.getElem?_eq_getElem h1, List.getElem?_eq_getElem h2] using q
end Jvm.Own
namespace Jvm.Own
open Sem ClassFile Op Lib Bundle Jvm.Stand Jvm.Free Jvm.LawKit Jvm.RoadKit
theorem nar_byt {c : Int32} (h : ¬ c < 0 ∧ ¬ (255 : Int32) < c) : nar .char c = c := by
  have q := by8_char h.1 h.2
  show c.toUInt32.toUInt16.toUInt32.toInt32 = c
  rw [by8_back h.1 h.2] at q; exact q
end Jvm.Own
namespace Jvm.Own
open Sem ClassFile Op Lib Bundle Jvm.Stand Jvm.Free Jvm.LawKit Jvm.RoadKit
/-- r is where ch stands first in cs, or -1 -/
def Ix (cs : List Int32) (ch r : Int32) : Prop := (∃ j, j < cs.length ∧ r = Int32.ofNat j ∧ cs.getD j 0 = ch ∧ ∀ i, i < j → ¬ cs.getD i 0 = ch) ∨ (r = -1 ∧ ∀ i, i < cs.length → ¬ cs.getD i 0 = ch)
end Jvm.Own
namespace Jvm.Own
open Sem ClassFile Op Lib Bundle Jvm.Stand Jvm.Free Jvm.LawKit Jvm.RoadKit
/-! ## Strings of two bytes a char -/
def hi8 (c : Int32) : Value := by8 (c >>> ((8 : Int32) &&& 31))
def u16b : List Int32 → List Value
  | [] => []
  | c :: cs => by8 c :: hi8 c :: u16b cs
theorem u16b_length : ∀ cs : List Int32, (u16b cs).length = 2 * cs.length
  | [] => rfl
  | c :: cs => by simp [u16b, u16b_length cs]; omega
theorem u16b_lo : ∀ (cs : List Int32) (j : Nat), (u16b cs).getD (2 * j) (.int 0) = by8 (cs.getD j 0)
  | [], j => by simp [u16b, List.getD]; rfl
  | c :: cs, 0 => rfl
  | c :: cs, j + 1 => by
    rw [show 2 * (j + 1) = 2 * j + 1 + 1 by omega]
    exact u16b_lo cs j
theorem u16b_hi : ∀ (cs : List Int32) (j : Nat), (u16b cs).getD (2 * j + 1) (.int 0) = hi8 (cs.getD j 0)
  | [], j => by simp [u16b, List.getD]; rfl
  | c :: cs, 0 => rfl
  | c :: cs, j + 1 => by
    rw [show 2 * (j + 1) + 1 = 2 * j + 1 + 1 + 1 by omega]
    exact u16b_hi cs j
def UtfB (Z : State) (h : Heap) (a b : Addr) (cs : List Int32) : Prop :=
  Exa Z h a "java/lang/String" ∧ Fld Z h a "java/lang/String" "coder" "B" (.int 1) ∧ Fld Z h a "java/lang/String" "value" "[B" (.ref b) ∧ ∃ k, Arv Z h b k .byte (Int32.ofNat (2 * cs.length)) (u16b cs) (.int 0)
section UtfFacts
variable {Z : State} {h h' : Heap} {a b x : Addr} {cs ds : List Int32} {ws : List Addr} {sl : Nat} {v : Value}
theorem UtfB.ext (F : UtfB Z h a b cs) (E : Ext h h') : UtfB Z h' a b cs := ⟨F.1.ext E, F.2.1.ext E, F.2.2.1.ext E, by obtain ⟨k, A⟩ := F.2.2.2; exact ⟨k, A.ext E⟩⟩
theorem UtfB.keep (F : UtfB Z h a b cs) (K : Keep h h' ws) (q : a ∉ ws) (r : b ∉ ws) : UtfB Z h' a b cs := ⟨F.1.keep K, F.2.1.keep K q, F.2.2.1.keep K q, by obtain ⟨k, A⟩ := F.2.2.2; exact ⟨k, A.keep K r⟩⟩
theorem UtfB.other (F : UtfB Z h a b cs) (W : Wr h h' x sl v) (q : a ≠ x) (r : b ≠ x) : UtfB Z h' a b cs := ⟨Exa.wr W F.1, Fld.other W F.2.1 (Or.inl q), Fld.other W F.2.2.1 (Or.inl q), by obtain ⟨k, A⟩ := F.2.2.2; exact ⟨k, A.other W r⟩⟩
theorem UtfB.lt (F : UtfB Z h a b cs) : a < h.size := F.1.lt
theorem UtfB.blt (F : UtfB Z h a b cs) : b < h.size := by obtain ⟨k, A⟩ := F.2.2.2; exact A.lt
end UtfFacts
def U16 (cs : List Int32) : Prop := ∀ c ∈ cs, ¬ c < 0 ∧ ¬ (65535 : Int32) < c
theorem U16.nil : U16 [] := fun _ q => nomatch q
theorem U16.cons {c : Int32} {cs : List Int32} (q : ¬ c < 0 ∧ ¬ (65535 : Int32) < c) (r : U16 cs) : U16 (c :: cs) := fun y z => (List.mem_cons.mp z).elim (fun u => u ▸ q) (r y)
theorem U16.at {cs : List Int32} (B : U16 cs) (j : Nat) : ¬ cs.getD j 0 < 0 ∧ ¬ (65535 : Int32) < cs.getD j 0 := by
  by_cases hj : j < cs.length
  · simp only [List.getD, List.getElem?_eq_getElem hj, Option.getD_some]; exact B _ (List.getElem_mem hj)
  · simp only [List.getD, List.getElem?_eq_none (Nat.le_of_not_lt hj), Option.getD_none]; decide
theorem u16_i2c (x : Int32) : ¬ x.toUInt32.toUInt16.toUInt32.toInt32 < 0 ∧ ¬ (65535 : Int32) < x.toUInt32.toUInt16.toUInt32.toInt32 := by
  have q := c_i2c x
  simp only [Int32.lt_iff_toInt_lt, Int32.reduceToInt]; omega
theorem nar_u16 {c : Int32} (h : ¬ c < 0 ∧ ¬ (65535 : Int32) < c) : nar .char c = c := by
  apply Int32.toInt_inj.mp
  have q := c_i2c c
  show c.toUInt32.toUInt16.toUInt32.toInt32.toInt = c.toInt
  simp only [Int32.lt_iff_toInt_lt, Int32.reduceToInt] at h; omega
theorem join16 {c : Int32} (h0 : ¬ c < 0) (h1 : ¬ (65535 : Int32) < c) :
    (((c.toInt8.toInt32 &&& 255) <<< ((0 : Int32) &&& 31)) ||| (((c >>> ((8 : Int32) &&& 31)).toInt8.toInt32 &&& 255) <<< ((8 : Int32) &&& 31))).toUInt32.toUInt16.toUInt32.toInt32 = c := by
  apply Int32.toInt_inj.mp
  have a1 := c_mask c.toInt8.toInt32 255 8 (by decide) (by decide)
  have a2 := c_i2b c
  have s1 := c_ishl (c.toInt8.toInt32 &&& 255) 0 0 (by decide)
  have b1 := c_ishr c 8 8 (by decide)
  have b2 := c_i2b (c >>> ((8 : Int32) &&& 31))
  have b3 := c_mask (c >>> ((8 : Int32) &&& 31)).toInt8.toInt32 255 8 (by decide) (by decide)
  have s2 := c_ishl ((c >>> ((8 : Int32) &&& 31)).toInt8.toInt32 &&& 255) 8 8 (by decide)
  have r1 := rng32 ((c.toInt8.toInt32 &&& 255) <<< ((0 : Int32) &&& 31))
  have r2 := rng32 (((c >>> ((8 : Int32) &&& 31)).toInt8.toInt32 &&& 255) <<< ((8 : Int32) &&& 31))
  have o := c_or' ((c.toInt8.toInt32 &&& 255) <<< ((0 : Int32) &&& 31)) (((c >>> ((8 : Int32) &&& 31)).toInt8.toInt32 &&& 255) <<< ((8 : Int32) &&& 31)) 8 (by decide) 256 rfl
  have r3 := rng32 (((c.toInt8.toInt32 &&& 255) <<< ((0 : Int32) &&& 31)) ||| (((c >>> ((8 : Int32) &&& 31)).toInt8.toInt32 &&& 255) <<< ((8 : Int32) &&& 31)))
  have i := c_i2c (((c.toInt8.toInt32 &&& 255) <<< ((0 : Int32) &&& 31)) ||| (((c >>> ((8 : Int32) &&& 31)).toInt8.toInt32 &&& 255) <<< ((8 : Int32) &&& 31)))
  simp only [Int32.lt_iff_toInt_lt, Int32.reduceToInt] at h0 h1
  have e8 : ((2 : Nat) ^ 8 : Nat) = 256 := rfl
  have e0 : ((2 : Nat) ^ 0 : Nat) = 1 := rfl
  rw [e8] at *
  rw [e0] at s1
  omega
theorem shl1 {n : Nat} (h : n < 1073741824) : Int32.ofNat n <<< ((1 : Int32) &&& 31) = Int32.ofNat (2 * n) := by
  apply Int32.toInt_inj.mp
  have q := c_ishl (Int32.ofNat n) 1 1 (by decide)
  have r := rng32 (Int32.ofNat n <<< ((1 : Int32) &&& 31))
  rw [o_int (by omega)] at q
  rw [o_int (by omega)]
  have e1 : ((2 : Nat) ^ 1 : Nat) = 2 := rfl
  rw [e1] at q; omega
theorem shr1 {n : Nat} (h : n < 1073741824) : Int32.ofNat (2 * n) >>> ((1 : Int32) &&& 31) = Int32.ofNat n := by
  apply Int32.toInt_inj.mp
  have q := c_ishr (Int32.ofNat (2 * n)) 1 1 (by decide)
  rw [o_int (by omega)] at q
  rw [o_int (by omega), q]
  have e1 : ((2 : Nat) ^ 1 : Nat) = 2 := rfl
  rw [e1]; omega
/-- a char, as a String of chars up to 255 has it, is one of the wider kind -/
theorem Byt.u16 {cs : List Int32} (B : Byt cs) : U16 cs := fun c q => ⟨(B c q).1, fun z => (B c q).2 (by simp only [Int32.lt_iff_toInt_lt, Int32.reduceToInt] at *; omega)⟩
end Jvm.Own
namespace Jvm.Own
open Sem ClassFile Op Lib Bundle Jvm.Stand Jvm.Free Jvm.LawKit Jvm.RoadKit
theorem coder1 {n : Nat} (h0 : 0 < n) (h : n ≤ 4000) : (((Int32.ofNat n - Int32.ofNat (2 * n)).toUInt32 >>> (((31 : Int32) &&& 31)).toUInt32).toInt32).toInt8.toInt32 = 1 := by
  apply Int32.toInt_inj.mp
  have a := c_isub (Int32.ofNat n) (Int32.ofNat (2 * n))
  have r := rng32 (Int32.ofNat n - Int32.ofNat (2 * n))
  have s := c_iushr (Int32.ofNat n - Int32.ofNat (2 * n)) 31 31 (by decide) (by decide)
  have b := c_i2b (((Int32.ofNat n - Int32.ofNat (2 * n)).toUInt32 >>> (((31 : Int32) &&& 31)).toUInt32).toInt32)
  rw [o_int (by omega), o_int (by omega)] at a
  have e : ((2 : Nat) ^ 31 : Nat) = 2147483648 := rfl
  rw [e] at s
  rw [show (1 : Int32).toInt = 1 from rfl]
  omega
/-- a String that spells cs, of either kind -/
def StrB (Z : State) (h : Heap) (a b : Addr) (cs : List Int32) : Prop := (Byt cs ∧ LatB Z h a b cs) ∨ (¬ (∀ i, i < cs.length → ¬ (255 : Int32) < cs.getD i 0) ∧ UtfB Z h a b cs)
theorem StrB.ext {Z : State} {h h' : Heap} {a b : Addr} {cs : List Int32} (F : StrB Z h a b cs) (E : Ext h h') : StrB Z h' a b cs := F.imp (fun q => ⟨q.1, q.2.ext E⟩) (fun q => ⟨q.1, q.2.ext E⟩)
theorem StrB.keep {Z : State} {h h' : Heap} {a b : Addr} {cs : List Int32} {ws : List Addr} (F : StrB Z h a b cs) (K : Keep h h' ws) (q : a ∉ ws) (r : b ∉ ws) : StrB Z h' a b cs := F.imp (fun z => ⟨z.1, z.2.keep K q r⟩) (fun z => ⟨z.1, z.2.keep K q r⟩)
theorem StrB.other {Z : State} {h h' : Heap} {a b x : Addr} {cs : List Int32} {sl : Nat} {v : Value} (F : StrB Z h a b cs) (W : Wr h h' x sl v) (q : a ≠ x) (r : b ≠ x) : StrB Z h' a b cs := F.imp (fun z => ⟨z.1, z.2.other W q r⟩) (fun z => ⟨z.1, z.2.other W q r⟩)
theorem StrB.lt {Z : State} {h : Heap} {a b : Addr} {cs : List Int32} (F : StrB Z h a b cs) : a < h.size := F.elim (fun q => q.2.lt) (fun q => q.2.lt)
theorem StrB.blt {Z : State} {h : Heap} {a b : Addr} {cs : List Int32} (F : StrB Z h a b cs) : b < h.size := F.elim (fun q => q.2.blt) (fun q => q.2.blt)
theorem StrB.exa {Z : State} {h : Heap} {a b : Addr} {cs : List Int32} (F : StrB Z h a b cs) : Exa Z h a "java/lang/String" := F.elim (fun q => q.2.1) (fun q => q.2.1)
theorem lat_of {cs : List Int32} (h : ∀ i, i < cs.length → ¬ (255 : Int32) < cs.getD i 0) : ∀ c ∈ cs, ¬ (255 : Int32) < c := fun c hc => by
  obtain ⟨i, hi, rfl⟩ := List.mem_iff_getElem.mp hc
  have q := h i hi
  simpa [List.getD, List.getElem?_eq_getElem hi] using q
theorem U16.byt {cs : List Int32} (B : U16 cs) (h : ∀ i, i < cs.length → ¬ (255 : Int32) < cs.getD i 0) : Byt cs := fun c hc => ⟨(B c hc).1, lat_of h c hc⟩
end Jvm.Own
namespace Jvm.Own
theorem lt65536 {c : Int32} (h : ¬ (255 : Int32) < c) : c < 65536 := by
  simp only [Int32.lt_iff_toInt_lt, Int32.reduceToInt] at *; omega
end Jvm.Own
namespace Jvm.Own
open Sem ClassFile Op Lib Bundle Jvm.Stand Jvm.Free Jvm.LawKit Jvm.RoadKit
/-! ## more calls: through an interface, private, over a nest-mate's entry, natives; switches; class constants -/
section Rules3
variable {p : Program} {l : Launch} {e : Env} {R : Room} {s : State} {m : MethodId} {args : Array Value} {below : List Frame} {meth : Method} {c : Code} {Z : State} {a0 : Array Value} {EL : List (String × Nat)} {own : String} {bytes : ByteArray} {maxL : Nat} {ret : Option FieldType} {nm : String}
  {ws : List Addr} {h : Heap} {cells slots : Nat} {pc pc' : Nat} {Ls Ls' : Array Slot} {st st' rest : List Value} {Q Q' : Option Value → Heap → List Addr → Prop}
theorem go_interface {idx cnt W : Nat} {y z : MethodName} {C0 : String} {bY : ByteArray} {mY : Nat} {rY : Option FieldType} {rm : Room} {as' : Array Value} {ws0 : List Addr} {argsL : List Value} {a : Addr} (hd : decode bytes pc = .ok (.invokeinterface idx cnt, 5)) (hM : Con l Z EL z bY mY rY [] rm as' h ws0 Q) (hs : ∀ x ∈ ws0, x ∈ ws) (E0 : Exa Z h a C0)
    (w1 : (Cond.methodLink own idx y).before a0 Z = true) (w2 : (Cond.declares y).before a0 Z = true) (w7 : (Cond.interfaceMethod y.cls y.cls y.name y.desc).before a0 Z = true) (k7 : ((Cond.interfaceMethod y.cls y.cls y.name y.desc).onTables && (Cond.interfaceMethod y.cls y.cls y.name y.desc).keepsFace) = true) (w5 : (Cond.selects C0 y z).before a0 Z = true) (w6 : (Cond.instanceMethod z).before a0 Z = true) (w8 : (Cond.publicMethod z).before a0 Z = true) (w9 : (Cond.unhidden C0 y.name y.desc).before a0 Z = true) (w10 : (Cond.castable C0 y.cls).before a0 Z = true) (w3 : (Cond.initialized z.cls).before a0 Z = true) (w4 : (Cond.code z bY mY rY).before a0 Z = true) (hy : y.cls ≠ "java/lang/invoke/MethodHandle" ∧ y.cls ≠ "java/lang/invoke/VarHandle")
    (hlen : ∀ sig, parseMethodDescriptor y.desc = some sig → argsL.length = sig.parameters.length) (has : (Value.ref a :: argsL).toArray = as') (hst : st = argsL.reverse ++ .ref a :: rest) (hsz : Ls.size = maxL) (hW : (rest.map fun v => v.category).sum ≤ W) (hf : rm.frames + 1 ≤ R.frames) (hlo : W + (mY + 11) + rm.locals ≤ R.locals) (hc : cells + rm.cells ≤ R.cells) (hl : slots + rm.slots ≤ R.slots) (hp : pc + 5 = pc')
    (nx : ∀ v h' ws', Q v h' ws' → h.size ≤ h'.size → Go p l e R s m args below meth c Z a0 EL own bytes maxL ret nm (ws' ++ ws) h' (cells + rm.cells) (slots + rm.slots) pc' Ls (v.toList ++ rest) Q') :
    Go p l e R s m args below meth c Z a0 EL own bytes maxL ret nm ws h cells slots pc Ls st Q' := fun K T P => by
  obtain ⟨vm0, k0, locs, X, eT, hS, hk, hZ, hown, N, I, C, r⟩ := P
  subst hst hp
  obtain ⟨cB, kB, i1, i2, i3⟩ := isOf (s := s.setVm vm0) hZ eT E0
  obtain ⟨v, vm₁, B, hW1, X', h2, hgr, hpost, hsteps⟩ := X.interfaceBackS K.1 hown (mvT (s := s.setVm vm0) hZ w1) (mvT (s := s.setVm vm0) hZ w2) (mvT (s := s.setVm vm0) hZ w7 k7) (mvT (s := s.setVm vm0) hZ w5) (mvT (s := s.setVm vm0) hZ w6) (mvT (s := s.setVm vm0) hZ w8) (mvT (s := s.setVm vm0) hZ w9) (mvT (s := s.setVm vm0) hZ w10) hy (backC (W := W) hM hZ w4 w3 hf hlo K.2.2.2.2.2.2 I hs) i1 i2 i3 (g := mkF m pc Ls (argsL.reverse ++ .ref a :: rest)) rfl (hsz.trans K.2.2.1.symm) (Steps.refl _) hlen rfl (by show 2 * 0 + _ ≤ _; omega) (hb K.2.1 hd) (fun _ _ => ⟨has, eT, hc, hl⟩)
  exact go_after K eT hS hk hZ hown N C hc hl X' h2 hgr hpost hsteps (nx v)
theorem go_private {idx W : Nat} {y : MethodName} {C0 : String} {bY : ByteArray} {mY : Nat} {rY : Option FieldType} {rm : Room} {as' : Array Value} {ws0 : List Addr} {argsL : List Value} {a : Addr} (hd : decode bytes pc = .ok (.invokevirtual idx, 3)) (hM : Con l Z EL y bY mY rY [] rm as' h ws0 Q) (hs : ∀ x ∈ ws0, x ∈ ws) (E0 : Exa Z h a C0)
    (w1 : (Cond.methodLink own idx y).before a0 Z = true) (w6 : (Cond.instanceMethod y).before a0 Z = true) (w5 : (Cond.selects y.cls y y).before a0 Z = true) (w7 : (Cond.privateMethod y).before a0 Z = true) (w3 : (Cond.initialized y.cls).before a0 Z = true) (w4 : (Cond.code y bY mY rY).before a0 Z = true) (hy : y.cls ≠ "java/lang/invoke/MethodHandle" ∧ y.cls ≠ "java/lang/invoke/VarHandle")
    (hlen : ∀ sig, parseMethodDescriptor y.desc = some sig → argsL.length = sig.parameters.length) (has : (Value.ref a :: argsL).toArray = as') (hst : st = argsL.reverse ++ .ref a :: rest) (hsz : Ls.size = maxL) (hW : (rest.map fun v => v.category).sum ≤ W) (hf : rm.frames + 1 ≤ R.frames) (hlo : W + (mY + 11) + rm.locals ≤ R.locals) (hc : cells + rm.cells ≤ R.cells) (hl : slots + rm.slots ≤ R.slots) (hp : pc + 3 = pc')
    (nx : ∀ v h' ws', Q v h' ws' → h.size ≤ h'.size → Go p l e R s m args below meth c Z a0 EL own bytes maxL ret nm (ws' ++ ws) h' (cells + rm.cells) (slots + rm.slots) pc' Ls (v.toList ++ rest) Q') :
    Go p l e R s m args below meth c Z a0 EL own bytes maxL ret nm ws h cells slots pc Ls st Q' := fun K T P => by
  obtain ⟨vm0, k0, locs, X, eT, hS, hk, hZ, hown, N, I, C, r⟩ := P
  subst hst hp
  obtain ⟨cell, hcell, hobj⟩ := E0.cell
  have hpr : (s.setVm vm0).PrivateAt y := Cond.privateMethod_at (mvP (args := #[]) (s := s.setVm vm0) hZ w7)
  obtain ⟨v, vm₁, B, hW1, X', h2, hgr, hpost, hsteps⟩ := X.privateBackS K.1 hown (mvT (s := s.setVm vm0) hZ w1) (mvT (s := s.setVm vm0) hZ w6) (mvT (s := s.setVm vm0) hZ w5) hpr (mvT (s := s.setVm vm0) hZ w4) hy (backC (W := W) hM hZ w4 w3 hf hlo K.2.2.2.2.2.2 I hs) (g := mkF m pc Ls (argsL.reverse ++ .ref a :: rest)) rfl (hsz.trans K.2.2.1.symm) (Steps.refl _) (a := a) (cell := cell) (by rw [eT]; exact hcell) hobj hlen rfl (by show 2 * 0 + _ ≤ _; omega) (hb K.2.1 hd) (fun _ _ => ⟨has, eT, hc, hl⟩)
  exact go_after K eT hS hk hZ hown N C hc hl X' h2 hgr hpost hsteps (nx v)
theorem go_specialN {idx W : Nat} {host : String} {y : MethodName} {bY : ByteArray} {mY : Nat} {rm : Room} {as' : Array Value} {ws0 : List Addr} {argsL : List Value} {a : Addr} (hd : decode bytes pc = .ok (.invokespecial idx, 3)) (hM : Con l Z EL y bY mY none [] rm as' h ws0 Q) (hs : ∀ x ∈ ws0, x ∈ ws) (hy1 : y.name = "<init>")
    (w1 : (Cond.methodLinkNest own idx y host).before a0 Z = true) (w2 : (Cond.instanceMethod y).before a0 Z = true) (w3 : (Cond.initialized y.cls).before a0 Z = true) (w4 : (Cond.code y bY mY none).before a0 Z = true) (hy : y.cls ≠ "java/lang/invoke/MethodHandle" ∧ y.cls ≠ "java/lang/invoke/VarHandle")
    (hlen : ∀ sig, parseMethodDescriptor y.desc = some sig → argsL.length = sig.parameters.length) (has : (Value.ref a :: argsL).toArray = as') (hst : st = argsL.reverse ++ .ref a :: rest) (hsz : Ls.size = maxL) (hW : (rest.map fun v => v.category).sum ≤ W) (hf : rm.frames + 1 ≤ R.frames) (hlo : W + (mY + 11) + rm.locals ≤ R.locals) (hc : cells + rm.cells ≤ R.cells) (hl : slots + rm.slots ≤ R.slots) (hp : pc + 3 = pc')
    (nx : ∀ v h' ws', Q v h' ws' → h.size ≤ h'.size → Go p l e R s m args below meth c Z a0 EL own bytes maxL ret nm (ws' ++ ws) h' (cells + rm.cells) (slots + rm.slots) pc' Ls (v.toList ++ rest) Q') :
    Go p l e R s m args below meth c Z a0 EL own bytes maxL ret nm ws h cells slots pc Ls st Q' := fun K T P => by
  obtain ⟨vm0, k0, locs, X, eT, hS, hk, hZ, hown, N, I, C, r⟩ := P
  subst hst hp
  have w1' : (Cond.methodLinkNest own idx y host).before args (s.setVm vm0) = true := (Cond.methodLinkNest_wide (s := Z) (vm' := vm0) hZ w1 :)
  obtain ⟨v, vm₁, B, hW1, X', h2, hgr, hpost, hsteps⟩ := X.specialBackNestS K.1 hy1 hown w1' (mvT (s := s.setVm vm0) hZ w2) (mvT (s := s.setVm vm0) hZ w4) hy (backC (W := W) hM hZ w4 w3 hf hlo K.2.2.2.2.2.2 I hs) (g := mkF m pc Ls (argsL.reverse ++ .ref a :: rest)) rfl (hsz.trans K.2.2.1.symm) (Steps.refl _) hlen rfl (by show 2 * 0 + _ ≤ _; omega) (hb K.2.1 hd) (fun _ _ => ⟨has, eT, hc, hl⟩)
  exact go_after K eT hS hk hZ hown N C hc hl X' h2 hgr hpost hsteps (nx v)
/-- System.arraycopy into a new array -/
theorem go_arraycopy {idx W : Nat} {a b : Addr} {k k' : ClassId} {ty ty' : FieldType} {z z' sp dp nn : Int32} {vs vd us : List Value} {dv dd : Value} (hd : decode bytes pc = .ok (.invokestatic idx, 3)) (w1 : (Cond.methodLink own idx Jvm.Stand.acN).before a0 Z = true) (w2 : (Cond.native Jvm.Stand.acN).before a0 Z = true) (w3 : (Cond.static Jvm.Stand.acN).before a0 Z = true) (w4 : (Cond.initialized "java/lang/System").before a0 Z = true)
    (A : Arv Z h a k ty z vs dv) (B : Arv Z h b k' ty' z' vd dd) (hty : (ty = ty' ∧ refKind ty = false) ∨ (refKind ty = true ∧ refKind ty' = true ∧ StoL Z h b us)) (h1 : ¬ sp < 0) (h2 : ¬ dp < 0) (h3 : ¬ nn < 0) (h4 : sp.toNatClampNeg + nn.toNatClampNeg ≤ z.toNatClampNeg) (h5 : dp.toNatClampNeg + nn.toNatClampNeg ≤ z'.toNatClampNeg)
    (hus : us = (List.range nn.toNatClampNeg).map fun i => vs.getD (sp.toNatClampNeg + i) dv) (hl : dp.toNatClampNeg + nn.toNatClampNeg ≤ vd.length) (hb' : b ∈ ws) (hsz : Ls.size = maxL) (hf : 1 ≤ R.frames) (hW : (rest.map fun v => v.category).sum ≤ W) (hlo : W + (nativeFrameWords "java/lang/System" "arraycopy" 5 + 11) ≤ R.locals) (hp : pc + 3 = pc')
    (nx : ∀ h', Keep h h' [b] → Arv Z h' b k' ty' z' (vd.take dp.toNatClampNeg ++ us ++ vd.drop (dp.toNatClampNeg + nn.toNatClampNeg)) dd → Go p l e R s m args below meth c Z a0 EL own bytes maxL ret nm ws h' cells slots pc' Ls rest Q) :
    Go p l e R s m args below meth c Z a0 EL own bytes maxL ret nm ws h cells slots pc Ls (.int nn :: .int dp :: .ref b :: .int sp :: .ref a :: rest) Q := fun K T P => by
  obtain ⟨vm0, k0, locs, X, eT, hS, hk, hZ, hown, N, I, C, r⟩ := P
  obtain ⟨T', h', L, X', e', N', K', A', stp⟩ := cpA X K.1 hZ hown w1 w2 w3 w4 eT A B hty h1 h2 h3 h4 h5 hus hl N (I.2.2 b hb').1 (g := mkF m pc Ls (.int nn :: .int dp :: .ref b :: .int sp :: .ref a :: rest)) rfl (hsz.trans K.2.2.1.symm) rfl (hb K.2.1 hd) hf (W := W) (by show 2 * 0 + _ ≤ _; omega) hlo
  subst hp
  have S1 : ∀ x ∈ [b], x ∈ ws := allS hb' all0
  obtain ⟨u, S2, E⟩ := nx h' K' A' K T' ⟨vm0, k0, L, X', e', hS, Nat.le_trans hk K'.1, hZ, hown, N', I.keep K' S1, C.trans (CHr.keep K' (fun x hx => (I.2.2 x (S1 x hx)).2.2) I.1), r⟩
  exact ⟨u, stp _ S2, E⟩
theorem go_getClass {idx W : Nat} {a mr : Addr} {C0 : String} (hd : decode bytes pc = .ok (.invokevirtual idx, 3)) (w1 : (Cond.methodLink own idx ⟨"java/lang/Object", "getClass", "()Ljava/lang/Class;"⟩).before a0 Z = true) (w2 : (Cond.declares ⟨"java/lang/Object", "getClass", "()Ljava/lang/Class;"⟩).before a0 Z = true) (w3 : (Cond.noSuperclass "java/lang/Object").before a0 Z = true) (w4 : (Cond.selects C0 ⟨"java/lang/Object", "getClass", "()Ljava/lang/Class;"⟩ ⟨"java/lang/Object", "getClass", "()Ljava/lang/Class;"⟩).before a0 Z = true)
    (w5 : (Cond.instanceMethod ⟨"java/lang/Object", "getClass", "()Ljava/lang/Class;"⟩).before a0 Z = true) (w6 : (Cond.native ⟨"java/lang/Object", "getClass", "()Ljava/lang/Class;"⟩).before a0 Z = true) (E0 : Exa Z h a C0) (M : Mir Z C0 mr) (hsz : Ls.size = maxL) (hf : 1 ≤ R.frames) (hW : (rest.map fun v => v.category).sum ≤ W) (hlo : W + (nativeFrameWords "java/lang/Object" "getClass" 1 + 11) ≤ R.locals) (hp : pc + 3 = pc')
    (nx : Go p l e R s m args below meth c Z a0 EL own bytes maxL ret nm ws h cells slots pc' Ls (.ref mr :: rest) Q) : Go p l e R s m args below meth c Z a0 EL own bytes maxL ret nm ws h cells slots pc Ls (.ref a :: rest) Q := fun K T P => by
  obtain ⟨vm0, k0, locs, X, eT, hS, hk, hZ, hown, N, I, C, r⟩ := P
  obtain ⟨T', X', e', stp⟩ := gcls X K.1 hZ hown w1 w2 w3 w4 w5 w6 eT E0 M (g := mkF m pc Ls (.ref a :: rest)) rfl (hsz.trans K.2.2.1.symm) rfl (hb K.2.1 hd) hf (W := W) (by show 2 * 0 + _ ≤ _; omega) hlo
  subst hp
  obtain ⟨u, S2, E⟩ := nx K T' ⟨vm0, k0, locs, X', e', hS, hk, hZ, hown, N, I, C, r⟩
  exact ⟨u, stp _ S2, E⟩
theorem go_ldcClass {idx : Nat} {C0 : String} {mr : Addr} (hd : decode bytes pc = .ok (.ldc idx, 2)) (w : (Cond.classLink own idx C0).before a0 Z = true) (M : Mir Z C0 mr) (hp : pc + 2 = pc')
    (nx : Go p l e R s m args below meth c Z a0 EL own bytes maxL ret nm ws h cells slots pc' Ls (.ref mr :: st) Q) : Go p l e R s m args below meth c Z a0 EL own bytes maxL ret nm ws h cells slots pc Ls st Q := fun K T P => by
  obtain ⟨vm0, k0, locs, X, eT, hS, hk, hZ, hown, N, I, C, r⟩ := P
  obtain ⟨cc, kc, m1, m2, m3, -⟩ := M
  obtain ⟨k', q, ek⟩ := hZ.alike.2.2 _ _ m2
  have hev : (Term.mirror C0).eval args (s.setVm vm0) none [] (s.setVm vm0) = some (.ref mr) := by
    have f1 : vm0.findClass C0 = some cc := by rw [hZ.alike.findClass]; exact m1
    have f2 : vm0.classes[cc]? = some k' := q
    have f0 : (s.setVm vm0).vm = vm0 := rfl
    have f3 : k'.mirror = some mr := by rw [ek]; exact m3
    simp [Term.eval, f0, f1, f2, f3]
  obtain ⟨vm', X', stp⟩ := X.ldcMirror K.1 hown (mvT (s := s.setVm vm0) hZ w) hev (g := mkF m pc Ls st) rfl (hb K.2.1 hd)
  subst hp
  obtain ⟨u, S2, E⟩ := nx K (T.setVm vm') ⟨vm0, k0, locs, X', eT, hS, hk, hZ, hown, N, I, C, r⟩
  exact ⟨u, stp _ S2, E⟩
theorem g_tswIn {dflt low high o : Int} {offs : Array Int} {len : Nat} {i : Int32} (hd : decode bytes pc = .ok (.tableswitch dflt low high offs, len)) (hin : ¬ (i.toInt < low ∨ i.toInt > high)) (hoff : offs[(i.toInt - low).toNat]? = some o) (ho : 0 ≤ (pc : Int) + o) (hp : ((pc : Int) + o).toNat = pc')
    (n : Go p l e R s m args below meth c Z a0 EL own bytes maxL ret nm ws h cells slots pc' Ls rest Q) : Go p l e R s m args below meth c Z a0 EL own bytes maxL ret nm ws h cells slots pc Ls (.int i :: rest) Q :=
  go_step (fun hx q _ A _ k => XS.tswIn A hx rfl rfl (hb q hd) rfl hin hoff ho hp k) n
theorem g_tswOut {dflt low high : Int} {offs : Array Int} {len : Nat} {i : Int32} (hd : decode bytes pc = .ok (.tableswitch dflt low high offs, len)) (hout : i.toInt < low ∨ i.toInt > high) (ho : 0 ≤ (pc : Int) + dflt) (hp : ((pc : Int) + dflt).toNat = pc')
    (n : Go p l e R s m args below meth c Z a0 EL own bytes maxL ret nm ws h cells slots pc' Ls rest Q) : Go p l e R s m args below meth c Z a0 EL own bytes maxL ret nm ws h cells slots pc Ls (.int i :: rest) Q :=
  go_step (fun hx q _ A _ k => XS.tswOut A hx rfl rfl (hb q hd) rfl hout ho hp k) n
theorem g_lswHit {dflt a off : Int} {prs : Array (Int × Int)} {len : Nat} {i : Int32} (hd : decode bytes pc = .ok (.lookupswitch dflt prs, len)) (hsorted : (prs.toList.zip (prs.toList.drop 1)).all (fun (a, next) => a.1 < next.1) = true) (hfind : prs.find? (·.1 == i.toInt) = some (a, off)) (ho : 0 ≤ (pc : Int) + off) (hp : ((pc : Int) + off).toNat = pc')
    (n : Go p l e R s m args below meth c Z a0 EL own bytes maxL ret nm ws h cells slots pc' Ls rest Q) : Go p l e R s m args below meth c Z a0 EL own bytes maxL ret nm ws h cells slots pc Ls (.int i :: rest) Q := fun K T P => by
  obtain ⟨u, S2, E⟩ := n K T P
  obtain ⟨vm0, k0, locs, X, -⟩ := P
  subst hp
  exact ⟨u, X.lookupswitchHit K.1 (g := mkF m pc Ls (.int i :: rest)) rfl rfl (hb K.2.1 hd) hsorted hfind ho _ S2, E⟩
theorem g_lswMiss {dflt : Int} {prs : Array (Int × Int)} {len : Nat} {i : Int32} (hd : decode bytes pc = .ok (.lookupswitch dflt prs, len)) (hsorted : (prs.toList.zip (prs.toList.drop 1)).all (fun (a, next) => a.1 < next.1) = true) (hfind : prs.find? (·.1 == i.toInt) = none) (ho : 0 ≤ (pc : Int) + dflt) (hp : ((pc : Int) + dflt).toNat = pc')
    (n : Go p l e R s m args below meth c Z a0 EL own bytes maxL ret nm ws h cells slots pc' Ls rest Q) : Go p l e R s m args below meth c Z a0 EL own bytes maxL ret nm ws h cells slots pc Ls (.int i :: rest) Q := fun K T P => by
  obtain ⟨u, S2, E⟩ := n K T P
  obtain ⟨vm0, k0, locs, X, -⟩ := P
  subst hp
  exact ⟨u, X.lookupswitchMiss K.1 (g := mkF m pc Ls (.int i :: rest)) rfl rfl (hb K.2.1 hd) hsorted hfind ho _ S2, E⟩
end Rules3
end Jvm.Own
namespace Jvm.Own
open Sem ClassFile Op Lib Bundle Jvm.Stand Jvm.Free Jvm.LawKit Jvm.RoadKit
/-! ## calls to a superclass's method; an array's clone -/
section Rules4
variable {p : Program} {l : Launch} {e : Env} {R : Room} {s : State} {m : MethodId} {args : Array Value} {below : List Frame} {meth : Method} {c : Code} {Z : State} {a0 : Array Value} {EL : List (String × Nat)} {own : String} {bytes : ByteArray} {maxL : Nat} {ret : Option FieldType} {nm : String}
  {ws : List Addr} {h : Heap} {cells slots : Nat} {pc pc' : Nat} {Ls Ls' : Array Slot} {st st' rest : List Value} {Q Q' : Option Value → Heap → List Addr → Prop}
theorem go_super {idx W : Nat} {y : MethodName} {K0 : String} {bY : ByteArray} {mY : Nat} {rY : Option FieldType} {rm : Room} {as' : Array Value} {ws0 : List Addr} {argsL : List Value} {a : Addr} (hd : decode bytes pc = .ok (.invokespecial idx, 3)) (hM : Con l Z EL y bY mY rY [] rm as' h ws0 Q) (hs : ∀ x ∈ ws0, x ∈ ws) (F : Ins Z h a K0 true)
    (w1 : (Cond.methodLink own idx y).before a0 Z = true) (w2 : (Cond.sameMethod y.cls y.cls y.name y.desc).before a0 Z = true) (w6 : (Cond.instanceMethod y).before a0 Z = true) (w7 : (Cond.superclass own y.cls).before a0 Z = true) (w3 : (Cond.initialized y.cls).before a0 Z = true) (w4 : (Cond.code y bY mY rY).before a0 Z = true) (hn : y.name ≠ "<init>")
    (hlen : ∀ sig, parseMethodDescriptor y.desc = some sig → argsL.length = sig.parameters.length) (has : (Value.ref a :: argsL).toArray = as') (hst : st = argsL.reverse ++ .ref a :: rest) (hsz : Ls.size = maxL) (hW : (rest.map fun v => v.category).sum ≤ W) (hf : rm.frames + 1 ≤ R.frames) (hlo : W + (mY + 11) + rm.locals ≤ R.locals) (hc : cells + rm.cells ≤ R.cells) (hl : slots + rm.slots ≤ R.slots) (hp : pc + 3 = pc')
    (nx : ∀ v h' ws', Q v h' ws' → h.size ≤ h'.size → Go p l e R s m args below meth c Z a0 EL own bytes maxL ret nm (ws' ++ ws) h' (cells + rm.cells) (slots + rm.slots) pc' Ls (v.toList ++ rest) Q') :
    Go p l e R s m args below meth c Z a0 EL own bytes maxL ret nm ws h cells slots pc Ls st Q' := fun K T P => by
  obtain ⟨vm0, k0, locs, X, eT, hS, hk, hZ, hown, N, I, C, r⟩ := P
  subst hst hp
  obtain ⟨v, vm₁, B, hW1, X', h2, hgr, hpost, hsteps⟩ := superBackS X K.1 hZ hown w1 w2 w6 w7 hn (backC (W := W) hM hZ w4 w3 hf hlo K.2.2.2.2.2.2 I hs) eT F (g := mkF m pc Ls (argsL.reverse ++ .ref a :: rest)) rfl (hsz.trans K.2.2.1.symm) w4 hlen rfl (by show 2 * 0 + _ ≤ _; omega) (hb K.2.1 hd) (fun _ _ => ⟨has, eT, hc, hl⟩)
  exact go_after K eT hS hk hZ hown N C hc hl X' h2 hgr hpost hsteps (nx v)
theorem go_up {idx W : Nat} {x z : MethodName} {C0 owner : String} {bY : ByteArray} {mY : Nat} {rY : Option FieldType} {rm : Room} {as' : Array Value} {ws0 : List Addr} {argsL : List Value} {a : Addr} (hd : decode bytes pc = .ok (.invokevirtual idx, 3)) (hM : Con l Z EL z bY mY rY [] rm as' h ws0 Q) (hs : ∀ x ∈ ws0, x ∈ ws) (E0 : Exa Z h a C0)
    (w1 : (Cond.methodLink own idx x).before a0 Z = true) (w2 : (Cond.sameMethod x.cls owner x.name x.desc).before a0 Z = true) (w7 : (Cond.declares ⟨owner, x.name, x.desc⟩).before a0 Z = true) (hy : owner ≠ "java/lang/invoke/MethodHandle" ∧ owner ≠ "java/lang/invoke/VarHandle") (w5 : (Cond.selects C0 x z).before a0 Z = true) (w6 : (Cond.instanceMethod z).before a0 Z = true) (w3 : (Cond.initialized z.cls).before a0 Z = true) (w4 : (Cond.code z bY mY rY).before a0 Z = true)
    (hlen : ∀ sig, parseMethodDescriptor x.desc = some sig → argsL.length = sig.parameters.length) (has : (Value.ref a :: argsL).toArray = as') (hst : st = argsL.reverse ++ .ref a :: rest) (hsz : Ls.size = maxL) (hW : (rest.map fun v => v.category).sum ≤ W) (hf : rm.frames + 1 ≤ R.frames) (hlo : W + (mY + 11) + rm.locals ≤ R.locals) (hc : cells + rm.cells ≤ R.cells) (hl : slots + rm.slots ≤ R.slots) (hp : pc + 3 = pc')
    (nx : ∀ v h' ws', Q v h' ws' → h.size ≤ h'.size → Go p l e R s m args below meth c Z a0 EL own bytes maxL ret nm (ws' ++ ws) h' (cells + rm.cells) (slots + rm.slots) pc' Ls (v.toList ++ rest) Q') :
    Go p l e R s m args below meth c Z a0 EL own bytes maxL ret nm ws h cells slots pc Ls st Q' := fun K T P => by
  obtain ⟨vm0, k0, locs, X, eT, hS, hk, hZ, hown, N, I, C, r⟩ := P
  subst hst hp
  obtain ⟨cB, kB, i1, i2, i3⟩ := isOf (s := s.setVm vm0) hZ eT E0
  obtain ⟨v, vm₁, B, hW1, X', h2, hgr, hpost, hsteps⟩ := X.virtualBackUpS K.1 hown (mvT (s := s.setVm vm0) hZ w1) (mvT (s := s.setVm vm0) hZ w2) (mvT (s := s.setVm vm0) hZ w7) hy (mvT (s := s.setVm vm0) hZ w5) (mvT (s := s.setVm vm0) hZ w6) (backC (W := W) hM hZ w4 w3 hf hlo K.2.2.2.2.2.2 I hs) i1 i3 (g := mkF m pc Ls (argsL.reverse ++ .ref a :: rest)) rfl (hsz.trans K.2.2.1.symm) (Steps.refl _) hlen rfl (by show 2 * 0 + _ ≤ _; omega) (hb K.2.1 hd) (fun _ _ => ⟨has, eT, hc, hl⟩)
  exact go_after K eT hS hk hZ hown N C hc hl X' h2 hgr hpost hsteps (nx v)
theorem go_clone {idx W cap : Nat} {ad : String} {a : Addr} {k : ClassId} {ty : FieldType} {z : Int32} {vs : List Value} {dv : Value} (hd : decode bytes pc = .ok (.invokevirtual idx, 3))
    (w1 : (Cond.methodLink own idx ⟨ad, "clone", "()Ljava/lang/Object;"⟩).before a0 Z = true) (w2 : (Cond.sameMethod ad "java/lang/Object" "clone" "()Ljava/lang/Object;").before a0 Z = true) (w3 : (Cond.native ⟨"java/lang/Object", "clone", "()Ljava/lang/Object;"⟩).before a0 Z = true)
    (w4 : (Cond.instanceMethod ⟨"java/lang/Object", "clone", "()Ljava/lang/Object;"⟩).before a0 Z = true) (w5 : (Cond.selects ad ⟨ad, "clone", "()Ljava/lang/Object;"⟩ ⟨"java/lang/Object", "clone", "()Ljava/lang/Object;"⟩).before a0 Z = true) (w6 : (Cond.castable ad "java/lang/Cloneable").before a0 Z = true)
    (F : Arv Z h a k ty z vs dv) (E0 : Exa Z h a ad) (hsz : Ls.size = maxL) (hf : 1 ≤ R.frames) (hW : (rest.map fun v => v.category).sum ≤ W) (hlo : W + 14 ≤ R.locals) (hcap : z.toNatClampNeg ≤ cap) (hc : cells + 1 ≤ R.cells) (hl : slots + cap ≤ R.slots) (hp : pc + 3 = pc')
    (nx : ∀ h' b, b = h.size → Ext h h' → Arv Z h' b k ty z vs dv → Exa Z h' b ad → Go p l e R s m args below meth c Z a0 EL own bytes maxL ret nm (b :: ws) h' (cells + 1) (slots + cap) pc' Ls (.ref b :: rest) Q) : Go p l e R s m args below meth c Z a0 EL own bytes maxL ret nm ws h cells slots pc Ls (.ref a :: rest) Q := fun K T P => by
  obtain ⟨vm0, k0, locs, X, eT, hS, hk, hZ, hown, N, I, C, r⟩ := P
  obtain ⟨T', h', X', e', E', A', D, stp⟩ := cloneH X K.1 hZ hown w1 w2 w3 w4 w5 w6 eT F.arh E0 (g := mkF m pc Ls (.ref a :: rest)) rfl (hsz.trans K.2.2.1.symm) rfl (hb K.2.1 hd) hf (W := W) (by show 2 * 0 + _ ≤ _; omega) hlo hcap hc hl
  subst hp
  obtain ⟨u, S2, E⟩ := nx h' h.size rfl E' A' D K T' ⟨vm0, k0, locs, X', e', hS, Nat.le_trans hk E'.1, hZ, hown, N, I.new E' rfl D.lt, C.trans (CHr.ext E' I.1), hc, hl⟩
  exact ⟨u, stp _ S2, E⟩
theorem go_ldc2 {idx : Nat} {z : Int64} (hd : decode bytes pc = .ok (.ldc2_w idx, 3)) (w : (Cond.constantLong own idx z).before a0 Z = true) (hp : pc + 3 = pc')
    (nx : Go p l e R s m args below meth c Z a0 EL own bytes maxL ret nm ws h cells slots pc' Ls (.long z :: st) Q) : Go p l e R s m args below meth c Z a0 EL own bytes maxL ret nm ws h cells slots pc Ls st Q := fun K T P => by
  obtain ⟨u, S2, E⟩ := nx K T P
  obtain ⟨vm0, k0, locs, X, eT, hS, hk, hZ, hown, N, I, C, r⟩ := P
  subst hp
  exact ⟨u, X.ldc2Long K.1 hown (mv (s := s.setVm vm0) hZ w) (g := mkF m pc Ls st) rfl (hb K.2.1 hd) _ S2, E⟩
theorem go_instNull {idx : Nat} (hd : decode bytes pc = .ok (.instanceof idx, 3)) (hp : pc + 3 = pc')
    (nx : Go p l e R s m args below meth c Z a0 EL own bytes maxL ret nm ws h cells slots pc' Ls (.int 0 :: rest) Q) : Go p l e R s m args below meth c Z a0 EL own bytes maxL ret nm ws h cells slots pc Ls (.null :: rest) Q := fun K T P => by
  obtain ⟨u, S2, E⟩ := nx K T P
  obtain ⟨vm0, k0, locs, X, eT, hS, hk, hZ, hown, N, I, C, r⟩ := P
  subst hp
  exact ⟨u, X.instanceofNull K.1 (g := mkF m pc Ls (.null :: rest)) rfl rfl (hb K.2.1 hd) _ S2, E⟩
theorem go_castNull {idx : Nat} (hd : decode bytes pc = .ok (.checkcast idx, 3)) (hp : pc + 3 = pc')
    (nx : Go p l e R s m args below meth c Z a0 EL own bytes maxL ret nm ws h cells slots pc' Ls (.null :: rest) Q) : Go p l e R s m args below meth c Z a0 EL own bytes maxL ret nm ws h cells slots pc Ls (.null :: rest) Q := fun K T P => by
  obtain ⟨u, S2, E⟩ := nx K T P
  obtain ⟨vm0, k0, locs, X, eT, hS, hk, hZ, hown, N, I, C, r⟩ := P
  subst hp
  exact ⟨u, X.checkcastNull K.1 (g := mkF m pc Ls (.null :: rest)) rfl rfl (hb K.2.1 hd) _ S2, E⟩
end Rules4
end Jvm.Own
namespace Jvm.Own
open Sem ClassFile Op Lib Bundle Jvm.Stand Jvm.Free Jvm.LawKit Jvm.RoadKit
/-! ## what the sheet says of the start: arrays and Strings -/
theorem eq_ref {args : Array Value} {s : State} {a b : Term} {x : Addr} (hb : b.eval args s none [] s = some (.ref x)) (h : (Cond.eq a b).value args s none s [] = some true) : a.eval args s none [] s = some (.ref x) := by
  cases ha : a.eval args s none [] s with
  | none => simp [Cond.value, ha, hb] at h
  | some v => cases v <;> simp_all [Cond.value]
theorem el_int {args : Array Value} {s : State} {t : Term} {k : Int32} (h : (Cond.eq t (Term.int k)).value args s none s [] = some true) : t.eval args s none [] s = some (.int k) := Cond.eq_int (Cond.before_iff.mpr h) rfl
def Els (t : Term) (args : Array Value) (s : State) : Nat → List Value → Prop
  | _, [] => True
  | i, v :: r => (Term.elem t (Term.int (Int32.ofNat i))).eval args s none [] s = some v ∧ Els t args s (i + 1) r
theorem Els.at {t : Term} {args : Array Value} {s : State} {dv : Value} : ∀ (vs : List Value) (i : Nat), Els t args s i vs → ∀ j, j < vs.length → (Term.elem t (Term.int (Int32.ofNat (i + j)))).eval args s none [] s = some (vs.getD j dv)
  | [], _, _, _, q => nomatch q
  | _ :: _, _, H, 0, _ => H.1
  | _ :: r, i, H, j + 1, q => by
    have := Els.at (dv := dv) r (i + 1) H.2 j (Nat.lt_of_succ_lt_succ q)
    rw [Nat.add_right_comm] at this; exact this
theorem arv_start {args : Array Value} {s : State} {t : Term} {ty : FieldType} {x : Addr} {n : Int32} {vs : List Value} {dv : Value} (ht : t.eval args s none [] s = some (.ref x)) (ha : (Cond.arrayOf t ty).value args s none s [] = some true) (hl : (Cond.eq (Term.length t) (Term.int n)).value args s none s [] = some true)
    (hz : ¬ n < 0) (hn : n.toNatClampNeg = vs.length) (hN : vs.length ≤ 4000) (H : Els t args s 0 vs) (hf : ∀ v ∈ vs, fits ty v = true) : ∃ k, Arv s s.heap x k ty n vs dv := by
  obtain ⟨c, A⟩ := Arr.start ht ha
  have e := el_int hl
  have hA := Arr.fin (State.Warmed39.refl s).alike A
  have q : c.slots.size < 2 ^ 31 := by
    by_cases q : c.slots.size < 2 ^ 31
    · exact q
    · simp [Term.eval, ht, hA, q] at e
  have e2 := len_f ht hA q
  have e3 : c.slots.size.toInt32 = n := by rw [e2] at e; exact Value.int.inj (Option.some.inj e)
  have S : c.slots.size = n.toNatClampNeg := by rw [← e3]; simp only [Int32.toNatClampNeg, len_toInt q]; rfl
  have L : ∀ j, j < c.slots.size → j < vs.length := fun j hj => by rw [← hn, ← S]; exact hj
  have Hs : Has c vs dv := fun j hj => by
    have r := Els.at (dv := dv) vs 0 H j (L j hj)
    rw [Nat.zero_add] at r
    have z := (elem_in r ht rfl A.1).2
    rw [o_cl (by have := L j hj; omega)] at z; exact z
  refine ⟨c.cls, c, A, rfl, S, hz, Hs, fun i hi => ?_⟩
  have hi' := L i hi
  rw [List.getD, List.getElem?_eq_getElem hi', Option.getD_some]; exact hf _ (List.getElem_mem hi')
theorem lat_start {args : Array Value} {s : State} {t : Term} {a : Addr} {n : Int32} {cs : List Int32} {vs : List Value} (ht : t.eval args s none [] s = some (.ref a)) (X : (Cond.exactly t "java/lang/String").value args s none s [] = some true) (hc : (Cond.eq (Term.field t "java/lang/String" "coder" "B") (Term.int 0)).value args s none s [] = some true)
    (hA : (Cond.arrayOf (Term.field t "java/lang/String" "value" "[B") .byte).value args s none s [] = some true) (hL : (Cond.eq (Term.length (Term.field t "java/lang/String" "value" "[B")) (Term.int n)).value args s none s [] = some true)
    (hv : vs = cs.map by8) (H : Els (Term.field t "java/lang/String" "value" "[B") args s 0 vs) (hcs : n = Int32.ofNat cs.length) (hN : cs.length ≤ 4000) : ∃ b, LatB s s.heap a b cs := by
  obtain ⟨b, hb⟩ := arr_v hA
  have hb' := (fld_at ht).symm.trans hb
  obtain ⟨k, A⟩ := arv_start (dv := .int 0) hb hA hL (by rw [hcs]; exact o_nn (by omega)) (by rw [hcs, o_cl (by omega), hv, List.length_map]) (by rw [hv, List.length_map]; exact hN) H (fun v q => by rw [hv] at q; obtain ⟨c, -, rfl⟩ := List.mem_map.mp q; exact fits_by8 c)
  exact ⟨b, LatB.mk (Exa.start ht X) (Fld.start (fld_eq ht hc)) (Fld.start hb') A hcs hv⟩
theorem LatB.same {Z : State} {h : Heap} {a b b' : Addr} {cs ds : List Int32} (F : LatB Z h a b cs) (G : LatB Z h a b' ds) (hB : Byt cs) (hD : Byt ds) (hN : cs.length ≤ 4000) (hM : ds.length ≤ 4000) : cs = ds := by
  obtain ⟨-, -, F3, k1, A1⟩ := F
  obtain ⟨-, -, G3, k2, A2⟩ := G
  have e : (Value.ref b) = .ref b' := Decidable.byContradiction fun q => Fld.ne F3 G3 q rfl
  have e' : b = b' := Value.ref.inj e
  subst e'
  obtain ⟨c1, a1, -, s1, -, H1, -⟩ := A1
  obtain ⟨c2, a2, -, s2, -, H2, -⟩ := A2
  cases a1.1.symm.trans a2.1
  rw [o_cl (by omega)] at s1 s2
  refine list_ext_getD (s1.symm.trans s2) fun i hi => ?_
  have q := (H1 i (by omega)).symm.trans (H2 i (by omega))
  rw [map8_getD, map8_getD] at q
  exact by8_inj (hB.at i).1 (hB.at i).2 (hD.at i).1 (hD.at i).2 (Value.int.inj (Option.some.inj q))
theorem Byt.set {cs : List Int32} {c : Int32} (B : Byt cs) (q : ¬ c < 0 ∧ ¬ (255 : Int32) < c) (j : Nat) : Byt (cs.set j c) := fun y hy => by
  rcases List.mem_or_eq_of_mem_set hy with r | r
  · exact B y r
  · rw [r]; exact q
theorem Byt.rep (n : Nat) : Byt (List.replicate n (0 : Int32)) := fun y hy => by
  rw [(List.mem_replicate.mp hy).2]; exact ⟨by decide, by decide⟩
theorem bytL (x : Int64) : ¬ (x &&& (255 : Int64)).toInt32.toUInt32.toUInt16.toUInt32.toInt32 < 0 ∧ ¬ (255 : Int32) < (x &&& (255 : Int64)).toInt32.toUInt32.toUInt16.toUInt32.toInt32 := by
  have a := c_maskL x 255 8 (by decide) (by decide)
  have b := c_l2i (x &&& 255)
  have c := c_i2c (x &&& (255 : Int64)).toInt32
  have r := rng32 (x &&& (255 : Int64)).toInt32
  have e8 : ((2 : Nat) ^ 8 : Nat) = 256 := rfl
  rw [e8] at a
  simp only [Int32.lt_iff_toInt_lt, Int32.reduceToInt]; omega
/-- a number below n -/
theorem rem_nat (x : Int32) (m : Int32) {n : Nat} (hm : m.toInt = (n : Int)) (h0 : 0 < n) (h1 : n < 2147483648) : ∃ j, j < n ∧ (x &&& (2147483647 : Int32)) % m = Int32.ofNat j := by
  have h := c_and x 2147483647 (by decide)
  have q := (c_iremV (x &&& 2147483647) m).1 h.1 (by omega)
  refine ⟨((x &&& (2147483647 : Int32)) % m).toInt.toNat, ?_, ?_⟩
  · omega
  · apply Int32.toInt_inj.mp; rw [o_int (by omega)]; omega
end Jvm.Own
namespace Jvm.Pilot.@@N@@
open Jvm Jvm.ClassFile Sem Op Lib Jvm.Free Jvm.Stand Jvm.LawKit Jvm.RoadKit Bundle Jvm.Own Jvm.Pilot.@@N@@.Jvm.D
theorem w0 {Z : State} {a0 : Array Value} (hw : ∀ d ∈ tables_1, d.before a0 Z = true) : ((Jvm.Cond.stringLink "com/example/sundew/sundew/KindOfVariablePinLaw" (7 : Nat) "subject")).before a0 Z = true := hw _ (List.mem_of_getElem? (i := 0) rfl)
theorem w1 {Z : State} {a0 : Array Value} (hw : ∀ d ∈ tables_1, d.before a0 Z = true) : ((Jvm.Cond.initialized "java/lang/String")).before a0 Z = true := hw _ (List.mem_of_getElem? (i := 1) rfl)
theorem w2 {Z : State} {a0 : Array Value} (hw : ∀ d ∈ tables_1, d.before a0 Z = true) : ((Jvm.Cond.instantiable "java/lang/String" (4 : Nat))).before a0 Z = true := hw _ (List.mem_of_getElem? (i := 2) rfl)
theorem w3 {Z : State} {a0 : Array Value} (hw : ∀ d ∈ tables_1, d.before a0 Z = true) : ((Jvm.Cond.arrayClass Jvm.ClassFile.FieldType.byte)).before a0 Z = true := hw _ (List.mem_of_getElem? (i := 3) rfl)
theorem w4 {Z : State} {a0 : Array Value} (hw : ∀ d ∈ tables_1, d.before a0 Z = true) : ((Jvm.Cond.laysFinal "java/lang/String" "java/lang/String" "value" "[B")).before a0 Z = true := hw _ (List.mem_of_getElem? (i := 4) rfl)
theorem w5 {Z : State} {a0 : Array Value} (hw : ∀ d ∈ tables_1, d.before a0 Z = true) : ((Jvm.Cond.laysFinal "java/lang/String" "java/lang/String" "coder" "B")).before a0 Z = true := hw _ (List.mem_of_getElem? (i := 5) rfl)
theorem w8 {Z : State} {a0 : Array Value} (hw : ∀ d ∈ tables_1, d.before a0 Z = true) : ((Jvm.Cond.methodLink "com/example/sundew/sundew/KindOfVariablePinLaw" (13 : Nat) ({ cls := "java/lang/String", name := "length", desc := "()I" } : Jvm.MethodName))).before a0 Z = true := hw _ (List.mem_of_getElem? (i := 8) rfl)
theorem w9 {Z : State} {a0 : Array Value} (hw : ∀ d ∈ tables_1, d.before a0 Z = true) : ((Jvm.Cond.declares ({ cls := "java/lang/String", name := "length", desc := "()I" } : Jvm.MethodName))).before a0 Z = true := hw _ (List.mem_of_getElem? (i := 9) rfl)
theorem w10 {Z : State} {a0 : Array Value} (hw : ∀ d ∈ tables_1, d.before a0 Z = true) : ((Jvm.Cond.instanceMethod ({ cls := "java/lang/String", name := "length", desc := "()I" } : Jvm.MethodName))).before a0 Z = true := hw _ (List.mem_of_getElem? (i := 10) rfl)
theorem w11 {Z : State} {a0 : Array Value} (hw : ∀ d ∈ tables_1, d.before a0 Z = true) : ((Jvm.Cond.selects "java/lang/String" ({ cls := "java/lang/String", name := "length", desc := "()I" } : Jvm.MethodName) ({ cls := "java/lang/String", name := "length", desc := "()I" } : Jvm.MethodName))).before a0 Z = true := hw _ (List.mem_of_getElem? (i := 11) rfl)
theorem w12 {Z : State} {a0 : Array Value} (hw : ∀ d ∈ tables_1, d.before a0 Z = true) : ((Jvm.Cond.code ({ cls := "java/lang/String", name := "length", desc := "()I" } : Jvm.MethodName) jdk_42_method_54_code (1 : Nat) (Option.some Jvm.ClassFile.FieldType.int))).before a0 Z = true := hw _ (List.mem_of_getElem? (i := 12) rfl)
theorem w13 {Z : State} {a0 : Array Value} (hw : ∀ d ∈ tables_1, d.before a0 Z = true) : ((Jvm.Cond.fieldLink "java/lang/String" (9 : Nat) "java/lang/String" "value" "[B")).before a0 Z = true := hw _ (List.mem_of_getElem? (i := 13) rfl)
theorem w14 {Z : State} {a0 : Array Value} (hw : ∀ d ∈ tables_1, d.before a0 Z = true) : ((Jvm.Cond.methodLink "java/lang/String" (335 : Nat) ({ cls := "java/lang/String", name := "coder", desc := "()B" } : Jvm.MethodName))).before a0 Z = true := hw _ (List.mem_of_getElem? (i := 14) rfl)
theorem w15 {Z : State} {a0 : Array Value} (hw : ∀ d ∈ tables_1, d.before a0 Z = true) : ((Jvm.Cond.declares ({ cls := "java/lang/String", name := "coder", desc := "()B" } : Jvm.MethodName))).before a0 Z = true := hw _ (List.mem_of_getElem? (i := 15) rfl)
theorem w16 {Z : State} {a0 : Array Value} (hw : ∀ d ∈ tables_1, d.before a0 Z = true) : ((Jvm.Cond.instanceMethod ({ cls := "java/lang/String", name := "coder", desc := "()B" } : Jvm.MethodName))).before a0 Z = true := hw _ (List.mem_of_getElem? (i := 16) rfl)
theorem w17 {Z : State} {a0 : Array Value} (hw : ∀ d ∈ tables_1, d.before a0 Z = true) : ((Jvm.Cond.selects "java/lang/String" ({ cls := "java/lang/String", name := "coder", desc := "()B" } : Jvm.MethodName) ({ cls := "java/lang/String", name := "coder", desc := "()B" } : Jvm.MethodName))).before a0 Z = true := hw _ (List.mem_of_getElem? (i := 17) rfl)
theorem w18 {Z : State} {a0 : Array Value} (hw : ∀ d ∈ tables_1, d.before a0 Z = true) : ((Jvm.Cond.code ({ cls := "java/lang/String", name := "coder", desc := "()B" } : Jvm.MethodName) jdk_42_method_152_code (1 : Nat) (Option.some Jvm.ClassFile.FieldType.byte))).before a0 Z = true := hw _ (List.mem_of_getElem? (i := 18) rfl)
theorem w19 {Z : State} {a0 : Array Value} (hw : ∀ d ∈ tables_1, d.before a0 Z = true) : ((Jvm.Cond.fieldLink "java/lang/String" (38 : Nat) "java/lang/String" "COMPACT_STRINGS" "Z")).before a0 Z = true := hw _ (List.mem_of_getElem? (i := 19) rfl)
theorem w20 {Z : State} {a0 : Array Value} (hw : ∀ d ∈ tables_1, d.before a0 Z = true) : ((Jvm.Cond.fieldLink "java/lang/String" (15 : Nat) "java/lang/String" "coder" "B")).before a0 Z = true := hw _ (List.mem_of_getElem? (i := 20) rfl)
theorem w21 {Z : State} {a0 : Array Value} (hw : ∀ d ∈ tables_1, d.before a0 Z = true) : ((Jvm.Cond.arrayClass Jvm.ClassFile.FieldType.char)).before a0 Z = true := hw _ (List.mem_of_getElem? (i := 21) rfl)
theorem w22 {Z : State} {a0 : Array Value} (hw : ∀ d ∈ tables_1, d.before a0 Z = true) : ((Jvm.Cond.methodLink "com/example/sundew/sundew/KindOfVariablePinLaw" (19 : Nat) ({ cls := "com/example/sundew/sundew/KindOfVariablePinLaw", name := "pick", desc := "(Ljava/lang/String;IZJI)C" } : Jvm.MethodName))).before a0 Z = true := hw _ (List.mem_of_getElem? (i := 22) rfl)
theorem w23 {Z : State} {a0 : Array Value} (hw : ∀ d ∈ tables_1, d.before a0 Z = true) : ((Jvm.Cond.static ({ cls := "com/example/sundew/sundew/KindOfVariablePinLaw", name := "pick", desc := "(Ljava/lang/String;IZJI)C" } : Jvm.MethodName))).before a0 Z = true := hw _ (List.mem_of_getElem? (i := 23) rfl)
theorem w24 {Z : State} {a0 : Array Value} (hw : ∀ d ∈ tables_1, d.before a0 Z = true) : ((Jvm.Cond.initialized "com/example/sundew/sundew/KindOfVariablePinLaw")).before a0 Z = true := hw _ (List.mem_of_getElem? (i := 24) rfl)
theorem w25 {Z : State} {a0 : Array Value} (hw : ∀ d ∈ tables_1, d.before a0 Z = true) : ((Jvm.Cond.code ({ cls := "com/example/sundew/sundew/KindOfVariablePinLaw", name := "pick", desc := "(Ljava/lang/String;IZJI)C" } : Jvm.MethodName) method_5_code (6 : Nat) (Option.some Jvm.ClassFile.FieldType.char))).before a0 Z = true := hw _ (List.mem_of_getElem? (i := 25) rfl)
theorem w26 {Z : State} {a0 : Array Value} (hw : ∀ d ∈ tables_1, d.before a0 Z = true) : ((Jvm.Cond.methodLink "com/example/sundew/sundew/KindOfVariablePinLaw" (66 : Nat) ({ cls := "java/lang/String", name := "charAt", desc := "(I)C" } : Jvm.MethodName))).before a0 Z = true := hw _ (List.mem_of_getElem? (i := 26) rfl)
theorem w27 {Z : State} {a0 : Array Value} (hw : ∀ d ∈ tables_1, d.before a0 Z = true) : ((Jvm.Cond.declares ({ cls := "java/lang/String", name := "charAt", desc := "(I)C" } : Jvm.MethodName))).before a0 Z = true := hw _ (List.mem_of_getElem? (i := 27) rfl)
theorem w28 {Z : State} {a0 : Array Value} (hw : ∀ d ∈ tables_1, d.before a0 Z = true) : ((Jvm.Cond.instanceMethod ({ cls := "java/lang/String", name := "charAt", desc := "(I)C" } : Jvm.MethodName))).before a0 Z = true := hw _ (List.mem_of_getElem? (i := 28) rfl)
theorem w29 {Z : State} {a0 : Array Value} (hw : ∀ d ∈ tables_1, d.before a0 Z = true) : ((Jvm.Cond.selects "java/lang/String" ({ cls := "java/lang/String", name := "charAt", desc := "(I)C" } : Jvm.MethodName) ({ cls := "java/lang/String", name := "charAt", desc := "(I)C" } : Jvm.MethodName))).before a0 Z = true := hw _ (List.mem_of_getElem? (i := 29) rfl)
theorem w30 {Z : State} {a0 : Array Value} (hw : ∀ d ∈ tables_1, d.before a0 Z = true) : ((Jvm.Cond.code ({ cls := "java/lang/String", name := "charAt", desc := "(I)C" } : Jvm.MethodName) jdk_42_method_56_code (2 : Nat) (Option.some Jvm.ClassFile.FieldType.char))).before a0 Z = true := hw _ (List.mem_of_getElem? (i := 30) rfl)
theorem w31 {Z : State} {a0 : Array Value} (hw : ∀ d ∈ tables_1, d.before a0 Z = true) : ((Jvm.Cond.methodLink "java/lang/String" (492 : Nat) ({ cls := "java/lang/String", name := "isLatin1", desc := "()Z" } : Jvm.MethodName))).before a0 Z = true := hw _ (List.mem_of_getElem? (i := 31) rfl)
theorem w32 {Z : State} {a0 : Array Value} (hw : ∀ d ∈ tables_1, d.before a0 Z = true) : ((Jvm.Cond.declares ({ cls := "java/lang/String", name := "isLatin1", desc := "()Z" } : Jvm.MethodName))).before a0 Z = true := hw _ (List.mem_of_getElem? (i := 32) rfl)
theorem w33 {Z : State} {a0 : Array Value} (hw : ∀ d ∈ tables_1, d.before a0 Z = true) : ((Jvm.Cond.instanceMethod ({ cls := "java/lang/String", name := "isLatin1", desc := "()Z" } : Jvm.MethodName))).before a0 Z = true := hw _ (List.mem_of_getElem? (i := 33) rfl)
theorem w34 {Z : State} {a0 : Array Value} (hw : ∀ d ∈ tables_1, d.before a0 Z = true) : ((Jvm.Cond.selects "java/lang/String" ({ cls := "java/lang/String", name := "isLatin1", desc := "()Z" } : Jvm.MethodName) ({ cls := "java/lang/String", name := "isLatin1", desc := "()Z" } : Jvm.MethodName))).before a0 Z = true := hw _ (List.mem_of_getElem? (i := 34) rfl)
theorem w35 {Z : State} {a0 : Array Value} (hw : ∀ d ∈ tables_1, d.before a0 Z = true) : ((Jvm.Cond.code ({ cls := "java/lang/String", name := "isLatin1", desc := "()Z" } : Jvm.MethodName) jdk_42_method_154_code (1 : Nat) (Option.some Jvm.ClassFile.FieldType.boolean))).before a0 Z = true := hw _ (List.mem_of_getElem? (i := 35) rfl)
theorem w36 {Z : State} {a0 : Array Value} (hw : ∀ d ∈ tables_1, d.before a0 Z = true) : ((Jvm.Cond.methodLink "java/lang/String" (495 : Nat) ({ cls := "java/lang/StringLatin1", name := "charAt", desc := "([BI)C" } : Jvm.MethodName))).before a0 Z = true := hw _ (List.mem_of_getElem? (i := 36) rfl)
theorem w37 {Z : State} {a0 : Array Value} (hw : ∀ d ∈ tables_1, d.before a0 Z = true) : ((Jvm.Cond.static ({ cls := "java/lang/StringLatin1", name := "charAt", desc := "([BI)C" } : Jvm.MethodName))).before a0 Z = true := hw _ (List.mem_of_getElem? (i := 37) rfl)
theorem w38 {Z : State} {a0 : Array Value} (hw : ∀ d ∈ tables_1, d.before a0 Z = true) : ((Jvm.Cond.initialized "java/lang/StringLatin1")).before a0 Z = true := hw _ (List.mem_of_getElem? (i := 38) rfl)
theorem w39 {Z : State} {a0 : Array Value} (hw : ∀ d ∈ tables_1, d.before a0 Z = true) : ((Jvm.Cond.code ({ cls := "java/lang/StringLatin1", name := "charAt", desc := "([BI)C" } : Jvm.MethodName) jdk_43_method_2_code (2 : Nat) (Option.some Jvm.ClassFile.FieldType.char))).before a0 Z = true := hw _ (List.mem_of_getElem? (i := 39) rfl)
theorem w40 {Z : State} {a0 : Array Value} (hw : ∀ d ∈ tables_1, d.before a0 Z = true) : ((Jvm.Cond.methodLink "java/lang/StringLatin1" (9 : Nat) ({ cls := "java/lang/String", name := "checkIndex", desc := "(II)V" } : Jvm.MethodName))).before a0 Z = true := hw _ (List.mem_of_getElem? (i := 40) rfl)
theorem w41 {Z : State} {a0 : Array Value} (hw : ∀ d ∈ tables_1, d.before a0 Z = true) : ((Jvm.Cond.static ({ cls := "java/lang/String", name := "checkIndex", desc := "(II)V" } : Jvm.MethodName))).before a0 Z = true := hw _ (List.mem_of_getElem? (i := 41) rfl)
theorem w42 {Z : State} {a0 : Array Value} (hw : ∀ d ∈ tables_1, d.before a0 Z = true) : ((Jvm.Cond.code ({ cls := "java/lang/String", name := "checkIndex", desc := "(II)V" } : Jvm.MethodName) jdk_42_method_155_code (2 : Nat) (Option.none : Option Jvm.ClassFile.FieldType))).before a0 Z = true := hw _ (List.mem_of_getElem? (i := 42) rfl)
theorem w43 {Z : State} {a0 : Array Value} (hw : ∀ d ∈ tables_1, d.before a0 Z = true) : ((Jvm.Cond.fieldLink "java/lang/String" (1053 : Nat) "jdk/internal/util/Preconditions" "SIOOBE_FORMATTER" "Ljava/util/function/BiFunction;")).before a0 Z = true := hw _ (List.mem_of_getElem? (i := 43) rfl)
theorem w44 {Z : State} {a0 : Array Value} (hw : ∀ d ∈ tables_1, d.before a0 Z = true) : ((Jvm.Cond.initialized "jdk/internal/util/Preconditions")).before a0 Z = true := hw _ (List.mem_of_getElem? (i := 44) rfl)
theorem w45 {Z : State} {a0 : Array Value} (hw : ∀ d ∈ tables_1, d.before a0 Z = true) : ((Jvm.Cond.methodLink "java/lang/String" (1059 : Nat) ({ cls := "jdk/internal/util/Preconditions", name := "checkIndex", desc := "(IILjava/util/function/BiFunction;)I" } : Jvm.MethodName))).before a0 Z = true := hw _ (List.mem_of_getElem? (i := 45) rfl)
theorem w46 {Z : State} {a0 : Array Value} (hw : ∀ d ∈ tables_1, d.before a0 Z = true) : ((Jvm.Cond.static ({ cls := "jdk/internal/util/Preconditions", name := "checkIndex", desc := "(IILjava/util/function/BiFunction;)I" } : Jvm.MethodName))).before a0 Z = true := hw _ (List.mem_of_getElem? (i := 46) rfl)
theorem w47 {Z : State} {a0 : Array Value} (hw : ∀ d ∈ tables_1, d.before a0 Z = true) : ((Jvm.Cond.code ({ cls := "jdk/internal/util/Preconditions", name := "checkIndex", desc := "(IILjava/util/function/BiFunction;)I" } : Jvm.MethodName) jdk_41_method_11_code (3 : Nat) (Option.some Jvm.ClassFile.FieldType.int))).before a0 Z = true := hw _ (List.mem_of_getElem? (i := 47) rfl)
theorem w48 {Z : State} {a0 : Array Value} (hw : ∀ d ∈ tables_1, d.before a0 Z = true) : ((Jvm.Cond.methodLink "com/example/sundew/sundew/KindOfVariablePinLaw" (70 : Nat) ({ cls := "com/example/sundew/sundew/KindOfVariablePinLaw", name := "drawn", desc := "(IJI)C" } : Jvm.MethodName))).before a0 Z = true := hw _ (List.mem_of_getElem? (i := 48) rfl)
theorem w49 {Z : State} {a0 : Array Value} (hw : ∀ d ∈ tables_1, d.before a0 Z = true) : ((Jvm.Cond.static ({ cls := "com/example/sundew/sundew/KindOfVariablePinLaw", name := "drawn", desc := "(IJI)C" } : Jvm.MethodName))).before a0 Z = true := hw _ (List.mem_of_getElem? (i := 49) rfl)
theorem w50 {Z : State} {a0 : Array Value} (hw : ∀ d ∈ tables_1, d.before a0 Z = true) : ((Jvm.Cond.code ({ cls := "com/example/sundew/sundew/KindOfVariablePinLaw", name := "drawn", desc := "(IJI)C" } : Jvm.MethodName) method_4_code (4 : Nat) (Option.some Jvm.ClassFile.FieldType.char))).before a0 Z = true := hw _ (List.mem_of_getElem? (i := 50) rfl)
theorem w51 {Z : State} {a0 : Array Value} (hw : ∀ d ∈ tables_1, d.before a0 Z = true) : ((Jvm.Cond.constantLong "com/example/sundew/sundew/KindOfVariablePinLaw" (64 : Nat) (255 : Int64))).before a0 Z = true := hw _ (List.mem_of_getElem? (i := 51) rfl)
theorem w52 {Z : State} {a0 : Array Value} (hw : ∀ d ∈ tables_1, d.before a0 Z = true) : ((Jvm.Cond.methodLink "com/example/sundew/sundew/KindOfVariablePinLaw" (26 : Nat) ({ cls := "com/example/sundew/sundew/KindOfVariablePinLaw", name := "str", desc := "([CI)Ljava/lang/String;" } : Jvm.MethodName))).before a0 Z = true := hw _ (List.mem_of_getElem? (i := 52) rfl)
theorem w53 {Z : State} {a0 : Array Value} (hw : ∀ d ∈ tables_1, d.before a0 Z = true) : ((Jvm.Cond.static ({ cls := "com/example/sundew/sundew/KindOfVariablePinLaw", name := "str", desc := "([CI)Ljava/lang/String;" } : Jvm.MethodName))).before a0 Z = true := hw _ (List.mem_of_getElem? (i := 53) rfl)
theorem w54 {Z : State} {a0 : Array Value} (hw : ∀ d ∈ tables_1, d.before a0 Z = true) : ((Jvm.Cond.code ({ cls := "com/example/sundew/sundew/KindOfVariablePinLaw", name := "str", desc := "([CI)Ljava/lang/String;" } : Jvm.MethodName) method_6_code (2 : Nat) (Option.some (Jvm.ClassFile.FieldType.object "java/lang/String")))).before a0 Z = true := hw _ (List.mem_of_getElem? (i := 54) rfl)
theorem w55 {Z : State} {a0 : Array Value} (hw : ∀ d ∈ tables_1, d.before a0 Z = true) : ((Jvm.Cond.classLink "com/example/sundew/sundew/KindOfVariablePinLaw" (14 : Nat) "java/lang/String")).before a0 Z = true := hw _ (List.mem_of_getElem? (i := 55) rfl)
theorem w56 {Z : State} {a0 : Array Value} (hw : ∀ d ∈ tables_1, d.before a0 Z = true) : ((Jvm.Cond.methodLink "com/example/sundew/sundew/KindOfVariablePinLaw" (74 : Nat) ({ cls := "java/lang/String", name := "<init>", desc := "([C)V" } : Jvm.MethodName))).before a0 Z = true := hw _ (List.mem_of_getElem? (i := 56) rfl)
theorem w57 {Z : State} {a0 : Array Value} (hw : ∀ d ∈ tables_1, d.before a0 Z = true) : ((Jvm.Cond.instanceMethod ({ cls := "java/lang/String", name := "<init>", desc := "([C)V" } : Jvm.MethodName))).before a0 Z = true := hw _ (List.mem_of_getElem? (i := 57) rfl)
theorem w58 {Z : State} {a0 : Array Value} (hw : ∀ d ∈ tables_1, d.before a0 Z = true) : ((Jvm.Cond.code ({ cls := "java/lang/String", name := "<init>", desc := "([C)V" } : Jvm.MethodName) jdk_42_method_3_code (2 : Nat) (Option.none : Option Jvm.ClassFile.FieldType))).before a0 Z = true := hw _ (List.mem_of_getElem? (i := 58) rfl)
theorem w59 {Z : State} {a0 : Array Value} (hw : ∀ d ∈ tables_1, d.before a0 Z = true) : ((Jvm.Cond.methodLink "java/lang/String" (27 : Nat) ({ cls := "java/lang/String", name := "<init>", desc := "([CIILjava/lang/Void;)V" } : Jvm.MethodName))).before a0 Z = true := hw _ (List.mem_of_getElem? (i := 59) rfl)
theorem w60 {Z : State} {a0 : Array Value} (hw : ∀ d ∈ tables_1, d.before a0 Z = true) : ((Jvm.Cond.instanceMethod ({ cls := "java/lang/String", name := "<init>", desc := "([CIILjava/lang/Void;)V" } : Jvm.MethodName))).before a0 Z = true := hw _ (List.mem_of_getElem? (i := 60) rfl)
theorem w62 {Z : State} {a0 : Array Value} (hw : ∀ d ∈ tables_1, d.before a0 Z = true) : ((Jvm.Cond.code ({ cls := "java/lang/String", name := "<init>", desc := "([CIILjava/lang/Void;)V" } : Jvm.MethodName) jdk_42_method_149_code (6 : Nat) (Option.none : Option Jvm.ClassFile.FieldType))).before a0 Z = true := hw _ (List.mem_of_getElem? (i := 62) rfl)
theorem w63 {Z : State} {a0 : Array Value} (hw : ∀ d ∈ tables_1, d.before a0 Z = true) : ((Jvm.Cond.methodLink "java/lang/String" (1 : Nat) ({ cls := "java/lang/Object", name := "<init>", desc := "()V" } : Jvm.MethodName))).before a0 Z = true := hw _ (List.mem_of_getElem? (i := 63) rfl)
theorem w64 {Z : State} {a0 : Array Value} (hw : ∀ d ∈ tables_1, d.before a0 Z = true) : ((Jvm.Cond.instanceMethod ({ cls := "java/lang/Object", name := "<init>", desc := "()V" } : Jvm.MethodName))).before a0 Z = true := hw _ (List.mem_of_getElem? (i := 64) rfl)
theorem w65 {Z : State} {a0 : Array Value} (hw : ∀ d ∈ tables_1, d.before a0 Z = true) : ((Jvm.Cond.code ({ cls := "java/lang/Object", name := "<init>", desc := "()V" } : Jvm.MethodName) object_method_1_code (1 : Nat) (Option.none : Option Jvm.ClassFile.FieldType))).before a0 Z = true := hw _ (List.mem_of_getElem? (i := 65) rfl)
theorem w66 {Z : State} {a0 : Array Value} (hw : ∀ d ∈ tables_1, d.before a0 Z = true) : ((Jvm.Cond.methodLink "java/lang/String" (177 : Nat) ({ cls := "java/lang/StringUTF16", name := "compress", desc := "([CII)[B" } : Jvm.MethodName))).before a0 Z = true := hw _ (List.mem_of_getElem? (i := 66) rfl)
theorem w67 {Z : State} {a0 : Array Value} (hw : ∀ d ∈ tables_1, d.before a0 Z = true) : ((Jvm.Cond.static ({ cls := "java/lang/StringUTF16", name := "compress", desc := "([CII)[B" } : Jvm.MethodName))).before a0 Z = true := hw _ (List.mem_of_getElem? (i := 67) rfl)
theorem w68 {Z : State} {a0 : Array Value} (hw : ∀ d ∈ tables_1, d.before a0 Z = true) : ((Jvm.Cond.initialized "java/lang/StringUTF16")).before a0 Z = true := hw _ (List.mem_of_getElem? (i := 68) rfl)
theorem w69 {Z : State} {a0 : Array Value} (hw : ∀ d ∈ tables_1, d.before a0 Z = true) : ((Jvm.Cond.code ({ cls := "java/lang/StringUTF16", name := "compress", desc := "([CII)[B" } : Jvm.MethodName) jdk_52_method_16_code (6 : Nat) (Option.some (Jvm.ClassFile.FieldType.array Jvm.ClassFile.FieldType.byte)))).before a0 Z = true := hw _ (List.mem_of_getElem? (i := 69) rfl)
theorem w70 {Z : State} {a0 : Array Value} (hw : ∀ d ∈ tables_1, d.before a0 Z = true) : ((Jvm.Cond.methodLink "java/lang/StringUTF16" (115 : Nat) ({ cls := "java/lang/StringUTF16", name := "compress", desc := "([CI[BII)I" } : Jvm.MethodName))).before a0 Z = true := hw _ (List.mem_of_getElem? (i := 70) rfl)
theorem w71 {Z : State} {a0 : Array Value} (hw : ∀ d ∈ tables_1, d.before a0 Z = true) : ((Jvm.Cond.static ({ cls := "java/lang/StringUTF16", name := "compress", desc := "([CI[BII)I" } : Jvm.MethodName))).before a0 Z = true := hw _ (List.mem_of_getElem? (i := 71) rfl)
theorem w72 {Z : State} {a0 : Array Value} (hw : ∀ d ∈ tables_1, d.before a0 Z = true) : ((Jvm.Cond.code ({ cls := "java/lang/StringUTF16", name := "compress", desc := "([CI[BII)I" } : Jvm.MethodName) jdk_52_method_21_code (7 : Nat) (Option.some Jvm.ClassFile.FieldType.int))).before a0 Z = true := hw _ (List.mem_of_getElem? (i := 72) rfl)
theorem w73 {Z : State} {a0 : Array Value} (hw : ∀ d ∈ tables_1, d.before a0 Z = true) : ((Jvm.Cond.methodLink "java/lang/String" (47 : Nat) ({ cls := "java/lang/StringUTF16", name := "coderFromArrayLen", desc := "([BI)B" } : Jvm.MethodName))).before a0 Z = true := hw _ (List.mem_of_getElem? (i := 73) rfl)
theorem w74 {Z : State} {a0 : Array Value} (hw : ∀ d ∈ tables_1, d.before a0 Z = true) : ((Jvm.Cond.static ({ cls := "java/lang/StringUTF16", name := "coderFromArrayLen", desc := "([BI)B" } : Jvm.MethodName))).before a0 Z = true := hw _ (List.mem_of_getElem? (i := 74) rfl)
theorem w75 {Z : State} {a0 : Array Value} (hw : ∀ d ∈ tables_1, d.before a0 Z = true) : ((Jvm.Cond.code ({ cls := "java/lang/StringUTF16", name := "coderFromArrayLen", desc := "([BI)B" } : Jvm.MethodName) jdk_52_method_15_code (2 : Nat) (Option.some Jvm.ClassFile.FieldType.byte))).before a0 Z = true := hw _ (List.mem_of_getElem? (i := 75) rfl)
theorem w76 {Z : State} {a0 : Array Value} (hw : ∀ d ∈ tables_1, d.before a0 Z = true) : ((Jvm.Cond.methodLink "com/example/sundew/sundew/KindOfVariablePinLaw" (30 : Nat) ({ cls := "com/example/sundew/sundew/KindOfVariablePinLaw", name := "expected", desc := "(Ljava/lang/String;)I" } : Jvm.MethodName))).before a0 Z = true := hw _ (List.mem_of_getElem? (i := 76) rfl)
theorem w77 {Z : State} {a0 : Array Value} (hw : ∀ d ∈ tables_1, d.before a0 Z = true) : ((Jvm.Cond.static ({ cls := "com/example/sundew/sundew/KindOfVariablePinLaw", name := "expected", desc := "(Ljava/lang/String;)I" } : Jvm.MethodName))).before a0 Z = true := hw _ (List.mem_of_getElem? (i := 77) rfl)
theorem w78 {Z : State} {a0 : Array Value} (hw : ∀ d ∈ tables_1, d.before a0 Z = true) : ((Jvm.Cond.code ({ cls := "com/example/sundew/sundew/KindOfVariablePinLaw", name := "expected", desc := "(Ljava/lang/String;)I" } : Jvm.MethodName) method_3_code (1 : Nat) (Option.some Jvm.ClassFile.FieldType.int))).before a0 Z = true := hw _ (List.mem_of_getElem? (i := 78) rfl)
theorem w79 {Z : State} {a0 : Array Value} (hw : ∀ d ∈ tables_1, d.before a0 Z = true) : ((Jvm.Cond.methodLink "com/example/sundew/sundew/KindOfVariablePinLaw" (60 : Nat) ({ cls := "java/lang/String", name := "equals", desc := "(Ljava/lang/Object;)Z" } : Jvm.MethodName))).before a0 Z = true := hw _ (List.mem_of_getElem? (i := 79) rfl)
theorem w80 {Z : State} {a0 : Array Value} (hw : ∀ d ∈ tables_1, d.before a0 Z = true) : ((Jvm.Cond.declares ({ cls := "java/lang/String", name := "equals", desc := "(Ljava/lang/Object;)Z" } : Jvm.MethodName))).before a0 Z = true := hw _ (List.mem_of_getElem? (i := 80) rfl)
theorem w81 {Z : State} {a0 : Array Value} (hw : ∀ d ∈ tables_1, d.before a0 Z = true) : ((Jvm.Cond.instanceMethod ({ cls := "java/lang/String", name := "equals", desc := "(Ljava/lang/Object;)Z" } : Jvm.MethodName))).before a0 Z = true := hw _ (List.mem_of_getElem? (i := 81) rfl)
theorem w82 {Z : State} {a0 : Array Value} (hw : ∀ d ∈ tables_1, d.before a0 Z = true) : ((Jvm.Cond.selects "java/lang/String" ({ cls := "java/lang/String", name := "equals", desc := "(Ljava/lang/Object;)Z" } : Jvm.MethodName) ({ cls := "java/lang/String", name := "equals", desc := "(Ljava/lang/Object;)Z" } : Jvm.MethodName))).before a0 Z = true := hw _ (List.mem_of_getElem? (i := 82) rfl)
theorem w83 {Z : State} {a0 : Array Value} (hw : ∀ d ∈ tables_1, d.before a0 Z = true) : ((Jvm.Cond.code ({ cls := "java/lang/String", name := "equals", desc := "(Ljava/lang/Object;)Z" } : Jvm.MethodName) jdk_42_method_66_code (3 : Nat) (Option.some Jvm.ClassFile.FieldType.boolean))).before a0 Z = true := hw _ (List.mem_of_getElem? (i := 83) rfl)
theorem w84 {Z : State} {a0 : Array Value} (hw : ∀ d ∈ tables_1, d.before a0 Z = true) : ((Jvm.Cond.classLink "java/lang/String" (10 : Nat) "java/lang/String")).before a0 Z = true := hw _ (List.mem_of_getElem? (i := 84) rfl)
theorem w85 {Z : State} {a0 : Array Value} (hw : ∀ d ∈ tables_1, d.before a0 Z = true) : ((Jvm.Cond.methodLink "java/lang/String" (541 : Nat) ({ cls := "java/lang/StringLatin1", name := "equals", desc := "([B[B)Z" } : Jvm.MethodName))).before a0 Z = true := hw _ (List.mem_of_getElem? (i := 85) rfl)
theorem w86 {Z : State} {a0 : Array Value} (hw : ∀ d ∈ tables_1, d.before a0 Z = true) : ((Jvm.Cond.static ({ cls := "java/lang/StringLatin1", name := "equals", desc := "([B[B)Z" } : Jvm.MethodName))).before a0 Z = true := hw _ (List.mem_of_getElem? (i := 86) rfl)
theorem w87 {Z : State} {a0 : Array Value} (hw : ∀ d ∈ tables_1, d.before a0 Z = true) : ((Jvm.Cond.code ({ cls := "java/lang/StringLatin1", name := "equals", desc := "([B[B)Z" } : Jvm.MethodName) jdk_43_method_13_code (3 : Nat) (Option.some Jvm.ClassFile.FieldType.boolean))).before a0 Z = true := hw _ (List.mem_of_getElem? (i := 87) rfl)
theorem w88 {Z : State} {a0 : Array Value} (hw : ∀ d ∈ tables_1, d.before a0 Z = true) : ((Jvm.Cond.methodLink "com/example/sundew/sundew/KindOfVariablePinLaw" (34 : Nat) ({ cls := "com/example/sundew/sundew/Holder$Kind", name := "ofVariable", desc := "(Ljava/lang/String;)Ljava/util/Optional;" } : Jvm.MethodName))).before a0 Z = true := hw _ (List.mem_of_getElem? (i := 88) rfl)
theorem w89 {Z : State} {a0 : Array Value} (hw : ∀ d ∈ tables_1, d.before a0 Z = true) : ((Jvm.Cond.static ({ cls := "com/example/sundew/sundew/Holder$Kind", name := "ofVariable", desc := "(Ljava/lang/String;)Ljava/util/Optional;" } : Jvm.MethodName))).before a0 Z = true := hw _ (List.mem_of_getElem? (i := 89) rfl)
theorem w90 {Z : State} {a0 : Array Value} (hw : ∀ d ∈ tables_1, d.before a0 Z = true) : ((Jvm.Cond.initialized "com/example/sundew/sundew/Holder$Kind")).before a0 Z = true := hw _ (List.mem_of_getElem? (i := 90) rfl)
theorem w91 {Z : State} {a0 : Array Value} (hw : ∀ d ∈ tables_1, d.before a0 Z = true) : ((Jvm.Cond.code ({ cls := "com/example/sundew/sundew/Holder$Kind", name := "ofVariable", desc := "(Ljava/lang/String;)Ljava/util/Optional;" } : Jvm.MethodName) prog_11_method_6_code (6 : Nat) (Option.some (Jvm.ClassFile.FieldType.object "java/util/Optional")))).before a0 Z = true := hw _ (List.mem_of_getElem? (i := 91) rfl)
theorem w92 {Z : State} {a0 : Array Value} (hw : ∀ d ∈ tables_1, d.before a0 Z = true) : ((Jvm.Cond.methodLink "com/example/sundew/sundew/Holder$Kind" (68 : Nat) ({ cls := "java/util/Optional", name := "empty", desc := "()Ljava/util/Optional;" } : Jvm.MethodName))).before a0 Z = true := hw _ (List.mem_of_getElem? (i := 92) rfl)
theorem w93 {Z : State} {a0 : Array Value} (hw : ∀ d ∈ tables_1, d.before a0 Z = true) : ((Jvm.Cond.static ({ cls := "java/util/Optional", name := "empty", desc := "()Ljava/util/Optional;" } : Jvm.MethodName))).before a0 Z = true := hw _ (List.mem_of_getElem? (i := 93) rfl)
theorem w94 {Z : State} {a0 : Array Value} (hw : ∀ d ∈ tables_1, d.before a0 Z = true) : ((Jvm.Cond.initialized "java/util/Optional")).before a0 Z = true := hw _ (List.mem_of_getElem? (i := 94) rfl)
theorem w95 {Z : State} {a0 : Array Value} (hw : ∀ d ∈ tables_1, d.before a0 Z = true) : ((Jvm.Cond.code ({ cls := "java/util/Optional", name := "empty", desc := "()Ljava/util/Optional;" } : Jvm.MethodName) jdk_32_method_1_code (1 : Nat) (Option.some (Jvm.ClassFile.FieldType.object "java/util/Optional")))).before a0 Z = true := hw _ (List.mem_of_getElem? (i := 95) rfl)
theorem w96 {Z : State} {a0 : Array Value} (hw : ∀ d ∈ tables_1, d.before a0 Z = true) : ((Jvm.Cond.fieldLink "java/util/Optional" (1 : Nat) "java/util/Optional" "EMPTY" "Ljava/util/Optional;")).before a0 Z = true := hw _ (List.mem_of_getElem? (i := 96) rfl)
theorem w97 {Z : State} {a0 : Array Value} (hw : ∀ d ∈ tables_1, d.before a0 Z = true) : ((Jvm.Cond.methodLink "com/example/sundew/sundew/Holder$Kind" (74 : Nat) ({ cls := "com/example/sundew/sundew/Holder$Kind", name := "values", desc := "()[Lcom/example/sundew/sundew/Holder$Kind;" } : Jvm.MethodName))).before a0 Z = true := hw _ (List.mem_of_getElem? (i := 97) rfl)
theorem w98 {Z : State} {a0 : Array Value} (hw : ∀ d ∈ tables_1, d.before a0 Z = true) : ((Jvm.Cond.static ({ cls := "com/example/sundew/sundew/Holder$Kind", name := "values", desc := "()[Lcom/example/sundew/sundew/Holder$Kind;" } : Jvm.MethodName))).before a0 Z = true := hw _ (List.mem_of_getElem? (i := 98) rfl)
theorem w99 {Z : State} {a0 : Array Value} (hw : ∀ d ∈ tables_1, d.before a0 Z = true) : ((Jvm.Cond.code ({ cls := "com/example/sundew/sundew/Holder$Kind", name := "values", desc := "()[Lcom/example/sundew/sundew/Holder$Kind;" } : Jvm.MethodName) prog_11_method_1_code (0 : Nat) (Option.some (Jvm.ClassFile.FieldType.array (Jvm.ClassFile.FieldType.object "com/example/sundew/sundew/Holder$Kind"))))).before a0 Z = true := hw _ (List.mem_of_getElem? (i := 99) rfl)
theorem w100 {Z : State} {a0 : Array Value} (hw : ∀ d ∈ tables_1, d.before a0 Z = true) : ((Jvm.Cond.fieldLink "com/example/sundew/sundew/Holder$Kind" (13 : Nat) "com/example/sundew/sundew/Holder$Kind" "$VALUES" "[Lcom/example/sundew/sundew/Holder$Kind;")).before a0 Z = true := hw _ (List.mem_of_getElem? (i := 100) rfl)
theorem w101 {Z : State} {a0 : Array Value} (hw : ∀ d ∈ tables_1, d.before a0 Z = true) : ((Jvm.Cond.laysStatic "com/example/sundew/sundew/Holder$Kind" "$VALUES" "[Lcom/example/sundew/sundew/Holder$Kind;")).before a0 Z = true := hw _ (List.mem_of_getElem? (i := 101) rfl)
theorem w102 {Z : State} {a0 : Array Value} (hw : ∀ d ∈ tables_1, d.before a0 Z = true) : ((Jvm.Cond.methodLink "com/example/sundew/sundew/Holder$Kind" (17 : Nat) ({ cls := "[Lcom/example/sundew/sundew/Holder$Kind;", name := "clone", desc := "()Ljava/lang/Object;" } : Jvm.MethodName))).before a0 Z = true := hw _ (List.mem_of_getElem? (i := 102) rfl)
theorem w103 {Z : State} {a0 : Array Value} (hw : ∀ d ∈ tables_1, d.before a0 Z = true) : ((Jvm.Cond.sameMethod "[Lcom/example/sundew/sundew/Holder$Kind;" "java/lang/Object" "clone" "()Ljava/lang/Object;")).before a0 Z = true := hw _ (List.mem_of_getElem? (i := 103) rfl)
theorem w105 {Z : State} {a0 : Array Value} (hw : ∀ d ∈ tables_1, d.before a0 Z = true) : ((Jvm.Cond.instanceMethod ({ cls := "java/lang/Object", name := "clone", desc := "()Ljava/lang/Object;" } : Jvm.MethodName))).before a0 Z = true := hw _ (List.mem_of_getElem? (i := 105) rfl)
theorem w106 {Z : State} {a0 : Array Value} (hw : ∀ d ∈ tables_1, d.before a0 Z = true) : ((Jvm.Cond.selects "[Lcom/example/sundew/sundew/Holder$Kind;" ({ cls := "[Lcom/example/sundew/sundew/Holder$Kind;", name := "clone", desc := "()Ljava/lang/Object;" } : Jvm.MethodName) ({ cls := "java/lang/Object", name := "clone", desc := "()Ljava/lang/Object;" } : Jvm.MethodName))).before a0 Z = true := hw _ (List.mem_of_getElem? (i := 106) rfl)
theorem w107 {Z : State} {a0 : Array Value} (hw : ∀ d ∈ tables_1, d.before a0 Z = true) : ((Jvm.Cond.native ({ cls := "java/lang/Object", name := "clone", desc := "()Ljava/lang/Object;" } : Jvm.MethodName))).before a0 Z = true := hw _ (List.mem_of_getElem? (i := 107) rfl)
theorem w108 {Z : State} {a0 : Array Value} (hw : ∀ d ∈ tables_1, d.before a0 Z = true) : ((Jvm.Cond.castable "[Lcom/example/sundew/sundew/Holder$Kind;" "java/lang/Cloneable")).before a0 Z = true := hw _ (List.mem_of_getElem? (i := 108) rfl)
theorem w109 {Z : State} {a0 : Array Value} (hw : ∀ d ∈ tables_1, d.before a0 Z = true) : ((Jvm.Cond.laysStatic "com/example/sundew/sundew/Holder$Kind" "SUBJECT" "Lcom/example/sundew/sundew/Holder$Kind;")).before a0 Z = true := hw _ (List.mem_of_getElem? (i := 109) rfl)
theorem w110 {Z : State} {a0 : Array Value} (hw : ∀ d ∈ tables_1, d.before a0 Z = true) : ((Jvm.Cond.laysStatic "com/example/sundew/sundew/Holder$Kind" "RESOURCE" "Lcom/example/sundew/sundew/Holder$Kind;")).before a0 Z = true := hw _ (List.mem_of_getElem? (i := 110) rfl)
theorem w111 {Z : State} {a0 : Array Value} (hw : ∀ d ∈ tables_1, d.before a0 Z = true) : ((Jvm.Cond.laysStatic "com/example/sundew/sundew/Holder$Kind" "ENV" "Lcom/example/sundew/sundew/Holder$Kind;")).before a0 Z = true := hw _ (List.mem_of_getElem? (i := 111) rfl)
theorem w113 {Z : State} {a0 : Array Value} (hw : ∀ d ∈ tables_1, d.before a0 Z = true) : ((Jvm.Cond.classLink "com/example/sundew/sundew/Holder$Kind" (18 : Nat) "[Lcom/example/sundew/sundew/Holder$Kind;")).before a0 Z = true := hw _ (List.mem_of_getElem? (i := 113) rfl)
theorem w115 {Z : State} {a0 : Array Value} (hw : ∀ d ∈ tables_1, d.before a0 Z = true) : ((Jvm.Cond.fieldLink "com/example/sundew/sundew/Holder$Kind" (32 : Nat) "com/example/sundew/sundew/Holder$Kind" "variable" "Ljava/lang/String;")).before a0 Z = true := hw _ (List.mem_of_getElem? (i := 115) rfl)
theorem w117 {Z : State} {a0 : Array Value} (hw : ∀ d ∈ tables_1, d.before a0 Z = true) : ((Jvm.Cond.methodLink "com/example/sundew/sundew/Holder$Kind" (78 : Nat) ({ cls := "java/lang/String", name := "equals", desc := "(Ljava/lang/Object;)Z" } : Jvm.MethodName))).before a0 Z = true := hw _ (List.mem_of_getElem? (i := 117) rfl)
theorem w118 {Z : State} {a0 : Array Value} (hw : ∀ d ∈ tables_1, d.before a0 Z = true) : ((Jvm.Cond.methodLink "com/example/sundew/sundew/Holder$Kind" (84 : Nat) ({ cls := "java/util/Optional", name := "of", desc := "(Ljava/lang/Object;)Ljava/util/Optional;" } : Jvm.MethodName))).before a0 Z = true := hw _ (List.mem_of_getElem? (i := 118) rfl)
theorem w119 {Z : State} {a0 : Array Value} (hw : ∀ d ∈ tables_1, d.before a0 Z = true) : ((Jvm.Cond.static ({ cls := "java/util/Optional", name := "of", desc := "(Ljava/lang/Object;)Ljava/util/Optional;" } : Jvm.MethodName))).before a0 Z = true := hw _ (List.mem_of_getElem? (i := 119) rfl)
theorem w120 {Z : State} {a0 : Array Value} (hw : ∀ d ∈ tables_1, d.before a0 Z = true) : ((Jvm.Cond.code ({ cls := "java/util/Optional", name := "of", desc := "(Ljava/lang/Object;)Ljava/util/Optional;" } : Jvm.MethodName) jdk_32_method_3_code (1 : Nat) (Option.some (Jvm.ClassFile.FieldType.object "java/util/Optional")))).before a0 Z = true := hw _ (List.mem_of_getElem? (i := 120) rfl)
theorem w121 {Z : State} {a0 : Array Value} (hw : ∀ d ∈ tables_1, d.before a0 Z = true) : ((Jvm.Cond.classLink "java/util/Optional" (2 : Nat) "java/util/Optional")).before a0 Z = true := hw _ (List.mem_of_getElem? (i := 121) rfl)
theorem w122 {Z : State} {a0 : Array Value} (hw : ∀ d ∈ tables_1, d.before a0 Z = true) : ((Jvm.Cond.instantiable "java/util/Optional" (1 : Nat))).before a0 Z = true := hw _ (List.mem_of_getElem? (i := 122) rfl)
theorem w123 {Z : State} {a0 : Array Value} (hw : ∀ d ∈ tables_1, d.before a0 Z = true) : ((Jvm.Cond.methodLink "java/util/Optional" (17 : Nat) ({ cls := "java/util/Objects", name := "requireNonNull", desc := "(Ljava/lang/Object;)Ljava/lang/Object;" } : Jvm.MethodName))).before a0 Z = true := hw _ (List.mem_of_getElem? (i := 123) rfl)
theorem w124 {Z : State} {a0 : Array Value} (hw : ∀ d ∈ tables_1, d.before a0 Z = true) : ((Jvm.Cond.static ({ cls := "java/util/Objects", name := "requireNonNull", desc := "(Ljava/lang/Object;)Ljava/lang/Object;" } : Jvm.MethodName))).before a0 Z = true := hw _ (List.mem_of_getElem? (i := 124) rfl)
theorem w125 {Z : State} {a0 : Array Value} (hw : ∀ d ∈ tables_1, d.before a0 Z = true) : ((Jvm.Cond.initialized "java/util/Objects")).before a0 Z = true := hw _ (List.mem_of_getElem? (i := 125) rfl)
theorem w126 {Z : State} {a0 : Array Value} (hw : ∀ d ∈ tables_1, d.before a0 Z = true) : ((Jvm.Cond.code ({ cls := "java/util/Objects", name := "requireNonNull", desc := "(Ljava/lang/Object;)Ljava/lang/Object;" } : Jvm.MethodName) jdk_31_method_10_code (1 : Nat) (Option.some (Jvm.ClassFile.FieldType.object "java/lang/Object")))).before a0 Z = true := hw _ (List.mem_of_getElem? (i := 126) rfl)
theorem w127 {Z : State} {a0 : Array Value} (hw : ∀ d ∈ tables_1, d.before a0 Z = true) : ((Jvm.Cond.methodLink "java/util/Optional" (23 : Nat) ({ cls := "java/util/Optional", name := "<init>", desc := "(Ljava/lang/Object;)V" } : Jvm.MethodName))).before a0 Z = true := hw _ (List.mem_of_getElem? (i := 127) rfl)
theorem w128 {Z : State} {a0 : Array Value} (hw : ∀ d ∈ tables_1, d.before a0 Z = true) : ((Jvm.Cond.instanceMethod ({ cls := "java/util/Optional", name := "<init>", desc := "(Ljava/lang/Object;)V" } : Jvm.MethodName))).before a0 Z = true := hw _ (List.mem_of_getElem? (i := 128) rfl)
theorem w130 {Z : State} {a0 : Array Value} (hw : ∀ d ∈ tables_1, d.before a0 Z = true) : ((Jvm.Cond.code ({ cls := "java/util/Optional", name := "<init>", desc := "(Ljava/lang/Object;)V" } : Jvm.MethodName) jdk_32_method_2_code (2 : Nat) (Option.none : Option Jvm.ClassFile.FieldType))).before a0 Z = true := hw _ (List.mem_of_getElem? (i := 130) rfl)
theorem w131 {Z : State} {a0 : Array Value} (hw : ∀ d ∈ tables_1, d.before a0 Z = true) : ((Jvm.Cond.methodLink "java/util/Optional" (7 : Nat) ({ cls := "java/lang/Object", name := "<init>", desc := "()V" } : Jvm.MethodName))).before a0 Z = true := hw _ (List.mem_of_getElem? (i := 131) rfl)
theorem w132 {Z : State} {a0 : Array Value} (hw : ∀ d ∈ tables_1, d.before a0 Z = true) : ((Jvm.Cond.fieldLink "java/util/Optional" (13 : Nat) "java/util/Optional" "value" "Ljava/lang/Object;")).before a0 Z = true := hw _ (List.mem_of_getElem? (i := 132) rfl)
theorem w133 {Z : State} {a0 : Array Value} (hw : ∀ d ∈ tables_1, d.before a0 Z = true) : ((Jvm.Cond.laysFinal "java/util/Optional" "java/util/Optional" "value" "Ljava/lang/Object;")).before a0 Z = true := hw _ (List.mem_of_getElem? (i := 133) rfl)
theorem w134 {Z : State} {a0 : Array Value} (hw : ∀ d ∈ tables_1, d.before a0 Z = true) : ((Jvm.Cond.fieldLink "com/example/sundew/sundew/KindOfVariablePinLaw" (46 : Nat) "com/example/sundew/sundew/Holder$Kind" "SUBJECT" "Lcom/example/sundew/sundew/Holder$Kind;")).before a0 Z = true := hw _ (List.mem_of_getElem? (i := 134) rfl)
theorem w135 {Z : State} {a0 : Array Value} (hw : ∀ d ∈ tables_1, d.before a0 Z = true) : ((Jvm.Cond.methodLink "com/example/sundew/sundew/KindOfVariablePinLaw" (40 : Nat) ({ cls := "java/util/Optional", name := "isPresent", desc := "()Z" } : Jvm.MethodName))).before a0 Z = true := hw _ (List.mem_of_getElem? (i := 135) rfl)
theorem w136 {Z : State} {a0 : Array Value} (hw : ∀ d ∈ tables_1, d.before a0 Z = true) : ((Jvm.Cond.declares ({ cls := "java/util/Optional", name := "isPresent", desc := "()Z" } : Jvm.MethodName))).before a0 Z = true := hw _ (List.mem_of_getElem? (i := 136) rfl)
theorem w137 {Z : State} {a0 : Array Value} (hw : ∀ d ∈ tables_1, d.before a0 Z = true) : ((Jvm.Cond.instanceMethod ({ cls := "java/util/Optional", name := "isPresent", desc := "()Z" } : Jvm.MethodName))).before a0 Z = true := hw _ (List.mem_of_getElem? (i := 137) rfl)
theorem w138 {Z : State} {a0 : Array Value} (hw : ∀ d ∈ tables_1, d.before a0 Z = true) : ((Jvm.Cond.selects "java/util/Optional" ({ cls := "java/util/Optional", name := "isPresent", desc := "()Z" } : Jvm.MethodName) ({ cls := "java/util/Optional", name := "isPresent", desc := "()Z" } : Jvm.MethodName))).before a0 Z = true := hw _ (List.mem_of_getElem? (i := 138) rfl)
theorem w139 {Z : State} {a0 : Array Value} (hw : ∀ d ∈ tables_1, d.before a0 Z = true) : ((Jvm.Cond.code ({ cls := "java/util/Optional", name := "isPresent", desc := "()Z" } : Jvm.MethodName) jdk_32_method_6_code (1 : Nat) (Option.some Jvm.ClassFile.FieldType.boolean))).before a0 Z = true := hw _ (List.mem_of_getElem? (i := 139) rfl)
theorem w140 {Z : State} {a0 : Array Value} (hw : ∀ d ∈ tables_1, d.before a0 Z = true) : ((Jvm.Cond.methodLink "com/example/sundew/sundew/KindOfVariablePinLaw" (56 : Nat) ({ cls := "java/util/Optional", name := "get", desc := "()Ljava/lang/Object;" } : Jvm.MethodName))).before a0 Z = true := hw _ (List.mem_of_getElem? (i := 140) rfl)
theorem w141 {Z : State} {a0 : Array Value} (hw : ∀ d ∈ tables_1, d.before a0 Z = true) : ((Jvm.Cond.declares ({ cls := "java/util/Optional", name := "get", desc := "()Ljava/lang/Object;" } : Jvm.MethodName))).before a0 Z = true := hw _ (List.mem_of_getElem? (i := 141) rfl)
theorem w142 {Z : State} {a0 : Array Value} (hw : ∀ d ∈ tables_1, d.before a0 Z = true) : ((Jvm.Cond.instanceMethod ({ cls := "java/util/Optional", name := "get", desc := "()Ljava/lang/Object;" } : Jvm.MethodName))).before a0 Z = true := hw _ (List.mem_of_getElem? (i := 142) rfl)
theorem w143 {Z : State} {a0 : Array Value} (hw : ∀ d ∈ tables_1, d.before a0 Z = true) : ((Jvm.Cond.selects "java/util/Optional" ({ cls := "java/util/Optional", name := "get", desc := "()Ljava/lang/Object;" } : Jvm.MethodName) ({ cls := "java/util/Optional", name := "get", desc := "()Ljava/lang/Object;" } : Jvm.MethodName))).before a0 Z = true := hw _ (List.mem_of_getElem? (i := 143) rfl)
theorem w144 {Z : State} {a0 : Array Value} (hw : ∀ d ∈ tables_1, d.before a0 Z = true) : ((Jvm.Cond.code ({ cls := "java/util/Optional", name := "get", desc := "()Ljava/lang/Object;" } : Jvm.MethodName) jdk_32_method_5_code (1 : Nat) (Option.some (Jvm.ClassFile.FieldType.object "java/lang/Object")))).before a0 Z = true := hw _ (List.mem_of_getElem? (i := 144) rfl)
theorem w145 {Z : State} {a0 : Array Value} (hw : ∀ d ∈ tables_1, d.before a0 Z = true) : ((Jvm.Cond.constant "com/example/sundew/sundew/KindOfVariablePinLaw" (25 : Nat) (2147483647 : Int32))).before a0 Z = true := hw _ (List.mem_of_getElem? (i := 145) rfl)
theorem w146 {Z : State} {a0 : Array Value} (hw : ∀ d ∈ tables_1, d.before a0 Z = true) : ((Jvm.Cond.stringLink "com/example/sundew/sundew/KindOfVariablePinLaw" (9 : Nat) "resource")).before a0 Z = true := hw _ (List.mem_of_getElem? (i := 146) rfl)
theorem w147 {Z : State} {a0 : Array Value} (hw : ∀ d ∈ tables_1, d.before a0 Z = true) : ((Jvm.Cond.stringLink "com/example/sundew/sundew/KindOfVariablePinLaw" (11 : Nat) "env")).before a0 Z = true := hw _ (List.mem_of_getElem? (i := 147) rfl)
theorem w148 {Z : State} {a0 : Array Value} (hw : ∀ d ∈ tables_1, d.before a0 Z = true) : ((Jvm.Cond.fieldLink "com/example/sundew/sundew/KindOfVariablePinLaw" (53 : Nat) "com/example/sundew/sundew/Holder$Kind" "ENV" "Lcom/example/sundew/sundew/Holder$Kind;")).before a0 Z = true := hw _ (List.mem_of_getElem? (i := 148) rfl)
theorem w149 {Z : State} {a0 : Array Value} (hw : ∀ d ∈ tables_1, d.before a0 Z = true) : ((Jvm.Cond.stringLink "java/lang/String" (7 : Nat) "")).before a0 Z = true := hw _ (List.mem_of_getElem? (i := 149) rfl)
theorem w150 {Z : State} {a0 : Array Value} (hw : ∀ d ∈ tables_1, d.before a0 Z = true) : ((Jvm.Cond.fieldLink "com/example/sundew/sundew/KindOfVariablePinLaw" (50 : Nat) "com/example/sundew/sundew/Holder$Kind" "RESOURCE" "Lcom/example/sundew/sundew/Holder$Kind;")).before a0 Z = true := hw _ (List.mem_of_getElem? (i := 150) rfl)
theorem d_jdk_52_m21_3 : decode jdk_52_method_21_code 3 = .ok (.iload 5, 2) := by decide +kernel
theorem d_jdk_52_m21_5 : decode jdk_52_method_21_code 5 = .ok (.iload 4, 2) := by decide +kernel
theorem d_jdk_52_m21_7 : decode jdk_52_method_21_code 7 = .ok (.if_icmp .ge 37, 3) := by decide +kernel
theorem d_jdk_52_m21_44 : decode jdk_52_method_21_code 44 = .ok (.iload 4, 2) := by decide +kernel
theorem d_jdk_52_m21_46 : decode jdk_52_method_21_code 46 = .ok (.ireturn, 1) := by decide +kernel
theorem d_jdk_52_m21_10 : decode jdk_52_method_21_code 10 = .ok (.aload_n 0, 1) := by decide +kernel
theorem d_jdk_52_m21_11 : decode jdk_52_method_21_code 11 = .ok (.iload_n 1, 1) := by decide +kernel
theorem d_jdk_52_m21_12 : decode jdk_52_method_21_code 12 = .ok (.caload, 1) := by decide +kernel
theorem d_jdk_52_m21_13 : decode jdk_52_method_21_code 13 = .ok (.istore 6, 2) := by decide +kernel
theorem d_jdk_52_m21_15 : decode jdk_52_method_21_code 15 = .ok (.iload 6, 2) := by decide +kernel
theorem d_jdk_52_m21_17 : decode jdk_52_method_21_code 17 = .ok (.sipush 255, 3) := by decide +kernel
theorem d_jdk_52_m21_20 : decode jdk_52_method_21_code 20 = .ok (.if_icmp .le 6, 3) := by decide +kernel
theorem d_jdk_52_m21_23 : decode jdk_52_method_21_code 23 = .ok (.iload 5, 2) := by decide +kernel
theorem d_jdk_52_m21_25 : decode jdk_52_method_21_code 25 = .ok (.ireturn, 1) := by decide +kernel
theorem d_jdk_52_m21_26 : decode jdk_52_method_21_code 26 = .ok (.aload_n 2, 1) := by decide +kernel
theorem d_jdk_52_m21_27 : decode jdk_52_method_21_code 27 = .ok (.iload_n 3, 1) := by decide +kernel
theorem d_jdk_52_m21_28 : decode jdk_52_method_21_code 28 = .ok (.iload 6, 2) := by decide +kernel
theorem d_jdk_52_m21_30 : decode jdk_52_method_21_code 30 = .ok (.i2b, 1) := by decide +kernel
theorem d_jdk_52_m21_31 : decode jdk_52_method_21_code 31 = .ok (.bastore, 1) := by decide +kernel
theorem d_jdk_52_m21_32 : decode jdk_52_method_21_code 32 = .ok (.iinc 1 1, 3) := by decide +kernel
theorem d_jdk_52_m21_35 : decode jdk_52_method_21_code 35 = .ok (.iinc 3 1, 3) := by decide +kernel
theorem d_jdk_52_m21_38 : decode jdk_52_method_21_code 38 = .ok (.iinc 5 1, 3) := by decide +kernel
theorem d_jdk_52_m21_41 : decode jdk_52_method_21_code 41 = .ok (.goto (-38), 3) := by decide +kernel
theorem d_jdk_52_m21_0 : decode jdk_52_method_21_code 0 = .ok (.iconst 0, 1) := by decide +kernel
theorem d_jdk_52_m21_1 : decode jdk_52_method_21_code 1 = .ok (.istore 5, 2) := by decide +kernel
theorem pn0 : plainName "java/lang/StringUTF16" = true := by first | (simp [plainName, overriddenIn]; done) | decide +kernel
theorem d_jdk_52_m16_0 : decode jdk_52_method_16_code 0 = .ok (.iload_n 2, 1) := by decide +kernel
theorem d_jdk_52_m16_1 : decode jdk_52_method_16_code 1 = .ok (.newarray .byte, 2) := by decide +kernel
theorem d_jdk_52_m16_3 : decode jdk_52_method_16_code 3 = .ok (.astore_n 3, 1) := by decide +kernel
theorem d_jdk_52_m16_4 : decode jdk_52_method_16_code 4 = .ok (.aload_n 0, 1) := by decide +kernel
theorem d_jdk_52_m16_5 : decode jdk_52_method_16_code 5 = .ok (.iload_n 1, 1) := by decide +kernel
theorem d_jdk_52_m16_6 : decode jdk_52_method_16_code 6 = .ok (.aload_n 3, 1) := by decide +kernel
theorem d_jdk_52_m16_7 : decode jdk_52_method_16_code 7 = .ok (.iconst 0, 1) := by decide +kernel
theorem d_jdk_52_m16_8 : decode jdk_52_method_16_code 8 = .ok (.iload_n 2, 1) := by decide +kernel
theorem d_jdk_52_m16_9 : decode jdk_52_method_16_code 9 = .ok (.invokestatic 115, 3) := by decide +kernel
theorem pd0 : parseMethodDescriptor "([CI[BII)I" = some ⟨[(.array .char), .int, (.array .byte), .int, .int], some .int⟩ := by decide +kernel
theorem d_jdk_52_m16_12 : decode jdk_52_method_16_code 12 = .ok (.istore 4, 2) := by decide +kernel
theorem d_jdk_52_m16_14 : decode jdk_52_method_16_code 14 = .ok (.iload 4, 2) := by decide +kernel
theorem d_jdk_52_m16_16 : decode jdk_52_method_16_code 16 = .ok (.iload_n 2, 1) := by decide +kernel
theorem d_jdk_52_m16_17 : decode jdk_52_method_16_code 17 = .ok (.if_icmp .eq 40, 3) := by decide +kernel
theorem d_jdk_52_m16_57 : decode jdk_52_method_16_code 57 = .ok (.aload_n 3, 1) := by decide +kernel
theorem d_jdk_52_m16_58 : decode jdk_52_method_16_code 58 = .ok (.areturn, 1) := by decide +kernel
theorem d_jdk_52_m15_0 : decode jdk_52_method_15_code 0 = .ok (.iload_n 1, 1) := by decide +kernel
theorem d_jdk_52_m15_1 : decode jdk_52_method_15_code 1 = .ok (.aload_n 0, 1) := by decide +kernel
theorem d_jdk_52_m15_2 : decode jdk_52_method_15_code 2 = .ok (.arraylength, 1) := by decide +kernel
theorem d_jdk_52_m15_3 : decode jdk_52_method_15_code 3 = .ok (.isub, 1) := by decide +kernel
theorem d_jdk_52_m15_4 : decode jdk_52_method_15_code 4 = .ok (.bipush 31, 2) := by decide +kernel
theorem d_jdk_52_m15_6 : decode jdk_52_method_15_code 6 = .ok (.iushr, 1) := by decide +kernel
theorem d_jdk_52_m15_7 : decode jdk_52_method_15_code 7 = .ok (.i2b, 1) := by decide +kernel
theorem d_jdk_52_m15_8 : decode jdk_52_method_15_code 8 = .ok (.ireturn, 1) := by decide +kernel
theorem d_jdk_42_m149_0 : decode jdk_42_method_149_code 0 = .ok (.aload_n 0, 1) := by decide +kernel
theorem d_jdk_42_m149_1 : decode jdk_42_method_149_code 1 = .ok (.invokespecial 1, 3) := by decide +kernel
theorem d_jdk_42_m149_4 : decode jdk_42_method_149_code 4 = .ok (.iload_n 3, 1) := by decide +kernel
theorem d_jdk_42_m149_5 : decode jdk_42_method_149_code 5 = .ok (.ifCond .ne 22, 3) := by decide +kernel
theorem d_jdk_42_m149_8 : decode jdk_42_method_149_code 8 = .ok (.aload_n 0, 1) := by decide +kernel
theorem d_jdk_42_m149_9 : decode jdk_42_method_149_code 9 = .ok (.ldc 7, 2) := by decide +kernel
theorem d_jdk_42_m149_11 : decode jdk_42_method_149_code 11 = .ok (.getfield 9, 3) := by decide +kernel
theorem d_jdk_42_m149_14 : decode jdk_42_method_149_code 14 = .ok (.putfield 9, 3) := by decide +kernel
theorem d_jdk_42_m149_17 : decode jdk_42_method_149_code 17 = .ok (.aload_n 0, 1) := by decide +kernel
theorem d_jdk_42_m149_18 : decode jdk_42_method_149_code 18 = .ok (.ldc 7, 2) := by decide +kernel
theorem d_jdk_42_m149_20 : decode jdk_42_method_149_code 20 = .ok (.getfield 15, 3) := by decide +kernel
theorem d_jdk_42_m149_23 : decode jdk_42_method_149_code 23 = .ok (.putfield 15, 3) := by decide +kernel
theorem d_jdk_42_m149_26 : decode jdk_42_method_149_code 26 = .ok (.return_, 1) := by decide +kernel
theorem d_jdk_42_m149_27 : decode jdk_42_method_149_code 27 = .ok (.getstatic 38, 3) := by decide +kernel
theorem d_jdk_42_m149_30 : decode jdk_42_method_149_code 30 = .ok (.ifCond .eq 28, 3) := by decide +kernel
theorem d_jdk_42_m149_33 : decode jdk_42_method_149_code 33 = .ok (.aload_n 1, 1) := by decide +kernel
theorem d_jdk_42_m149_34 : decode jdk_42_method_149_code 34 = .ok (.iload_n 2, 1) := by decide +kernel
theorem d_jdk_42_m149_35 : decode jdk_42_method_149_code 35 = .ok (.iload_n 3, 1) := by decide +kernel
theorem d_jdk_42_m149_36 : decode jdk_42_method_149_code 36 = .ok (.invokestatic 177, 3) := by decide +kernel
theorem pd1 : parseMethodDescriptor "([CII)[B" = some ⟨[(.array .char), .int, .int], some (.array .byte)⟩ := by decide +kernel
theorem d_jdk_42_m149_39 : decode jdk_42_method_149_code 39 = .ok (.astore 5, 2) := by decide +kernel
theorem d_jdk_42_m149_41 : decode jdk_42_method_149_code 41 = .ok (.aload_n 0, 1) := by decide +kernel
theorem d_jdk_42_m149_42 : decode jdk_42_method_149_code 42 = .ok (.aload 5, 2) := by decide +kernel
theorem d_jdk_42_m149_44 : decode jdk_42_method_149_code 44 = .ok (.iload_n 3, 1) := by decide +kernel
theorem d_jdk_42_m149_45 : decode jdk_42_method_149_code 45 = .ok (.invokestatic 47, 3) := by decide +kernel
theorem pd2 : parseMethodDescriptor "([BI)B" = some ⟨[(.array .byte), .int], some .byte⟩ := by decide +kernel
theorem d_jdk_42_m149_48 : decode jdk_42_method_149_code 48 = .ok (.putfield 15, 3) := by decide +kernel
theorem d_jdk_42_m149_51 : decode jdk_42_method_149_code 51 = .ok (.aload_n 0, 1) := by decide +kernel
theorem d_jdk_42_m149_52 : decode jdk_42_method_149_code 52 = .ok (.aload 5, 2) := by decide +kernel
theorem d_jdk_42_m149_54 : decode jdk_42_method_149_code 54 = .ok (.putfield 9, 3) := by decide +kernel
theorem d_jdk_42_m149_57 : decode jdk_42_method_149_code 57 = .ok (.return_, 1) := by decide +kernel
theorem pn1 : plainName "java/lang/String" = true := by first | (simp [plainName, overriddenIn]; done) | decide +kernel
theorem d_jdk_42_m3_0 : decode jdk_42_method_3_code 0 = .ok (.aload_n 0, 1) := by decide +kernel
theorem d_jdk_42_m3_1 : decode jdk_42_method_3_code 1 = .ok (.aload_n 1, 1) := by decide +kernel
theorem d_jdk_42_m3_2 : decode jdk_42_method_3_code 2 = .ok (.iconst 0, 1) := by decide +kernel
theorem d_jdk_42_m3_3 : decode jdk_42_method_3_code 3 = .ok (.aload_n 1, 1) := by decide +kernel
theorem d_jdk_42_m3_4 : decode jdk_42_method_3_code 4 = .ok (.arraylength, 1) := by decide +kernel
theorem d_jdk_42_m3_5 : decode jdk_42_method_3_code 5 = .ok (.aconst_null, 1) := by decide +kernel
theorem d_jdk_42_m3_6 : decode jdk_42_method_3_code 6 = .ok (.invokespecial 27, 3) := by decide +kernel
theorem pd3 : parseMethodDescriptor "([CIILjava/lang/Void;)V" = some ⟨[(.array .char), .int, .int, (.object "java/lang/Void")], none⟩ := by decide +kernel
theorem d_jdk_42_m3_9 : decode jdk_42_method_3_code 9 = .ok (.return_, 1) := by decide +kernel
theorem d_jdk_42_m152_0 : decode jdk_42_method_152_code 0 = .ok (.getstatic 38, 3) := by decide +kernel
theorem d_jdk_42_m152_3 : decode jdk_42_method_152_code 3 = .ok (.ifCond .eq 10, 3) := by decide +kernel
theorem d_jdk_42_m152_6 : decode jdk_42_method_152_code 6 = .ok (.aload_n 0, 1) := by decide +kernel
theorem d_jdk_42_m152_7 : decode jdk_42_method_152_code 7 = .ok (.getfield 15, 3) := by decide +kernel
theorem d_jdk_42_m152_10 : decode jdk_42_method_152_code 10 = .ok (.goto 4, 3) := by decide +kernel
theorem d_jdk_42_m152_14 : decode jdk_42_method_152_code 14 = .ok (.ireturn, 1) := by decide +kernel
theorem d_jdk_42_m54_0 : decode jdk_42_method_54_code 0 = .ok (.aload_n 0, 1) := by decide +kernel
theorem d_jdk_42_m54_1 : decode jdk_42_method_54_code 1 = .ok (.getfield 9, 3) := by decide +kernel
theorem d_jdk_42_m54_4 : decode jdk_42_method_54_code 4 = .ok (.arraylength, 1) := by decide +kernel
theorem d_jdk_42_m54_5 : decode jdk_42_method_54_code 5 = .ok (.aload_n 0, 1) := by decide +kernel
theorem d_jdk_42_m54_6 : decode jdk_42_method_54_code 6 = .ok (.invokevirtual 335, 3) := by decide +kernel
theorem pd4 : parseMethodDescriptor "()B" = some ⟨[], some .byte⟩ := by decide +kernel
theorem d_jdk_42_m54_9 : decode jdk_42_method_54_code 9 = .ok (.ishr, 1) := by decide +kernel
theorem d_jdk_42_m54_10 : decode jdk_42_method_54_code 10 = .ok (.ireturn, 1) := by decide +kernel
theorem d_jdk_42_m154_0 : decode jdk_42_method_154_code 0 = .ok (.getstatic 38, 3) := by decide +kernel
theorem d_jdk_42_m154_3 : decode jdk_42_method_154_code 3 = .ok (.ifCond .eq 14, 3) := by decide +kernel
theorem d_jdk_42_m154_6 : decode jdk_42_method_154_code 6 = .ok (.aload_n 0, 1) := by decide +kernel
theorem d_jdk_42_m154_7 : decode jdk_42_method_154_code 7 = .ok (.getfield 15, 3) := by decide +kernel
theorem d_jdk_42_m154_10 : decode jdk_42_method_154_code 10 = .ok (.ifCond .ne 7, 3) := by decide +kernel
theorem d_jdk_42_m154_13 : decode jdk_42_method_154_code 13 = .ok (.iconst 1, 1) := by decide +kernel
theorem d_jdk_42_m154_14 : decode jdk_42_method_154_code 14 = .ok (.goto 4, 3) := by decide +kernel
theorem d_jdk_42_m154_18 : decode jdk_42_method_154_code 18 = .ok (.ireturn, 1) := by decide +kernel
theorem d_jdk_41_m11_0 : decode jdk_41_method_11_code 0 = .ok (.iload_n 0, 1) := by decide +kernel
theorem d_jdk_41_m11_1 : decode jdk_41_method_11_code 1 = .ok (.ifCond .lt 8, 3) := by decide +kernel
theorem d_jdk_41_m11_4 : decode jdk_41_method_11_code 4 = .ok (.iload_n 0, 1) := by decide +kernel
theorem d_jdk_41_m11_5 : decode jdk_41_method_11_code 5 = .ok (.iload_n 1, 1) := by decide +kernel
theorem d_jdk_41_m11_6 : decode jdk_41_method_11_code 6 = .ok (.if_icmp .lt 10, 3) := by decide +kernel
theorem d_jdk_41_m11_16 : decode jdk_41_method_11_code 16 = .ok (.iload_n 0, 1) := by decide +kernel
theorem d_jdk_41_m11_17 : decode jdk_41_method_11_code 17 = .ok (.ireturn, 1) := by decide +kernel
theorem pn2 : plainName "jdk/internal/util/Preconditions" = true := by first | (simp [plainName, overriddenIn]; done) | decide +kernel
theorem d_jdk_42_m155_0 : decode jdk_42_method_155_code 0 = .ok (.iload_n 0, 1) := by decide +kernel
theorem d_jdk_42_m155_1 : decode jdk_42_method_155_code 1 = .ok (.iload_n 1, 1) := by decide +kernel
theorem d_jdk_42_m155_2 : decode jdk_42_method_155_code 2 = .ok (.getstatic 1053, 3) := by decide +kernel
theorem d_jdk_42_m155_5 : decode jdk_42_method_155_code 5 = .ok (.invokestatic 1059, 3) := by decide +kernel
theorem pd5 : parseMethodDescriptor "(IILjava/util/function/BiFunction;)I" = some ⟨[.int, .int, (.object "java/util/function/BiFunction")], some .int⟩ := by decide +kernel
theorem d_jdk_42_m155_8 : decode jdk_42_method_155_code 8 = .ok (.pop, 1) := by decide +kernel
theorem d_jdk_42_m155_9 : decode jdk_42_method_155_code 9 = .ok (.return_, 1) := by decide +kernel
theorem d_jdk_43_m2_0 : decode jdk_43_method_2_code 0 = .ok (.iload_n 1, 1) := by decide +kernel
theorem d_jdk_43_m2_1 : decode jdk_43_method_2_code 1 = .ok (.aload_n 0, 1) := by decide +kernel
theorem d_jdk_43_m2_2 : decode jdk_43_method_2_code 2 = .ok (.arraylength, 1) := by decide +kernel
theorem d_jdk_43_m2_3 : decode jdk_43_method_2_code 3 = .ok (.invokestatic 9, 3) := by decide +kernel
theorem pd6 : parseMethodDescriptor "(II)V" = some ⟨[.int, .int], none⟩ := by decide +kernel
theorem d_jdk_43_m2_6 : decode jdk_43_method_2_code 6 = .ok (.aload_n 0, 1) := by decide +kernel
theorem d_jdk_43_m2_7 : decode jdk_43_method_2_code 7 = .ok (.iload_n 1, 1) := by decide +kernel
theorem d_jdk_43_m2_8 : decode jdk_43_method_2_code 8 = .ok (.baload, 1) := by decide +kernel
theorem d_jdk_43_m2_9 : decode jdk_43_method_2_code 9 = .ok (.sipush 255, 3) := by decide +kernel
theorem d_jdk_43_m2_12 : decode jdk_43_method_2_code 12 = .ok (.iand, 1) := by decide +kernel
theorem d_jdk_43_m2_13 : decode jdk_43_method_2_code 13 = .ok (.i2c, 1) := by decide +kernel
theorem d_jdk_43_m2_14 : decode jdk_43_method_2_code 14 = .ok (.ireturn, 1) := by decide +kernel
theorem pn3 : plainName "java/lang/StringLatin1" = true := by first | (simp [plainName, overriddenIn]; done) | decide +kernel
theorem d_jdk_42_m56_0 : decode jdk_42_method_56_code 0 = .ok (.aload_n 0, 1) := by decide +kernel
theorem d_jdk_42_m56_1 : decode jdk_42_method_56_code 1 = .ok (.invokevirtual 492, 3) := by decide +kernel
theorem pd7 : parseMethodDescriptor "()Z" = some ⟨[], some .boolean⟩ := by decide +kernel
theorem d_jdk_42_m56_4 : decode jdk_42_method_56_code 4 = .ok (.ifCond .eq 12, 3) := by decide +kernel
theorem d_jdk_42_m56_7 : decode jdk_42_method_56_code 7 = .ok (.aload_n 0, 1) := by decide +kernel
theorem d_jdk_42_m56_8 : decode jdk_42_method_56_code 8 = .ok (.getfield 9, 3) := by decide +kernel
theorem d_jdk_42_m56_11 : decode jdk_42_method_56_code 11 = .ok (.iload_n 1, 1) := by decide +kernel
theorem d_jdk_42_m56_12 : decode jdk_42_method_56_code 12 = .ok (.invokestatic 495, 3) := by decide +kernel
theorem pd8 : parseMethodDescriptor "([BI)C" = some ⟨[(.array .byte), .int], some .char⟩ := by decide +kernel
theorem d_jdk_42_m56_15 : decode jdk_42_method_56_code 15 = .ok (.ireturn, 1) := by decide +kernel
theorem d_jdk_43_m13_9 : decode jdk_43_method_13_code 9 = .ok (.iload_n 2, 1) := by decide +kernel
theorem d_jdk_43_m13_10 : decode jdk_43_method_13_code 10 = .ok (.aload_n 0, 1) := by decide +kernel
theorem d_jdk_43_m13_11 : decode jdk_43_method_13_code 11 = .ok (.arraylength, 1) := by decide +kernel
theorem d_jdk_43_m13_12 : decode jdk_43_method_13_code 12 = .ok (.if_icmp .ge 20, 3) := by decide +kernel
theorem d_jdk_43_m13_32 : decode jdk_43_method_13_code 32 = .ok (.iconst 1, 1) := by decide +kernel
theorem d_jdk_43_m13_33 : decode jdk_43_method_13_code 33 = .ok (.ireturn, 1) := by decide +kernel
theorem d_jdk_43_m13_15 : decode jdk_43_method_13_code 15 = .ok (.aload_n 0, 1) := by decide +kernel
theorem d_jdk_43_m13_16 : decode jdk_43_method_13_code 16 = .ok (.iload_n 2, 1) := by decide +kernel
theorem d_jdk_43_m13_17 : decode jdk_43_method_13_code 17 = .ok (.baload, 1) := by decide +kernel
theorem d_jdk_43_m13_18 : decode jdk_43_method_13_code 18 = .ok (.aload_n 1, 1) := by decide +kernel
theorem d_jdk_43_m13_19 : decode jdk_43_method_13_code 19 = .ok (.iload_n 2, 1) := by decide +kernel
theorem d_jdk_43_m13_20 : decode jdk_43_method_13_code 20 = .ok (.baload, 1) := by decide +kernel
theorem d_jdk_43_m13_21 : decode jdk_43_method_13_code 21 = .ok (.if_icmp .eq 5, 3) := by decide +kernel
theorem d_jdk_43_m13_26 : decode jdk_43_method_13_code 26 = .ok (.iinc 2 1, 3) := by decide +kernel
theorem d_jdk_43_m13_29 : decode jdk_43_method_13_code 29 = .ok (.goto (-20), 3) := by decide +kernel
theorem d_jdk_43_m13_24 : decode jdk_43_method_13_code 24 = .ok (.iconst 0, 1) := by decide +kernel
theorem d_jdk_43_m13_25 : decode jdk_43_method_13_code 25 = .ok (.ireturn, 1) := by decide +kernel
theorem d_jdk_43_m13_0 : decode jdk_43_method_13_code 0 = .ok (.aload_n 0, 1) := by decide +kernel
theorem d_jdk_43_m13_1 : decode jdk_43_method_13_code 1 = .ok (.arraylength, 1) := by decide +kernel
theorem d_jdk_43_m13_2 : decode jdk_43_method_13_code 2 = .ok (.aload_n 1, 1) := by decide +kernel
theorem d_jdk_43_m13_3 : decode jdk_43_method_13_code 3 = .ok (.arraylength, 1) := by decide +kernel
theorem d_jdk_43_m13_4 : decode jdk_43_method_13_code 4 = .ok (.if_icmp .ne 30, 3) := by decide +kernel
theorem d_jdk_43_m13_7 : decode jdk_43_method_13_code 7 = .ok (.iconst 0, 1) := by decide +kernel
theorem d_jdk_43_m13_8 : decode jdk_43_method_13_code 8 = .ok (.istore_n 2, 1) := by decide +kernel
theorem d_jdk_43_m13_34 : decode jdk_43_method_13_code 34 = .ok (.iconst 0, 1) := by decide +kernel
theorem d_jdk_43_m13_35 : decode jdk_43_method_13_code 35 = .ok (.ireturn, 1) := by decide +kernel
theorem d_jdk_42_m66_0 : decode jdk_42_method_66_code 0 = .ok (.aload_n 0, 1) := by decide +kernel
theorem d_jdk_42_m66_1 : decode jdk_42_method_66_code 1 = .ok (.aload_n 1, 1) := by decide +kernel
theorem d_jdk_42_m66_2 : decode jdk_42_method_66_code 2 = .ok (.if_acmp .ne 5, 3) := by decide +kernel
theorem d_jdk_42_m66_5 : decode jdk_42_method_66_code 5 = .ok (.iconst 1, 1) := by decide +kernel
theorem d_jdk_42_m66_6 : decode jdk_42_method_66_code 6 = .ok (.ireturn, 1) := by decide +kernel
theorem d_jdk_42_m66_7 : decode jdk_42_method_66_code 7 = .ok (.aload_n 1, 1) := by decide +kernel
theorem d_jdk_42_m66_8 : decode jdk_42_method_66_code 8 = .ok (.instanceof 10, 3) := by decide +kernel
theorem d_jdk_42_m66_11 : decode jdk_42_method_66_code 11 = .ok (.ifCond .eq 43, 3) := by decide +kernel
theorem d_jdk_42_m66_14 : decode jdk_42_method_66_code 14 = .ok (.aload_n 1, 1) := by decide +kernel
theorem d_jdk_42_m66_15 : decode jdk_42_method_66_code 15 = .ok (.checkcast 10, 3) := by decide +kernel
theorem d_jdk_42_m66_18 : decode jdk_42_method_66_code 18 = .ok (.astore_n 2, 1) := by decide +kernel
theorem d_jdk_42_m66_19 : decode jdk_42_method_66_code 19 = .ok (.getstatic 38, 3) := by decide +kernel
theorem d_jdk_42_m66_22 : decode jdk_42_method_66_code 22 = .ok (.ifCond .eq 14, 3) := by decide +kernel
theorem d_jdk_42_m66_25 : decode jdk_42_method_66_code 25 = .ok (.aload_n 0, 1) := by decide +kernel
theorem d_jdk_42_m66_26 : decode jdk_42_method_66_code 26 = .ok (.getfield 15, 3) := by decide +kernel
theorem d_jdk_42_m66_29 : decode jdk_42_method_66_code 29 = .ok (.aload_n 2, 1) := by decide +kernel
theorem d_jdk_42_m66_30 : decode jdk_42_method_66_code 30 = .ok (.getfield 15, 3) := by decide +kernel
theorem d_jdk_42_m66_33 : decode jdk_42_method_66_code 33 = .ok (.if_icmp .ne 21, 3) := by decide +kernel
theorem d_jdk_42_m66_36 : decode jdk_42_method_66_code 36 = .ok (.aload_n 0, 1) := by decide +kernel
theorem d_jdk_42_m66_37 : decode jdk_42_method_66_code 37 = .ok (.getfield 9, 3) := by decide +kernel
theorem d_jdk_42_m66_40 : decode jdk_42_method_66_code 40 = .ok (.aload_n 2, 1) := by decide +kernel
theorem d_jdk_42_m66_41 : decode jdk_42_method_66_code 41 = .ok (.getfield 9, 3) := by decide +kernel
theorem d_jdk_42_m66_44 : decode jdk_42_method_66_code 44 = .ok (.invokestatic 541, 3) := by decide +kernel
theorem pd9 : parseMethodDescriptor "([B[B)Z" = some ⟨[(.array .byte), (.array .byte)], some .boolean⟩ := by decide +kernel
theorem d_jdk_42_m66_47 : decode jdk_42_method_66_code 47 = .ok (.ifCond .eq 7, 3) := by decide +kernel
theorem d_jdk_42_m66_54 : decode jdk_42_method_66_code 54 = .ok (.iconst 0, 1) := by decide +kernel
theorem d_jdk_42_m66_55 : decode jdk_42_method_66_code 55 = .ok (.ireturn, 1) := by decide +kernel
theorem d_jdk_42_m66_50 : decode jdk_42_method_66_code 50 = .ok (.iconst 1, 1) := by decide +kernel
theorem d_jdk_42_m66_51 : decode jdk_42_method_66_code 51 = .ok (.goto 4, 3) := by decide +kernel
theorem d_jdk_31_m10_0 : decode jdk_31_method_10_code 0 = .ok (.aload_n 0, 1) := by decide +kernel
theorem d_jdk_31_m10_1 : decode jdk_31_method_10_code 1 = .ok (.ifnonnull 11, 3) := by decide +kernel
theorem d_jdk_31_m10_12 : decode jdk_31_method_10_code 12 = .ok (.aload_n 0, 1) := by decide +kernel
theorem d_jdk_31_m10_13 : decode jdk_31_method_10_code 13 = .ok (.areturn, 1) := by decide +kernel
theorem pn4 : plainName "java/util/Objects" = true := by first | (simp [plainName, overriddenIn]; done) | decide +kernel
theorem d_m3_0 : decode method_3_code 0 = .ok (.aload_n 0, 1) := by decide +kernel
theorem d_m3_1 : decode method_3_code 1 = .ok (.ifnonnull 5, 3) := by decide +kernel
theorem d_m3_6 : decode method_3_code 6 = .ok (.aload_n 0, 1) := by decide +kernel
theorem d_m3_7 : decode method_3_code 7 = .ok (.ldc 7, 2) := by decide +kernel
theorem d_m3_9 : decode method_3_code 9 = .ok (.invokevirtual 60, 3) := by decide +kernel
theorem pd10 : parseMethodDescriptor "(Ljava/lang/Object;)Z" = some ⟨[(.object "java/lang/Object")], some .boolean⟩ := by decide +kernel
theorem d_m3_12 : decode method_3_code 12 = .ok (.ifCond .eq 5, 3) := by decide +kernel
theorem d_m3_15 : decode method_3_code 15 = .ok (.iconst 0, 1) := by decide +kernel
theorem d_m3_16 : decode method_3_code 16 = .ok (.ireturn, 1) := by decide +kernel
theorem d_m3_17 : decode method_3_code 17 = .ok (.aload_n 0, 1) := by decide +kernel
theorem d_m3_18 : decode method_3_code 18 = .ok (.ldc 9, 2) := by decide +kernel
theorem d_m3_20 : decode method_3_code 20 = .ok (.invokevirtual 60, 3) := by decide +kernel
theorem d_m3_23 : decode method_3_code 23 = .ok (.ifCond .eq 5, 3) := by decide +kernel
theorem d_m3_26 : decode method_3_code 26 = .ok (.iconst 1, 1) := by decide +kernel
theorem d_m3_27 : decode method_3_code 27 = .ok (.ireturn, 1) := by decide +kernel
theorem d_m3_28 : decode method_3_code 28 = .ok (.aload_n 0, 1) := by decide +kernel
theorem d_m3_29 : decode method_3_code 29 = .ok (.ldc 11, 2) := by decide +kernel
theorem d_m3_31 : decode method_3_code 31 = .ok (.invokevirtual 60, 3) := by decide +kernel
theorem d_m3_34 : decode method_3_code 34 = .ok (.ifCond .eq 5, 3) := by decide +kernel
theorem d_m3_37 : decode method_3_code 37 = .ok (.iconst 2, 1) := by decide +kernel
theorem d_m3_38 : decode method_3_code 38 = .ok (.ireturn, 1) := by decide +kernel
theorem d_m3_39 : decode method_3_code 39 = .ok (.iconst (-1), 1) := by decide +kernel
theorem d_m3_40 : decode method_3_code 40 = .ok (.ireturn, 1) := by decide +kernel
theorem pn5 : plainName "com/example/sundew/sundew/KindOfVariablePinLaw" = true := by first | (simp [plainName, overriddenIn]; done) | decide +kernel
theorem d_m3_4 : decode method_3_code 4 = .ok (.iconst (-1), 1) := by decide +kernel
theorem d_m3_5 : decode method_3_code 5 = .ok (.ireturn, 1) := by decide +kernel
theorem d_jdk_32_m1_0 : decode jdk_32_method_1_code 0 = .ok (.getstatic 1, 3) := by decide +kernel
theorem d_jdk_32_m1_3 : decode jdk_32_method_1_code 3 = .ok (.astore_n 0, 1) := by decide +kernel
theorem d_jdk_32_m1_4 : decode jdk_32_method_1_code 4 = .ok (.aload_n 0, 1) := by decide +kernel
theorem d_jdk_32_m1_5 : decode jdk_32_method_1_code 5 = .ok (.areturn, 1) := by decide +kernel
theorem pn6 : plainName "java/util/Optional" = true := by first | (simp [plainName, overriddenIn]; done) | decide +kernel
theorem d_jdk_32_m2_0 : decode jdk_32_method_2_code 0 = .ok (.aload_n 0, 1) := by decide +kernel
theorem d_jdk_32_m2_1 : decode jdk_32_method_2_code 1 = .ok (.invokespecial 7, 3) := by decide +kernel
theorem d_jdk_32_m2_4 : decode jdk_32_method_2_code 4 = .ok (.aload_n 0, 1) := by decide +kernel
theorem d_jdk_32_m2_5 : decode jdk_32_method_2_code 5 = .ok (.aload_n 1, 1) := by decide +kernel
theorem d_jdk_32_m2_6 : decode jdk_32_method_2_code 6 = .ok (.putfield 13, 3) := by decide +kernel
theorem d_jdk_32_m2_9 : decode jdk_32_method_2_code 9 = .ok (.return_, 1) := by decide +kernel
theorem d_jdk_32_m3_0 : decode jdk_32_method_3_code 0 = .ok (.new 2, 3) := by decide +kernel
theorem d_jdk_32_m3_3 : decode jdk_32_method_3_code 3 = .ok (.dup, 1) := by decide +kernel
theorem d_jdk_32_m3_4 : decode jdk_32_method_3_code 4 = .ok (.aload_n 0, 1) := by decide +kernel
theorem d_jdk_32_m3_5 : decode jdk_32_method_3_code 5 = .ok (.invokestatic 17, 3) := by decide +kernel
theorem pd11 : parseMethodDescriptor "(Ljava/lang/Object;)Ljava/lang/Object;" = some ⟨[(.object "java/lang/Object")], some (.object "java/lang/Object")⟩ := by decide +kernel
theorem d_jdk_32_m3_8 : decode jdk_32_method_3_code 8 = .ok (.invokespecial 23, 3) := by decide +kernel
theorem pd12 : parseMethodDescriptor "(Ljava/lang/Object;)V" = some ⟨[(.object "java/lang/Object")], none⟩ := by decide +kernel
theorem d_jdk_32_m3_11 : decode jdk_32_method_3_code 11 = .ok (.areturn, 1) := by decide +kernel
theorem d_jdk_32_m6_0 : decode jdk_32_method_6_code 0 = .ok (.aload_n 0, 1) := by decide +kernel
theorem d_jdk_32_m6_1 : decode jdk_32_method_6_code 1 = .ok (.getfield 13, 3) := by decide +kernel
theorem d_jdk_32_m6_4 : decode jdk_32_method_6_code 4 = .ok (.ifnull 7, 3) := by decide +kernel
theorem d_jdk_32_m6_7 : decode jdk_32_method_6_code 7 = .ok (.iconst 1, 1) := by decide +kernel
theorem d_jdk_32_m6_8 : decode jdk_32_method_6_code 8 = .ok (.goto 4, 3) := by decide +kernel
theorem d_jdk_32_m6_12 : decode jdk_32_method_6_code 12 = .ok (.ireturn, 1) := by decide +kernel
theorem d_jdk_32_m6_11 : decode jdk_32_method_6_code 11 = .ok (.iconst 0, 1) := by decide +kernel
theorem d_jdk_32_m5_0 : decode jdk_32_method_5_code 0 = .ok (.aload_n 0, 1) := by decide +kernel
theorem d_jdk_32_m5_1 : decode jdk_32_method_5_code 1 = .ok (.getfield 13, 3) := by decide +kernel
theorem d_jdk_32_m5_4 : decode jdk_32_method_5_code 4 = .ok (.ifnonnull 13, 3) := by decide +kernel
theorem d_jdk_32_m5_17 : decode jdk_32_method_5_code 17 = .ok (.aload_n 0, 1) := by decide +kernel
theorem d_jdk_32_m5_18 : decode jdk_32_method_5_code 18 = .ok (.getfield 13, 3) := by decide +kernel
theorem d_jdk_32_m5_21 : decode jdk_32_method_5_code 21 = .ok (.areturn, 1) := by decide +kernel
theorem d_prog_11_m1_0 : decode prog_11_method_1_code 0 = .ok (.getstatic 13, 3) := by decide +kernel
theorem d_prog_11_m1_3 : decode prog_11_method_1_code 3 = .ok (.invokevirtual 17, 3) := by decide +kernel
theorem d_prog_11_m1_6 : decode prog_11_method_1_code 6 = .ok (.checkcast 18, 3) := by decide +kernel
theorem d_prog_11_m1_9 : decode prog_11_method_1_code 9 = .ok (.areturn, 1) := by decide +kernel
theorem pn7 : plainName "com/example/sundew/sundew/Holder$Kind" = true := by first | (simp [plainName, overriddenIn]; done) | decide +kernel
theorem d_prog_11_m6_0 : decode prog_11_method_6_code 0 = .ok (.invokestatic 68, 3) := by decide +kernel
theorem pd13 : parseMethodDescriptor "()Ljava/util/Optional;" = some ⟨[], some (.object "java/util/Optional")⟩ := by decide +kernel
theorem d_prog_11_m6_3 : decode prog_11_method_6_code 3 = .ok (.astore_n 1, 1) := by decide +kernel
theorem d_prog_11_m6_4 : decode prog_11_method_6_code 4 = .ok (.invokestatic 74, 3) := by decide +kernel
theorem pd14 : parseMethodDescriptor "()[Lcom/example/sundew/sundew/Holder$Kind;" = some ⟨[], some (.array (.object "com/example/sundew/sundew/Holder$Kind"))⟩ := by decide +kernel
theorem d_prog_11_m6_7 : decode prog_11_method_6_code 7 = .ok (.astore_n 2, 1) := by decide +kernel
theorem d_prog_11_m6_8 : decode prog_11_method_6_code 8 = .ok (.aload_n 2, 1) := by decide +kernel
theorem d_prog_11_m6_9 : decode prog_11_method_6_code 9 = .ok (.arraylength, 1) := by decide +kernel
theorem d_prog_11_m6_10 : decode prog_11_method_6_code 10 = .ok (.istore_n 3, 1) := by decide +kernel
theorem d_prog_11_m6_11 : decode prog_11_method_6_code 11 = .ok (.iconst 0, 1) := by decide +kernel
theorem d_prog_11_m6_12 : decode prog_11_method_6_code 12 = .ok (.istore 4, 2) := by decide +kernel
theorem d_prog_11_m6_14 : decode prog_11_method_6_code 14 = .ok (.iload 4, 2) := by decide +kernel
theorem d_prog_11_m6_16 : decode prog_11_method_6_code 16 = .ok (.iload_n 3, 1) := by decide +kernel
theorem d_prog_11_m6_17 : decode prog_11_method_6_code 17 = .ok (.if_icmp .ge 33, 3) := by decide +kernel
theorem d_prog_11_m6_20 : decode prog_11_method_6_code 20 = .ok (.aload_n 2, 1) := by decide +kernel
theorem d_prog_11_m6_21 : decode prog_11_method_6_code 21 = .ok (.iload 4, 2) := by decide +kernel
theorem d_prog_11_m6_23 : decode prog_11_method_6_code 23 = .ok (.aaload, 1) := by decide +kernel
theorem d_prog_11_m6_24 : decode prog_11_method_6_code 24 = .ok (.astore 5, 2) := by decide +kernel
theorem d_prog_11_m6_26 : decode prog_11_method_6_code 26 = .ok (.aload 5, 2) := by decide +kernel
theorem d_prog_11_m6_28 : decode prog_11_method_6_code 28 = .ok (.getfield 32, 3) := by decide +kernel
theorem d_prog_11_m6_31 : decode prog_11_method_6_code 31 = .ok (.aload_n 0, 1) := by decide +kernel
theorem d_prog_11_m6_32 : decode prog_11_method_6_code 32 = .ok (.invokevirtual 78, 3) := by decide +kernel
theorem d_prog_11_m6_35 : decode prog_11_method_6_code 35 = .ok (.ifCond .eq 9, 3) := by decide +kernel
theorem d_prog_11_m6_38 : decode prog_11_method_6_code 38 = .ok (.aload 5, 2) := by decide +kernel
theorem d_prog_11_m6_40 : decode prog_11_method_6_code 40 = .ok (.invokestatic 84, 3) := by decide +kernel
theorem pd15 : parseMethodDescriptor "(Ljava/lang/Object;)Ljava/util/Optional;" = some ⟨[(.object "java/lang/Object")], some (.object "java/util/Optional")⟩ := by decide +kernel
theorem d_prog_11_m6_43 : decode prog_11_method_6_code 43 = .ok (.astore_n 1, 1) := by decide +kernel
theorem d_prog_11_m6_44 : decode prog_11_method_6_code 44 = .ok (.iinc 4 1, 3) := by decide +kernel
theorem d_prog_11_m6_47 : decode prog_11_method_6_code 47 = .ok (.goto (-33), 3) := by decide +kernel
theorem d_prog_11_m6_50 : decode prog_11_method_6_code 50 = .ok (.aload_n 1, 1) := by decide +kernel
theorem d_prog_11_m6_51 : decode prog_11_method_6_code 51 = .ok (.areturn, 1) := by decide +kernel
theorem d_m4_0 : decode method_4_code 0 = .ok (.iload_n 0, 1) := by decide +kernel
theorem d_m4_1 : decode method_4_code 1 = .ok (.bipush 8, 2) := by decide +kernel
theorem d_m4_3 : decode method_4_code 3 = .ok (.if_icmp .ge 16, 3) := by decide +kernel
theorem d_m4_6 : decode method_4_code 6 = .ok (.lload_n 1, 1) := by decide +kernel
theorem d_m4_7 : decode method_4_code 7 = .ok (.bipush 8, 2) := by decide +kernel
theorem d_m4_9 : decode method_4_code 9 = .ok (.iload_n 0, 1) := by decide +kernel
theorem d_m4_10 : decode method_4_code 10 = .ok (.imul, 1) := by decide +kernel
theorem d_m4_11 : decode method_4_code 11 = .ok (.lushr, 1) := by decide +kernel
theorem d_m4_12 : decode method_4_code 12 = .ok (.ldc2_w 64, 3) := by decide +kernel
theorem d_m4_15 : decode method_4_code 15 = .ok (.land, 1) := by decide +kernel
theorem d_m4_16 : decode method_4_code 16 = .ok (.l2i, 1) := by decide +kernel
theorem d_m4_17 : decode method_4_code 17 = .ok (.i2c, 1) := by decide +kernel
theorem d_m4_18 : decode method_4_code 18 = .ok (.ireturn, 1) := by decide +kernel
theorem d_m4_19 : decode method_4_code 19 = .ok (.iload_n 3, 1) := by decide +kernel
theorem d_m4_20 : decode method_4_code 20 = .ok (.sipush 255, 3) := by decide +kernel
theorem d_m4_23 : decode method_4_code 23 = .ok (.iand, 1) := by decide +kernel
theorem d_m4_24 : decode method_4_code 24 = .ok (.i2c, 1) := by decide +kernel
theorem d_m4_25 : decode method_4_code 25 = .ok (.ireturn, 1) := by decide +kernel
theorem d_m5_0 : decode method_5_code 0 = .ok (.iload_n 2, 1) := by decide +kernel
theorem d_m5_1 : decode method_5_code 1 = .ok (.ifCond .ne 17, 3) := by decide +kernel
theorem d_m5_4 : decode method_5_code 4 = .ok (.iload_n 1, 1) := by decide +kernel
theorem d_m5_5 : decode method_5_code 5 = .ok (.aload_n 0, 1) := by decide +kernel
theorem d_m5_6 : decode method_5_code 6 = .ok (.invokevirtual 13, 3) := by decide +kernel
theorem pd16 : parseMethodDescriptor "()I" = some ⟨[], some .int⟩ := by decide +kernel
theorem d_m5_9 : decode method_5_code 9 = .ok (.if_icmp .ge 9, 3) := by decide +kernel
theorem d_m5_12 : decode method_5_code 12 = .ok (.aload_n 0, 1) := by decide +kernel
theorem d_m5_13 : decode method_5_code 13 = .ok (.iload_n 1, 1) := by decide +kernel
theorem d_m5_14 : decode method_5_code 14 = .ok (.invokevirtual 66, 3) := by decide +kernel
theorem pd17 : parseMethodDescriptor "(I)C" = some ⟨[.int], some .char⟩ := by decide +kernel
theorem d_m5_17 : decode method_5_code 17 = .ok (.ireturn, 1) := by decide +kernel
theorem d_m5_18 : decode method_5_code 18 = .ok (.iload_n 1, 1) := by decide +kernel
theorem d_m5_19 : decode method_5_code 19 = .ok (.lload_n 3, 1) := by decide +kernel
theorem d_m5_20 : decode method_5_code 20 = .ok (.iload 5, 2) := by decide +kernel
theorem d_m5_22 : decode method_5_code 22 = .ok (.invokestatic 70, 3) := by decide +kernel
theorem pd18 : parseMethodDescriptor "(IJI)C" = some ⟨[.int, .long, .int], some .char⟩ := by decide +kernel
theorem d_m5_25 : decode method_5_code 25 = .ok (.ireturn, 1) := by decide +kernel
theorem d_m6_0 : decode method_6_code 0 = .ok (.iload_n 1, 1) := by decide +kernel
theorem d_m6_1 : decode method_6_code 1 = .ok (.ifCond .ne 14, 3) := by decide +kernel
theorem d_m6_4 : decode method_6_code 4 = .ok (.new 14, 3) := by decide +kernel
theorem d_m6_7 : decode method_6_code 7 = .ok (.dup, 1) := by decide +kernel
theorem d_m6_8 : decode method_6_code 8 = .ok (.iconst 0, 1) := by decide +kernel
theorem d_m6_9 : decode method_6_code 9 = .ok (.newarray .char, 2) := by decide +kernel
theorem d_m6_11 : decode method_6_code 11 = .ok (.invokespecial 74, 3) := by decide +kernel
theorem pd19 : parseMethodDescriptor "([C)V" = some ⟨[(.array .char)], none⟩ := by decide +kernel
theorem d_m6_14 : decode method_6_code 14 = .ok (.areturn, 1) := by decide +kernel
theorem d_m6_15 : decode method_6_code 15 = .ok (.iload_n 1, 1) := by decide +kernel
theorem d_m6_16 : decode method_6_code 16 = .ok (.iconst 1, 1) := by decide +kernel
theorem d_m6_17 : decode method_6_code 17 = .ok (.if_icmp .ne 20, 3) := by decide +kernel
theorem d_m6_20 : decode method_6_code 20 = .ok (.new 14, 3) := by decide +kernel
theorem d_m6_23 : decode method_6_code 23 = .ok (.dup, 1) := by decide +kernel
theorem d_m6_24 : decode method_6_code 24 = .ok (.iconst 1, 1) := by decide +kernel
theorem d_m6_25 : decode method_6_code 25 = .ok (.newarray .char, 2) := by decide +kernel
theorem d_m6_27 : decode method_6_code 27 = .ok (.dup, 1) := by decide +kernel
theorem d_m6_28 : decode method_6_code 28 = .ok (.iconst 0, 1) := by decide +kernel
theorem d_m6_29 : decode method_6_code 29 = .ok (.aload_n 0, 1) := by decide +kernel
theorem d_m6_30 : decode method_6_code 30 = .ok (.iconst 0, 1) := by decide +kernel
theorem d_m6_31 : decode method_6_code 31 = .ok (.caload, 1) := by decide +kernel
theorem d_m6_32 : decode method_6_code 32 = .ok (.castore, 1) := by decide +kernel
theorem d_m6_33 : decode method_6_code 33 = .ok (.invokespecial 74, 3) := by decide +kernel
theorem d_m6_36 : decode method_6_code 36 = .ok (.areturn, 1) := by decide +kernel
theorem d_m6_37 : decode method_6_code 37 = .ok (.iload_n 1, 1) := by decide +kernel
theorem d_m6_38 : decode method_6_code 38 = .ok (.iconst 2, 1) := by decide +kernel
theorem d_m6_39 : decode method_6_code 39 = .ok (.if_icmp .ne 26, 3) := by decide +kernel
theorem d_m6_42 : decode method_6_code 42 = .ok (.new 14, 3) := by decide +kernel
theorem d_m6_45 : decode method_6_code 45 = .ok (.dup, 1) := by decide +kernel
theorem d_m6_46 : decode method_6_code 46 = .ok (.iconst 2, 1) := by decide +kernel
theorem d_m6_47 : decode method_6_code 47 = .ok (.newarray .char, 2) := by decide +kernel
theorem d_m6_49 : decode method_6_code 49 = .ok (.dup, 1) := by decide +kernel
theorem d_m6_50 : decode method_6_code 50 = .ok (.iconst 0, 1) := by decide +kernel
theorem d_m6_51 : decode method_6_code 51 = .ok (.aload_n 0, 1) := by decide +kernel
theorem d_m6_52 : decode method_6_code 52 = .ok (.iconst 0, 1) := by decide +kernel
theorem d_m6_53 : decode method_6_code 53 = .ok (.caload, 1) := by decide +kernel
theorem d_m6_54 : decode method_6_code 54 = .ok (.castore, 1) := by decide +kernel
theorem d_m6_55 : decode method_6_code 55 = .ok (.dup, 1) := by decide +kernel
theorem d_m6_56 : decode method_6_code 56 = .ok (.iconst 1, 1) := by decide +kernel
theorem d_m6_57 : decode method_6_code 57 = .ok (.aload_n 0, 1) := by decide +kernel
theorem d_m6_58 : decode method_6_code 58 = .ok (.iconst 1, 1) := by decide +kernel
theorem d_m6_59 : decode method_6_code 59 = .ok (.caload, 1) := by decide +kernel
theorem d_m6_60 : decode method_6_code 60 = .ok (.castore, 1) := by decide +kernel
theorem d_m6_61 : decode method_6_code 61 = .ok (.invokespecial 74, 3) := by decide +kernel
theorem d_m6_64 : decode method_6_code 64 = .ok (.areturn, 1) := by decide +kernel
theorem d_m6_65 : decode method_6_code 65 = .ok (.iload_n 1, 1) := by decide +kernel
theorem d_m6_66 : decode method_6_code 66 = .ok (.iconst 3, 1) := by decide +kernel
theorem d_m6_67 : decode method_6_code 67 = .ok (.if_icmp .ne 32, 3) := by decide +kernel
theorem d_m6_70 : decode method_6_code 70 = .ok (.new 14, 3) := by decide +kernel
theorem d_m6_73 : decode method_6_code 73 = .ok (.dup, 1) := by decide +kernel
theorem d_m6_74 : decode method_6_code 74 = .ok (.iconst 3, 1) := by decide +kernel
theorem d_m6_75 : decode method_6_code 75 = .ok (.newarray .char, 2) := by decide +kernel
theorem d_m6_77 : decode method_6_code 77 = .ok (.dup, 1) := by decide +kernel
theorem d_m6_78 : decode method_6_code 78 = .ok (.iconst 0, 1) := by decide +kernel
theorem d_m6_79 : decode method_6_code 79 = .ok (.aload_n 0, 1) := by decide +kernel
theorem d_m6_80 : decode method_6_code 80 = .ok (.iconst 0, 1) := by decide +kernel
theorem d_m6_81 : decode method_6_code 81 = .ok (.caload, 1) := by decide +kernel
theorem d_m6_82 : decode method_6_code 82 = .ok (.castore, 1) := by decide +kernel
theorem d_m6_83 : decode method_6_code 83 = .ok (.dup, 1) := by decide +kernel
theorem d_m6_84 : decode method_6_code 84 = .ok (.iconst 1, 1) := by decide +kernel
theorem d_m6_85 : decode method_6_code 85 = .ok (.aload_n 0, 1) := by decide +kernel
theorem d_m6_86 : decode method_6_code 86 = .ok (.iconst 1, 1) := by decide +kernel
theorem d_m6_87 : decode method_6_code 87 = .ok (.caload, 1) := by decide +kernel
theorem d_m6_88 : decode method_6_code 88 = .ok (.castore, 1) := by decide +kernel
theorem d_m6_89 : decode method_6_code 89 = .ok (.dup, 1) := by decide +kernel
theorem d_m6_90 : decode method_6_code 90 = .ok (.iconst 2, 1) := by decide +kernel
theorem d_m6_91 : decode method_6_code 91 = .ok (.aload_n 0, 1) := by decide +kernel
theorem d_m6_92 : decode method_6_code 92 = .ok (.iconst 2, 1) := by decide +kernel
theorem d_m6_93 : decode method_6_code 93 = .ok (.caload, 1) := by decide +kernel
theorem d_m6_94 : decode method_6_code 94 = .ok (.castore, 1) := by decide +kernel
theorem d_m6_95 : decode method_6_code 95 = .ok (.invokespecial 74, 3) := by decide +kernel
theorem d_m6_98 : decode method_6_code 98 = .ok (.areturn, 1) := by decide +kernel
theorem d_m6_99 : decode method_6_code 99 = .ok (.iload_n 1, 1) := by decide +kernel
theorem d_m6_100 : decode method_6_code 100 = .ok (.iconst 4, 1) := by decide +kernel
theorem d_m6_101 : decode method_6_code 101 = .ok (.if_icmp .ne 38, 3) := by decide +kernel
theorem d_m6_104 : decode method_6_code 104 = .ok (.new 14, 3) := by decide +kernel
theorem d_m6_107 : decode method_6_code 107 = .ok (.dup, 1) := by decide +kernel
theorem d_m6_108 : decode method_6_code 108 = .ok (.iconst 4, 1) := by decide +kernel
theorem d_m6_109 : decode method_6_code 109 = .ok (.newarray .char, 2) := by decide +kernel
theorem d_m6_111 : decode method_6_code 111 = .ok (.dup, 1) := by decide +kernel
theorem d_m6_112 : decode method_6_code 112 = .ok (.iconst 0, 1) := by decide +kernel
theorem d_m6_113 : decode method_6_code 113 = .ok (.aload_n 0, 1) := by decide +kernel
theorem d_m6_114 : decode method_6_code 114 = .ok (.iconst 0, 1) := by decide +kernel
theorem d_m6_115 : decode method_6_code 115 = .ok (.caload, 1) := by decide +kernel
theorem d_m6_116 : decode method_6_code 116 = .ok (.castore, 1) := by decide +kernel
theorem d_m6_117 : decode method_6_code 117 = .ok (.dup, 1) := by decide +kernel
theorem d_m6_118 : decode method_6_code 118 = .ok (.iconst 1, 1) := by decide +kernel
theorem d_m6_119 : decode method_6_code 119 = .ok (.aload_n 0, 1) := by decide +kernel
theorem d_m6_120 : decode method_6_code 120 = .ok (.iconst 1, 1) := by decide +kernel
theorem d_m6_121 : decode method_6_code 121 = .ok (.caload, 1) := by decide +kernel
theorem d_m6_122 : decode method_6_code 122 = .ok (.castore, 1) := by decide +kernel
theorem d_m6_123 : decode method_6_code 123 = .ok (.dup, 1) := by decide +kernel
theorem d_m6_124 : decode method_6_code 124 = .ok (.iconst 2, 1) := by decide +kernel
theorem d_m6_125 : decode method_6_code 125 = .ok (.aload_n 0, 1) := by decide +kernel
theorem d_m6_126 : decode method_6_code 126 = .ok (.iconst 2, 1) := by decide +kernel
theorem d_m6_127 : decode method_6_code 127 = .ok (.caload, 1) := by decide +kernel
theorem d_m6_128 : decode method_6_code 128 = .ok (.castore, 1) := by decide +kernel
theorem d_m6_129 : decode method_6_code 129 = .ok (.dup, 1) := by decide +kernel
theorem d_m6_130 : decode method_6_code 130 = .ok (.iconst 3, 1) := by decide +kernel
theorem d_m6_131 : decode method_6_code 131 = .ok (.aload_n 0, 1) := by decide +kernel
theorem d_m6_132 : decode method_6_code 132 = .ok (.iconst 3, 1) := by decide +kernel
theorem d_m6_133 : decode method_6_code 133 = .ok (.caload, 1) := by decide +kernel
theorem d_m6_134 : decode method_6_code 134 = .ok (.castore, 1) := by decide +kernel
theorem d_m6_135 : decode method_6_code 135 = .ok (.invokespecial 74, 3) := by decide +kernel
theorem d_m6_138 : decode method_6_code 138 = .ok (.areturn, 1) := by decide +kernel
theorem d_m6_139 : decode method_6_code 139 = .ok (.iload_n 1, 1) := by decide +kernel
theorem d_m6_140 : decode method_6_code 140 = .ok (.iconst 5, 1) := by decide +kernel
theorem d_m6_141 : decode method_6_code 141 = .ok (.if_icmp .ne 44, 3) := by decide +kernel
theorem d_m6_144 : decode method_6_code 144 = .ok (.new 14, 3) := by decide +kernel
theorem d_m6_147 : decode method_6_code 147 = .ok (.dup, 1) := by decide +kernel
theorem d_m6_148 : decode method_6_code 148 = .ok (.iconst 5, 1) := by decide +kernel
theorem d_m6_149 : decode method_6_code 149 = .ok (.newarray .char, 2) := by decide +kernel
theorem d_m6_151 : decode method_6_code 151 = .ok (.dup, 1) := by decide +kernel
theorem d_m6_152 : decode method_6_code 152 = .ok (.iconst 0, 1) := by decide +kernel
theorem d_m6_153 : decode method_6_code 153 = .ok (.aload_n 0, 1) := by decide +kernel
theorem d_m6_154 : decode method_6_code 154 = .ok (.iconst 0, 1) := by decide +kernel
theorem d_m6_155 : decode method_6_code 155 = .ok (.caload, 1) := by decide +kernel
theorem d_m6_156 : decode method_6_code 156 = .ok (.castore, 1) := by decide +kernel
theorem d_m6_157 : decode method_6_code 157 = .ok (.dup, 1) := by decide +kernel
theorem d_m6_158 : decode method_6_code 158 = .ok (.iconst 1, 1) := by decide +kernel
theorem d_m6_159 : decode method_6_code 159 = .ok (.aload_n 0, 1) := by decide +kernel
theorem d_m6_160 : decode method_6_code 160 = .ok (.iconst 1, 1) := by decide +kernel
theorem d_m6_161 : decode method_6_code 161 = .ok (.caload, 1) := by decide +kernel
theorem d_m6_162 : decode method_6_code 162 = .ok (.castore, 1) := by decide +kernel
theorem d_m6_163 : decode method_6_code 163 = .ok (.dup, 1) := by decide +kernel
theorem d_m6_164 : decode method_6_code 164 = .ok (.iconst 2, 1) := by decide +kernel
theorem d_m6_165 : decode method_6_code 165 = .ok (.aload_n 0, 1) := by decide +kernel
theorem d_m6_166 : decode method_6_code 166 = .ok (.iconst 2, 1) := by decide +kernel
theorem d_m6_167 : decode method_6_code 167 = .ok (.caload, 1) := by decide +kernel
theorem d_m6_168 : decode method_6_code 168 = .ok (.castore, 1) := by decide +kernel
theorem d_m6_169 : decode method_6_code 169 = .ok (.dup, 1) := by decide +kernel
theorem d_m6_170 : decode method_6_code 170 = .ok (.iconst 3, 1) := by decide +kernel
theorem d_m6_171 : decode method_6_code 171 = .ok (.aload_n 0, 1) := by decide +kernel
theorem d_m6_172 : decode method_6_code 172 = .ok (.iconst 3, 1) := by decide +kernel
theorem d_m6_173 : decode method_6_code 173 = .ok (.caload, 1) := by decide +kernel
theorem d_m6_174 : decode method_6_code 174 = .ok (.castore, 1) := by decide +kernel
theorem d_m6_175 : decode method_6_code 175 = .ok (.dup, 1) := by decide +kernel
theorem d_m6_176 : decode method_6_code 176 = .ok (.iconst 4, 1) := by decide +kernel
theorem d_m6_177 : decode method_6_code 177 = .ok (.aload_n 0, 1) := by decide +kernel
theorem d_m6_178 : decode method_6_code 178 = .ok (.iconst 4, 1) := by decide +kernel
theorem d_m6_179 : decode method_6_code 179 = .ok (.caload, 1) := by decide +kernel
theorem d_m6_180 : decode method_6_code 180 = .ok (.castore, 1) := by decide +kernel
theorem d_m6_181 : decode method_6_code 181 = .ok (.invokespecial 74, 3) := by decide +kernel
theorem d_m6_184 : decode method_6_code 184 = .ok (.areturn, 1) := by decide +kernel
theorem d_m6_185 : decode method_6_code 185 = .ok (.iload_n 1, 1) := by decide +kernel
theorem d_m6_186 : decode method_6_code 186 = .ok (.bipush 6, 2) := by decide +kernel
theorem d_m6_188 : decode method_6_code 188 = .ok (.if_icmp .ne 51, 3) := by decide +kernel
theorem d_m6_191 : decode method_6_code 191 = .ok (.new 14, 3) := by decide +kernel
theorem d_m6_194 : decode method_6_code 194 = .ok (.dup, 1) := by decide +kernel
theorem d_m6_195 : decode method_6_code 195 = .ok (.bipush 6, 2) := by decide +kernel
theorem d_m6_197 : decode method_6_code 197 = .ok (.newarray .char, 2) := by decide +kernel
theorem d_m6_199 : decode method_6_code 199 = .ok (.dup, 1) := by decide +kernel
theorem d_m6_200 : decode method_6_code 200 = .ok (.iconst 0, 1) := by decide +kernel
theorem d_m6_201 : decode method_6_code 201 = .ok (.aload_n 0, 1) := by decide +kernel
theorem d_m6_202 : decode method_6_code 202 = .ok (.iconst 0, 1) := by decide +kernel
theorem d_m6_203 : decode method_6_code 203 = .ok (.caload, 1) := by decide +kernel
theorem d_m6_204 : decode method_6_code 204 = .ok (.castore, 1) := by decide +kernel
theorem d_m6_205 : decode method_6_code 205 = .ok (.dup, 1) := by decide +kernel
theorem d_m6_206 : decode method_6_code 206 = .ok (.iconst 1, 1) := by decide +kernel
theorem d_m6_207 : decode method_6_code 207 = .ok (.aload_n 0, 1) := by decide +kernel
theorem d_m6_208 : decode method_6_code 208 = .ok (.iconst 1, 1) := by decide +kernel
theorem d_m6_209 : decode method_6_code 209 = .ok (.caload, 1) := by decide +kernel
theorem d_m6_210 : decode method_6_code 210 = .ok (.castore, 1) := by decide +kernel
theorem d_m6_211 : decode method_6_code 211 = .ok (.dup, 1) := by decide +kernel
theorem d_m6_212 : decode method_6_code 212 = .ok (.iconst 2, 1) := by decide +kernel
theorem d_m6_213 : decode method_6_code 213 = .ok (.aload_n 0, 1) := by decide +kernel
theorem d_m6_214 : decode method_6_code 214 = .ok (.iconst 2, 1) := by decide +kernel
theorem d_m6_215 : decode method_6_code 215 = .ok (.caload, 1) := by decide +kernel
theorem d_m6_216 : decode method_6_code 216 = .ok (.castore, 1) := by decide +kernel
theorem d_m6_217 : decode method_6_code 217 = .ok (.dup, 1) := by decide +kernel
theorem d_m6_218 : decode method_6_code 218 = .ok (.iconst 3, 1) := by decide +kernel
theorem d_m6_219 : decode method_6_code 219 = .ok (.aload_n 0, 1) := by decide +kernel
theorem d_m6_220 : decode method_6_code 220 = .ok (.iconst 3, 1) := by decide +kernel
theorem d_m6_221 : decode method_6_code 221 = .ok (.caload, 1) := by decide +kernel
theorem d_m6_222 : decode method_6_code 222 = .ok (.castore, 1) := by decide +kernel
theorem d_m6_223 : decode method_6_code 223 = .ok (.dup, 1) := by decide +kernel
theorem d_m6_224 : decode method_6_code 224 = .ok (.iconst 4, 1) := by decide +kernel
theorem d_m6_225 : decode method_6_code 225 = .ok (.aload_n 0, 1) := by decide +kernel
theorem d_m6_226 : decode method_6_code 226 = .ok (.iconst 4, 1) := by decide +kernel
theorem d_m6_227 : decode method_6_code 227 = .ok (.caload, 1) := by decide +kernel
theorem d_m6_228 : decode method_6_code 228 = .ok (.castore, 1) := by decide +kernel
theorem d_m6_229 : decode method_6_code 229 = .ok (.dup, 1) := by decide +kernel
theorem d_m6_230 : decode method_6_code 230 = .ok (.iconst 5, 1) := by decide +kernel
theorem d_m6_231 : decode method_6_code 231 = .ok (.aload_n 0, 1) := by decide +kernel
theorem d_m6_232 : decode method_6_code 232 = .ok (.iconst 5, 1) := by decide +kernel
theorem d_m6_233 : decode method_6_code 233 = .ok (.caload, 1) := by decide +kernel
theorem d_m6_234 : decode method_6_code 234 = .ok (.castore, 1) := by decide +kernel
theorem d_m6_235 : decode method_6_code 235 = .ok (.invokespecial 74, 3) := by decide +kernel
theorem d_m6_238 : decode method_6_code 238 = .ok (.areturn, 1) := by decide +kernel
theorem d_m6_239 : decode method_6_code 239 = .ok (.iload_n 1, 1) := by decide +kernel
theorem d_m6_240 : decode method_6_code 240 = .ok (.bipush 7, 2) := by decide +kernel
theorem d_m6_242 : decode method_6_code 242 = .ok (.if_icmp .ne 59, 3) := by decide +kernel
theorem d_m6_245 : decode method_6_code 245 = .ok (.new 14, 3) := by decide +kernel
theorem d_m6_248 : decode method_6_code 248 = .ok (.dup, 1) := by decide +kernel
theorem d_m6_249 : decode method_6_code 249 = .ok (.bipush 7, 2) := by decide +kernel
theorem d_m6_251 : decode method_6_code 251 = .ok (.newarray .char, 2) := by decide +kernel
theorem d_m6_253 : decode method_6_code 253 = .ok (.dup, 1) := by decide +kernel
theorem d_m6_254 : decode method_6_code 254 = .ok (.iconst 0, 1) := by decide +kernel
theorem d_m6_255 : decode method_6_code 255 = .ok (.aload_n 0, 1) := by decide +kernel
theorem d_m6_256 : decode method_6_code 256 = .ok (.iconst 0, 1) := by decide +kernel
theorem d_m6_257 : decode method_6_code 257 = .ok (.caload, 1) := by decide +kernel
theorem d_m6_258 : decode method_6_code 258 = .ok (.castore, 1) := by decide +kernel
theorem d_m6_259 : decode method_6_code 259 = .ok (.dup, 1) := by decide +kernel
theorem d_m6_260 : decode method_6_code 260 = .ok (.iconst 1, 1) := by decide +kernel
theorem d_m6_261 : decode method_6_code 261 = .ok (.aload_n 0, 1) := by decide +kernel
theorem d_m6_262 : decode method_6_code 262 = .ok (.iconst 1, 1) := by decide +kernel
theorem d_m6_263 : decode method_6_code 263 = .ok (.caload, 1) := by decide +kernel
theorem d_m6_264 : decode method_6_code 264 = .ok (.castore, 1) := by decide +kernel
theorem d_m6_265 : decode method_6_code 265 = .ok (.dup, 1) := by decide +kernel
theorem d_m6_266 : decode method_6_code 266 = .ok (.iconst 2, 1) := by decide +kernel
theorem d_m6_267 : decode method_6_code 267 = .ok (.aload_n 0, 1) := by decide +kernel
theorem d_m6_268 : decode method_6_code 268 = .ok (.iconst 2, 1) := by decide +kernel
theorem d_m6_269 : decode method_6_code 269 = .ok (.caload, 1) := by decide +kernel
theorem d_m6_270 : decode method_6_code 270 = .ok (.castore, 1) := by decide +kernel
theorem d_m6_271 : decode method_6_code 271 = .ok (.dup, 1) := by decide +kernel
theorem d_m6_272 : decode method_6_code 272 = .ok (.iconst 3, 1) := by decide +kernel
theorem d_m6_273 : decode method_6_code 273 = .ok (.aload_n 0, 1) := by decide +kernel
theorem d_m6_274 : decode method_6_code 274 = .ok (.iconst 3, 1) := by decide +kernel
theorem d_m6_275 : decode method_6_code 275 = .ok (.caload, 1) := by decide +kernel
theorem d_m6_276 : decode method_6_code 276 = .ok (.castore, 1) := by decide +kernel
theorem d_m6_277 : decode method_6_code 277 = .ok (.dup, 1) := by decide +kernel
theorem d_m6_278 : decode method_6_code 278 = .ok (.iconst 4, 1) := by decide +kernel
theorem d_m6_279 : decode method_6_code 279 = .ok (.aload_n 0, 1) := by decide +kernel
theorem d_m6_280 : decode method_6_code 280 = .ok (.iconst 4, 1) := by decide +kernel
theorem d_m6_281 : decode method_6_code 281 = .ok (.caload, 1) := by decide +kernel
theorem d_m6_282 : decode method_6_code 282 = .ok (.castore, 1) := by decide +kernel
theorem d_m6_283 : decode method_6_code 283 = .ok (.dup, 1) := by decide +kernel
theorem d_m6_284 : decode method_6_code 284 = .ok (.iconst 5, 1) := by decide +kernel
theorem d_m6_285 : decode method_6_code 285 = .ok (.aload_n 0, 1) := by decide +kernel
theorem d_m6_286 : decode method_6_code 286 = .ok (.iconst 5, 1) := by decide +kernel
theorem d_m6_287 : decode method_6_code 287 = .ok (.caload, 1) := by decide +kernel
theorem d_m6_288 : decode method_6_code 288 = .ok (.castore, 1) := by decide +kernel
theorem d_m6_289 : decode method_6_code 289 = .ok (.dup, 1) := by decide +kernel
theorem d_m6_290 : decode method_6_code 290 = .ok (.bipush 6, 2) := by decide +kernel
theorem d_m6_292 : decode method_6_code 292 = .ok (.aload_n 0, 1) := by decide +kernel
theorem d_m6_293 : decode method_6_code 293 = .ok (.bipush 6, 2) := by decide +kernel
theorem d_m6_295 : decode method_6_code 295 = .ok (.caload, 1) := by decide +kernel
theorem d_m6_296 : decode method_6_code 296 = .ok (.castore, 1) := by decide +kernel
theorem d_m6_297 : decode method_6_code 297 = .ok (.invokespecial 74, 3) := by decide +kernel
theorem d_m6_300 : decode method_6_code 300 = .ok (.areturn, 1) := by decide +kernel
theorem d_m6_301 : decode method_6_code 301 = .ok (.iload_n 1, 1) := by decide +kernel
theorem d_m6_302 : decode method_6_code 302 = .ok (.bipush 8, 2) := by decide +kernel
theorem d_m6_304 : decode method_6_code 304 = .ok (.if_icmp .ne 67, 3) := by decide +kernel
theorem d_m6_307 : decode method_6_code 307 = .ok (.new 14, 3) := by decide +kernel
theorem d_m6_310 : decode method_6_code 310 = .ok (.dup, 1) := by decide +kernel
theorem d_m6_311 : decode method_6_code 311 = .ok (.bipush 8, 2) := by decide +kernel
theorem d_m6_313 : decode method_6_code 313 = .ok (.newarray .char, 2) := by decide +kernel
theorem d_m6_315 : decode method_6_code 315 = .ok (.dup, 1) := by decide +kernel
theorem d_m6_316 : decode method_6_code 316 = .ok (.iconst 0, 1) := by decide +kernel
theorem d_m6_317 : decode method_6_code 317 = .ok (.aload_n 0, 1) := by decide +kernel
theorem d_m6_318 : decode method_6_code 318 = .ok (.iconst 0, 1) := by decide +kernel
theorem d_m6_319 : decode method_6_code 319 = .ok (.caload, 1) := by decide +kernel
theorem d_m6_320 : decode method_6_code 320 = .ok (.castore, 1) := by decide +kernel
theorem d_m6_321 : decode method_6_code 321 = .ok (.dup, 1) := by decide +kernel
theorem d_m6_322 : decode method_6_code 322 = .ok (.iconst 1, 1) := by decide +kernel
theorem d_m6_323 : decode method_6_code 323 = .ok (.aload_n 0, 1) := by decide +kernel
theorem d_m6_324 : decode method_6_code 324 = .ok (.iconst 1, 1) := by decide +kernel
theorem d_m6_325 : decode method_6_code 325 = .ok (.caload, 1) := by decide +kernel
theorem d_m6_326 : decode method_6_code 326 = .ok (.castore, 1) := by decide +kernel
theorem d_m6_327 : decode method_6_code 327 = .ok (.dup, 1) := by decide +kernel
theorem d_m6_328 : decode method_6_code 328 = .ok (.iconst 2, 1) := by decide +kernel
theorem d_m6_329 : decode method_6_code 329 = .ok (.aload_n 0, 1) := by decide +kernel
theorem d_m6_330 : decode method_6_code 330 = .ok (.iconst 2, 1) := by decide +kernel
theorem d_m6_331 : decode method_6_code 331 = .ok (.caload, 1) := by decide +kernel
theorem d_m6_332 : decode method_6_code 332 = .ok (.castore, 1) := by decide +kernel
theorem d_m6_333 : decode method_6_code 333 = .ok (.dup, 1) := by decide +kernel
theorem d_m6_334 : decode method_6_code 334 = .ok (.iconst 3, 1) := by decide +kernel
theorem d_m6_335 : decode method_6_code 335 = .ok (.aload_n 0, 1) := by decide +kernel
theorem d_m6_336 : decode method_6_code 336 = .ok (.iconst 3, 1) := by decide +kernel
theorem d_m6_337 : decode method_6_code 337 = .ok (.caload, 1) := by decide +kernel
theorem d_m6_338 : decode method_6_code 338 = .ok (.castore, 1) := by decide +kernel
theorem d_m6_339 : decode method_6_code 339 = .ok (.dup, 1) := by decide +kernel
theorem d_m6_340 : decode method_6_code 340 = .ok (.iconst 4, 1) := by decide +kernel
theorem d_m6_341 : decode method_6_code 341 = .ok (.aload_n 0, 1) := by decide +kernel
theorem d_m6_342 : decode method_6_code 342 = .ok (.iconst 4, 1) := by decide +kernel
theorem d_m6_343 : decode method_6_code 343 = .ok (.caload, 1) := by decide +kernel
theorem d_m6_344 : decode method_6_code 344 = .ok (.castore, 1) := by decide +kernel
theorem d_m6_345 : decode method_6_code 345 = .ok (.dup, 1) := by decide +kernel
theorem d_m6_346 : decode method_6_code 346 = .ok (.iconst 5, 1) := by decide +kernel
theorem d_m6_347 : decode method_6_code 347 = .ok (.aload_n 0, 1) := by decide +kernel
theorem d_m6_348 : decode method_6_code 348 = .ok (.iconst 5, 1) := by decide +kernel
theorem d_m6_349 : decode method_6_code 349 = .ok (.caload, 1) := by decide +kernel
theorem d_m6_350 : decode method_6_code 350 = .ok (.castore, 1) := by decide +kernel
theorem d_m6_351 : decode method_6_code 351 = .ok (.dup, 1) := by decide +kernel
theorem d_m6_352 : decode method_6_code 352 = .ok (.bipush 6, 2) := by decide +kernel
theorem d_m6_354 : decode method_6_code 354 = .ok (.aload_n 0, 1) := by decide +kernel
theorem d_m6_355 : decode method_6_code 355 = .ok (.bipush 6, 2) := by decide +kernel
theorem d_m6_357 : decode method_6_code 357 = .ok (.caload, 1) := by decide +kernel
theorem d_m6_358 : decode method_6_code 358 = .ok (.castore, 1) := by decide +kernel
theorem d_m6_359 : decode method_6_code 359 = .ok (.dup, 1) := by decide +kernel
theorem d_m6_360 : decode method_6_code 360 = .ok (.bipush 7, 2) := by decide +kernel
theorem d_m6_362 : decode method_6_code 362 = .ok (.aload_n 0, 1) := by decide +kernel
theorem d_m6_363 : decode method_6_code 363 = .ok (.bipush 7, 2) := by decide +kernel
theorem d_m6_365 : decode method_6_code 365 = .ok (.caload, 1) := by decide +kernel
theorem d_m6_366 : decode method_6_code 366 = .ok (.castore, 1) := by decide +kernel
theorem d_m6_367 : decode method_6_code 367 = .ok (.invokespecial 74, 3) := by decide +kernel
theorem d_m6_370 : decode method_6_code 370 = .ok (.areturn, 1) := by decide +kernel
theorem d_m6_371 : decode method_6_code 371 = .ok (.new 14, 3) := by decide +kernel
theorem d_m6_374 : decode method_6_code 374 = .ok (.dup, 1) := by decide +kernel
theorem d_m6_375 : decode method_6_code 375 = .ok (.bipush 9, 2) := by decide +kernel
theorem d_m6_377 : decode method_6_code 377 = .ok (.newarray .char, 2) := by decide +kernel
theorem d_m6_379 : decode method_6_code 379 = .ok (.dup, 1) := by decide +kernel
theorem d_m6_380 : decode method_6_code 380 = .ok (.iconst 0, 1) := by decide +kernel
theorem d_m6_381 : decode method_6_code 381 = .ok (.aload_n 0, 1) := by decide +kernel
theorem d_m6_382 : decode method_6_code 382 = .ok (.iconst 0, 1) := by decide +kernel
theorem d_m6_383 : decode method_6_code 383 = .ok (.caload, 1) := by decide +kernel
theorem d_m6_384 : decode method_6_code 384 = .ok (.castore, 1) := by decide +kernel
theorem d_m6_385 : decode method_6_code 385 = .ok (.dup, 1) := by decide +kernel
theorem d_m6_386 : decode method_6_code 386 = .ok (.iconst 1, 1) := by decide +kernel
theorem d_m6_387 : decode method_6_code 387 = .ok (.aload_n 0, 1) := by decide +kernel
theorem d_m6_388 : decode method_6_code 388 = .ok (.iconst 1, 1) := by decide +kernel
theorem d_m6_389 : decode method_6_code 389 = .ok (.caload, 1) := by decide +kernel
theorem d_m6_390 : decode method_6_code 390 = .ok (.castore, 1) := by decide +kernel
theorem d_m6_391 : decode method_6_code 391 = .ok (.dup, 1) := by decide +kernel
theorem d_m6_392 : decode method_6_code 392 = .ok (.iconst 2, 1) := by decide +kernel
theorem d_m6_393 : decode method_6_code 393 = .ok (.aload_n 0, 1) := by decide +kernel
theorem d_m6_394 : decode method_6_code 394 = .ok (.iconst 2, 1) := by decide +kernel
theorem d_m6_395 : decode method_6_code 395 = .ok (.caload, 1) := by decide +kernel
theorem d_m6_396 : decode method_6_code 396 = .ok (.castore, 1) := by decide +kernel
theorem d_m6_397 : decode method_6_code 397 = .ok (.dup, 1) := by decide +kernel
theorem d_m6_398 : decode method_6_code 398 = .ok (.iconst 3, 1) := by decide +kernel
theorem d_m6_399 : decode method_6_code 399 = .ok (.aload_n 0, 1) := by decide +kernel
theorem d_m6_400 : decode method_6_code 400 = .ok (.iconst 3, 1) := by decide +kernel
theorem d_m6_401 : decode method_6_code 401 = .ok (.caload, 1) := by decide +kernel
theorem d_m6_402 : decode method_6_code 402 = .ok (.castore, 1) := by decide +kernel
theorem d_m6_403 : decode method_6_code 403 = .ok (.dup, 1) := by decide +kernel
theorem d_m6_404 : decode method_6_code 404 = .ok (.iconst 4, 1) := by decide +kernel
theorem d_m6_405 : decode method_6_code 405 = .ok (.aload_n 0, 1) := by decide +kernel
theorem d_m6_406 : decode method_6_code 406 = .ok (.iconst 4, 1) := by decide +kernel
theorem d_m6_407 : decode method_6_code 407 = .ok (.caload, 1) := by decide +kernel
theorem d_m6_408 : decode method_6_code 408 = .ok (.castore, 1) := by decide +kernel
theorem d_m6_409 : decode method_6_code 409 = .ok (.dup, 1) := by decide +kernel
theorem d_m6_410 : decode method_6_code 410 = .ok (.iconst 5, 1) := by decide +kernel
theorem d_m6_411 : decode method_6_code 411 = .ok (.aload_n 0, 1) := by decide +kernel
theorem d_m6_412 : decode method_6_code 412 = .ok (.iconst 5, 1) := by decide +kernel
theorem d_m6_413 : decode method_6_code 413 = .ok (.caload, 1) := by decide +kernel
theorem d_m6_414 : decode method_6_code 414 = .ok (.castore, 1) := by decide +kernel
theorem d_m6_415 : decode method_6_code 415 = .ok (.dup, 1) := by decide +kernel
theorem d_m6_416 : decode method_6_code 416 = .ok (.bipush 6, 2) := by decide +kernel
theorem d_m6_418 : decode method_6_code 418 = .ok (.aload_n 0, 1) := by decide +kernel
theorem d_m6_419 : decode method_6_code 419 = .ok (.bipush 6, 2) := by decide +kernel
theorem d_m6_421 : decode method_6_code 421 = .ok (.caload, 1) := by decide +kernel
theorem d_m6_422 : decode method_6_code 422 = .ok (.castore, 1) := by decide +kernel
theorem d_m6_423 : decode method_6_code 423 = .ok (.dup, 1) := by decide +kernel
theorem d_m6_424 : decode method_6_code 424 = .ok (.bipush 7, 2) := by decide +kernel
theorem d_m6_426 : decode method_6_code 426 = .ok (.aload_n 0, 1) := by decide +kernel
theorem d_m6_427 : decode method_6_code 427 = .ok (.bipush 7, 2) := by decide +kernel
theorem d_m6_429 : decode method_6_code 429 = .ok (.caload, 1) := by decide +kernel
theorem d_m6_430 : decode method_6_code 430 = .ok (.castore, 1) := by decide +kernel
theorem d_m6_431 : decode method_6_code 431 = .ok (.dup, 1) := by decide +kernel
theorem d_m6_432 : decode method_6_code 432 = .ok (.bipush 8, 2) := by decide +kernel
theorem d_m6_434 : decode method_6_code 434 = .ok (.aload_n 0, 1) := by decide +kernel
theorem d_m6_435 : decode method_6_code 435 = .ok (.bipush 8, 2) := by decide +kernel
theorem d_m6_437 : decode method_6_code 437 = .ok (.caload, 1) := by decide +kernel
theorem d_m6_438 : decode method_6_code 438 = .ok (.castore, 1) := by decide +kernel
theorem d_m6_439 : decode method_6_code 439 = .ok (.invokespecial 74, 3) := by decide +kernel
theorem d_m6_442 : decode method_6_code 442 = .ok (.areturn, 1) := by decide +kernel
theorem pd20 : parseMethodDescriptor "([CI)Ljava/lang/String;" = some ⟨[(.array .char), .int], some (.object "java/lang/String")⟩ := by decide +kernel
theorem pd21 : parseMethodDescriptor "(Ljava/lang/String;)I" = some ⟨[(.object "java/lang/String")], some .int⟩ := by decide +kernel
theorem pd22 : parseMethodDescriptor "(Ljava/lang/String;)Ljava/util/Optional;" = some ⟨[(.object "java/lang/String")], some (.object "java/util/Optional")⟩ := by decide +kernel
theorem pd23 : parseMethodDescriptor "()Ljava/lang/Object;" = some ⟨[], some (.object "java/lang/Object")⟩ := by decide +kernel
theorem pd24 : parseMethodDescriptor "(Ljava/lang/String;IZJI)C" = some ⟨[(.object "java/lang/String"), .int, .boolean, .long, .int], some .char⟩ := by decide +kernel
def EL : List (String × Nat) := [("com/example/sundew/sundew/KindOfVariablePinLaw", 7), ("com/example/sundew/sundew/KindOfVariablePinLaw", 9), ("com/example/sundew/sundew/KindOfVariablePinLaw", 11), ("java/lang/String", 7)]
theorem eW {Z : State} {a0 : Array Value} (hw : ∀ d ∈ tables_1, d.before a0 Z = true) : EW Z a0 EL := (EW.cons (w0 hw) (by decide) (EW.cons (w146 hw) (by decide) (EW.cons (w147 hw) (by decide) (EW.cons (w149 hw) (by decide) EW.nil))))
theorem sA {Z : State} {a0 : Array Value} (hw : ∀ d ∈ tables_1, d.before a0 Z = true) : ∀ a ∈ Bundle.stringAtoms, a.before a0 Z = true := fun a ha => hw a ((by decide +kernel : ∀ a ∈ Bundle.stringAtoms, a ∈ tables_1) a ha)
set_option maxRecDepth 65536 in
set_option maxHeartbeats 40000000 in
theorem lp_compress {l : Launch} {Z : State} {a0 : Array Value} (hw : ∀ d ∈ tables_1, d.before a0 Z = true) {p : Program} {e : Env} {R : Room} {s : State} {m : MethodId} {args : Array Value} {below : List Frame} {meth : Method} {c : Code} (cs : List Int32) (hN : cs.length ≤ 4000) (a b : Addr) (k kb : ClassId) (hne : a ≠ b) (h0 : Heap) :
    ∀ (d j : Nat), j + d = cs.length → ∀ (hh : Heap) (vs : List Value) (s6 : Slot), One s6 → (∀ i, i < j → ¬ (255 : Int32) < cs.getD i 0) → vs.length = cs.length → (∀ i, i < j → vs.getD i (.int 0) = by8 (cs.getD i 0)) →
      Arv Z hh a k .char (Int32.ofNat cs.length) (cs.map Value.int) (.int 0) → Arv Z hh b kb .byte (Int32.ofNat cs.length) vs (.int 0) → Keep h0 hh [b] →
      Go p l e R s m args below meth c Z a0 EL "java/lang/StringUTF16" jdk_52_method_21_code 7 (some .int) "compress" [b] hh 0 0 3 #[.val (.ref a), .val (.int (Int32.ofNat j)), .val (.ref b), .val (.int (Int32.ofNat j)), .val (.int (Int32.ofNat cs.length)), .val (.int (Int32.ofNat j)), s6] [] (fun v h ws => ∃ (r : Nat) (vs : List Value), v = some (.int (Int32.ofNat r)) ∧ ws = [] ∧ r ≤ cs.length ∧ (r < cs.length → (255 : Int32) < cs.getD r 0) ∧ (∀ i, i < r → ¬ (255 : Int32) < cs.getD i 0) ∧ vs.length = cs.length ∧ (∀ i, i < r → vs.getD i (.int 0) = by8 (cs.getD i 0)) ∧ Keep h0 h [b] ∧ Arv Z h b kb .byte (Int32.ofNat cs.length) vs (.int 0)) := by
  intro d; induction d with
  | zero =>
    intro j hd hh vs s6 h6 hlo hvl hby Aa Ab K
    have hj31 : j < 2147483648 := by omega
    have hN31 : cs.length < 2147483648 := by omega
    refine g_iload d_jdk_52_m21_3 (pc' := 5) rfl rfl ?_
    refine g_iload d_jdk_52_m21_5 (pc' := 7) rfl rfl ?_
    refine g_icmpYes d_jdk_52_m21_7 (pc' := 44) (flt (fun q => by have := (o_lt hj31 hN31).mp q; omega)).2.1 (by decide) (by decide) ?_
    refine g_iload d_jdk_52_m21_44 (pc' := 46) rfl rfl ?_
    exact go_ireturn d_jdk_52_m21_46 rfl (Or.inl rfl) rfl (ws' := []) all0 ⟨cs.length, vs, rfl, rfl, Nat.le_refl _, fun q => absurd q (Nat.lt_irrefl _), fun i hi => hlo i (by omega), hvl, fun i hi => hby i (by omega), K, Ab⟩
  | succ d ih =>
    intro j hd hh vs s6 h6 hlo hvl hby Aa Ab K
    have hj31 : j < 2147483648 := by omega
    have hN31 : cs.length < 2147483648 := by omega
    refine g_iload d_jdk_52_m21_3 (pc' := 5) rfl rfl ?_
    refine g_iload d_jdk_52_m21_5 (pc' := 7) rfl rfl ?_
    refine g_icmpNo d_jdk_52_m21_7 (pc' := 10) rfl (tlt ((o_lt hj31 hN31).mpr (by omega))).2.1 ?_
    refine g_aloadN d_jdk_52_m21_10 (pc' := 11) rfl rfl rfl ?_
    refine g_iloadN d_jdk_52_m21_11 (pc' := 12) rfl rfl ?_
    refine go_caload d_jdk_52_m21_12 Aa (v := (.int (cs.getD j 0))) ⟨o_nn hj31, (o_lt hj31 hN31).mpr (by omega)⟩ (by rw [o_cl hj31]; exact map_getD cs j) (pc' := 13) rfl ?_
    refine g_istore d_jdk_52_m21_13 (pc' := 15) (Ls' := #[.val (.ref a), .val (.int (Int32.ofNat j)), .val (.ref b), .val (.int (Int32.ofNat j)), .val (.int (Int32.ofNat cs.length)), .val (.int (Int32.ofNat j)), .val (.int (cs.getD j 0))]) rfl (XS.store1 rfl h6 rfl) ?_
    refine g_iload d_jdk_52_m21_15 (pc' := 17) rfl rfl ?_
    refine g_sipush d_jdk_52_m21_17 (pc' := 20) rfl (z := 255) rfl ?_
    by_cases hc : (255 : Int32) < (cs.getD j 0)
    · -- hc holds
      refine g_icmpNo d_jdk_52_m21_20 (pc' := 23) rfl (tlt hc).2.2.2 ?_
      refine g_iload d_jdk_52_m21_23 (pc' := 25) rfl rfl ?_
      exact go_ireturn d_jdk_52_m21_25 rfl (Or.inl rfl) rfl (ws' := []) all0 ⟨j, vs, rfl, rfl, by omega, fun _ => hc, hlo, hvl, hby, K, Ab⟩
    · -- hc does not hold
      refine g_icmpYes d_jdk_52_m21_20 (pc' := 26) (flt hc).2.2.2 (by decide) (by decide) ?_
      refine g_aloadN d_jdk_52_m21_26 (pc' := 27) rfl rfl rfl ?_
      refine g_iloadN d_jdk_52_m21_27 (pc' := 28) rfl rfl ?_
      refine g_iload d_jdk_52_m21_28 (pc' := 30) rfl rfl ?_
      refine g_i2b d_jdk_52_m21_30 (pc' := 31) rfl ?_
      refine go_bastore j d_jdk_52_m21_31 Ab ⟨o_nn hj31, (o_lt hj31 hN31).mpr (by omega)⟩ (o_cl hj31) (by omega) (x' := (cs.getD j 0).toInt8.toInt32) (i2b2 _) (List.mem_of_getElem? (i := 0) rfl) (pc' := 32) rfl ?_
      intro h1 W2 A3
      refine g_iinc d_jdk_52_m21_32 (pc' := 35) (Ls' := #[.val (.ref a), .val (.int ((Int32.ofNat j) + (1 : Int32))), .val (.ref b), .val (.int (Int32.ofNat j)), .val (.int (Int32.ofNat cs.length)), .val (.int (Int32.ofNat j)), .val (.int (cs.getD j 0))]) rfl rfl rfl ?_
      refine g_iinc d_jdk_52_m21_35 (pc' := 38) (Ls' := #[.val (.ref a), .val (.int ((Int32.ofNat j) + (1 : Int32))), .val (.ref b), .val (.int ((Int32.ofNat j) + (1 : Int32))), .val (.int (Int32.ofNat cs.length)), .val (.int (Int32.ofNat j)), .val (.int (cs.getD j 0))]) rfl rfl rfl ?_
      refine g_iinc d_jdk_52_m21_38 (pc' := 41) (Ls' := #[.val (.ref a), .val (.int ((Int32.ofNat j) + (1 : Int32))), .val (.ref b), .val (.int ((Int32.ofNat j) + (1 : Int32))), .val (.int (Int32.ofNat cs.length)), .val (.int ((Int32.ofNat j) + (1 : Int32))), .val (.int (cs.getD j 0))]) rfl rfl rfl ?_
      refine g_goto d_jdk_52_m21_41 (pc' := 3) (by decide) (by decide) ?_
      rw [o_inc j]
      refine ih (j + 1) (by omega) _ _ _ (One.val rfl) (fun i hi => ?_) (by rw [List.length_set]; exact hvl) (fun i hi => ?_) (Aa.other W2 hne) A3 (K.wr W2 (Or.inl (List.mem_of_getElem? (i := 0) rfl)))
      · rcases Nat.lt_succ_iff_lt_or_eq.mp hi with q | q
        · exact hlo i q
        · rw [q]; exact hc
      · rcases Nat.lt_succ_iff_lt_or_eq.mp hi with q | q
        · rw [getD_set_ne (by omega)]; exact hby i q
        · rw [q, getD_set_eq (by omega)]; rfl
set_option maxRecDepth 65536 in
set_option maxHeartbeats 40000000 in
theorem rm_compressI {l : Launch} {Z : State} {a0 : Array Value} (hw : ∀ d ∈ tables_1, d.before a0 Z = true) (cs : List Int32) (a b : Addr) (k kb : ClassId) (vs : List Value) (h0 : Heap) (hN : cs.length ≤ 4000) (hne : a ≠ b) (hvl : vs.length = cs.length) (Aa : Arv Z h0 a k .char (Int32.ofNat cs.length) (cs.map Value.int) (.int 0)) (Ab : Arv Z h0 b kb .byte (Int32.ofNat cs.length) vs (.int 0)) :
    Con l Z EL ⟨"java/lang/StringUTF16", "compress", "([CI[BII)I"⟩ jdk_52_method_21_code 7 (some .int) [] { frames := 0, cells := 0, slots := 0, locals := 0 } #[(.ref a), (.int (0 : Int32)), (.ref b), (.int (0 : Int32)), (.int (Int32.ofNat cs.length))] h0 [b] (fun v h ws => ∃ (r : Nat) (vs : List Value), v = some (.int (Int32.ofNat r)) ∧ ws = [] ∧ r ≤ cs.length ∧ (r < cs.length → (255 : Int32) < cs.getD r 0) ∧ (∀ i, i < r → ¬ (255 : Int32) < cs.getD i 0) ∧ vs.length = cs.length ∧ (∀ i, i < r → vs.getD i (.int 0) = by8 (cs.getD i 0)) ∧ Keep h0 h [b] ∧ Arv Z h b kb .byte (Int32.ofNat cs.length) vs (.int 0)) := by
  refine con_of (a0 := a0) (Ls := #[.val (.ref a), .val (.int (0 : Int32)), .val (.ref b), .val (.int (0 : Int32)), .val (.int (Int32.ofNat cs.length)), .unset, .unset]) (plainFor_of_name pn0) (eW hw) (fun m => by first | (simp [entryFrame, mkF, argsToLocals, Value.category]; done) | rfl) ?_
  intro p e s m below meth c
  refine g_iconst d_jdk_52_m21_0 (pc' := 1) rfl (z := 0) rfl ?_
  refine g_istore d_jdk_52_m21_1 (pc' := 3) (Ls' := #[.val (.ref a), .val (.int (0 : Int32)), .val (.ref b), .val (.int (0 : Int32)), .val (.int (Int32.ofNat cs.length)), .val (.int (0 : Int32)), .unset]) rfl rfl ?_
  exact lp_compress hw cs hN a b k kb hne h0 cs.length 0 (by omega) h0 vs .unset One.u (fun i hi => absurd hi (Nat.not_lt_zero _)) hvl (fun i hi => absurd hi (Nat.not_lt_zero _)) Aa Ab (Keep.refl _ _)
set_option maxRecDepth 65536 in
set_option maxHeartbeats 40000000 in
theorem rm_compressLat {l : Launch} {Z : State} {a0 : Array Value} (hw : ∀ d ∈ tables_1, d.before a0 Z = true) (cs : List Int32) (a : Addr) (k : ClassId) (h0 : Heap) (hN : cs.length ≤ 16) (hlat : ∀ c ∈ cs, ¬ (255 : Int32) < c) (Aa : Arv Z h0 a k .char (Int32.ofNat cs.length) (cs.map Value.int) (.int 0)) :
    Con l Z EL ⟨"java/lang/StringUTF16", "compress", "([CII)[B"⟩ jdk_52_method_16_code 6 (some (.array .byte)) [] { frames := 1, cells := 1, slots := 16, locals := 18 } #[(.ref a), (.int (0 : Int32)), (.int (Int32.ofNat cs.length))] h0 [] (fun v h ws => ∃ b kb, v = some (.ref b) ∧ ws = [b] ∧ h0.size ≤ b ∧ Keep h0 h [] ∧ Arv Z h b kb .byte (Int32.ofNat cs.length) (cs.map by8) (.int 0)) := by
  refine con_of (a0 := a0) (Ls := #[.val (.ref a), .val (.int (0 : Int32)), .val (.int (Int32.ofNat cs.length)), .unset, .unset, .unset]) (plainFor_of_name pn0) (eW hw) (fun m => by first | (simp [entryFrame, mkF, argsToLocals, Value.category]; done) | rfl) ?_
  intro p e s m below meth c
  refine g_iloadN d_jdk_52_m16_0 (pc' := 1) rfl rfl ?_
  refine go_newarray d_jdk_52_m16_1 (w3 hw) (o_nn (by omega)) (cap := 16) (by rw [o_cl (by omega)]; exact hN) (by decide) (by decide) (by decide) (ad := "[B") rfl (pc' := 3) rfl ?_
  intro h4 a5 k6 g7 E8 A9 X10
  have A11 := Arv.pad A9 (pad_rep [] (.int 0) cs.length)
  refine g_astoreN d_jdk_52_m16_3 (pc' := 4) (Ls' := #[.val (.ref a), .val (.int (0 : Int32)), .val (.int (Int32.ofNat cs.length)), .val (.ref a5), .unset, .unset]) rfl rfl rfl ?_
  refine g_aloadN d_jdk_52_m16_4 (pc' := 5) rfl rfl rfl ?_
  refine g_iloadN d_jdk_52_m16_5 (pc' := 6) rfl rfl ?_
  refine g_aloadN d_jdk_52_m16_6 (pc' := 7) rfl rfl rfl ?_
  refine g_iconst d_jdk_52_m16_7 (pc' := 8) rfl (z := 0) rfl ?_
  refine g_iloadN d_jdk_52_m16_8 (pc' := 9) rfl rfl ?_
  have ne12 : a ≠ a5 := Nat.ne_of_lt (Nat.lt_of_lt_of_le Aa.lt (Nat.le_of_eq g7.symm))
  refine go_static d_jdk_52_m16_9 (rm_compressI hw cs a a5 k _ _ h4 (by omega) ne12 (by rw [List.length_append, List.length_replicate]; simp) (Aa.ext E8) A11) (fun _ q => q) (w70 hw) (w71 hw) (w68 hw) (w72 hw) (by decide) (argsL := [(.ref a), (.int (0 : Int32)), (.ref a5), (.int (0 : Int32)), (.int (Int32.ofNat cs.length))]) (rest := []) (lenOf pd0 rfl) rfl rfl rfl (W := 0) (Nat.le_of_ble_eq_true rfl) (by decide) (by decide) (by decide) (by decide) (pc' := 12) rfl ?_
  rintro _ h13 _ ⟨r, vs, rfl, rfl, hr, hr2, hr3, hvl, hby, K, Ab⟩ hsz
  have er : r = cs.length := by rcases Nat.lt_or_ge r cs.length with q | q; exact absurd (hr2 q) (getD_lat hlat r); omega
  subst er
  show Go _ _ _ _ _ _ _ _ _ _ _ _ _ _ _ _ _ _ _ _ _ _ _ _ [(.int (Int32.ofNat cs.length))] _
  refine g_istore d_jdk_52_m16_12 (pc' := 14) (Ls' := #[.val (.ref a), .val (.int (0 : Int32)), .val (.int (Int32.ofNat cs.length)), .val (.ref a5), .val (.int (Int32.ofNat cs.length)), .unset]) rfl rfl ?_
  refine g_iload d_jdk_52_m16_14 (pc' := 16) rfl rfl ?_
  refine g_iloadN d_jdk_52_m16_16 (pc' := 17) rfl rfl ?_
  refine g_icmpYes d_jdk_52_m16_17 (pc' := 57) (teq rfl).1 (by decide) (by decide) ?_
  refine g_aloadN d_jdk_52_m16_57 (pc' := 58) rfl rfl rfl ?_
  have K1 := (Keep_of_ext E8).trans K (allS (Or.inr (Nat.le_of_eq g7.symm)) all0)
  have A1 := Arv_congr (vs' := cs.map by8) Ab (fun i hi => by rw [map8_getD]; exact (hby i (by rw [o_cl (by omega)] at hi; exact hi)).symm)
  exact go_areturn d_jdk_52_m16_58 rfl rfl rfl (ws' := [a5]) (fun _ q => q) ⟨_, _, rfl, rfl, (Nat.le_of_eq g7.symm), K1, A1⟩
set_option maxRecDepth 65536 in
set_option maxHeartbeats 40000000 in
theorem rm_coderLat {l : Launch} {Z : State} {a0 : Array Value} (hw : ∀ d ∈ tables_1, d.before a0 Z = true) (b : Addr) (kb : ClassId) (z : Int32) (vs : List Value) (h0 : Heap) (Ab : Arv Z h0 b kb .byte z vs (.int 0)) :
    Con l Z EL ⟨"java/lang/StringUTF16", "coderFromArrayLen", "([BI)B"⟩ jdk_52_method_15_code 2 (some .byte) [] { frames := 0, cells := 0, slots := 0, locals := 0 } #[(.ref b), (.int z)] h0 [] (fun v h ws => v = some (.int 0) ∧ h0 = h ∧ ws = []) := by
  refine con_of (a0 := a0) (Ls := #[.val (.ref b), .val (.int z)]) (plainFor_of_name pn0) (eW hw) (fun m => by first | (simp [entryFrame, mkF, argsToLocals, Value.category]; done) | rfl) ?_
  intro p e s m below meth c
  refine g_iloadN d_jdk_52_m15_0 (pc' := 1) rfl rfl ?_
  refine g_aloadN d_jdk_52_m15_1 (pc' := 2) rfl rfl rfl ?_
  refine go_arraylength d_jdk_52_m15_2 Ab (pc' := 3) rfl ?_
  refine g_isub d_jdk_52_m15_3 (pc' := 4) rfl ?_
  refine g_bipush d_jdk_52_m15_4 (pc' := 6) rfl (z := 31) rfl ?_
  refine g_iushr d_jdk_52_m15_6 (pc' := 7) rfl ?_
  refine g_i2b d_jdk_52_m15_7 (pc' := 8) rfl ?_
  rw [show ((((((z - z)).toUInt32 >>> (((31 : Int32) &&& 31)).toUInt32).toInt32)).toInt8.toInt32) = (0 : Int32) from by rw [Int32.sub_self]; rfl]
  exact go_ireturn d_jdk_52_m15_8 rfl (Or.inr (Or.inr (Or.inl rfl))) rfl (ws' := []) (fun _ q => q) ⟨rfl, rfl, rfl⟩
set_option maxRecDepth 65536 in
set_option maxHeartbeats 40000000 in
theorem rm_initCV {l : Launch} {Z : State} {a0 : Array Value} (hw : ∀ d ∈ tables_1, d.before a0 Z = true) (cs : List Int32) (a ca : Addr) (k : ClassId) (o1 o2 : Value) (co : Int32) (W : List Addr) (h0 : Heap) (hN : cs.length ≤ 16) (hlat : ∀ c ∈ cs, ¬ (255 : Int32) < c) (E : Exa Z h0 a "java/lang/String") (Fv : Fld Z h0 a "java/lang/String" "value" "[B" o1) (Fc : Fld Z h0 a "java/lang/String" "coder" "B" o2) (Aa : Arv Z h0 ca k .char (Int32.ofNat cs.length) (cs.map Value.int) (.int 0)) (Sc : Sta Z Z.heap "java/lang/String" "COMPACT_STRINGS" "Z" (.int co)) (hco : ¬ co = 0) :
    Con l Z EL ⟨"java/lang/String", "<init>", "([CIILjava/lang/Void;)V"⟩ jdk_42_method_149_code 6 none [] { frames := 2, cells := 4, slots := 16, locals := 35 } #[(.ref a), (.ref ca), (.int (0 : Int32)), (.int (Int32.ofNat cs.length)), .null] h0 (a :: W) (fun v h ws => v = none ∧ ∃ b, ws = [] ∧ Keep h0 h [a] ∧ LatB Z h a b cs ∧ (∀ x ∈ a :: W, x ≠ b)) := by
  refine con_of (a0 := a0) (Ls := #[.val (.ref a), .val (.ref ca), .val (.int (0 : Int32)), .val (.int (Int32.ofNat cs.length)), .val .null, .unset]) (plainFor_of_name pn1) (eW hw) (fun m => by first | (simp [entryFrame, mkF, argsToLocals, Value.category]; done) | rfl) ?_
  intro p e s m below meth c
  refine go_safe (fun hsf => ?_)
  refine g_aloadN d_jdk_42_m149_0 (pc' := 1) rfl rfl rfl ?_
  refine go_init d_jdk_42_m149_1 (w63 hw) (w64 hw) (w65 hw) rfl (by decide) (W := 0) (Nat.le_of_ble_eq_true rfl) (by decide) (pc' := 4) rfl ?_
  refine g_iloadN d_jdk_42_m149_4 (pc' := 5) rfl rfl ?_
  by_cases h5 : (Int32.ofNat cs.length) = (0 : Int32)
  · -- h5 holds
    have hz0 : cs.length = 0 := (o_eq (by omega) (by omega)).mp (h5.trans (show (0 : Int32) = Int32.ofNat 0 from rfl))
    refine g_ifNo d_jdk_42_m149_5 (pc' := 8) rfl (teq h5).2 ?_
    refine g_aloadN d_jdk_42_m149_8 (pc' := 9) rfl rfl rfl ?_
    refine go_ldcR d_jdk_42_m149_9 (w149 hw) (sA hw) (vs := []) (z := 0) (by decide) ⟨by decide, by decide⟩ (by decide) (by decide) (n := 0) (by decide) (by decide) (by decide) (by decide) (pc' := 11) rfl ?_
    intro h14 a15 b17 k18 E16 X19 F20 G21 A22 N23
    have L24 : LatB Z h14 a15 b17 [] := LatB.mk X19 F20 G21 A22 rfl rfl
    refine go_getfield d_jdk_42_m149_11 (host := "") (Or.inl (w13 hw)) Via.refl L24.2.2.1 (pc' := 14) rfl ?_
    refine go_putfield d_jdk_42_m149_14 (w13 hw) Via.refl (Fv.ext E16) (E.ext E16) (Or.inr ⟨(w4 hw), rfl, rfl⟩) (w2 hw) (ty := (.array .byte)) (by decide) (v' := (.ref b17)) rfl rfl (List.mem_of_getElem? (i := 0) rfl) (pc' := 17) rfl ?_
    intro h25 W26
    have F27 := Fld.same W26 (Fv.ext E16)
    refine g_aloadN d_jdk_42_m149_17 (pc' := 18) rfl rfl rfl ?_
    refine go_ldcR d_jdk_42_m149_18 (w149 hw) (sA hw) (vs := []) (z := 0) (by decide) ⟨by decide, by decide⟩ (by decide) (by decide) (n := 0) (by decide) (by decide) (by decide) (by decide) (pc' := 20) rfl ?_
    intro h28 a29 b31 k32 E30 X33 F34 G35 A36 N37
    have L38 : LatB Z h28 a29 b31 [] := LatB.mk X33 F34 G35 A36 rfl rfl
    refine go_getfield d_jdk_42_m149_20 (host := "") (Or.inl (w20 hw)) Via.refl L38.2.1 (pc' := 23) rfl ?_
    have f39 := ((Fld.other W26 (Fc.ext E16) (Or.inr (slot_ne (Or.inr (w5 hw)) (Or.inr (w4 hw)) (by decide) (t := .byte) (t' := (.array .byte)) (by decide) (by decide)))).ext E30)
    refine go_putfield d_jdk_42_m149_23 (w20 hw) Via.refl f39 ((Exa.wr W26 (E.ext E16)).ext E30) (Or.inr ⟨(w5 hw), rfl, rfl⟩) (w2 hw) (ty := .byte) (by decide) (v' := (.int (0 : Int32))) rfl rfl (List.mem_of_getElem? (i := 0) rfl) (pc' := 26) rfl ?_
    intro h40 W41
    have F42 := Fld.same W41 f39
    have f43 := (Fld.other W41 (F27.ext E30) (Or.inr (slot_ne (Or.inr (w4 hw)) (Or.inr (w5 hw)) (by decide) (t := (.array .byte)) (t' := .byte) (by decide) (by decide))))
    have f44 := (((L24.other W26 (Ne.symm (N23 a (List.mem_of_getElem? (i := 0) rfl)).1) (Ne.symm (N23 a (List.mem_of_getElem? (i := 0) rfl)).2)).ext E30).other W41 (Ne.symm (N23 a (List.mem_of_getElem? (i := 0) rfl)).1) (Ne.symm (N23 a (List.mem_of_getElem? (i := 0) rfl)).2))
    obtain ⟨kl, Al⟩ := f44.2.2.2
    have K45 : Keep h0 h14 [a] := ((Keep.refl h0 [a]).ext E16)
    have K46 : Keep h0 h25 [a] := (K45.wr W26 (Or.inl (List.mem_of_getElem? (i := 0) rfl)))
    have K47 : Keep h0 h28 [a] := (K46.ext E30)
    have K48 : Keep h0 h40 [a] := (K47.wr W41 (Or.inl (List.mem_of_getElem? (i := 0) rfl)))
    exact go_return d_jdk_42_m149_26 rfl (ws' := []) all0 ⟨rfl, _, rfl, K48, LatB.mk (Exa.wr W41 ((Exa.wr W26 (E.ext E16)).ext E30)) F42 f43 Al (by first | (rw [hz0]; done) | (rw [hz0]; rfl)) (by first | (rw [List.length_eq_zero_iff.mp hz0]; done) | (rw [List.length_eq_zero_iff.mp hz0]; rfl)), fun x hx => (N23 x hx).2⟩
  · -- h5 does not hold
    have hpos : ¬ Int32.ofNat cs.length = 0 := h5
    refine g_ifYes d_jdk_42_m149_5 (pc' := 27) (feq h5).2 (by decide) (by decide) ?_
    refine go_getstatic d_jdk_42_m149_27 (w19 hw) Via.refl Sc (pc' := 30) rfl ?_
    refine g_ifNo d_jdk_42_m149_30 (pc' := 33) rfl (feq hco).1 ?_
    refine g_aloadN d_jdk_42_m149_33 (pc' := 34) rfl rfl rfl ?_
    refine g_iloadN d_jdk_42_m149_34 (pc' := 35) rfl rfl ?_
    refine g_iloadN d_jdk_42_m149_35 (pc' := 36) rfl rfl ?_
    refine go_static d_jdk_42_m149_36 (rm_compressLat hw cs ca k h0 hN hlat Aa) all0 (w66 hw) (w67 hw) (w68 hw) (w69 hw) (by decide) (argsL := [(.ref ca), (.int (0 : Int32)), (.int (Int32.ofNat cs.length))]) (rest := []) (lenOf pd1 rfl) rfl rfl rfl (W := 0) (Nat.le_of_ble_eq_true rfl) (by decide) (by decide) (by decide) (by decide) (pc' := 39) rfl ?_
    rintro _ h49 _ ⟨b, kb, rfl, rfl, hb0, Kc, Ab⟩ hsz
    show Go _ _ _ _ _ _ _ _ _ _ _ _ _ _ _ _ _ _ _ _ _ _ _ _ [(.ref b)] _
    refine g_astore d_jdk_42_m149_39 (pc' := 41) (Ls' := #[.val (.ref a), .val (.ref ca), .val (.int (0 : Int32)), .val (.int (Int32.ofNat cs.length)), .val .null, .val (.ref b)]) rfl rfl rfl ?_
    refine g_aloadN d_jdk_42_m149_41 (pc' := 42) rfl rfl rfl ?_
    refine g_aload d_jdk_42_m149_42 (pc' := 44) rfl rfl rfl ?_
    refine g_iloadN d_jdk_42_m149_44 (pc' := 45) rfl rfl ?_
    refine go_static d_jdk_42_m149_45 (rm_coderLat hw b _ (Int32.ofNat cs.length) _ h49 Ab) all0 (w73 hw) (w74 hw) (w68 hw) (w75 hw) (by decide) (argsL := [(.ref b), (.int (Int32.ofNat cs.length))]) (rest := [(.ref a)]) (lenOf pd2 rfl) rfl rfl rfl (W := 1) (Nat.le_of_ble_eq_true rfl) (by decide) (by decide) (by decide) (by decide) (pc' := 48) rfl ?_
    rintro _ _ _ ⟨rfl, rfl, rfl⟩ z50
    show Go _ _ _ _ _ _ _ _ _ _ _ _ _ _ _ _ _ _ _ _ _ _ _ _ [(.int (0 : Int32)), (.ref a)] _
    refine go_putfield d_jdk_42_m149_48 (w20 hw) Via.refl (Fc.keep Kc nin0) (E.keep Kc) (Or.inr ⟨(w5 hw), rfl, rfl⟩) (w2 hw) (ty := .byte) (by decide) (v' := (.int (0 : Int32))) rfl rfl (List.mem_of_getElem? (i := 1) rfl) (pc' := 51) rfl ?_
    intro h51 W52
    have F53 := Fld.same W52 (Fc.keep Kc nin0)
    refine g_aloadN d_jdk_42_m149_51 (pc' := 52) rfl rfl rfl ?_
    refine g_aload d_jdk_42_m149_52 (pc' := 54) rfl rfl rfl ?_
    have f54 := (Fld.other W52 (Fv.keep Kc nin0) (Or.inr (slot_ne (Or.inr (w4 hw)) (Or.inr (w5 hw)) (by decide) (t := (.array .byte)) (t' := .byte) (by decide) (by decide))))
    refine go_putfield d_jdk_42_m149_54 (w13 hw) Via.refl f54 (Exa.wr W52 (E.keep Kc)) (Or.inr ⟨(w4 hw), rfl, rfl⟩) (w2 hw) (ty := (.array .byte)) (by decide) (v' := (.ref b)) rfl rfl (List.mem_of_getElem? (i := 1) rfl) (pc' := 57) rfl ?_
    intro h55 W56
    have F57 := Fld.same W56 f54
    have K58 : Keep h0 h49 [a] := ((Keep.refl h0 [a]).trans Kc all0)
    have K59 : Keep h0 h51 [a] := (K58.wr W52 (Or.inl (List.mem_of_getElem? (i := 0) rfl)))
    have K60 : Keep h0 h55 [a] := (K59.wr W56 (Or.inl (List.mem_of_getElem? (i := 0) rfl)))
    have f61 := (Fld.other W56 F53 (Or.inr (slot_ne (Or.inr (w5 hw)) (Or.inr (w4 hw)) (by decide) (t := .byte) (t' := (.array .byte)) (by decide) (by decide))))
    have ne62 : b ≠ a := Ne.symm (Nat.ne_of_lt (Nat.lt_of_lt_of_le E.lt hb0))
    exact go_return d_jdk_42_m149_57 rfl (ws' := []) all0 ⟨rfl, b, rfl, K60, LatB.mk (Exa.wr W56 (Exa.wr W52 (E.keep Kc))) f61 F57 ((Ab.other W52 ne62).other W56 ne62) rfl rfl, fun x hx => Nat.ne_of_lt (Nat.lt_of_lt_of_le (hsf x hx).2 hb0)⟩
set_option maxRecDepth 65536 in
set_option maxHeartbeats 40000000 in
theorem rm_initC {l : Launch} {Z : State} {a0 : Array Value} (hw : ∀ d ∈ tables_1, d.before a0 Z = true) (cs : List Int32) (a ca : Addr) (k : ClassId) (o1 o2 : Value) (co : Int32) (W : List Addr) (h0 : Heap) (hN : cs.length ≤ 16) (hlat : ∀ c ∈ cs, ¬ (255 : Int32) < c) (E : Exa Z h0 a "java/lang/String") (Fv : Fld Z h0 a "java/lang/String" "value" "[B" o1) (Fc : Fld Z h0 a "java/lang/String" "coder" "B" o2) (Aa : Arv Z h0 ca k .char (Int32.ofNat cs.length) (cs.map Value.int) (.int 0)) (Sc : Sta Z Z.heap "java/lang/String" "COMPACT_STRINGS" "Z" (.int co)) (hco : ¬ co = 0) :
    Con l Z EL ⟨"java/lang/String", "<init>", "([C)V"⟩ jdk_42_method_3_code 2 none [] { frames := 3, cells := 4, slots := 16, locals := 52 } #[(.ref a), (.ref ca)] h0 (a :: W) (fun v h ws => v = none ∧ ∃ b, ws = [] ∧ Keep h0 h [a] ∧ LatB Z h a b cs ∧ (∀ x ∈ a :: W, x ≠ b)) := by
  refine con_of (a0 := a0) (Ls := #[.val (.ref a), .val (.ref ca)]) (plainFor_of_name pn1) (eW hw) (fun m => by first | (simp [entryFrame, mkF, argsToLocals, Value.category]; done) | rfl) ?_
  intro p e s m below meth c
  refine g_aloadN d_jdk_42_m3_0 (pc' := 1) rfl rfl rfl ?_
  refine g_aloadN d_jdk_42_m3_1 (pc' := 2) rfl rfl rfl ?_
  refine g_iconst d_jdk_42_m3_2 (pc' := 3) rfl (z := 0) rfl ?_
  refine g_aloadN d_jdk_42_m3_3 (pc' := 4) rfl rfl rfl ?_
  refine go_arraylength d_jdk_42_m3_4 Aa (pc' := 5) rfl ?_
  refine g_aconstNull d_jdk_42_m3_5 (pc' := 6) rfl ?_
  refine go_special d_jdk_42_m3_6 (rm_initCV hw cs a ca k _ _ co W h0 hN hlat E Fv Fc Aa Sc hco) (fun _ q => q) rfl (w59 hw) (w60 hw) (w1 hw) (w62 hw) (by decide) (argsL := [(.ref ca), (.int (0 : Int32)), (.int (Int32.ofNat cs.length)), .null]) (rest := []) (lenOf pd3 rfl) rfl rfl rfl (W := 0) (Nat.le_of_ble_eq_true rfl) (by decide) (by decide) (by decide) (by decide) (pc' := 9) rfl ?_
  rintro _ h63 _ ⟨rfl, b, rfl, K, L, hnb⟩ hsz
  show Go _ _ _ _ _ _ _ _ _ _ _ _ _ _ _ _ _ _ _ _ _ _ _ _ [] _
  exact go_return d_jdk_42_m3_9 rfl (ws' := []) all0 ⟨rfl, b, rfl, K, L, hnb⟩
set_option maxRecDepth 65536 in
set_option maxHeartbeats 40000000 in
theorem rm_coder {l : Launch} {Z : State} {a0 : Array Value} (hw : ∀ d ∈ tables_1, d.before a0 Z = true) (a b : Addr) (cs : List Int32) (co : Int32) (h0 : Heap) (L : LatB Z h0 a b cs) (Sc : Sta Z Z.heap "java/lang/String" "COMPACT_STRINGS" "Z" (.int co)) (hco : ¬ co = 0) :
    Con l Z EL ⟨"java/lang/String", "coder", "()B"⟩ jdk_42_method_152_code 1 (some .byte) [] { frames := 0, cells := 0, slots := 0, locals := 0 } #[(.ref a)] h0 [] (fun v h ws => v = some (.int 0) ∧ h0 = h ∧ ws = []) := by
  refine con_of (a0 := a0) (Ls := #[.val (.ref a)]) (plainFor_of_name pn1) (eW hw) (fun m => by first | (simp [entryFrame, mkF, argsToLocals, Value.category]; done) | rfl) ?_
  intro p e s m below meth c
  refine go_getstatic d_jdk_42_m152_0 (w19 hw) Via.refl Sc (pc' := 3) rfl ?_
  refine g_ifNo d_jdk_42_m152_3 (pc' := 6) rfl (feq hco).1 ?_
  refine g_aloadN d_jdk_42_m152_6 (pc' := 7) rfl rfl rfl ?_
  refine go_getfield d_jdk_42_m152_7 (host := "") (Or.inl (w20 hw)) Via.refl L.2.1 (pc' := 10) rfl ?_
  refine g_goto d_jdk_42_m152_10 (pc' := 14) (by decide) (by decide) ?_
  exact go_ireturn d_jdk_42_m152_14 rfl (Or.inr (Or.inr (Or.inl rfl))) rfl (ws' := []) (fun _ q => q) ⟨rfl, rfl, rfl⟩
set_option maxRecDepth 65536 in
set_option maxHeartbeats 40000000 in
theorem rm_length {l : Launch} {Z : State} {a0 : Array Value} (hw : ∀ d ∈ tables_1, d.before a0 Z = true) (a b : Addr) (cs : List Int32) (co : Int32) (h0 : Heap) (L : LatB Z h0 a b cs) (Sc : Sta Z Z.heap "java/lang/String" "COMPACT_STRINGS" "Z" (.int co)) (hco : ¬ co = 0) :
    Con l Z EL ⟨"java/lang/String", "length", "()I"⟩ jdk_42_method_54_code 1 (some .int) [] { frames := 1, cells := 0, slots := 0, locals := 13 } #[(.ref a)] h0 [] (fun v h ws => v = some (.int (Int32.ofNat cs.length)) ∧ h0 = h ∧ ws = []) := by
  refine con_of (a0 := a0) (Ls := #[.val (.ref a)]) (plainFor_of_name pn1) (eW hw) (fun m => by first | (simp [entryFrame, mkF, argsToLocals, Value.category]; done) | rfl) ?_
  intro p e s m below meth c
  obtain ⟨kb, Ab⟩ := L.2.2.2
  refine g_aloadN d_jdk_42_m54_0 (pc' := 1) rfl rfl rfl ?_
  refine go_getfield d_jdk_42_m54_1 (host := "") (Or.inl (w13 hw)) Via.refl L.2.2.1 (pc' := 4) rfl ?_
  refine go_arraylength d_jdk_42_m54_4 Ab (pc' := 5) rfl ?_
  refine g_aloadN d_jdk_42_m54_5 (pc' := 6) rfl rfl rfl ?_
  refine go_virtual d_jdk_42_m54_6 (rm_coder hw a _ _ co h0 L Sc hco) (fun _ q => q) L.1 (w14 hw) (w15 hw) (w17 hw) (nf_sel (w17 hw)) (w16 hw) (w1 hw) (w18 hw) (by decide) (argsL := []) (rest := [(.int (Int32.ofNat cs.length))]) (lenOf pd4 rfl) rfl rfl rfl (W := 1) (Nat.le_of_ble_eq_true rfl) (by decide) (by decide) (by decide) (by decide) (pc' := 9) rfl ?_
  rintro _ _ _ ⟨rfl, rfl, rfl⟩ z64
  show Go _ _ _ _ _ _ _ _ _ _ _ _ _ _ _ _ _ _ _ _ _ _ _ _ [(.int (0 : Int32)), (.int (Int32.ofNat cs.length))] _
  refine g_ishr d_jdk_42_m54_9 (pc' := 10) rfl ?_
  rw [shr0]
  exact go_ireturn d_jdk_42_m54_10 rfl (Or.inl rfl) rfl (ws' := []) (fun _ q => q) ⟨rfl, rfl, rfl⟩
set_option maxRecDepth 65536 in
set_option maxHeartbeats 40000000 in
theorem rm_isLatin1 {l : Launch} {Z : State} {a0 : Array Value} (hw : ∀ d ∈ tables_1, d.before a0 Z = true) (a b : Addr) (cs : List Int32) (co : Int32) (h0 : Heap) (L : LatB Z h0 a b cs) (Sc : Sta Z Z.heap "java/lang/String" "COMPACT_STRINGS" "Z" (.int co)) (hco : ¬ co = 0) :
    Con l Z EL ⟨"java/lang/String", "isLatin1", "()Z"⟩ jdk_42_method_154_code 1 (some .boolean) [] { frames := 0, cells := 0, slots := 0, locals := 0 } #[(.ref a)] h0 [] (fun v h ws => v = some (.int 1) ∧ h0 = h ∧ ws = []) := by
  refine con_of (a0 := a0) (Ls := #[.val (.ref a)]) (plainFor_of_name pn1) (eW hw) (fun m => by first | (simp [entryFrame, mkF, argsToLocals, Value.category]; done) | rfl) ?_
  intro p e s m below meth c
  refine go_getstatic d_jdk_42_m154_0 (w19 hw) Via.refl Sc (pc' := 3) rfl ?_
  refine g_ifNo d_jdk_42_m154_3 (pc' := 6) rfl (feq hco).1 ?_
  refine g_aloadN d_jdk_42_m154_6 (pc' := 7) rfl rfl rfl ?_
  refine go_getfield d_jdk_42_m154_7 (host := "") (Or.inl (w20 hw)) Via.refl L.2.1 (pc' := 10) rfl ?_
  refine g_ifNo d_jdk_42_m154_10 (pc' := 13) rfl (teq (by decide : (0 : Int32) = (0 : Int32))).2 ?_
  refine g_iconst d_jdk_42_m154_13 (pc' := 14) rfl (z := 1) rfl ?_
  refine g_goto d_jdk_42_m154_14 (pc' := 18) (by decide) (by decide) ?_
  exact go_ireturn d_jdk_42_m154_18 rfl (Or.inr (Or.inl rfl)) rfl (ws' := []) (fun _ q => q) ⟨rfl, rfl, rfl⟩
set_option maxRecDepth 65536 in
set_option maxHeartbeats 40000000 in
theorem rm_checkIndexP {l : Launch} {Z : State} {a0 : Array Value} (hw : ∀ d ∈ tables_1, d.before a0 Z = true) (i n : Int32) (fm : Value) (h0 : Heap) (hfm : fm.isRef = true) (hi : ¬ i < 0) (hn : i < n) :
    Con l Z EL ⟨"jdk/internal/util/Preconditions", "checkIndex", "(IILjava/util/function/BiFunction;)I"⟩ jdk_41_method_11_code 3 (some .int) [] { frames := 0, cells := 0, slots := 0, locals := 0 } #[(.int i), (.int n), fm] h0 [] (fun v h ws => v = some (.int i) ∧ h0 = h ∧ ws = []) := by
  refine con_of (a0 := a0) (Ls := #[.val (.int i), .val (.int n), .val fm]) (plainFor_of_name pn2) (eW hw) (fun m => by rcases ref_cases hfm with rfl | ⟨_, rfl⟩ <;> first | (simp [entryFrame, mkF, argsToLocals, Value.category]; done) | rfl) ?_
  intro p e s m below meth c
  refine g_iloadN d_jdk_41_m11_0 (pc' := 1) rfl rfl ?_
  refine g_ifNo d_jdk_41_m11_1 (pc' := 4) rfl (flt hi).1 ?_
  refine g_iloadN d_jdk_41_m11_4 (pc' := 5) rfl rfl ?_
  refine g_iloadN d_jdk_41_m11_5 (pc' := 6) rfl rfl ?_
  refine g_icmpYes d_jdk_41_m11_6 (pc' := 16) (tlt hn).1 (by decide) (by decide) ?_
  refine g_iloadN d_jdk_41_m11_16 (pc' := 17) rfl rfl ?_
  exact go_ireturn d_jdk_41_m11_17 rfl (Or.inl rfl) rfl (ws' := []) (fun _ q => q) ⟨rfl, rfl, rfl⟩
set_option maxRecDepth 65536 in
set_option maxHeartbeats 40000000 in
theorem rm_checkIndex {l : Launch} {Z : State} {a0 : Array Value} (hw : ∀ d ∈ tables_1, d.before a0 Z = true) (i n : Int32) (fm : Value) (h0 : Heap) (Sf : Sta Z Z.heap "jdk/internal/util/Preconditions" "SIOOBE_FORMATTER" "Ljava/util/function/BiFunction;" fm) (hfm : fm.isRef = true) (hi : ¬ i < 0) (hn : i < n) :
    Con l Z EL ⟨"java/lang/String", "checkIndex", "(II)V"⟩ jdk_42_method_155_code 2 none [] { frames := 1, cells := 0, slots := 0, locals := 14 } #[(.int i), (.int n)] h0 [] (fun v h ws => v = none ∧ h0 = h ∧ ws = []) := by
  refine con_of (a0 := a0) (Ls := #[.val (.int i), .val (.int n)]) (plainFor_of_name pn1) (eW hw) (fun m => by first | (simp [entryFrame, mkF, argsToLocals, Value.category]; done) | rfl) ?_
  intro p e s m below meth c
  refine g_iloadN d_jdk_42_m155_0 (pc' := 1) rfl rfl ?_
  refine g_iloadN d_jdk_42_m155_1 (pc' := 2) rfl rfl ?_
  refine go_getstatic d_jdk_42_m155_2 (w43 hw) Via.refl Sf (pc' := 5) rfl ?_
  refine go_static d_jdk_42_m155_5 (rm_checkIndexP hw i n fm h0 hfm hi hn) (fun _ q => q) (w45 hw) (w46 hw) (w44 hw) (w47 hw) (by decide) (argsL := [(.int i), (.int n), fm]) (rest := []) (lenOf pd5 rfl) rfl rfl rfl (W := 0) (Nat.le_of_ble_eq_true rfl) (by decide) (by decide) (by decide) (by decide) (pc' := 8) rfl ?_
  rintro _ _ _ ⟨rfl, rfl, rfl⟩ hz
  show Go _ _ _ _ _ _ _ _ _ _ _ _ _ _ _ _ _ _ _ _ _ _ _ _ [(.int i)] _
  refine g_pop d_jdk_42_m155_8 (pc' := 9) rfl rfl ?_
  exact go_return d_jdk_42_m155_9 rfl (ws' := []) (fun _ q => q) ⟨rfl, rfl, rfl⟩
set_option maxRecDepth 65536 in
set_option maxHeartbeats 40000000 in
theorem rm_charAtL {l : Launch} {Z : State} {a0 : Array Value} (hw : ∀ d ∈ tables_1, d.before a0 Z = true) (b : Addr) (kb : ClassId) (cs : List Int32) (j : Nat) (fm : Value) (h0 : Heap) (hN : cs.length ≤ 4000) (hj : j < cs.length) (hB : Byt cs) (Ab : Arv Z h0 b kb .byte (Int32.ofNat cs.length) (cs.map by8) (.int 0)) (Sf : Sta Z Z.heap "jdk/internal/util/Preconditions" "SIOOBE_FORMATTER" "Ljava/util/function/BiFunction;" fm) (hfm : fm.isRef = true) :
    Con l Z EL ⟨"java/lang/StringLatin1", "charAt", "([BI)C"⟩ jdk_43_method_2_code 2 (some .char) [] { frames := 2, cells := 0, slots := 0, locals := 27 } #[(.ref b), (.int (Int32.ofNat j))] h0 [] (fun v h ws => v = some (.int (cs.getD j 0)) ∧ h0 = h ∧ ws = []) := by
  refine con_of (a0 := a0) (Ls := #[.val (.ref b), .val (.int (Int32.ofNat j))]) (plainFor_of_name pn3) (eW hw) (fun m => by first | (simp [entryFrame, mkF, argsToLocals, Value.category]; done) | rfl) ?_
  intro p e s m below meth c
  refine g_iloadN d_jdk_43_m2_0 (pc' := 1) rfl rfl ?_
  refine g_aloadN d_jdk_43_m2_1 (pc' := 2) rfl rfl rfl ?_
  refine go_arraylength d_jdk_43_m2_2 Ab (pc' := 3) rfl ?_
  refine go_static d_jdk_43_m2_3 (rm_checkIndex hw (Int32.ofNat j) (Int32.ofNat cs.length) fm h0 Sf hfm (o_nn (by omega)) ((o_lt (by omega) (by omega)).mpr hj)) (fun _ q => q) (w40 hw) (w41 hw) (w1 hw) (w42 hw) (by decide) (argsL := [(.int (Int32.ofNat j)), (.int (Int32.ofNat cs.length))]) (rest := []) (lenOf pd6 rfl) rfl rfl rfl (W := 0) (Nat.le_of_ble_eq_true rfl) (by decide) (by decide) (by decide) (by decide) (pc' := 6) rfl ?_
  rintro _ _ _ ⟨rfl, rfl, rfl⟩ hz
  show Go _ _ _ _ _ _ _ _ _ _ _ _ _ _ _ _ _ _ _ _ _ _ _ _ [] _
  refine g_aloadN d_jdk_43_m2_6 (pc' := 7) rfl rfl rfl ?_
  refine g_iloadN d_jdk_43_m2_7 (pc' := 8) rfl rfl ?_
  refine go_baload d_jdk_43_m2_8 Ab (v := (.int (cs.getD j 0).toInt8.toInt32)) ⟨o_nn (by omega), (o_lt (by omega) (by omega)).mpr hj⟩ (by rw [o_cl (by omega)]; exact map8_getD cs j) (pc' := 9) rfl ?_
  refine g_sipush d_jdk_43_m2_9 (pc' := 12) rfl (z := 255) rfl ?_
  refine g_iand d_jdk_43_m2_12 (pc' := 13) rfl ?_
  refine g_i2c d_jdk_43_m2_13 (pc' := 14) rfl ?_
  rw [by8_char (hB.at j).1 (hB.at j).2]
  exact go_ireturn d_jdk_43_m2_14 rfl (Or.inr (Or.inr (Or.inr (Or.inl rfl)))) (congrArg Value.int (nar_byt (hB.at j))) (ws' := []) (fun _ q => q) ⟨rfl, rfl, rfl⟩
set_option maxRecDepth 65536 in
set_option maxHeartbeats 40000000 in
theorem rm_charAt {l : Launch} {Z : State} {a0 : Array Value} (hw : ∀ d ∈ tables_1, d.before a0 Z = true) (a b : Addr) (cs : List Int32) (j : Nat) (co : Int32) (fm : Value) (h0 : Heap) (L : LatB Z h0 a b cs) (hN : cs.length ≤ 4000) (hj : j < cs.length) (hB : Byt cs) (Sc : Sta Z Z.heap "java/lang/String" "COMPACT_STRINGS" "Z" (.int co)) (hco : ¬ co = 0) (Sf : Sta Z Z.heap "jdk/internal/util/Preconditions" "SIOOBE_FORMATTER" "Ljava/util/function/BiFunction;" fm) (hfm : fm.isRef = true) :
    Con l Z EL ⟨"java/lang/String", "charAt", "(I)C"⟩ jdk_42_method_56_code 2 (some .char) [] { frames := 3, cells := 0, slots := 0, locals := 40 } #[(.ref a), (.int (Int32.ofNat j))] h0 [] (fun v h ws => v = some (.int (cs.getD j 0)) ∧ h0 = h ∧ ws = []) := by
  refine con_of (a0 := a0) (Ls := #[.val (.ref a), .val (.int (Int32.ofNat j))]) (plainFor_of_name pn1) (eW hw) (fun m => by first | (simp [entryFrame, mkF, argsToLocals, Value.category]; done) | rfl) ?_
  intro p e s m below meth c
  refine g_aloadN d_jdk_42_m56_0 (pc' := 1) rfl rfl rfl ?_
  refine go_virtual d_jdk_42_m56_1 (rm_isLatin1 hw a _ _ co h0 L Sc hco) (fun _ q => q) L.1 (w31 hw) (w32 hw) (w34 hw) (nf_sel (w34 hw)) (w33 hw) (w1 hw) (w35 hw) (by decide) (argsL := []) (rest := []) (lenOf pd7 rfl) rfl rfl rfl (W := 0) (Nat.le_of_ble_eq_true rfl) (by decide) (by decide) (by decide) (by decide) (pc' := 4) rfl ?_
  rintro _ _ _ ⟨rfl, rfl, rfl⟩ z65
  show Go _ _ _ _ _ _ _ _ _ _ _ _ _ _ _ _ _ _ _ _ _ _ _ _ [(.int (1 : Int32))] _
  refine g_ifNo d_jdk_42_m56_4 (pc' := 7) rfl (feq (by decide : ¬ ((1 : Int32) = (0 : Int32)))).1 ?_
  refine g_aloadN d_jdk_42_m56_7 (pc' := 8) rfl rfl rfl ?_
  refine go_getfield d_jdk_42_m56_8 (host := "") (Or.inl (w13 hw)) Via.refl L.2.2.1 (pc' := 11) rfl ?_
  refine g_iloadN d_jdk_42_m56_11 (pc' := 12) rfl rfl ?_
  obtain ⟨kb, Ab⟩ := L.2.2.2
  refine go_static d_jdk_42_m56_12 (rm_charAtL hw b kb cs j fm h0 hN hj hB Ab Sf hfm) (fun _ q => q) (w36 hw) (w37 hw) (w38 hw) (w39 hw) (by decide) (argsL := [(.ref b), (.int (Int32.ofNat j))]) (rest := []) (lenOf pd8 rfl) rfl rfl rfl (W := 0) (Nat.le_of_ble_eq_true rfl) (by decide) (by decide) (by decide) (by decide) (pc' := 15) rfl ?_
  rintro _ _ _ ⟨rfl, rfl, rfl⟩ hz
  show Go _ _ _ _ _ _ _ _ _ _ _ _ _ _ _ _ _ _ _ _ _ _ _ _ [(.int (cs.getD j 0))] _
  exact go_ireturn d_jdk_42_m56_15 rfl (Or.inr (Or.inr (Or.inr (Or.inl rfl)))) (congrArg Value.int (nar_byt (hB.at j))) (ws' := []) (fun _ q => q) ⟨rfl, rfl, rfl⟩
set_option maxRecDepth 65536 in
set_option maxHeartbeats 40000000 in
theorem lp_equals {l : Launch} {Z : State} {a0 : Array Value} (hw : ∀ d ∈ tables_1, d.before a0 Z = true) {p : Program} {e : Env} {R : Room} {s : State} {m : MethodId} {args : Array Value} {below : List Frame} {meth : Method} {c : Code} (cs ds : List Int32) (hN : cs.length ≤ 4000) (hlen : cs.length = ds.length) (hB : Byt cs) (hD : Byt ds) (a b : Addr) (k kb : ClassId) (h0 : Heap) (Aa : Arv Z h0 a k .byte (Int32.ofNat cs.length) (cs.map by8) (.int 0)) (Ab : Arv Z h0 b kb .byte (Int32.ofNat ds.length) (ds.map by8) (.int 0)) :
    ∀ (d j : Nat), j + d = cs.length → (∀ i, i < j → cs.getD i 0 = ds.getD i 0) →
      Go p l e R s m args below meth c Z a0 EL "java/lang/StringLatin1" jdk_43_method_13_code 3 (some .boolean) "equals" [] h0 0 0 9 #[.val (.ref a), .val (.ref b), .val (.int (Int32.ofNat j))] [] (fun v h ws => v = some (.int (if cs = ds then 1 else 0)) ∧ h0 = h ∧ ws = []) := by
  intro d; induction d with
  | zero =>
    intro j hd hsame
    have hj31 : j < 2147483648 := by omega
    have hN31 : cs.length < 2147483648 := by omega
    refine g_iloadN d_jdk_43_m13_9 (pc' := 10) rfl rfl ?_
    refine g_aloadN d_jdk_43_m13_10 (pc' := 11) rfl rfl rfl ?_
    refine go_arraylength d_jdk_43_m13_11 Aa (pc' := 12) rfl ?_
    refine g_icmpYes d_jdk_43_m13_12 (pc' := 32) (flt (fun q => by have := (o_lt hj31 hN31).mp q; omega)).2.1 (by decide) (by decide) ?_
    refine g_iconst d_jdk_43_m13_32 (pc' := 33) rfl (z := 1) rfl ?_
    exact go_ireturn d_jdk_43_m13_33 rfl (Or.inr (Or.inl rfl)) rfl (ws' := []) (fun _ q => q) ⟨by rw [if_pos (list_ext_getD hlen fun i hi => hsame i (by omega))], rfl, rfl⟩
  | succ d ih =>
    intro j hd hsame
    have hj31 : j < 2147483648 := by omega
    have hN31 : cs.length < 2147483648 := by omega
    refine g_iloadN d_jdk_43_m13_9 (pc' := 10) rfl rfl ?_
    refine g_aloadN d_jdk_43_m13_10 (pc' := 11) rfl rfl rfl ?_
    refine go_arraylength d_jdk_43_m13_11 Aa (pc' := 12) rfl ?_
    refine g_icmpNo d_jdk_43_m13_12 (pc' := 15) rfl (tlt ((o_lt hj31 hN31).mpr (by omega))).2.1 ?_
    refine g_aloadN d_jdk_43_m13_15 (pc' := 16) rfl rfl rfl ?_
    refine g_iloadN d_jdk_43_m13_16 (pc' := 17) rfl rfl ?_
    refine go_baload d_jdk_43_m13_17 Aa (v := (.int (cs.getD j 0).toInt8.toInt32)) ⟨o_nn hj31, (o_lt hj31 hN31).mpr (by omega)⟩ (by rw [o_cl hj31]; exact map8_getD cs j) (pc' := 18) rfl ?_
    refine g_aloadN d_jdk_43_m13_18 (pc' := 19) rfl rfl rfl ?_
    refine g_iloadN d_jdk_43_m13_19 (pc' := 20) rfl rfl ?_
    refine go_baload d_jdk_43_m13_20 Ab (v := (.int (ds.getD j 0).toInt8.toInt32)) ⟨o_nn hj31, (o_lt hj31 (by omega)).mpr (by omega)⟩ (by rw [o_cl hj31]; exact map8_getD ds j) (pc' := 21) rfl ?_
    by_cases hc : (cs.getD j 0).toInt8.toInt32 = (ds.getD j 0).toInt8.toInt32
    · -- hc holds
      refine g_icmpYes d_jdk_43_m13_21 (pc' := 26) (teq hc).1 (by decide) (by decide) ?_
      refine g_iinc d_jdk_43_m13_26 (pc' := 29) (Ls' := #[.val (.ref a), .val (.ref b), .val (.int ((Int32.ofNat j) + (1 : Int32)))]) rfl rfl rfl ?_
      refine g_goto d_jdk_43_m13_29 (pc' := 9) (by decide) (by decide) ?_
      rw [o_inc j]
      refine ih (j + 1) (by omega) (fun i hi => ?_)
      rcases Nat.lt_succ_iff_lt_or_eq.mp hi with q | q
      · exact hsame i q
      · rw [q]; exact by8_inj (hB.at j).1 (hB.at j).2 (hD.at j).1 (hD.at j).2 hc
    · -- hc does not hold
      refine g_icmpNo d_jdk_43_m13_21 (pc' := 24) rfl (feq hc).1 ?_
      refine g_iconst d_jdk_43_m13_24 (pc' := 25) rfl (z := 0) rfl ?_
      exact go_ireturn d_jdk_43_m13_25 rfl (Or.inr (Or.inl rfl)) rfl (ws' := []) (fun _ q => q) ⟨by rw [if_neg (fun q => hc (by rw [q]))], rfl, rfl⟩
set_option maxRecDepth 65536 in
set_option maxHeartbeats 40000000 in
theorem rm_equalsL {l : Launch} {Z : State} {a0 : Array Value} (hw : ∀ d ∈ tables_1, d.before a0 Z = true) (cs ds : List Int32) (a b : Addr) (k kb : ClassId) (h0 : Heap) (hN : cs.length ≤ 4000) (hM : ds.length ≤ 4000) (hB : Byt cs) (hD : Byt ds) (Aa : Arv Z h0 a k .byte (Int32.ofNat cs.length) (cs.map by8) (.int 0)) (Ab : Arv Z h0 b kb .byte (Int32.ofNat ds.length) (ds.map by8) (.int 0)) :
    Con l Z EL ⟨"java/lang/StringLatin1", "equals", "([B[B)Z"⟩ jdk_43_method_13_code 3 (some .boolean) [] { frames := 0, cells := 0, slots := 0, locals := 0 } #[(.ref a), (.ref b)] h0 [] (fun v h ws => v = some (.int (if cs = ds then 1 else 0)) ∧ h0 = h ∧ ws = []) := by
  refine con_of (a0 := a0) (Ls := #[.val (.ref a), .val (.ref b), .unset]) (plainFor_of_name pn3) (eW hw) (fun m => by first | (simp [entryFrame, mkF, argsToLocals, Value.category]; done) | rfl) ?_
  intro p e s m below meth c
  refine g_aloadN d_jdk_43_m13_0 (pc' := 1) rfl rfl rfl ?_
  refine go_arraylength d_jdk_43_m13_1 Aa (pc' := 2) rfl ?_
  refine g_aloadN d_jdk_43_m13_2 (pc' := 3) rfl rfl rfl ?_
  refine go_arraylength d_jdk_43_m13_3 Ab (pc' := 4) rfl ?_
  by_cases h4 : (Int32.ofNat cs.length) = (Int32.ofNat ds.length)
  · -- h4 holds
    refine g_icmpNo d_jdk_43_m13_4 (pc' := 7) rfl (teq h4).2 ?_
    refine g_iconst d_jdk_43_m13_7 (pc' := 8) rfl (z := 0) rfl ?_
    refine g_istoreN d_jdk_43_m13_8 (pc' := 9) (Ls' := #[.val (.ref a), .val (.ref b), .val (.int (0 : Int32))]) rfl rfl ?_
    exact lp_equals hw cs ds hN (by exact (o_eq (by omega) (by omega)).mp h4) hB hD a b k kb h0 Aa Ab cs.length 0 (by omega) (fun i hi => absurd hi (Nat.not_lt_zero _))
  · -- h4 does not hold
    refine g_icmpYes d_jdk_43_m13_4 (pc' := 34) (feq h4).2 (by decide) (by decide) ?_
    refine g_iconst d_jdk_43_m13_34 (pc' := 35) rfl (z := 0) rfl ?_
    exact go_ireturn d_jdk_43_m13_35 rfl (Or.inr (Or.inl rfl)) rfl (ws' := []) (fun _ q => q) ⟨by rw [if_neg (fun q => h4 (by rw [q]))], rfl, rfl⟩
set_option maxRecDepth 65536 in
set_option maxHeartbeats 40000000 in
theorem rm_equals {l : Launch} {Z : State} {a0 : Array Value} (hw : ∀ d ∈ tables_1, d.before a0 Z = true) (cs ds : List Int32) (a b a2 b2 : Addr) (co : Int32) (h0 : Heap) (hN : cs.length ≤ 4000) (hM : ds.length ≤ 4000) (hB : Byt cs) (hD : Byt ds) (L : LatB Z h0 a b cs) (M : LatB Z h0 a2 b2 ds) (Sc : Sta Z Z.heap "java/lang/String" "COMPACT_STRINGS" "Z" (.int co)) (hco : ¬ co = 0) :
    Con l Z EL ⟨"java/lang/String", "equals", "(Ljava/lang/Object;)Z"⟩ jdk_42_method_66_code 3 (some .boolean) [] { frames := 1, cells := 0, slots := 0, locals := 14 } #[(.ref a), (.ref a2)] h0 [] (fun v h ws => v = some (.int (if cs = ds then 1 else 0)) ∧ h0 = h ∧ ws = []) := by
  refine con_of (a0 := a0) (Ls := #[.val (.ref a), .val (.ref a2), .unset]) (plainFor_of_name pn1) (eW hw) (fun m => by first | (simp [entryFrame, mkF, argsToLocals, Value.category]; done) | rfl) ?_
  intro p e s m below meth c
  refine g_aloadN d_jdk_42_m66_0 (pc' := 1) rfl rfl rfl ?_
  refine g_aloadN d_jdk_42_m66_1 (pc' := 2) rfl rfl rfl ?_
  by_cases h2 : a = a2
  · -- h2 holds
    refine g_acmp d_jdk_42_m66_2 rfl rfl (same := true) (decide_eq_true (congrArg Value.ref h2)) (by decide) (pc' := 5) rfl ?_
    refine g_iconst d_jdk_42_m66_5 (pc' := 6) rfl (z := 1) rfl ?_
    exact go_ireturn d_jdk_42_m66_6 rfl (Or.inr (Or.inl rfl)) rfl (ws' := []) (fun _ q => q) ⟨by rw [if_pos (LatB.same L (b' := b2) (by rw [h2]; exact M) hB hD hN hM)], rfl, rfl⟩
  · -- h2 does not hold
    refine g_acmp d_jdk_42_m66_2 rfl rfl (same := false) (decide_eq_false (fun q => h2 (Value.ref.inj q))) (by decide) (pc' := 7) rfl ?_
    refine g_aloadN d_jdk_42_m66_7 (pc' := 8) rfl rfl rfl ?_
    refine go_instYes d_jdk_42_m66_8 (w84 hw) (Ins.self M.1) (pc' := 11) rfl ?_
    refine g_ifNo d_jdk_42_m66_11 (pc' := 14) rfl (feq (by decide : ¬ ((1 : Int32) = (0 : Int32)))).1 ?_
    refine g_aloadN d_jdk_42_m66_14 (pc' := 15) rfl rfl rfl ?_
    refine go_checkcast d_jdk_42_m66_15 (w84 hw) (Ins.self M.1) (pc' := 18) rfl ?_
    refine g_astoreN d_jdk_42_m66_18 (pc' := 19) (Ls' := #[.val (.ref a), .val (.ref a2), .val (.ref a2)]) rfl rfl rfl ?_
    refine go_getstatic d_jdk_42_m66_19 (w19 hw) Via.refl Sc (pc' := 22) rfl ?_
    refine g_ifNo d_jdk_42_m66_22 (pc' := 25) rfl (feq hco).1 ?_
    refine g_aloadN d_jdk_42_m66_25 (pc' := 26) rfl rfl rfl ?_
    refine go_getfield d_jdk_42_m66_26 (host := "") (Or.inl (w20 hw)) Via.refl L.2.1 (pc' := 29) rfl ?_
    refine g_aloadN d_jdk_42_m66_29 (pc' := 30) rfl rfl rfl ?_
    refine go_getfield d_jdk_42_m66_30 (host := "") (Or.inl (w20 hw)) Via.refl M.2.1 (pc' := 33) rfl ?_
    refine g_icmpNo d_jdk_42_m66_33 (pc' := 36) rfl (teq (by decide : (0 : Int32) = (0 : Int32))).2 ?_
    refine g_aloadN d_jdk_42_m66_36 (pc' := 37) rfl rfl rfl ?_
    refine go_getfield d_jdk_42_m66_37 (host := "") (Or.inl (w13 hw)) Via.refl L.2.2.1 (pc' := 40) rfl ?_
    refine g_aloadN d_jdk_42_m66_40 (pc' := 41) rfl rfl rfl ?_
    refine go_getfield d_jdk_42_m66_41 (host := "") (Or.inl (w13 hw)) Via.refl M.2.2.1 (pc' := 44) rfl ?_
    obtain ⟨k1, A1⟩ := L.2.2.2
    obtain ⟨k2, A2⟩ := M.2.2.2
    refine go_static d_jdk_42_m66_44 (rm_equalsL hw cs ds b b2 k1 k2 h0 hN hM hB hD A1 A2) (fun _ q => q) (w85 hw) (w86 hw) (w38 hw) (w87 hw) (by decide) (argsL := [(.ref b), (.ref b2)]) (rest := []) (lenOf pd9 rfl) rfl rfl rfl (W := 0) (Nat.le_of_ble_eq_true rfl) (by decide) (by decide) (by decide) (by decide) (pc' := 47) rfl ?_
    rintro _ _ _ ⟨rfl, rfl, rfl⟩ hz
    show Go _ _ _ _ _ _ _ _ _ _ _ _ _ _ _ _ _ _ _ _ _ _ _ _ [(.int (if cs = ds then 1 else 0))] _
    by_cases h47 : (if cs = ds then 1 else 0) = (0 : Int32)
    · -- h47 holds
      refine g_ifYes d_jdk_42_m66_47 (pc' := 54) (teq h47).1 (by decide) (by decide) ?_
      refine g_iconst d_jdk_42_m66_54 (pc' := 55) rfl (z := 0) rfl ?_
      exact go_ireturn d_jdk_42_m66_55 rfl (Or.inr (Or.inl rfl)) rfl (ws' := []) (fun _ q => q) ⟨by rw [if_neg (fun q => absurd h47 (by rw [if_pos q]; decide))], rfl, rfl⟩
    · -- h47 does not hold
      refine g_ifNo d_jdk_42_m66_47 (pc' := 50) rfl (feq h47).1 ?_
      refine g_iconst d_jdk_42_m66_50 (pc' := 51) rfl (z := 1) rfl ?_
      refine g_goto d_jdk_42_m66_51 (pc' := 55) (by decide) (by decide) ?_
      exact go_ireturn d_jdk_42_m66_55 rfl (Or.inr (Or.inl rfl)) rfl (ws' := []) (fun _ q => q) ⟨by rw [if_pos (Decidable.byContradiction fun q => h47 (if_neg q))], rfl, rfl⟩
set_option maxRecDepth 65536 in
set_option maxHeartbeats 40000000 in
theorem rm_require1 {l : Launch} {Z : State} {a0 : Array Value} (hw : ∀ d ∈ tables_1, d.before a0 Z = true) (a : Addr) (h0 : Heap) :
    Con l Z EL ⟨"java/util/Objects", "requireNonNull", "(Ljava/lang/Object;)Ljava/lang/Object;"⟩ jdk_31_method_10_code 1 (some (.object "java/lang/Object")) [] { frames := 0, cells := 0, slots := 0, locals := 0 } #[(.ref a)] h0 [] (fun v h ws => v = some (.ref a) ∧ h0 = h ∧ ws = []) := by
  refine con_of (a0 := a0) (Ls := #[.val (.ref a)]) (plainFor_of_name pn4) (eW hw) (fun m => by first | (simp [entryFrame, mkF, argsToLocals, Value.category]; done) | rfl) ?_
  intro p e s m below meth c
  refine g_aloadN d_jdk_31_m10_0 (pc' := 1) rfl rfl rfl ?_
  refine g_ifnonnullYes d_jdk_31_m10_1 (pc' := 12) (by decide) (by decide) ?_
  refine g_aloadN d_jdk_31_m10_12 (pc' := 13) rfl rfl rfl ?_
  exact go_areturn d_jdk_31_m10_13 rfl rfl rfl (ws' := []) (fun _ q => q) ⟨rfl, rfl, rfl⟩
def kindOf (cs : List Int32) (su re en : Addr) : Value := if cs = [(115 : Int32), (117 : Int32), (98 : Int32), (106 : Int32), (101 : Int32), (99 : Int32), (116 : Int32)] then .ref su else if cs = [(114 : Int32), (101 : Int32), (115 : Int32), (111 : Int32), (117 : Int32), (114 : Int32), (99 : Int32), (101 : Int32)] then .ref re else if cs = [(101 : Int32), (110 : Int32), (118 : Int32)] then .ref en else .null
def expOf (cs : List Int32) : Int32 := if cs = [(115 : Int32), (117 : Int32), (98 : Int32), (106 : Int32), (101 : Int32), (99 : Int32), (116 : Int32)] then 0 else if cs = [(114 : Int32), (101 : Int32), (115 : Int32), (111 : Int32), (117 : Int32), (114 : Int32), (99 : Int32), (101 : Int32)] then 1 else if cs = [(101 : Int32), (110 : Int32), (118 : Int32)] then 2 else -1
set_option maxRecDepth 65536 in
set_option maxHeartbeats 40000000 in
theorem rm_equalsN {l : Launch} {Z : State} {a0 : Array Value} (hw : ∀ d ∈ tables_1, d.before a0 Z = true) (a b : Addr) (cs : List Int32) (h0 : Heap) (L : LatB Z h0 a b cs) :
    Con l Z EL ⟨"java/lang/String", "equals", "(Ljava/lang/Object;)Z"⟩ jdk_42_method_66_code 3 (some .boolean) [] { frames := 0, cells := 0, slots := 0, locals := 0 } #[(.ref a), .null] h0 [] (fun v h ws => v = some (.int 0) ∧ h0 = h ∧ ws = []) := by
  refine con_of (a0 := a0) (Ls := #[.val (.ref a), .val .null, .unset]) (plainFor_of_name pn1) (eW hw) (fun m => by first | (simp [entryFrame, mkF, argsToLocals, Value.category]; done) | rfl) ?_
  intro p e s m below meth c
  refine g_aloadN d_jdk_42_m66_0 (pc' := 1) rfl rfl rfl ?_
  refine g_aloadN d_jdk_42_m66_1 (pc' := 2) rfl rfl rfl ?_
  refine g_acmp d_jdk_42_m66_2 rfl rfl (same := false) (decide_eq_false (fun q => nomatch q)) (by decide) (pc' := 7) rfl ?_
  refine g_aloadN d_jdk_42_m66_7 (pc' := 8) rfl rfl rfl ?_
  refine go_instNull d_jdk_42_m66_8 (pc' := 11) rfl ?_
  refine g_ifYes d_jdk_42_m66_11 (pc' := 54) (teq (by decide : (0 : Int32) = (0 : Int32))).1 (by decide) (by decide) ?_
  refine g_iconst d_jdk_42_m66_54 (pc' := 55) rfl (z := 0) rfl ?_
  exact go_ireturn d_jdk_42_m66_55 rfl (Or.inr (Or.inl rfl)) rfl (ws' := []) (fun _ q => q) ⟨rfl, rfl, rfl⟩
set_option maxRecDepth 65536 in
set_option maxHeartbeats 40000000 in
theorem rm_exp {l : Launch} {Z : State} {a0 : Array Value} (hw : ∀ d ∈ tables_1, d.before a0 Z = true) (cs : List Int32) (a b : Addr) (co : Int32) (h0 : Heap) (hN : cs.length ≤ 4000) (hB : Byt cs) (L : LatB Z h0 a b cs) (Sc : Sta Z Z.heap "java/lang/String" "COMPACT_STRINGS" "Z" (.int co)) (hco : ¬ co = 0) :
    Con l Z EL ⟨"com/example/sundew/sundew/KindOfVariablePinLaw", "expected", "(Ljava/lang/String;)I"⟩ method_3_code 1 (some .int) [] { frames := 2, cells := 6, slots := 84, locals := 28 } #[(.ref a)] h0 [] (fun v h ws => v = some (.int (expOf cs)) ∧ ws = [] ∧ Keep h0 h []) := by
  refine con_of (a0 := a0) (Ls := #[.val (.ref a)]) (plainFor_of_name pn5) (eW hw) (fun m => by first | (simp [entryFrame, mkF, argsToLocals, Value.category]; done) | rfl) ?_
  intro p e s m below meth c
  refine g_aloadN d_m3_0 (pc' := 1) rfl rfl rfl ?_
  refine g_ifnonnullYes d_m3_1 (pc' := 6) (by decide) (by decide) ?_
  refine g_aloadN d_m3_6 (pc' := 7) rfl rfl rfl ?_
  refine go_ldcR d_m3_7 (w0 hw) (sA hw) (vs := [(.int (115 : Int32)), (.int (117 : Int32)), (.int (98 : Int32)), (.int (106 : Int32)), (.int (101 : Int32)), (.int (99 : Int32)), (.int (116 : Int32))]) (z := 7) (by decide) ⟨by decide, by decide⟩ (by decide) (by decide) (n := 28) (by decide) (by decide) (by decide) (by decide) (pc' := 9) rfl ?_
  intro h66 a67 b69 k70 E68 X71 F72 G73 A74 N75
  have L76 : LatB Z h66 a67 b69 [(115 : Int32), (117 : Int32), (98 : Int32), (106 : Int32), (101 : Int32), (99 : Int32), (116 : Int32)] := LatB.mk X71 F72 G73 A74 rfl rfl
  refine go_virtual d_m3_9 (rm_equals hw cs [(115 : Int32), (117 : Int32), (98 : Int32), (106 : Int32), (101 : Int32), (99 : Int32), (116 : Int32)] a _ a67 _ co h66 hN (Nat.le_of_ble_eq_true rfl) hB (Byt.cons ⟨by decide, by decide⟩ (Byt.cons ⟨by decide, by decide⟩ (Byt.cons ⟨by decide, by decide⟩ (Byt.cons ⟨by decide, by decide⟩ (Byt.cons ⟨by decide, by decide⟩ (Byt.cons ⟨by decide, by decide⟩ (Byt.cons ⟨by decide, by decide⟩ Byt.nil))))))) (L.ext E68) L76 Sc hco) (fun _ q => q) (L.ext E68).1 (w79 hw) (w80 hw) (w82 hw) (nf_sel (w82 hw)) (w81 hw) (w1 hw) (w83 hw) (by decide) (argsL := [(.ref a67)]) (rest := []) (lenOf pd10 rfl) rfl rfl rfl (W := 0) (Nat.le_of_ble_eq_true rfl) (by decide) (by decide) (by decide) (by decide) (pc' := 12) rfl ?_
  rintro _ _ _ ⟨rfl, rfl, rfl⟩ z77
  show Go _ _ _ _ _ _ _ _ _ _ _ _ _ _ _ _ _ _ _ _ _ _ _ _ [(.int (if cs = [(115 : Int32), (117 : Int32), (98 : Int32), (106 : Int32), (101 : Int32), (99 : Int32), (116 : Int32)] then 1 else 0))] _
  by_cases q78 : cs = [(115 : Int32), (117 : Int32), (98 : Int32), (106 : Int32), (101 : Int32), (99 : Int32), (116 : Int32)]
  · -- the same
    rw [if_pos q78]
    refine g_ifNo d_m3_12 (pc' := 15) rfl (feq (by decide : ¬ ((1 : Int32) = (0 : Int32)))).1 ?_
    refine g_iconst d_m3_15 (pc' := 16) rfl (z := 0) rfl ?_
    have K79 : Keep h0 h66 [] := ((Keep.refl h0 []).ext E68)
    exact go_ireturn d_m3_16 rfl (Or.inl rfl) rfl (ws' := []) (fun _ q => q) ⟨congrArg (fun z => some (Value.int z)) (Eq.symm (by unfold expOf; rw [if_pos q78])), rfl, K79⟩
  · -- another
    rw [if_neg q78]
    refine g_ifYes d_m3_12 (pc' := 17) (teq (by decide : (0 : Int32) = (0 : Int32))).1 (by decide) (by decide) ?_
    refine g_aloadN d_m3_17 (pc' := 18) rfl rfl rfl ?_
    refine go_ldcR d_m3_18 (w146 hw) (sA hw) (vs := [(.int (114 : Int32)), (.int (101 : Int32)), (.int (115 : Int32)), (.int (111 : Int32)), (.int (117 : Int32)), (.int (114 : Int32)), (.int (99 : Int32)), (.int (101 : Int32))]) (z := 8) (by decide) ⟨by decide, by decide⟩ (by decide) (by decide) (n := 32) (by decide) (by decide) (by decide) (by decide) (pc' := 20) rfl ?_
    intro h80 a81 b83 k84 E82 X85 F86 G87 A88 N89
    have L90 : LatB Z h80 a81 b83 [(114 : Int32), (101 : Int32), (115 : Int32), (111 : Int32), (117 : Int32), (114 : Int32), (99 : Int32), (101 : Int32)] := LatB.mk X85 F86 G87 A88 rfl rfl
    refine go_virtual d_m3_20 (rm_equals hw cs [(114 : Int32), (101 : Int32), (115 : Int32), (111 : Int32), (117 : Int32), (114 : Int32), (99 : Int32), (101 : Int32)] a _ a81 _ co h80 hN (Nat.le_of_ble_eq_true rfl) hB (Byt.cons ⟨by decide, by decide⟩ (Byt.cons ⟨by decide, by decide⟩ (Byt.cons ⟨by decide, by decide⟩ (Byt.cons ⟨by decide, by decide⟩ (Byt.cons ⟨by decide, by decide⟩ (Byt.cons ⟨by decide, by decide⟩ (Byt.cons ⟨by decide, by decide⟩ (Byt.cons ⟨by decide, by decide⟩ Byt.nil)))))))) ((L.ext E68).ext E82) L90 Sc hco) (fun _ q => q) ((L.ext E68).ext E82).1 (w79 hw) (w80 hw) (w82 hw) (nf_sel (w82 hw)) (w81 hw) (w1 hw) (w83 hw) (by decide) (argsL := [(.ref a81)]) (rest := []) (lenOf pd10 rfl) rfl rfl rfl (W := 0) (Nat.le_of_ble_eq_true rfl) (by decide) (by decide) (by decide) (by decide) (pc' := 23) rfl ?_
    rintro _ _ _ ⟨rfl, rfl, rfl⟩ z91
    show Go _ _ _ _ _ _ _ _ _ _ _ _ _ _ _ _ _ _ _ _ _ _ _ _ [(.int (if cs = [(114 : Int32), (101 : Int32), (115 : Int32), (111 : Int32), (117 : Int32), (114 : Int32), (99 : Int32), (101 : Int32)] then 1 else 0))] _
    by_cases q92 : cs = [(114 : Int32), (101 : Int32), (115 : Int32), (111 : Int32), (117 : Int32), (114 : Int32), (99 : Int32), (101 : Int32)]
    · -- the same
      rw [if_pos q92]
      refine g_ifNo d_m3_23 (pc' := 26) rfl (feq (by decide : ¬ ((1 : Int32) = (0 : Int32)))).1 ?_
      refine g_iconst d_m3_26 (pc' := 27) rfl (z := 1) rfl ?_
      have K93 : Keep h0 h66 [] := ((Keep.refl h0 []).ext E68)
      have K94 : Keep h0 h80 [] := (K93.ext E82)
      exact go_ireturn d_m3_27 rfl (Or.inl rfl) rfl (ws' := []) (fun _ q => q) ⟨congrArg (fun z => some (Value.int z)) (Eq.symm (by unfold expOf; rw [if_neg q78, if_pos q92])), rfl, K94⟩
    · -- another
      rw [if_neg q92]
      refine g_ifYes d_m3_23 (pc' := 28) (teq (by decide : (0 : Int32) = (0 : Int32))).1 (by decide) (by decide) ?_
      refine g_aloadN d_m3_28 (pc' := 29) rfl rfl rfl ?_
      refine go_ldcR d_m3_29 (w147 hw) (sA hw) (vs := [(.int (101 : Int32)), (.int (110 : Int32)), (.int (118 : Int32))]) (z := 3) (by decide) ⟨by decide, by decide⟩ (by decide) (by decide) (n := 12) (by decide) (by decide) (by decide) (by decide) (pc' := 31) rfl ?_
      intro h95 a96 b98 k99 E97 X100 F101 G102 A103 N104
      have L105 : LatB Z h95 a96 b98 [(101 : Int32), (110 : Int32), (118 : Int32)] := LatB.mk X100 F101 G102 A103 rfl rfl
      refine go_virtual d_m3_31 (rm_equals hw cs [(101 : Int32), (110 : Int32), (118 : Int32)] a _ a96 _ co h95 hN (Nat.le_of_ble_eq_true rfl) hB (Byt.cons ⟨by decide, by decide⟩ (Byt.cons ⟨by decide, by decide⟩ (Byt.cons ⟨by decide, by decide⟩ Byt.nil))) (((L.ext E68).ext E82).ext E97) L105 Sc hco) (fun _ q => q) (((L.ext E68).ext E82).ext E97).1 (w79 hw) (w80 hw) (w82 hw) (nf_sel (w82 hw)) (w81 hw) (w1 hw) (w83 hw) (by decide) (argsL := [(.ref a96)]) (rest := []) (lenOf pd10 rfl) rfl rfl rfl (W := 0) (Nat.le_of_ble_eq_true rfl) (by decide) (by decide) (by decide) (by decide) (pc' := 34) rfl ?_
      rintro _ _ _ ⟨rfl, rfl, rfl⟩ z106
      show Go _ _ _ _ _ _ _ _ _ _ _ _ _ _ _ _ _ _ _ _ _ _ _ _ [(.int (if cs = [(101 : Int32), (110 : Int32), (118 : Int32)] then 1 else 0))] _
      by_cases q107 : cs = [(101 : Int32), (110 : Int32), (118 : Int32)]
      · -- the same
        rw [if_pos q107]
        refine g_ifNo d_m3_34 (pc' := 37) rfl (feq (by decide : ¬ ((1 : Int32) = (0 : Int32)))).1 ?_
        refine g_iconst d_m3_37 (pc' := 38) rfl (z := 2) rfl ?_
        have K108 : Keep h0 h66 [] := ((Keep.refl h0 []).ext E68)
        have K109 : Keep h0 h80 [] := (K108.ext E82)
        have K110 : Keep h0 h95 [] := (K109.ext E97)
        exact go_ireturn d_m3_38 rfl (Or.inl rfl) rfl (ws' := []) (fun _ q => q) ⟨congrArg (fun z => some (Value.int z)) (Eq.symm (by unfold expOf; rw [if_neg q78, if_neg q92, if_pos q107])), rfl, K110⟩
      · -- another
        rw [if_neg q107]
        refine g_ifYes d_m3_34 (pc' := 39) (teq (by decide : (0 : Int32) = (0 : Int32))).1 (by decide) (by decide) ?_
        refine g_iconst d_m3_39 (pc' := 40) rfl (z := (-1)) rfl ?_
        have K111 : Keep h0 h66 [] := ((Keep.refl h0 []).ext E68)
        have K112 : Keep h0 h80 [] := (K111.ext E82)
        have K113 : Keep h0 h95 [] := (K112.ext E97)
        exact go_ireturn d_m3_40 rfl (Or.inl rfl) rfl (ws' := []) (fun _ q => q) ⟨congrArg (fun z => some (Value.int z)) (Eq.symm (by unfold expOf; rw [if_neg q78, if_neg q92, if_neg q107])), rfl, K113⟩
set_option maxRecDepth 65536 in
set_option maxHeartbeats 40000000 in
theorem rm_expN {l : Launch} {Z : State} {a0 : Array Value} (hw : ∀ d ∈ tables_1, d.before a0 Z = true) (h0 : Heap) :
    Con l Z EL ⟨"com/example/sundew/sundew/KindOfVariablePinLaw", "expected", "(Ljava/lang/String;)I"⟩ method_3_code 1 (some .int) [] { frames := 0, cells := 0, slots := 0, locals := 0 } #[.null] h0 [] (fun v h ws => v = some (.int (-1 : Int32)) ∧ h0 = h ∧ ws = []) := by
  refine con_of (a0 := a0) (Ls := #[.val .null]) (plainFor_of_name pn5) (eW hw) (fun m => by first | (simp [entryFrame, mkF, argsToLocals, Value.category]; done) | rfl) ?_
  intro p e s m below meth c
  refine g_aloadN d_m3_0 (pc' := 1) rfl rfl rfl ?_
  refine g_ifnonnullNo d_m3_1 (pc' := 4) rfl ?_
  refine g_iconst d_m3_4 (pc' := 5) rfl (z := (-1)) rfl ?_
  exact go_ireturn d_m3_5 rfl (Or.inl rfl) rfl (ws' := []) (fun _ q => q) ⟨rfl, rfl, rfl⟩
set_option maxRecDepth 65536 in
set_option maxHeartbeats 40000000 in
theorem rm_empty {l : Launch} {Z : State} {a0 : Array Value} (hw : ∀ d ∈ tables_1, d.before a0 Z = true) (em : Addr) (h0 : Heap) (Se : Sta Z Z.heap "java/util/Optional" "EMPTY" "Ljava/util/Optional;" (.ref em)) :
    Con l Z EL ⟨"java/util/Optional", "empty", "()Ljava/util/Optional;"⟩ jdk_32_method_1_code 1 (some (.object "java/util/Optional")) [] { frames := 0, cells := 0, slots := 0, locals := 0 } #[] h0 [] (fun v h ws => v = some (.ref em) ∧ h0 = h ∧ ws = []) := by
  refine con_of (a0 := a0) (Ls := #[.unset]) (plainFor_of_name pn6) (eW hw) (fun m => by first | (simp [entryFrame, mkF, argsToLocals, Value.category]; done) | rfl) ?_
  intro p e s m below meth c
  refine go_getstatic d_jdk_32_m1_0 (w96 hw) Via.refl Se (pc' := 3) rfl ?_
  refine g_astoreN d_jdk_32_m1_3 (pc' := 4) (Ls' := #[.val (.ref em)]) rfl rfl rfl ?_
  refine g_aloadN d_jdk_32_m1_4 (pc' := 5) rfl rfl rfl ?_
  exact go_areturn d_jdk_32_m1_5 rfl rfl rfl (ws' := []) (fun _ q => q) ⟨rfl, rfl, rfl⟩
set_option maxRecDepth 65536 in
set_option maxHeartbeats 40000000 in
theorem rm_optInit {l : Launch} {Z : State} {a0 : Array Value} (hw : ∀ d ∈ tables_1, d.before a0 Z = true) (a x : Addr) (o1 : Value) (h0 : Heap) (E : Exa Z h0 a "java/util/Optional") (F : Fld Z h0 a "java/util/Optional" "value" "Ljava/lang/Object;" o1) :
    Con l Z EL ⟨"java/util/Optional", "<init>", "(Ljava/lang/Object;)V"⟩ jdk_32_method_2_code 2 none [] { frames := 1, cells := 0, slots := 0, locals := 12 } #[(.ref a), (.ref x)] h0 [a] (fun v h ws => v = none ∧ ws = [] ∧ Keep h0 h [a] ∧ Fld Z h a "java/util/Optional" "value" "Ljava/lang/Object;" (.ref x)) := by
  refine con_of (a0 := a0) (Ls := #[.val (.ref a), .val (.ref x)]) (plainFor_of_name pn6) (eW hw) (fun m => by first | (simp [entryFrame, mkF, argsToLocals, Value.category]; done) | rfl) ?_
  intro p e s m below meth c
  refine g_aloadN d_jdk_32_m2_0 (pc' := 1) rfl rfl rfl ?_
  refine go_init d_jdk_32_m2_1 (w131 hw) (w64 hw) (w65 hw) rfl (by decide) (W := 0) (Nat.le_of_ble_eq_true rfl) (by decide) (pc' := 4) rfl ?_
  refine g_aloadN d_jdk_32_m2_4 (pc' := 5) rfl rfl rfl ?_
  refine g_aloadN d_jdk_32_m2_5 (pc' := 6) rfl rfl rfl ?_
  refine go_putfield d_jdk_32_m2_6 (w132 hw) Via.refl F E (Or.inr ⟨(w133 hw), rfl, rfl⟩) (w122 hw) (ty := (.object "java/lang/Object")) (by decide) (v' := (.ref x)) rfl rfl (List.mem_of_getElem? (i := 0) rfl) (pc' := 9) rfl ?_
  intro h114 W115
  have F116 := Fld.same W115 F
  have K117 : Keep h0 h114 [a] := ((Keep.refl h0 [a]).wr W115 (Or.inl (List.mem_of_getElem? (i := 0) rfl)))
  exact go_return d_jdk_32_m2_9 rfl (ws' := []) all0 ⟨rfl, rfl, K117, F116⟩
set_option maxRecDepth 65536 in
set_option maxHeartbeats 40000000 in
theorem rm_of {l : Launch} {Z : State} {a0 : Array Value} (hw : ∀ d ∈ tables_1, d.before a0 Z = true) (x : Addr) (h0 : Heap) :
    Con l Z EL ⟨"java/util/Optional", "of", "(Ljava/lang/Object;)Ljava/util/Optional;"⟩ jdk_32_method_3_code 1 (some (.object "java/util/Optional")) [] { frames := 2, cells := 1, slots := 1, locals := 26 } #[(.ref x)] h0 [] (fun v h ws => ∃ o, v = some (.ref o) ∧ ws = [] ∧ h0.size ≤ o ∧ Keep h0 h [] ∧ Exa Z h o "java/util/Optional" ∧ Fld Z h o "java/util/Optional" "value" "Ljava/lang/Object;" (.ref x)) := by
  refine con_of (a0 := a0) (Ls := #[.val (.ref x)]) (plainFor_of_name pn6) (eW hw) (fun m => by first | (simp [entryFrame, mkF, argsToLocals, Value.category]; done) | rfl) ?_
  intro p e s m below meth c
  refine go_new d_jdk_32_m3_0 (w121 hw) (w122 hw) (w94 hw) (by decide) (by decide) (pc' := 3) rfl ?_
  intro h118 a119 g120 E121 A122 D123
  have F124 : Fld Z h118 a119 "java/util/Optional" "value" "Ljava/lang/Object;" .null := D123 (Or.inr (w133 hw)) (ty := (.object "java/lang/Object")) (by decide)
  refine g_dup d_jdk_32_m3_3 (pc' := 4) rfl rfl ?_
  refine g_aloadN d_jdk_32_m3_4 (pc' := 5) rfl rfl rfl ?_
  refine go_static d_jdk_32_m3_5 (rm_require1 hw x h118) all0 (w123 hw) (w124 hw) (w125 hw) (w126 hw) (by decide) (argsL := [(.ref x)]) (rest := [(.ref a119), (.ref a119)]) (lenOf pd11 rfl) rfl rfl rfl (W := 2) (Nat.le_of_ble_eq_true rfl) (by decide) (by decide) (by decide) (by decide) (pc' := 8) rfl ?_
  rintro _ _ _ ⟨rfl, rfl, rfl⟩ z125
  show Go _ _ _ _ _ _ _ _ _ _ _ _ _ _ _ _ _ _ _ _ _ _ _ _ [(.ref x), (.ref a119), (.ref a119)] _
  refine go_special d_jdk_32_m3_8 (rm_optInit hw a119 x _ h118 A122 F124) (fun _ q => q) rfl (w127 hw) (w128 hw) (w94 hw) (w130 hw) (by decide) (argsL := [(.ref x)]) (rest := [(.ref a119)]) (lenOf pd12 rfl) rfl rfl rfl (W := 1) (Nat.le_of_ble_eq_true rfl) (by decide) (by decide) (by decide) (by decide) (pc' := 11) rfl ?_
  rintro _ h126 _ ⟨rfl, rfl, KI, FI⟩ hz
  show Go _ _ _ _ _ _ _ _ _ _ _ _ _ _ _ _ _ _ _ _ _ _ _ _ [(.ref a119)] _
  have K127 : Keep h0 h118 [] := ((Keep.refl h0 []).ext E121)
  have K128 : Keep h0 h126 [] := (K127.trans KI (allS (Or.inr (Nat.le_of_eq g120.symm)) all0))
  exact go_areturn d_jdk_32_m3_11 rfl rfl rfl (ws' := []) all0 ⟨_, rfl, rfl, (Nat.le_of_eq g120.symm), K128, (A122.keep KI), FI⟩
set_option maxRecDepth 65536 in
set_option maxHeartbeats 40000000 in
theorem rm_isP1 {l : Launch} {Z : State} {a0 : Array Value} (hw : ∀ d ∈ tables_1, d.before a0 Z = true) (o x : Addr) (h0 : Heap) (F : Fld Z h0 o "java/util/Optional" "value" "Ljava/lang/Object;" (.ref x)) :
    Con l Z EL ⟨"java/util/Optional", "isPresent", "()Z"⟩ jdk_32_method_6_code 1 (some .boolean) [] { frames := 0, cells := 0, slots := 0, locals := 0 } #[(.ref o)] h0 [] (fun v h ws => v = some (.int 1) ∧ h0 = h ∧ ws = []) := by
  refine con_of (a0 := a0) (Ls := #[.val (.ref o)]) (plainFor_of_name pn6) (eW hw) (fun m => by first | (simp [entryFrame, mkF, argsToLocals, Value.category]; done) | rfl) ?_
  intro p e s m below meth c
  refine g_aloadN d_jdk_32_m6_0 (pc' := 1) rfl rfl rfl ?_
  refine go_getfield d_jdk_32_m6_1 (host := "") (Or.inl (w132 hw)) Via.refl F (pc' := 4) rfl ?_
  refine g_ifnullNo d_jdk_32_m6_4 (pc' := 7) rfl ?_
  refine g_iconst d_jdk_32_m6_7 (pc' := 8) rfl (z := 1) rfl ?_
  refine g_goto d_jdk_32_m6_8 (pc' := 12) (by decide) (by decide) ?_
  exact go_ireturn d_jdk_32_m6_12 rfl (Or.inr (Or.inl rfl)) rfl (ws' := []) (fun _ q => q) ⟨rfl, rfl, rfl⟩
set_option maxRecDepth 65536 in
set_option maxHeartbeats 40000000 in
theorem rm_isP0 {l : Launch} {Z : State} {a0 : Array Value} (hw : ∀ d ∈ tables_1, d.before a0 Z = true) (o : Addr) (h0 : Heap) (F : Fld Z h0 o "java/util/Optional" "value" "Ljava/lang/Object;" .null) :
    Con l Z EL ⟨"java/util/Optional", "isPresent", "()Z"⟩ jdk_32_method_6_code 1 (some .boolean) [] { frames := 0, cells := 0, slots := 0, locals := 0 } #[(.ref o)] h0 [] (fun v h ws => v = some (.int 0) ∧ h0 = h ∧ ws = []) := by
  refine con_of (a0 := a0) (Ls := #[.val (.ref o)]) (plainFor_of_name pn6) (eW hw) (fun m => by first | (simp [entryFrame, mkF, argsToLocals, Value.category]; done) | rfl) ?_
  intro p e s m below meth c
  refine g_aloadN d_jdk_32_m6_0 (pc' := 1) rfl rfl rfl ?_
  refine go_getfield d_jdk_32_m6_1 (host := "") (Or.inl (w132 hw)) Via.refl F (pc' := 4) rfl ?_
  refine g_ifnullYes d_jdk_32_m6_4 (pc' := 11) (by decide) (by decide) ?_
  refine g_iconst d_jdk_32_m6_11 (pc' := 12) rfl (z := 0) rfl ?_
  exact go_ireturn d_jdk_32_m6_12 rfl (Or.inr (Or.inl rfl)) rfl (ws' := []) (fun _ q => q) ⟨rfl, rfl, rfl⟩
set_option maxRecDepth 65536 in
set_option maxHeartbeats 40000000 in
theorem rm_get {l : Launch} {Z : State} {a0 : Array Value} (hw : ∀ d ∈ tables_1, d.before a0 Z = true) (o x : Addr) (h0 : Heap) (F : Fld Z h0 o "java/util/Optional" "value" "Ljava/lang/Object;" (.ref x)) :
    Con l Z EL ⟨"java/util/Optional", "get", "()Ljava/lang/Object;"⟩ jdk_32_method_5_code 1 (some (.object "java/lang/Object")) [] { frames := 0, cells := 0, slots := 0, locals := 0 } #[(.ref o)] h0 [] (fun v h ws => v = some (.ref x) ∧ h0 = h ∧ ws = []) := by
  refine con_of (a0 := a0) (Ls := #[.val (.ref o)]) (plainFor_of_name pn6) (eW hw) (fun m => by first | (simp [entryFrame, mkF, argsToLocals, Value.category]; done) | rfl) ?_
  intro p e s m below meth c
  refine g_aloadN d_jdk_32_m5_0 (pc' := 1) rfl rfl rfl ?_
  refine go_getfield d_jdk_32_m5_1 (host := "") (Or.inl (w132 hw)) Via.refl F (pc' := 4) rfl ?_
  refine g_ifnonnullYes d_jdk_32_m5_4 (pc' := 17) (by decide) (by decide) ?_
  refine g_aloadN d_jdk_32_m5_17 (pc' := 18) rfl rfl rfl ?_
  refine go_getfield d_jdk_32_m5_18 (host := "") (Or.inl (w132 hw)) Via.refl F (pc' := 21) rfl ?_
  exact go_areturn d_jdk_32_m5_21 rfl rfl rfl (ws' := []) (fun _ q => q) ⟨rfl, rfl, rfl⟩
set_option maxRecDepth 65536 in
set_option maxHeartbeats 40000000 in
theorem rm_values {l : Launch} {Z : State} {a0 : Array Value} (hw : ∀ d ∈ tables_1, d.before a0 Z = true) (va : Addr) (kv : ClassId) (su re en : Addr) (h0 : Heap) (Sv : Sta Z Z.heap "com/example/sundew/sundew/Holder$Kind" "$VALUES" "[Lcom/example/sundew/sundew/Holder$Kind;" (.ref va)) (Xv : Exa Z Z.heap va "[Lcom/example/sundew/sundew/Holder$Kind;") (Av : Arv Z Z.heap va kv (.object "com/example/sundew/sundew/Holder$Kind") 3 [.ref su, .ref re, .ref en] .null) :
    Con l Z EL ⟨"com/example/sundew/sundew/Holder$Kind", "values", "()[Lcom/example/sundew/sundew/Holder$Kind;"⟩ prog_11_method_1_code 0 (some (.array (.object "com/example/sundew/sundew/Holder$Kind"))) [] { frames := 1, cells := 1, slots := 3, locals := 14 } #[] h0 [] (fun v h ws => ∃ b k, v = some (.ref b) ∧ ws = [] ∧ Keep h0 h [] ∧ Arv Z h b k (.object "com/example/sundew/sundew/Holder$Kind") 3 [.ref su, .ref re, .ref en] .null) := by
  refine con_of (a0 := a0) (Ls := #[]) (plainFor_of_name pn7) (eW hw) (fun m => by first | (simp [entryFrame, mkF, argsToLocals, Value.category]; done) | rfl) ?_
  intro p e s m below meth c
  refine go_old (fun EX => ?_)
  refine go_getstatic d_prog_11_m1_0 (w100 hw) Via.refl Sv (pc' := 3) rfl ?_
  refine go_clone d_prog_11_m1_3 (w102 hw) (w103 hw) (w107 hw) (w105 hw) (w106 hw) (w108 hw) (Av.ext EX) (Xv.ext EX) rfl (by decide) (W := 0) (Nat.le_of_ble_eq_true rfl) (by decide) (cap := 3) (by decide) (by decide) (by decide) (pc' := 6) rfl ?_
  intro h129 b130 g131 E132 A133 X134
  refine go_checkcast d_prog_11_m1_6 (w113 hw) (Ins.self X134) (pc' := 9) rfl ?_
  have K135 : Keep h0 h129 [] := ((Keep.refl h0 []).ext E132)
  exact go_areturn d_prog_11_m1_9 rfl rfl rfl (ws' := []) all0 ⟨_, _, rfl, rfl, K135, A133⟩
set_option maxRecDepth 65536 in
set_option maxHeartbeats 40000000 in
theorem rm_ofv {l : Launch} {Z : State} {a0 : Array Value} (hw : ∀ d ∈ tables_1, d.before a0 Z = true) (cs : List Int32) (a b : Addr) (co : Int32) (va : Addr) (kv : ClassId) (su re en wsu bsu wre bre wen ben em : Addr) (h0 : Heap) (hN : cs.length ≤ 4000) (hB : Byt cs) (L : LatB Z h0 a b cs) (Sc : Sta Z Z.heap "java/lang/String" "COMPACT_STRINGS" "Z" (.int co)) (hco : ¬ co = 0) (Sv : Sta Z Z.heap "com/example/sundew/sundew/Holder$Kind" "$VALUES" "[Lcom/example/sundew/sundew/Holder$Kind;" (.ref va)) (Xv : Exa Z Z.heap va "[Lcom/example/sundew/sundew/Holder$Kind;") (Av : Arv Z Z.heap va kv (.object "com/example/sundew/sundew/Holder$Kind") 3 [.ref su, .ref re, .ref en] .null) (Fsu : Fld Z Z.heap su "com/example/sundew/sundew/Holder$Kind" "variable" "Ljava/lang/String;" (.ref wsu)) (Lsu : LatB Z Z.heap wsu bsu [(115 : Int32), (117 : Int32), (98 : Int32), (106 : Int32), (101 : Int32), (99 : Int32), (116 : Int32)]) (Fre : Fld Z Z.heap re "com/example/sundew/sundew/Holder$Kind" "variable" "Ljava/lang/String;" (.ref wre)) (Lre : LatB Z Z.heap wre bre [(114 : Int32), (101 : Int32), (115 : Int32), (111 : Int32), (117 : Int32), (114 : Int32), (99 : Int32), (101 : Int32)]) (Fen : Fld Z Z.heap en "com/example/sundew/sundew/Holder$Kind" "variable" "Ljava/lang/String;" (.ref wen)) (Len : LatB Z Z.heap wen ben [(101 : Int32), (110 : Int32), (118 : Int32)]) (Se : Sta Z Z.heap "java/util/Optional" "EMPTY" "Ljava/util/Optional;" (.ref em)) (Xe : Exa Z Z.heap em "java/util/Optional") (Fe : Fld Z Z.heap em "java/util/Optional" "value" "Ljava/lang/Object;" .null) :
    Con l Z EL ⟨"com/example/sundew/sundew/Holder$Kind", "ofVariable", "(Ljava/lang/String;)Ljava/util/Optional;"⟩ prog_11_method_6_code 6 (some (.object "java/util/Optional")) [] { frames := 3, cells := 2, slots := 4, locals := 38 } #[(.ref a)] h0 [] (fun v h ws => ∃ o, v = some (.ref o) ∧ ws = [] ∧ Exa Z h o "java/util/Optional" ∧ Fld Z h o "java/util/Optional" "value" "Ljava/lang/Object;" (kindOf cs su re en)) := by
  refine con_of (a0 := a0) (Ls := #[.val (.ref a), .unset, .unset, .unset, .unset, .unset]) (plainFor_of_name pn7) (eW hw) (fun m => by first | (simp [entryFrame, mkF, argsToLocals, Value.category]; done) | rfl) ?_
  intro p e s m below meth c
  refine go_old (fun EX => ?_)
  refine go_static d_prog_11_m6_0 (rm_empty hw em h0 Se) (fun _ q => q) (w92 hw) (w93 hw) (w94 hw) (w95 hw) (by decide) (argsL := []) (rest := []) (lenOf pd13 rfl) rfl rfl rfl (W := 0) (Nat.le_of_ble_eq_true rfl) (by decide) (by decide) (by decide) (by decide) (pc' := 3) rfl ?_
  rintro _ _ _ ⟨rfl, rfl, rfl⟩ z136
  show Go _ _ _ _ _ _ _ _ _ _ _ _ _ _ _ _ _ _ _ _ _ _ _ _ [(.ref em)] _
  refine g_astoreN d_prog_11_m6_3 (pc' := 4) (Ls' := #[.val (.ref a), .val (.ref em), .unset, .unset, .unset, .unset]) rfl rfl rfl ?_
  refine go_static d_prog_11_m6_4 (rm_values hw va kv su re en h0 Sv Xv Av) (fun _ q => q) (w97 hw) (w98 hw) (w90 hw) (w99 hw) (by decide) (argsL := []) (rest := []) (lenOf pd14 rfl) rfl rfl rfl (W := 0) (Nat.le_of_ble_eq_true rfl) (by decide) (by decide) (by decide) (by decide) (pc' := 7) rfl ?_
  rintro _ h137 _ ⟨vb, vk, rfl, rfl, Kv, Avb⟩ hz
  show Go _ _ _ _ _ _ _ _ _ _ _ _ _ _ _ _ _ _ _ _ _ _ _ _ [(.ref vb)] _
  refine g_astoreN d_prog_11_m6_7 (pc' := 8) (Ls' := #[.val (.ref a), .val (.ref em), .val (.ref vb), .unset, .unset, .unset]) rfl rfl rfl ?_
  refine g_aloadN d_prog_11_m6_8 (pc' := 9) rfl rfl rfl ?_
  refine go_arraylength d_prog_11_m6_9 Avb (pc' := 10) rfl ?_
  refine g_istoreN d_prog_11_m6_10 (pc' := 11) (Ls' := #[.val (.ref a), .val (.ref em), .val (.ref vb), .val (.int (3 : Int32)), .unset, .unset]) rfl rfl ?_
  refine g_iconst d_prog_11_m6_11 (pc' := 12) rfl (z := 0) rfl ?_
  refine g_istore d_prog_11_m6_12 (pc' := 14) (Ls' := #[.val (.ref a), .val (.ref em), .val (.ref vb), .val (.int (3 : Int32)), .val (.int (0 : Int32)), .unset]) rfl rfl ?_
  refine g_iload d_prog_11_m6_14 (pc' := 16) rfl rfl ?_
  refine g_iloadN d_prog_11_m6_16 (pc' := 17) rfl rfl ?_
  refine g_icmpNo d_prog_11_m6_17 (pc' := 20) rfl (tlt (by decide : (0 : Int32) < (3 : Int32))).2.1 ?_
  refine g_aloadN d_prog_11_m6_20 (pc' := 21) rfl rfl rfl ?_
  refine g_iload d_prog_11_m6_21 (pc' := 23) rfl rfl ?_
  refine go_aaload d_prog_11_m6_23 rfl Avb (v := (.ref su)) ⟨by decide, by decide⟩ rfl (pc' := 24) rfl ?_
  refine g_astore d_prog_11_m6_24 (pc' := 26) (Ls' := #[.val (.ref a), .val (.ref em), .val (.ref vb), .val (.int (3 : Int32)), .val (.int (0 : Int32)), .val (.ref su)]) rfl rfl rfl ?_
  refine g_aload d_prog_11_m6_26 (pc' := 28) rfl rfl rfl ?_
  refine go_getfield d_prog_11_m6_28 (host := "") (Or.inl (w115 hw)) Via.refl ((Fsu.ext EX).keep Kv nin0) (pc' := 31) rfl ?_
  refine g_aloadN d_prog_11_m6_31 (pc' := 32) rfl rfl rfl ?_
  refine go_virtual d_prog_11_m6_32 (rm_equals hw [(115 : Int32), (117 : Int32), (98 : Int32), (106 : Int32), (101 : Int32), (99 : Int32), (116 : Int32)] cs wsu _ a _ co h137 (Nat.le_of_ble_eq_true rfl) hN (Byt.cons ⟨by decide, by decide⟩ (Byt.cons ⟨by decide, by decide⟩ (Byt.cons ⟨by decide, by decide⟩ (Byt.cons ⟨by decide, by decide⟩ (Byt.cons ⟨by decide, by decide⟩ (Byt.cons ⟨by decide, by decide⟩ (Byt.cons ⟨by decide, by decide⟩ Byt.nil))))))) hB ((Lsu.ext EX).keep Kv nin0 nin0) (L.keep Kv nin0 nin0) Sc hco) (fun _ q => q) ((Lsu.ext EX).keep Kv nin0 nin0).1 (w117 hw) (w80 hw) (w82 hw) (nf_sel (w82 hw)) (w81 hw) (w1 hw) (w83 hw) (by decide) (argsL := [(.ref a)]) (rest := []) (lenOf pd10 rfl) rfl rfl rfl (W := 0) (Nat.le_of_ble_eq_true rfl) (by decide) (by decide) (by decide) (by decide) (pc' := 35) rfl ?_
  rintro _ _ _ ⟨rfl, rfl, rfl⟩ z138
  show Go _ _ _ _ _ _ _ _ _ _ _ _ _ _ _ _ _ _ _ _ _ _ _ _ [(.int (if [(115 : Int32), (117 : Int32), (98 : Int32), (106 : Int32), (101 : Int32), (99 : Int32), (116 : Int32)] = cs then 1 else 0))] _
  by_cases q139 : cs = [(115 : Int32), (117 : Int32), (98 : Int32), (106 : Int32), (101 : Int32), (99 : Int32), (116 : Int32)]
  · -- the same
    rw [if_pos q139.symm]
    refine g_ifNo d_prog_11_m6_35 (pc' := 38) rfl (feq (by decide : ¬ ((1 : Int32) = (0 : Int32)))).1 ?_
    refine g_aload d_prog_11_m6_38 (pc' := 40) rfl rfl rfl ?_
    refine go_static d_prog_11_m6_40 (rm_of hw su h137) (fun _ q => q) (w118 hw) (w119 hw) (w94 hw) (w120 hw) (by decide) (argsL := [(.ref su)]) (rest := []) (lenOf pd15 rfl) rfl rfl rfl (W := 0) (Nat.le_of_ble_eq_true rfl) (by decide) (by decide) (by decide) (by decide) (pc' := 43) rfl ?_
    rintro _ h140 _ ⟨o141, rfl, rfl, b142, K143, X144, F145⟩ z146
    show Go _ _ _ _ _ _ _ _ _ _ _ _ _ _ _ _ _ _ _ _ _ _ _ _ [(.ref o141)] _
    refine g_astoreN d_prog_11_m6_43 (pc' := 44) (Ls' := #[.val (.ref a), .val (.ref o141), .val (.ref vb), .val (.int (3 : Int32)), .val (.int (0 : Int32)), .val (.ref su)]) rfl rfl rfl ?_
    refine g_iinc d_prog_11_m6_44 (pc' := 47) (Ls' := #[.val (.ref a), .val (.ref o141), .val (.ref vb), .val (.int (3 : Int32)), .val (.int ((0 : Int32) + (1 : Int32))), .val (.ref su)]) rfl rfl rfl ?_
    refine g_goto d_prog_11_m6_47 (pc' := 14) (by decide) (by decide) ?_
    refine g_iload d_prog_11_m6_14 (pc' := 16) rfl rfl ?_
    refine g_iloadN d_prog_11_m6_16 (pc' := 17) rfl rfl ?_
    refine g_icmpNo d_prog_11_m6_17 (pc' := 20) rfl (tlt (by decide : ((0 : Int32) + (1 : Int32)) < (3 : Int32))).2.1 ?_
    refine g_aloadN d_prog_11_m6_20 (pc' := 21) rfl rfl rfl ?_
    refine g_iload d_prog_11_m6_21 (pc' := 23) rfl rfl ?_
    refine go_aaload d_prog_11_m6_23 rfl (Avb.keep K143 nin0) (v := (.ref re)) ⟨by decide, by decide⟩ rfl (pc' := 24) rfl ?_
    refine g_astore d_prog_11_m6_24 (pc' := 26) (Ls' := #[.val (.ref a), .val (.ref o141), .val (.ref vb), .val (.int (3 : Int32)), .val (.int ((0 : Int32) + (1 : Int32))), .val (.ref re)]) rfl rfl rfl ?_
    refine g_aload d_prog_11_m6_26 (pc' := 28) rfl rfl rfl ?_
    refine go_getfield d_prog_11_m6_28 (host := "") (Or.inl (w115 hw)) Via.refl (((Fre.ext EX).keep Kv nin0).keep K143 nin0) (pc' := 31) rfl ?_
    refine g_aloadN d_prog_11_m6_31 (pc' := 32) rfl rfl rfl ?_
    refine go_virtual d_prog_11_m6_32 (rm_equals hw [(114 : Int32), (101 : Int32), (115 : Int32), (111 : Int32), (117 : Int32), (114 : Int32), (99 : Int32), (101 : Int32)] cs wre _ a _ co h140 (Nat.le_of_ble_eq_true rfl) hN (Byt.cons ⟨by decide, by decide⟩ (Byt.cons ⟨by decide, by decide⟩ (Byt.cons ⟨by decide, by decide⟩ (Byt.cons ⟨by decide, by decide⟩ (Byt.cons ⟨by decide, by decide⟩ (Byt.cons ⟨by decide, by decide⟩ (Byt.cons ⟨by decide, by decide⟩ (Byt.cons ⟨by decide, by decide⟩ Byt.nil)))))))) hB (((Lre.ext EX).keep Kv nin0 nin0).keep K143 nin0 nin0) ((L.keep Kv nin0 nin0).keep K143 nin0 nin0) Sc hco) (fun _ q => q) (((Lre.ext EX).keep Kv nin0 nin0).keep K143 nin0 nin0).1 (w117 hw) (w80 hw) (w82 hw) (nf_sel (w82 hw)) (w81 hw) (w1 hw) (w83 hw) (by decide) (argsL := [(.ref a)]) (rest := []) (lenOf pd10 rfl) rfl rfl rfl (W := 0) (Nat.le_of_ble_eq_true rfl) (by decide) (by decide) (by decide) (by decide) (pc' := 35) rfl ?_
    rintro _ _ _ ⟨rfl, rfl, rfl⟩ z147
    show Go _ _ _ _ _ _ _ _ _ _ _ _ _ _ _ _ _ _ _ _ _ _ _ _ [(.int (if [(114 : Int32), (101 : Int32), (115 : Int32), (111 : Int32), (117 : Int32), (114 : Int32), (99 : Int32), (101 : Int32)] = cs then 1 else 0))] _
    rw [if_neg (by rw [q139]; decide)]
    refine g_ifYes d_prog_11_m6_35 (pc' := 44) (teq (by decide : (0 : Int32) = (0 : Int32))).1 (by decide) (by decide) ?_
    refine g_iinc d_prog_11_m6_44 (pc' := 47) (Ls' := #[.val (.ref a), .val (.ref o141), .val (.ref vb), .val (.int (3 : Int32)), .val (.int (((0 : Int32) + (1 : Int32)) + (1 : Int32))), .val (.ref re)]) rfl rfl rfl ?_
    refine g_goto d_prog_11_m6_47 (pc' := 14) (by decide) (by decide) ?_
    refine g_iload d_prog_11_m6_14 (pc' := 16) rfl rfl ?_
    refine g_iloadN d_prog_11_m6_16 (pc' := 17) rfl rfl ?_
    refine g_icmpNo d_prog_11_m6_17 (pc' := 20) rfl (tlt (by decide : (((0 : Int32) + (1 : Int32)) + (1 : Int32)) < (3 : Int32))).2.1 ?_
    refine g_aloadN d_prog_11_m6_20 (pc' := 21) rfl rfl rfl ?_
    refine g_iload d_prog_11_m6_21 (pc' := 23) rfl rfl ?_
    refine go_aaload d_prog_11_m6_23 rfl (Avb.keep K143 nin0) (v := (.ref en)) ⟨by decide, by decide⟩ rfl (pc' := 24) rfl ?_
    refine g_astore d_prog_11_m6_24 (pc' := 26) (Ls' := #[.val (.ref a), .val (.ref o141), .val (.ref vb), .val (.int (3 : Int32)), .val (.int (((0 : Int32) + (1 : Int32)) + (1 : Int32))), .val (.ref en)]) rfl rfl rfl ?_
    refine g_aload d_prog_11_m6_26 (pc' := 28) rfl rfl rfl ?_
    refine go_getfield d_prog_11_m6_28 (host := "") (Or.inl (w115 hw)) Via.refl (((Fen.ext EX).keep Kv nin0).keep K143 nin0) (pc' := 31) rfl ?_
    refine g_aloadN d_prog_11_m6_31 (pc' := 32) rfl rfl rfl ?_
    refine go_virtual d_prog_11_m6_32 (rm_equals hw [(101 : Int32), (110 : Int32), (118 : Int32)] cs wen _ a _ co h140 (Nat.le_of_ble_eq_true rfl) hN (Byt.cons ⟨by decide, by decide⟩ (Byt.cons ⟨by decide, by decide⟩ (Byt.cons ⟨by decide, by decide⟩ Byt.nil))) hB (((Len.ext EX).keep Kv nin0 nin0).keep K143 nin0 nin0) ((L.keep Kv nin0 nin0).keep K143 nin0 nin0) Sc hco) (fun _ q => q) (((Len.ext EX).keep Kv nin0 nin0).keep K143 nin0 nin0).1 (w117 hw) (w80 hw) (w82 hw) (nf_sel (w82 hw)) (w81 hw) (w1 hw) (w83 hw) (by decide) (argsL := [(.ref a)]) (rest := []) (lenOf pd10 rfl) rfl rfl rfl (W := 0) (Nat.le_of_ble_eq_true rfl) (by decide) (by decide) (by decide) (by decide) (pc' := 35) rfl ?_
    rintro _ _ _ ⟨rfl, rfl, rfl⟩ z148
    show Go _ _ _ _ _ _ _ _ _ _ _ _ _ _ _ _ _ _ _ _ _ _ _ _ [(.int (if [(101 : Int32), (110 : Int32), (118 : Int32)] = cs then 1 else 0))] _
    rw [if_neg (by rw [q139]; decide)]
    refine g_ifYes d_prog_11_m6_35 (pc' := 44) (teq (by decide : (0 : Int32) = (0 : Int32))).1 (by decide) (by decide) ?_
    refine g_iinc d_prog_11_m6_44 (pc' := 47) (Ls' := #[.val (.ref a), .val (.ref o141), .val (.ref vb), .val (.int (3 : Int32)), .val (.int ((((0 : Int32) + (1 : Int32)) + (1 : Int32)) + (1 : Int32))), .val (.ref en)]) rfl rfl rfl ?_
    refine g_goto d_prog_11_m6_47 (pc' := 14) (by decide) (by decide) ?_
    refine g_iload d_prog_11_m6_14 (pc' := 16) rfl rfl ?_
    refine g_iloadN d_prog_11_m6_16 (pc' := 17) rfl rfl ?_
    refine g_icmpYes d_prog_11_m6_17 (pc' := 50) (flt (by decide : ¬ (((((0 : Int32) + (1 : Int32)) + (1 : Int32)) + (1 : Int32)) < (3 : Int32)))).2.1 (by decide) (by decide) ?_
    refine g_aloadN d_prog_11_m6_50 (pc' := 51) rfl rfl rfl ?_
    exact go_areturn d_prog_11_m6_51 rfl rfl rfl (ws' := []) (fun _ q => q) ⟨_, rfl, rfl, X144, by unfold kindOf; rw [if_pos q139]; exact F145⟩
  · -- another
    rw [if_neg (fun z => q139 z.symm)]
    refine g_ifYes d_prog_11_m6_35 (pc' := 44) (teq (by decide : (0 : Int32) = (0 : Int32))).1 (by decide) (by decide) ?_
    refine g_iinc d_prog_11_m6_44 (pc' := 47) (Ls' := #[.val (.ref a), .val (.ref em), .val (.ref vb), .val (.int (3 : Int32)), .val (.int ((0 : Int32) + (1 : Int32))), .val (.ref su)]) rfl rfl rfl ?_
    refine g_goto d_prog_11_m6_47 (pc' := 14) (by decide) (by decide) ?_
    refine g_iload d_prog_11_m6_14 (pc' := 16) rfl rfl ?_
    refine g_iloadN d_prog_11_m6_16 (pc' := 17) rfl rfl ?_
    refine g_icmpNo d_prog_11_m6_17 (pc' := 20) rfl (tlt (by decide : ((0 : Int32) + (1 : Int32)) < (3 : Int32))).2.1 ?_
    refine g_aloadN d_prog_11_m6_20 (pc' := 21) rfl rfl rfl ?_
    refine g_iload d_prog_11_m6_21 (pc' := 23) rfl rfl ?_
    refine go_aaload d_prog_11_m6_23 rfl Avb (v := (.ref re)) ⟨by decide, by decide⟩ rfl (pc' := 24) rfl ?_
    refine g_astore d_prog_11_m6_24 (pc' := 26) (Ls' := #[.val (.ref a), .val (.ref em), .val (.ref vb), .val (.int (3 : Int32)), .val (.int ((0 : Int32) + (1 : Int32))), .val (.ref re)]) rfl rfl rfl ?_
    refine g_aload d_prog_11_m6_26 (pc' := 28) rfl rfl rfl ?_
    refine go_getfield d_prog_11_m6_28 (host := "") (Or.inl (w115 hw)) Via.refl ((Fre.ext EX).keep Kv nin0) (pc' := 31) rfl ?_
    refine g_aloadN d_prog_11_m6_31 (pc' := 32) rfl rfl rfl ?_
    refine go_virtual d_prog_11_m6_32 (rm_equals hw [(114 : Int32), (101 : Int32), (115 : Int32), (111 : Int32), (117 : Int32), (114 : Int32), (99 : Int32), (101 : Int32)] cs wre _ a _ co h137 (Nat.le_of_ble_eq_true rfl) hN (Byt.cons ⟨by decide, by decide⟩ (Byt.cons ⟨by decide, by decide⟩ (Byt.cons ⟨by decide, by decide⟩ (Byt.cons ⟨by decide, by decide⟩ (Byt.cons ⟨by decide, by decide⟩ (Byt.cons ⟨by decide, by decide⟩ (Byt.cons ⟨by decide, by decide⟩ (Byt.cons ⟨by decide, by decide⟩ Byt.nil)))))))) hB ((Lre.ext EX).keep Kv nin0 nin0) (L.keep Kv nin0 nin0) Sc hco) (fun _ q => q) ((Lre.ext EX).keep Kv nin0 nin0).1 (w117 hw) (w80 hw) (w82 hw) (nf_sel (w82 hw)) (w81 hw) (w1 hw) (w83 hw) (by decide) (argsL := [(.ref a)]) (rest := []) (lenOf pd10 rfl) rfl rfl rfl (W := 0) (Nat.le_of_ble_eq_true rfl) (by decide) (by decide) (by decide) (by decide) (pc' := 35) rfl ?_
    rintro _ _ _ ⟨rfl, rfl, rfl⟩ z149
    show Go _ _ _ _ _ _ _ _ _ _ _ _ _ _ _ _ _ _ _ _ _ _ _ _ [(.int (if [(114 : Int32), (101 : Int32), (115 : Int32), (111 : Int32), (117 : Int32), (114 : Int32), (99 : Int32), (101 : Int32)] = cs then 1 else 0))] _
    by_cases q150 : cs = [(114 : Int32), (101 : Int32), (115 : Int32), (111 : Int32), (117 : Int32), (114 : Int32), (99 : Int32), (101 : Int32)]
    · -- the same
      rw [if_pos q150.symm]
      refine g_ifNo d_prog_11_m6_35 (pc' := 38) rfl (feq (by decide : ¬ ((1 : Int32) = (0 : Int32)))).1 ?_
      refine g_aload d_prog_11_m6_38 (pc' := 40) rfl rfl rfl ?_
      refine go_static d_prog_11_m6_40 (rm_of hw re h137) (fun _ q => q) (w118 hw) (w119 hw) (w94 hw) (w120 hw) (by decide) (argsL := [(.ref re)]) (rest := []) (lenOf pd15 rfl) rfl rfl rfl (W := 0) (Nat.le_of_ble_eq_true rfl) (by decide) (by decide) (by decide) (by decide) (pc' := 43) rfl ?_
      rintro _ h151 _ ⟨o152, rfl, rfl, b153, K154, X155, F156⟩ z157
      show Go _ _ _ _ _ _ _ _ _ _ _ _ _ _ _ _ _ _ _ _ _ _ _ _ [(.ref o152)] _
      refine g_astoreN d_prog_11_m6_43 (pc' := 44) (Ls' := #[.val (.ref a), .val (.ref o152), .val (.ref vb), .val (.int (3 : Int32)), .val (.int ((0 : Int32) + (1 : Int32))), .val (.ref re)]) rfl rfl rfl ?_
      refine g_iinc d_prog_11_m6_44 (pc' := 47) (Ls' := #[.val (.ref a), .val (.ref o152), .val (.ref vb), .val (.int (3 : Int32)), .val (.int (((0 : Int32) + (1 : Int32)) + (1 : Int32))), .val (.ref re)]) rfl rfl rfl ?_
      refine g_goto d_prog_11_m6_47 (pc' := 14) (by decide) (by decide) ?_
      refine g_iload d_prog_11_m6_14 (pc' := 16) rfl rfl ?_
      refine g_iloadN d_prog_11_m6_16 (pc' := 17) rfl rfl ?_
      refine g_icmpNo d_prog_11_m6_17 (pc' := 20) rfl (tlt (by decide : (((0 : Int32) + (1 : Int32)) + (1 : Int32)) < (3 : Int32))).2.1 ?_
      refine g_aloadN d_prog_11_m6_20 (pc' := 21) rfl rfl rfl ?_
      refine g_iload d_prog_11_m6_21 (pc' := 23) rfl rfl ?_
      refine go_aaload d_prog_11_m6_23 rfl (Avb.keep K154 nin0) (v := (.ref en)) ⟨by decide, by decide⟩ rfl (pc' := 24) rfl ?_
      refine g_astore d_prog_11_m6_24 (pc' := 26) (Ls' := #[.val (.ref a), .val (.ref o152), .val (.ref vb), .val (.int (3 : Int32)), .val (.int (((0 : Int32) + (1 : Int32)) + (1 : Int32))), .val (.ref en)]) rfl rfl rfl ?_
      refine g_aload d_prog_11_m6_26 (pc' := 28) rfl rfl rfl ?_
      refine go_getfield d_prog_11_m6_28 (host := "") (Or.inl (w115 hw)) Via.refl (((Fen.ext EX).keep Kv nin0).keep K154 nin0) (pc' := 31) rfl ?_
      refine g_aloadN d_prog_11_m6_31 (pc' := 32) rfl rfl rfl ?_
      refine go_virtual d_prog_11_m6_32 (rm_equals hw [(101 : Int32), (110 : Int32), (118 : Int32)] cs wen _ a _ co h151 (Nat.le_of_ble_eq_true rfl) hN (Byt.cons ⟨by decide, by decide⟩ (Byt.cons ⟨by decide, by decide⟩ (Byt.cons ⟨by decide, by decide⟩ Byt.nil))) hB (((Len.ext EX).keep Kv nin0 nin0).keep K154 nin0 nin0) ((L.keep Kv nin0 nin0).keep K154 nin0 nin0) Sc hco) (fun _ q => q) (((Len.ext EX).keep Kv nin0 nin0).keep K154 nin0 nin0).1 (w117 hw) (w80 hw) (w82 hw) (nf_sel (w82 hw)) (w81 hw) (w1 hw) (w83 hw) (by decide) (argsL := [(.ref a)]) (rest := []) (lenOf pd10 rfl) rfl rfl rfl (W := 0) (Nat.le_of_ble_eq_true rfl) (by decide) (by decide) (by decide) (by decide) (pc' := 35) rfl ?_
      rintro _ _ _ ⟨rfl, rfl, rfl⟩ z158
      show Go _ _ _ _ _ _ _ _ _ _ _ _ _ _ _ _ _ _ _ _ _ _ _ _ [(.int (if [(101 : Int32), (110 : Int32), (118 : Int32)] = cs then 1 else 0))] _
      rw [if_neg (by rw [q150]; decide)]
      refine g_ifYes d_prog_11_m6_35 (pc' := 44) (teq (by decide : (0 : Int32) = (0 : Int32))).1 (by decide) (by decide) ?_
      refine g_iinc d_prog_11_m6_44 (pc' := 47) (Ls' := #[.val (.ref a), .val (.ref o152), .val (.ref vb), .val (.int (3 : Int32)), .val (.int ((((0 : Int32) + (1 : Int32)) + (1 : Int32)) + (1 : Int32))), .val (.ref en)]) rfl rfl rfl ?_
      refine g_goto d_prog_11_m6_47 (pc' := 14) (by decide) (by decide) ?_
      refine g_iload d_prog_11_m6_14 (pc' := 16) rfl rfl ?_
      refine g_iloadN d_prog_11_m6_16 (pc' := 17) rfl rfl ?_
      refine g_icmpYes d_prog_11_m6_17 (pc' := 50) (flt (by decide : ¬ (((((0 : Int32) + (1 : Int32)) + (1 : Int32)) + (1 : Int32)) < (3 : Int32)))).2.1 (by decide) (by decide) ?_
      refine g_aloadN d_prog_11_m6_50 (pc' := 51) rfl rfl rfl ?_
      exact go_areturn d_prog_11_m6_51 rfl rfl rfl (ws' := []) (fun _ q => q) ⟨_, rfl, rfl, X155, by unfold kindOf; rw [if_neg q139, if_pos q150]; exact F156⟩
    · -- another
      rw [if_neg (fun z => q150 z.symm)]
      refine g_ifYes d_prog_11_m6_35 (pc' := 44) (teq (by decide : (0 : Int32) = (0 : Int32))).1 (by decide) (by decide) ?_
      refine g_iinc d_prog_11_m6_44 (pc' := 47) (Ls' := #[.val (.ref a), .val (.ref em), .val (.ref vb), .val (.int (3 : Int32)), .val (.int (((0 : Int32) + (1 : Int32)) + (1 : Int32))), .val (.ref re)]) rfl rfl rfl ?_
      refine g_goto d_prog_11_m6_47 (pc' := 14) (by decide) (by decide) ?_
      refine g_iload d_prog_11_m6_14 (pc' := 16) rfl rfl ?_
      refine g_iloadN d_prog_11_m6_16 (pc' := 17) rfl rfl ?_
      refine g_icmpNo d_prog_11_m6_17 (pc' := 20) rfl (tlt (by decide : (((0 : Int32) + (1 : Int32)) + (1 : Int32)) < (3 : Int32))).2.1 ?_
      refine g_aloadN d_prog_11_m6_20 (pc' := 21) rfl rfl rfl ?_
      refine g_iload d_prog_11_m6_21 (pc' := 23) rfl rfl ?_
      refine go_aaload d_prog_11_m6_23 rfl Avb (v := (.ref en)) ⟨by decide, by decide⟩ rfl (pc' := 24) rfl ?_
      refine g_astore d_prog_11_m6_24 (pc' := 26) (Ls' := #[.val (.ref a), .val (.ref em), .val (.ref vb), .val (.int (3 : Int32)), .val (.int (((0 : Int32) + (1 : Int32)) + (1 : Int32))), .val (.ref en)]) rfl rfl rfl ?_
      refine g_aload d_prog_11_m6_26 (pc' := 28) rfl rfl rfl ?_
      refine go_getfield d_prog_11_m6_28 (host := "") (Or.inl (w115 hw)) Via.refl ((Fen.ext EX).keep Kv nin0) (pc' := 31) rfl ?_
      refine g_aloadN d_prog_11_m6_31 (pc' := 32) rfl rfl rfl ?_
      refine go_virtual d_prog_11_m6_32 (rm_equals hw [(101 : Int32), (110 : Int32), (118 : Int32)] cs wen _ a _ co h137 (Nat.le_of_ble_eq_true rfl) hN (Byt.cons ⟨by decide, by decide⟩ (Byt.cons ⟨by decide, by decide⟩ (Byt.cons ⟨by decide, by decide⟩ Byt.nil))) hB ((Len.ext EX).keep Kv nin0 nin0) (L.keep Kv nin0 nin0) Sc hco) (fun _ q => q) ((Len.ext EX).keep Kv nin0 nin0).1 (w117 hw) (w80 hw) (w82 hw) (nf_sel (w82 hw)) (w81 hw) (w1 hw) (w83 hw) (by decide) (argsL := [(.ref a)]) (rest := []) (lenOf pd10 rfl) rfl rfl rfl (W := 0) (Nat.le_of_ble_eq_true rfl) (by decide) (by decide) (by decide) (by decide) (pc' := 35) rfl ?_
      rintro _ _ _ ⟨rfl, rfl, rfl⟩ z159
      show Go _ _ _ _ _ _ _ _ _ _ _ _ _ _ _ _ _ _ _ _ _ _ _ _ [(.int (if [(101 : Int32), (110 : Int32), (118 : Int32)] = cs then 1 else 0))] _
      by_cases q160 : cs = [(101 : Int32), (110 : Int32), (118 : Int32)]
      · -- the same
        rw [if_pos q160.symm]
        refine g_ifNo d_prog_11_m6_35 (pc' := 38) rfl (feq (by decide : ¬ ((1 : Int32) = (0 : Int32)))).1 ?_
        refine g_aload d_prog_11_m6_38 (pc' := 40) rfl rfl rfl ?_
        refine go_static d_prog_11_m6_40 (rm_of hw en h137) (fun _ q => q) (w118 hw) (w119 hw) (w94 hw) (w120 hw) (by decide) (argsL := [(.ref en)]) (rest := []) (lenOf pd15 rfl) rfl rfl rfl (W := 0) (Nat.le_of_ble_eq_true rfl) (by decide) (by decide) (by decide) (by decide) (pc' := 43) rfl ?_
        rintro _ h161 _ ⟨o162, rfl, rfl, b163, K164, X165, F166⟩ z167
        show Go _ _ _ _ _ _ _ _ _ _ _ _ _ _ _ _ _ _ _ _ _ _ _ _ [(.ref o162)] _
        refine g_astoreN d_prog_11_m6_43 (pc' := 44) (Ls' := #[.val (.ref a), .val (.ref o162), .val (.ref vb), .val (.int (3 : Int32)), .val (.int (((0 : Int32) + (1 : Int32)) + (1 : Int32))), .val (.ref en)]) rfl rfl rfl ?_
        refine g_iinc d_prog_11_m6_44 (pc' := 47) (Ls' := #[.val (.ref a), .val (.ref o162), .val (.ref vb), .val (.int (3 : Int32)), .val (.int ((((0 : Int32) + (1 : Int32)) + (1 : Int32)) + (1 : Int32))), .val (.ref en)]) rfl rfl rfl ?_
        refine g_goto d_prog_11_m6_47 (pc' := 14) (by decide) (by decide) ?_
        refine g_iload d_prog_11_m6_14 (pc' := 16) rfl rfl ?_
        refine g_iloadN d_prog_11_m6_16 (pc' := 17) rfl rfl ?_
        refine g_icmpYes d_prog_11_m6_17 (pc' := 50) (flt (by decide : ¬ (((((0 : Int32) + (1 : Int32)) + (1 : Int32)) + (1 : Int32)) < (3 : Int32)))).2.1 (by decide) (by decide) ?_
        refine g_aloadN d_prog_11_m6_50 (pc' := 51) rfl rfl rfl ?_
        exact go_areturn d_prog_11_m6_51 rfl rfl rfl (ws' := []) (fun _ q => q) ⟨_, rfl, rfl, X165, by unfold kindOf; rw [if_neg q139, if_neg q150, if_pos q160]; exact F166⟩
      · -- another
        rw [if_neg (fun z => q160 z.symm)]
        refine g_ifYes d_prog_11_m6_35 (pc' := 44) (teq (by decide : (0 : Int32) = (0 : Int32))).1 (by decide) (by decide) ?_
        refine g_iinc d_prog_11_m6_44 (pc' := 47) (Ls' := #[.val (.ref a), .val (.ref em), .val (.ref vb), .val (.int (3 : Int32)), .val (.int ((((0 : Int32) + (1 : Int32)) + (1 : Int32)) + (1 : Int32))), .val (.ref en)]) rfl rfl rfl ?_
        refine g_goto d_prog_11_m6_47 (pc' := 14) (by decide) (by decide) ?_
        refine g_iload d_prog_11_m6_14 (pc' := 16) rfl rfl ?_
        refine g_iloadN d_prog_11_m6_16 (pc' := 17) rfl rfl ?_
        refine g_icmpYes d_prog_11_m6_17 (pc' := 50) (flt (by decide : ¬ (((((0 : Int32) + (1 : Int32)) + (1 : Int32)) + (1 : Int32)) < (3 : Int32)))).2.1 (by decide) (by decide) ?_
        refine g_aloadN d_prog_11_m6_50 (pc' := 51) rfl rfl rfl ?_
        exact go_areturn d_prog_11_m6_51 rfl rfl rfl (ws' := []) (fun _ q => q) ⟨_, rfl, rfl, ((Xe.ext EX).keep Kv), by unfold kindOf; rw [if_neg q139, if_neg q150, if_neg q160]; exact ((Fe.ext EX).keep Kv nin0)⟩
set_option maxRecDepth 65536 in
set_option maxHeartbeats 40000000 in
theorem rm_ofvN {l : Launch} {Z : State} {a0 : Array Value} (hw : ∀ d ∈ tables_1, d.before a0 Z = true) (co : Int32) (va : Addr) (kv : ClassId) (su re en wsu bsu wre bre wen ben em : Addr) (h0 : Heap) (Sc : Sta Z Z.heap "java/lang/String" "COMPACT_STRINGS" "Z" (.int co)) (hco : ¬ co = 0) (Sv : Sta Z Z.heap "com/example/sundew/sundew/Holder$Kind" "$VALUES" "[Lcom/example/sundew/sundew/Holder$Kind;" (.ref va)) (Xv : Exa Z Z.heap va "[Lcom/example/sundew/sundew/Holder$Kind;") (Av : Arv Z Z.heap va kv (.object "com/example/sundew/sundew/Holder$Kind") 3 [.ref su, .ref re, .ref en] .null) (Fsu : Fld Z Z.heap su "com/example/sundew/sundew/Holder$Kind" "variable" "Ljava/lang/String;" (.ref wsu)) (Lsu : LatB Z Z.heap wsu bsu [(115 : Int32), (117 : Int32), (98 : Int32), (106 : Int32), (101 : Int32), (99 : Int32), (116 : Int32)]) (Fre : Fld Z Z.heap re "com/example/sundew/sundew/Holder$Kind" "variable" "Ljava/lang/String;" (.ref wre)) (Lre : LatB Z Z.heap wre bre [(114 : Int32), (101 : Int32), (115 : Int32), (111 : Int32), (117 : Int32), (114 : Int32), (99 : Int32), (101 : Int32)]) (Fen : Fld Z Z.heap en "com/example/sundew/sundew/Holder$Kind" "variable" "Ljava/lang/String;" (.ref wen)) (Len : LatB Z Z.heap wen ben [(101 : Int32), (110 : Int32), (118 : Int32)]) (Se : Sta Z Z.heap "java/util/Optional" "EMPTY" "Ljava/util/Optional;" (.ref em)) (Xe : Exa Z Z.heap em "java/util/Optional") (Fe : Fld Z Z.heap em "java/util/Optional" "value" "Ljava/lang/Object;" .null) :
    Con l Z EL ⟨"com/example/sundew/sundew/Holder$Kind", "ofVariable", "(Ljava/lang/String;)Ljava/util/Optional;"⟩ prog_11_method_6_code 6 (some (.object "java/util/Optional")) [] { frames := 2, cells := 1, slots := 3, locals := 25 } #[.null] h0 [] (fun v h ws => ∃ o, v = some (.ref o) ∧ ws = [] ∧ Exa Z h o "java/util/Optional" ∧ Fld Z h o "java/util/Optional" "value" "Ljava/lang/Object;" .null) := by
  refine con_of (a0 := a0) (Ls := #[.val .null, .unset, .unset, .unset, .unset, .unset]) (plainFor_of_name pn7) (eW hw) (fun m => by first | (simp [entryFrame, mkF, argsToLocals, Value.category]; done) | rfl) ?_
  intro p e s m below meth c
  refine go_old (fun EX => ?_)
  refine go_static d_prog_11_m6_0 (rm_empty hw em h0 Se) (fun _ q => q) (w92 hw) (w93 hw) (w94 hw) (w95 hw) (by decide) (argsL := []) (rest := []) (lenOf pd13 rfl) rfl rfl rfl (W := 0) (Nat.le_of_ble_eq_true rfl) (by decide) (by decide) (by decide) (by decide) (pc' := 3) rfl ?_
  rintro _ _ _ ⟨rfl, rfl, rfl⟩ z168
  show Go _ _ _ _ _ _ _ _ _ _ _ _ _ _ _ _ _ _ _ _ _ _ _ _ [(.ref em)] _
  refine g_astoreN d_prog_11_m6_3 (pc' := 4) (Ls' := #[.val .null, .val (.ref em), .unset, .unset, .unset, .unset]) rfl rfl rfl ?_
  refine go_static d_prog_11_m6_4 (rm_values hw va kv su re en h0 Sv Xv Av) (fun _ q => q) (w97 hw) (w98 hw) (w90 hw) (w99 hw) (by decide) (argsL := []) (rest := []) (lenOf pd14 rfl) rfl rfl rfl (W := 0) (Nat.le_of_ble_eq_true rfl) (by decide) (by decide) (by decide) (by decide) (pc' := 7) rfl ?_
  rintro _ h169 _ ⟨vb, vk, rfl, rfl, Kv, Avb⟩ hz
  show Go _ _ _ _ _ _ _ _ _ _ _ _ _ _ _ _ _ _ _ _ _ _ _ _ [(.ref vb)] _
  refine g_astoreN d_prog_11_m6_7 (pc' := 8) (Ls' := #[.val .null, .val (.ref em), .val (.ref vb), .unset, .unset, .unset]) rfl rfl rfl ?_
  refine g_aloadN d_prog_11_m6_8 (pc' := 9) rfl rfl rfl ?_
  refine go_arraylength d_prog_11_m6_9 Avb (pc' := 10) rfl ?_
  refine g_istoreN d_prog_11_m6_10 (pc' := 11) (Ls' := #[.val .null, .val (.ref em), .val (.ref vb), .val (.int (3 : Int32)), .unset, .unset]) rfl rfl ?_
  refine g_iconst d_prog_11_m6_11 (pc' := 12) rfl (z := 0) rfl ?_
  refine g_istore d_prog_11_m6_12 (pc' := 14) (Ls' := #[.val .null, .val (.ref em), .val (.ref vb), .val (.int (3 : Int32)), .val (.int (0 : Int32)), .unset]) rfl rfl ?_
  refine g_iload d_prog_11_m6_14 (pc' := 16) rfl rfl ?_
  refine g_iloadN d_prog_11_m6_16 (pc' := 17) rfl rfl ?_
  refine g_icmpNo d_prog_11_m6_17 (pc' := 20) rfl (tlt (by decide : (0 : Int32) < (3 : Int32))).2.1 ?_
  refine g_aloadN d_prog_11_m6_20 (pc' := 21) rfl rfl rfl ?_
  refine g_iload d_prog_11_m6_21 (pc' := 23) rfl rfl ?_
  refine go_aaload d_prog_11_m6_23 rfl Avb (v := (.ref su)) ⟨by decide, by decide⟩ rfl (pc' := 24) rfl ?_
  refine g_astore d_prog_11_m6_24 (pc' := 26) (Ls' := #[.val .null, .val (.ref em), .val (.ref vb), .val (.int (3 : Int32)), .val (.int (0 : Int32)), .val (.ref su)]) rfl rfl rfl ?_
  refine g_aload d_prog_11_m6_26 (pc' := 28) rfl rfl rfl ?_
  refine go_getfield d_prog_11_m6_28 (host := "") (Or.inl (w115 hw)) Via.refl ((Fsu.ext EX).keep Kv nin0) (pc' := 31) rfl ?_
  refine g_aloadN d_prog_11_m6_31 (pc' := 32) rfl rfl rfl ?_
  refine go_virtual d_prog_11_m6_32 (rm_equalsN hw wsu _ _ h169 ((Lsu.ext EX).keep Kv nin0 nin0)) (fun _ q => q) ((Lsu.ext EX).keep Kv nin0 nin0).1 (w117 hw) (w80 hw) (w82 hw) (nf_sel (w82 hw)) (w81 hw) (w1 hw) (w83 hw) (by decide) (argsL := [.null]) (rest := []) (lenOf pd10 rfl) rfl rfl rfl (W := 0) (Nat.le_of_ble_eq_true rfl) (by decide) (by decide) (by decide) (by decide) (pc' := 35) rfl ?_
  rintro _ _ _ ⟨rfl, rfl, rfl⟩ z170
  show Go _ _ _ _ _ _ _ _ _ _ _ _ _ _ _ _ _ _ _ _ _ _ _ _ [(.int (0 : Int32))] _
  refine g_ifYes d_prog_11_m6_35 (pc' := 44) (teq (by decide : (0 : Int32) = (0 : Int32))).1 (by decide) (by decide) ?_
  refine g_iinc d_prog_11_m6_44 (pc' := 47) (Ls' := #[.val .null, .val (.ref em), .val (.ref vb), .val (.int (3 : Int32)), .val (.int ((0 : Int32) + (1 : Int32))), .val (.ref su)]) rfl rfl rfl ?_
  refine g_goto d_prog_11_m6_47 (pc' := 14) (by decide) (by decide) ?_
  refine g_iload d_prog_11_m6_14 (pc' := 16) rfl rfl ?_
  refine g_iloadN d_prog_11_m6_16 (pc' := 17) rfl rfl ?_
  refine g_icmpNo d_prog_11_m6_17 (pc' := 20) rfl (tlt (by decide : ((0 : Int32) + (1 : Int32)) < (3 : Int32))).2.1 ?_
  refine g_aloadN d_prog_11_m6_20 (pc' := 21) rfl rfl rfl ?_
  refine g_iload d_prog_11_m6_21 (pc' := 23) rfl rfl ?_
  refine go_aaload d_prog_11_m6_23 rfl Avb (v := (.ref re)) ⟨by decide, by decide⟩ rfl (pc' := 24) rfl ?_
  refine g_astore d_prog_11_m6_24 (pc' := 26) (Ls' := #[.val .null, .val (.ref em), .val (.ref vb), .val (.int (3 : Int32)), .val (.int ((0 : Int32) + (1 : Int32))), .val (.ref re)]) rfl rfl rfl ?_
  refine g_aload d_prog_11_m6_26 (pc' := 28) rfl rfl rfl ?_
  refine go_getfield d_prog_11_m6_28 (host := "") (Or.inl (w115 hw)) Via.refl ((Fre.ext EX).keep Kv nin0) (pc' := 31) rfl ?_
  refine g_aloadN d_prog_11_m6_31 (pc' := 32) rfl rfl rfl ?_
  refine go_virtual d_prog_11_m6_32 (rm_equalsN hw wre _ _ h169 ((Lre.ext EX).keep Kv nin0 nin0)) (fun _ q => q) ((Lre.ext EX).keep Kv nin0 nin0).1 (w117 hw) (w80 hw) (w82 hw) (nf_sel (w82 hw)) (w81 hw) (w1 hw) (w83 hw) (by decide) (argsL := [.null]) (rest := []) (lenOf pd10 rfl) rfl rfl rfl (W := 0) (Nat.le_of_ble_eq_true rfl) (by decide) (by decide) (by decide) (by decide) (pc' := 35) rfl ?_
  rintro _ _ _ ⟨rfl, rfl, rfl⟩ z171
  show Go _ _ _ _ _ _ _ _ _ _ _ _ _ _ _ _ _ _ _ _ _ _ _ _ [(.int (0 : Int32))] _
  refine g_ifYes d_prog_11_m6_35 (pc' := 44) (teq (by decide : (0 : Int32) = (0 : Int32))).1 (by decide) (by decide) ?_
  refine g_iinc d_prog_11_m6_44 (pc' := 47) (Ls' := #[.val .null, .val (.ref em), .val (.ref vb), .val (.int (3 : Int32)), .val (.int (((0 : Int32) + (1 : Int32)) + (1 : Int32))), .val (.ref re)]) rfl rfl rfl ?_
  refine g_goto d_prog_11_m6_47 (pc' := 14) (by decide) (by decide) ?_
  refine g_iload d_prog_11_m6_14 (pc' := 16) rfl rfl ?_
  refine g_iloadN d_prog_11_m6_16 (pc' := 17) rfl rfl ?_
  refine g_icmpNo d_prog_11_m6_17 (pc' := 20) rfl (tlt (by decide : (((0 : Int32) + (1 : Int32)) + (1 : Int32)) < (3 : Int32))).2.1 ?_
  refine g_aloadN d_prog_11_m6_20 (pc' := 21) rfl rfl rfl ?_
  refine g_iload d_prog_11_m6_21 (pc' := 23) rfl rfl ?_
  refine go_aaload d_prog_11_m6_23 rfl Avb (v := (.ref en)) ⟨by decide, by decide⟩ rfl (pc' := 24) rfl ?_
  refine g_astore d_prog_11_m6_24 (pc' := 26) (Ls' := #[.val .null, .val (.ref em), .val (.ref vb), .val (.int (3 : Int32)), .val (.int (((0 : Int32) + (1 : Int32)) + (1 : Int32))), .val (.ref en)]) rfl rfl rfl ?_
  refine g_aload d_prog_11_m6_26 (pc' := 28) rfl rfl rfl ?_
  refine go_getfield d_prog_11_m6_28 (host := "") (Or.inl (w115 hw)) Via.refl ((Fen.ext EX).keep Kv nin0) (pc' := 31) rfl ?_
  refine g_aloadN d_prog_11_m6_31 (pc' := 32) rfl rfl rfl ?_
  refine go_virtual d_prog_11_m6_32 (rm_equalsN hw wen _ _ h169 ((Len.ext EX).keep Kv nin0 nin0)) (fun _ q => q) ((Len.ext EX).keep Kv nin0 nin0).1 (w117 hw) (w80 hw) (w82 hw) (nf_sel (w82 hw)) (w81 hw) (w1 hw) (w83 hw) (by decide) (argsL := [.null]) (rest := []) (lenOf pd10 rfl) rfl rfl rfl (W := 0) (Nat.le_of_ble_eq_true rfl) (by decide) (by decide) (by decide) (by decide) (pc' := 35) rfl ?_
  rintro _ _ _ ⟨rfl, rfl, rfl⟩ z172
  show Go _ _ _ _ _ _ _ _ _ _ _ _ _ _ _ _ _ _ _ _ _ _ _ _ [(.int (0 : Int32))] _
  refine g_ifYes d_prog_11_m6_35 (pc' := 44) (teq (by decide : (0 : Int32) = (0 : Int32))).1 (by decide) (by decide) ?_
  refine g_iinc d_prog_11_m6_44 (pc' := 47) (Ls' := #[.val .null, .val (.ref em), .val (.ref vb), .val (.int (3 : Int32)), .val (.int ((((0 : Int32) + (1 : Int32)) + (1 : Int32)) + (1 : Int32))), .val (.ref en)]) rfl rfl rfl ?_
  refine g_goto d_prog_11_m6_47 (pc' := 14) (by decide) (by decide) ?_
  refine g_iload d_prog_11_m6_14 (pc' := 16) rfl rfl ?_
  refine g_iloadN d_prog_11_m6_16 (pc' := 17) rfl rfl ?_
  refine g_icmpYes d_prog_11_m6_17 (pc' := 50) (flt (by decide : ¬ (((((0 : Int32) + (1 : Int32)) + (1 : Int32)) + (1 : Int32)) < (3 : Int32)))).2.1 (by decide) (by decide) ?_
  refine g_aloadN d_prog_11_m6_50 (pc' := 51) rfl rfl rfl ?_
  exact go_areturn d_prog_11_m6_51 rfl rfl rfl (ws' := []) (fun _ q => q) ⟨_, rfl, rfl, ((Xe.ext EX).keep Kv), ((Fe.ext EX).keep Kv nin0)⟩
set_option maxRecDepth 65536 in
set_option maxHeartbeats 40000000 in
theorem rm_drawn {l : Launch} {Z : State} {a0 : Array Value} (hw : ∀ d ∈ tables_1, d.before a0 Z = true) (i : Int32) (bits : Int64) (ch : Int32) (h0 : Heap) :
    Con l Z EL ⟨"com/example/sundew/sundew/KindOfVariablePinLaw", "drawn", "(IJI)C"⟩ method_4_code 4 (some .char) [] { frames := 0, cells := 0, slots := 0, locals := 0 } #[(.int i), (.long bits), (.int ch)] h0 [] (fun v h ws => ∃ x, v = some (.int x) ∧ (¬ x < 0 ∧ ¬ (255 : Int32) < x) ∧ h0 = h ∧ ws = []) := by
  refine con_of (a0 := a0) (Ls := #[.val (.int i), .val (.long bits), .second, .val (.int ch)]) (plainFor_of_name pn5) (eW hw) (fun m => by first | (simp [entryFrame, mkF, argsToLocals, Value.category]; done) | rfl) ?_
  intro p e s m below meth c
  refine g_iloadN d_m4_0 (pc' := 1) rfl rfl ?_
  refine g_bipush d_m4_1 (pc' := 3) rfl (z := 8) rfl ?_
  by_cases h3 : i < (8 : Int32)
  · -- h3 holds
    refine g_icmpNo d_m4_3 (pc' := 6) rfl (tlt h3).2.1 ?_
    refine g_lloadN d_m4_6 (pc' := 7) rfl rfl ?_
    refine g_bipush d_m4_7 (pc' := 9) rfl (z := 8) rfl ?_
    refine g_iloadN d_m4_9 (pc' := 10) rfl rfl ?_
    refine g_imul d_m4_10 (pc' := 11) rfl ?_
    refine g_lushr d_m4_11 (pc' := 12) rfl ?_
    refine go_ldc2 d_m4_12 (w51 hw) (pc' := 15) rfl ?_
    refine g_land d_m4_15 (pc' := 16) rfl ?_
    refine g_l2i d_m4_16 (pc' := 17) rfl ?_
    refine g_i2c d_m4_17 (pc' := 18) rfl ?_
    exact go_ireturn d_m4_18 rfl (Or.inr (Or.inr (Or.inr (Or.inl rfl)))) (congrArg Value.int (nar_byt (bytL _))) (ws' := []) (fun _ q => q) ⟨_, rfl, (bytL _), rfl, rfl⟩
  · -- h3 does not hold
    refine g_icmpYes d_m4_3 (pc' := 19) (flt h3).2.1 (by decide) (by decide) ?_
    refine g_iloadN d_m4_19 (pc' := 20) rfl rfl ?_
    refine g_sipush d_m4_20 (pc' := 23) rfl (z := 255) rfl ?_
    refine g_iand d_m4_23 (pc' := 24) rfl ?_
    refine g_i2c d_m4_24 (pc' := 25) rfl ?_
    exact go_ireturn d_m4_25 rfl (Or.inr (Or.inr (Or.inr (Or.inl rfl)))) (congrArg Value.int (nar_byt (byt255 _))) (ws' := []) (fun _ q => q) ⟨_, rfl, (byt255 _), rfl, rfl⟩
set_option maxRecDepth 65536 in
set_option maxHeartbeats 40000000 in
theorem rm_pick {l : Launch} {Z : State} {a0 : Array Value} (hw : ∀ d ∈ tables_1, d.before a0 Z = true) (cs : List Int32) (a b : Addr) (co : Int32) (fm : Value) (i : Nat) (fr : Int32) (bits : Int64) (ch : Int32) (h0 : Heap) (hN : cs.length ≤ 4000) (hB : Byt cs) (L : LatB Z h0 a b cs) (hi : i < 100) (Sc : Sta Z Z.heap "java/lang/String" "COMPACT_STRINGS" "Z" (.int co)) (hco : ¬ co = 0) (Sf : Sta Z Z.heap "jdk/internal/util/Preconditions" "SIOOBE_FORMATTER" "Ljava/util/function/BiFunction;" fm) (hfm : fm.isRef = true) :
    Con l Z EL ⟨"com/example/sundew/sundew/KindOfVariablePinLaw", "pick", "(Ljava/lang/String;IZJI)C"⟩ method_5_code 6 (some .char) [] { frames := 4, cells := 0, slots := 0, locals := 53 } #[(.ref a), (.int (Int32.ofNat i)), (.int fr), (.long bits), (.int ch)] h0 [] (fun v h ws => ∃ x, v = some (.int x) ∧ (¬ x < 0 ∧ ¬ (255 : Int32) < x) ∧ h0 = h ∧ ws = []) := by
  refine con_of (a0 := a0) (Ls := #[.val (.ref a), .val (.int (Int32.ofNat i)), .val (.int fr), .val (.long bits), .second, .val (.int ch)]) (plainFor_of_name pn5) (eW hw) (fun m => by first | (simp [entryFrame, mkF, argsToLocals, Value.category]; done) | rfl) ?_
  intro p e s m below meth c
  refine g_iloadN d_m5_0 (pc' := 1) rfl rfl ?_
  by_cases h1 : fr = (0 : Int32)
  · -- h1 holds
    refine g_ifNo d_m5_1 (pc' := 4) rfl (teq h1).2 ?_
    refine g_iloadN d_m5_4 (pc' := 5) rfl rfl ?_
    refine g_aloadN d_m5_5 (pc' := 6) rfl rfl rfl ?_
    refine go_virtual d_m5_6 (rm_length hw a _ cs co h0 L Sc hco) (fun _ q => q) L.1 (w8 hw) (w9 hw) (w11 hw) (nf_sel (w11 hw)) (w10 hw) (w1 hw) (w12 hw) (by decide) (argsL := []) (rest := [(.int (Int32.ofNat i))]) (lenOf pd16 rfl) rfl rfl rfl (W := 1) (Nat.le_of_ble_eq_true rfl) (by decide) (by decide) (by decide) (by decide) (pc' := 9) rfl ?_
    rintro _ _ _ ⟨rfl, rfl, rfl⟩ z173
    show Go _ _ _ _ _ _ _ _ _ _ _ _ _ _ _ _ _ _ _ _ _ _ _ _ [(.int (Int32.ofNat (cs).length)), (.int (Int32.ofNat i))] _
    by_cases h9 : (Int32.ofNat i) < (Int32.ofNat (cs).length)
    · -- h9 holds
      refine g_icmpNo d_m5_9 (pc' := 12) rfl (tlt h9).2.1 ?_
      refine g_aloadN d_m5_12 (pc' := 13) rfl rfl rfl ?_
      refine g_iloadN d_m5_13 (pc' := 14) rfl rfl ?_
      refine go_virtual d_m5_14 (rm_charAt hw a _ cs i co fm h0 L hN ((o_lt (by omega) (by omega)).mp h9) hB Sc hco Sf hfm) (fun _ q => q) L.1 (w26 hw) (w27 hw) (w29 hw) (nf_sel (w29 hw)) (w28 hw) (w1 hw) (w30 hw) (by decide) (argsL := [(.int (Int32.ofNat i))]) (rest := []) (lenOf pd17 rfl) rfl rfl rfl (W := 0) (Nat.le_of_ble_eq_true rfl) (by decide) (by decide) (by decide) (by decide) (pc' := 17) rfl ?_
      rintro _ _ _ ⟨rfl, rfl, rfl⟩ z174
      show Go _ _ _ _ _ _ _ _ _ _ _ _ _ _ _ _ _ _ _ _ _ _ _ _ [(.int (cs.getD i 0))] _
      exact go_ireturn d_m5_17 rfl (Or.inr (Or.inr (Or.inr (Or.inl rfl)))) (congrArg Value.int (nar_byt (hB.at i))) (ws' := []) (fun _ q => q) ⟨_, rfl, (hB.at i), rfl, rfl⟩
    · -- h9 does not hold
      refine g_icmpYes d_m5_9 (pc' := 18) (flt h9).2.1 (by decide) (by decide) ?_
      refine g_iloadN d_m5_18 (pc' := 19) rfl rfl ?_
      refine g_lloadN d_m5_19 (pc' := 20) rfl rfl ?_
      refine g_iload d_m5_20 (pc' := 22) rfl rfl ?_
      refine go_static d_m5_22 (rm_drawn hw (Int32.ofNat i) bits ch h0) (fun _ q => q) (w48 hw) (w49 hw) (w24 hw) (w50 hw) (by decide) (argsL := [(.int (Int32.ofNat i)), (.long bits), (.int ch)]) (rest := []) (lenOf pd18 rfl) rfl rfl rfl (W := 0) (Nat.le_of_ble_eq_true rfl) (by decide) (by decide) (by decide) (by decide) (pc' := 25) rfl ?_
      rintro _ _ _ ⟨x, rfl, hx, rfl, rfl⟩ hz
      show Go _ _ _ _ _ _ _ _ _ _ _ _ _ _ _ _ _ _ _ _ _ _ _ _ [(.int x)] _
      exact go_ireturn d_m5_25 rfl (Or.inr (Or.inr (Or.inr (Or.inl rfl)))) (congrArg Value.int (nar_byt hx)) (ws' := []) (fun _ q => q) ⟨_, rfl, hx, rfl, rfl⟩
  · -- h1 does not hold
    refine g_ifYes d_m5_1 (pc' := 18) (feq h1).2 (by decide) (by decide) ?_
    refine g_iloadN d_m5_18 (pc' := 19) rfl rfl ?_
    refine g_lloadN d_m5_19 (pc' := 20) rfl rfl ?_
    refine g_iload d_m5_20 (pc' := 22) rfl rfl ?_
    refine go_static d_m5_22 (rm_drawn hw (Int32.ofNat i) bits ch h0) (fun _ q => q) (w48 hw) (w49 hw) (w24 hw) (w50 hw) (by decide) (argsL := [(.int (Int32.ofNat i)), (.long bits), (.int ch)]) (rest := []) (lenOf pd18 rfl) rfl rfl rfl (W := 0) (Nat.le_of_ble_eq_true rfl) (by decide) (by decide) (by decide) (by decide) (pc' := 25) rfl ?_
    rintro _ _ _ ⟨x, rfl, hx, rfl, rfl⟩ hz
    show Go _ _ _ _ _ _ _ _ _ _ _ _ _ _ _ _ _ _ _ _ _ _ _ _ [(.int x)] _
    exact go_ireturn d_m5_25 rfl (Or.inr (Or.inr (Or.inr (Or.inl rfl)))) (congrArg Value.int (nar_byt hx)) (ws' := []) (fun _ q => q) ⟨_, rfl, hx, rfl, rfl⟩
set_option maxRecDepth 65536 in
set_option maxHeartbeats 40000000 in
theorem rm_str {l : Launch} {Z : State} {a0 : Array Value} (hw : ∀ d ∈ tables_1, d.before a0 Z = true) (cs : List Int32) (n : Int32) (ca : Addr) (k : ClassId) (co : Int32) (h0 : Heap) (hl : cs.length = 9) (hB : Byt cs) (A : Arv Z h0 ca k .char 9 (cs.map Value.int) (.int 0)) (Sc : Sta Z Z.heap "java/lang/String" "COMPACT_STRINGS" "Z" (.int co)) (hco : ¬ co = 0) :
    Con l Z EL ⟨"com/example/sundew/sundew/KindOfVariablePinLaw", "str", "([CI)Ljava/lang/String;"⟩ method_6_code 2 (some (.object "java/lang/String")) [] { frames := 4, cells := 6, slots := 29, locals := 66 } #[(.ref ca), (.int n)] h0 [] (fun v h ws => ∃ a b ts, v = some (.ref a) ∧ ws = [] ∧ ts.length ≤ 9 ∧ Byt ts ∧ LatB Z h a b ts) := by
  refine con_of (a0 := a0) (Ls := #[.val (.ref ca), .val (.int n)]) (plainFor_of_name pn5) (eW hw) (fun m => by first | (simp [entryFrame, mkF, argsToLocals, Value.category]; done) | rfl) ?_
  intro p e s m below meth c
  refine g_iloadN d_m6_0 (pc' := 1) rfl rfl ?_
  by_cases q1 : n = (0 : Int32)
  · -- q1 holds
    refine g_ifNo d_m6_1 (pc' := 4) rfl (teq q1).2 ?_
    refine go_new d_m6_4 (w55 hw) (w2 hw) (w1 hw) (by decide) (by decide) (pc' := 7) rfl ?_
    intro h175 a176 g177 E178 A179 D180
    have F181 : Fld Z h175 a176 "java/lang/String" "value" "[B" .null := D180 (Or.inr (w4 hw)) (ty := (.array .byte)) (by decide)
    have F182 : Fld Z h175 a176 "java/lang/String" "coder" "B" (.int (0 : Int32)) := D180 (Or.inr (w5 hw)) (ty := .byte) (by decide)
    refine g_dup d_m6_7 (pc' := 8) rfl rfl ?_
    refine g_iconst d_m6_8 (pc' := 9) rfl (z := 0) rfl ?_
    refine go_newarray d_m6_9 (w21 hw) (by decide) (cap := 0) (by decide) (by decide) (by decide) (by decide) (ad := "[C") rfl (pc' := 11) rfl ?_
    intro h183 a184 k185 g186 E187 A188 X189
    have A190 : Arv Z h183 a184 k185 .char (0 : Int32) [] (.int 0) := Arv.pad A188 (pad_rep [] (.int 0) 0)
    refine go_special d_m6_11 (rm_initC hw [] a176 a184 _ _ _ co [a184] h183 (Nat.le_of_ble_eq_true rfl) (Byt.lat Byt.nil) (A179.ext E187) (F181.ext E187) (F182.ext E187) A190 Sc hco) (allS (List.mem_of_getElem? (i := 1) rfl) (allS (List.mem_of_getElem? (i := 0) rfl) all0)) rfl (w56 hw) (w57 hw) (w1 hw) (w58 hw) (by decide) (argsL := [(.ref a184)]) (rest := [(.ref a176)]) (lenOf pd19 rfl) rfl rfl rfl (W := 1) (Nat.le_of_ble_eq_true rfl) (by decide) (by decide) (by decide) (by decide) (pc' := 14) rfl ?_
    rintro _ h191 _ ⟨rfl, b192, rfl, K193, L194, N195⟩ z196
    show Go _ _ _ _ _ _ _ _ _ _ _ _ _ _ _ _ _ _ _ _ _ _ _ _ [(.ref a176)] _
    exact go_areturn d_m6_14 rfl rfl rfl (ws' := []) all0 ⟨_, _, _, rfl, rfl, (Nat.le_of_ble_eq_true rfl), Byt.nil, L194⟩
  · -- q1 does not hold
    refine g_ifYes d_m6_1 (pc' := 15) (feq q1).2 (by decide) (by decide) ?_
    refine g_iloadN d_m6_15 (pc' := 16) rfl rfl ?_
    refine g_iconst d_m6_16 (pc' := 17) rfl (z := 1) rfl ?_
    by_cases q17 : n = (1 : Int32)
    · -- q17 holds
      refine g_icmpNo d_m6_17 (pc' := 20) rfl (teq q17).2 ?_
      refine go_new d_m6_20 (w55 hw) (w2 hw) (w1 hw) (by decide) (by decide) (pc' := 23) rfl ?_
      intro h197 a198 g199 E200 A201 D202
      have F203 : Fld Z h197 a198 "java/lang/String" "value" "[B" .null := D202 (Or.inr (w4 hw)) (ty := (.array .byte)) (by decide)
      have F204 : Fld Z h197 a198 "java/lang/String" "coder" "B" (.int (0 : Int32)) := D202 (Or.inr (w5 hw)) (ty := .byte) (by decide)
      refine g_dup d_m6_23 (pc' := 24) rfl rfl ?_
      refine g_iconst d_m6_24 (pc' := 25) rfl (z := 1) rfl ?_
      refine go_newarray d_m6_25 (w21 hw) (by decide) (cap := 1) (by decide) (by decide) (by decide) (by decide) (ad := "[C") rfl (pc' := 27) rfl ?_
      intro h205 a206 k207 g208 E209 A210 X211
      have A212 : Arv Z h205 a206 k207 .char (1 : Int32) [.int 0] (.int 0) := Arv.pad A210 (pad_rep [] (.int 0) 1)
      refine g_dup d_m6_27 (pc' := 28) rfl rfl ?_
      refine g_iconst d_m6_28 (pc' := 29) rfl (z := 0) rfl ?_
      refine g_aloadN d_m6_29 (pc' := 30) rfl rfl rfl ?_
      refine g_iconst d_m6_30 (pc' := 31) rfl (z := 0) rfl ?_
      refine go_caload d_m6_31 ((A.ext E200).ext E209) (v := (.int (cs.getD 0 0))) ⟨by decide, by decide⟩ (map_getD cs 0) (pc' := 32) rfl ?_
      refine go_castore 0 d_m6_32 A212 ⟨by decide, by decide⟩ rfl (Nat.le_of_ble_eq_true rfl) (x' := (cs.getD 0 0)) (nar_byt (hB.at 0)) (List.mem_of_getElem? (i := 0) rfl) (pc' := 33) rfl ?_
      intro h213 W214 A215
      have ne216 : a198 ≠ a206 := Nat.ne_of_lt (Nat.lt_of_lt_of_le A201.lt (Nat.le_of_eq g208.symm))
      refine go_special d_m6_33 (rm_initC hw [(cs.getD 0 0)] a198 a206 _ _ _ co [a206] h213 (Nat.le_of_ble_eq_true rfl) (Byt.lat (Byt.cons (hB.at 0) Byt.nil)) (Exa.wr W214 (A201.ext E209)) (Fld.other W214 (F203.ext E209) (Or.inl ne216)) (Fld.other W214 (F204.ext E209) (Or.inl ne216)) A215 Sc hco) (allS (List.mem_of_getElem? (i := 1) rfl) (allS (List.mem_of_getElem? (i := 0) rfl) all0)) rfl (w56 hw) (w57 hw) (w1 hw) (w58 hw) (by decide) (argsL := [(.ref a206)]) (rest := [(.ref a198)]) (lenOf pd19 rfl) rfl rfl rfl (W := 1) (Nat.le_of_ble_eq_true rfl) (by decide) (by decide) (by decide) (by decide) (pc' := 36) rfl ?_
      rintro _ h217 _ ⟨rfl, b218, rfl, K219, L220, N221⟩ z222
      show Go _ _ _ _ _ _ _ _ _ _ _ _ _ _ _ _ _ _ _ _ _ _ _ _ [(.ref a198)] _
      exact go_areturn d_m6_36 rfl rfl rfl (ws' := []) all0 ⟨_, _, _, rfl, rfl, (Nat.le_of_ble_eq_true rfl), (Byt.cons (hB.at 0) Byt.nil), L220⟩
    · -- q17 does not hold
      refine g_icmpYes d_m6_17 (pc' := 37) (feq q17).2 (by decide) (by decide) ?_
      refine g_iloadN d_m6_37 (pc' := 38) rfl rfl ?_
      refine g_iconst d_m6_38 (pc' := 39) rfl (z := 2) rfl ?_
      by_cases q39 : n = (2 : Int32)
      · -- q39 holds
        refine g_icmpNo d_m6_39 (pc' := 42) rfl (teq q39).2 ?_
        refine go_new d_m6_42 (w55 hw) (w2 hw) (w1 hw) (by decide) (by decide) (pc' := 45) rfl ?_
        intro h223 a224 g225 E226 A227 D228
        have F229 : Fld Z h223 a224 "java/lang/String" "value" "[B" .null := D228 (Or.inr (w4 hw)) (ty := (.array .byte)) (by decide)
        have F230 : Fld Z h223 a224 "java/lang/String" "coder" "B" (.int (0 : Int32)) := D228 (Or.inr (w5 hw)) (ty := .byte) (by decide)
        refine g_dup d_m6_45 (pc' := 46) rfl rfl ?_
        refine g_iconst d_m6_46 (pc' := 47) rfl (z := 2) rfl ?_
        refine go_newarray d_m6_47 (w21 hw) (by decide) (cap := 2) (by decide) (by decide) (by decide) (by decide) (ad := "[C") rfl (pc' := 49) rfl ?_
        intro h231 a232 k233 g234 E235 A236 X237
        have A238 : Arv Z h231 a232 k233 .char (2 : Int32) [.int 0, .int 0] (.int 0) := Arv.pad A236 (pad_rep [] (.int 0) 2)
        refine g_dup d_m6_49 (pc' := 50) rfl rfl ?_
        refine g_iconst d_m6_50 (pc' := 51) rfl (z := 0) rfl ?_
        refine g_aloadN d_m6_51 (pc' := 52) rfl rfl rfl ?_
        refine g_iconst d_m6_52 (pc' := 53) rfl (z := 0) rfl ?_
        refine go_caload d_m6_53 ((A.ext E226).ext E235) (v := (.int (cs.getD 0 0))) ⟨by decide, by decide⟩ (map_getD cs 0) (pc' := 54) rfl ?_
        refine go_castore 0 d_m6_54 A238 ⟨by decide, by decide⟩ rfl (Nat.le_of_ble_eq_true rfl) (x' := (cs.getD 0 0)) (nar_byt (hB.at 0)) (List.mem_of_getElem? (i := 0) rfl) (pc' := 55) rfl ?_
        intro h239 W240 A241
        refine g_dup d_m6_55 (pc' := 56) rfl rfl ?_
        refine g_iconst d_m6_56 (pc' := 57) rfl (z := 1) rfl ?_
        refine g_aloadN d_m6_57 (pc' := 58) rfl rfl rfl ?_
        refine g_iconst d_m6_58 (pc' := 59) rfl (z := 1) rfl ?_
        have ne242 : ca ≠ a232 := Nat.ne_of_lt (Nat.lt_of_lt_of_le (A.ext E226).lt (Nat.le_of_eq g234.symm))
        refine go_caload d_m6_59 (((A.ext E226).ext E235).other W240 ne242) (v := (.int (cs.getD 1 0))) ⟨by decide, by decide⟩ (map_getD cs 1) (pc' := 60) rfl ?_
        refine go_castore 1 d_m6_60 A241 ⟨by decide, by decide⟩ rfl (Nat.le_of_ble_eq_true rfl) (x' := (cs.getD 1 0)) (nar_byt (hB.at 1)) (List.mem_of_getElem? (i := 0) rfl) (pc' := 61) rfl ?_
        intro h243 W244 A245
        have ne246 : a224 ≠ a232 := Nat.ne_of_lt (Nat.lt_of_lt_of_le A227.lt (Nat.le_of_eq g234.symm))
        have f247 := (Fld.other W244 (Fld.other W240 (F229.ext E235) (Or.inl ne246)) (Or.inl ne246))
        have f248 := (Fld.other W244 (Fld.other W240 (F230.ext E235) (Or.inl ne246)) (Or.inl ne246))
        refine go_special d_m6_61 (rm_initC hw [(cs.getD 0 0), (cs.getD 1 0)] a224 a232 _ _ _ co [a232] h243 (Nat.le_of_ble_eq_true rfl) (Byt.lat (Byt.cons (hB.at 0) (Byt.cons (hB.at 1) Byt.nil))) (Exa.wr W244 (Exa.wr W240 (A227.ext E235))) f247 f248 A245 Sc hco) (allS (List.mem_of_getElem? (i := 1) rfl) (allS (List.mem_of_getElem? (i := 0) rfl) all0)) rfl (w56 hw) (w57 hw) (w1 hw) (w58 hw) (by decide) (argsL := [(.ref a232)]) (rest := [(.ref a224)]) (lenOf pd19 rfl) rfl rfl rfl (W := 1) (Nat.le_of_ble_eq_true rfl) (by decide) (by decide) (by decide) (by decide) (pc' := 64) rfl ?_
        rintro _ h249 _ ⟨rfl, b250, rfl, K251, L252, N253⟩ z254
        show Go _ _ _ _ _ _ _ _ _ _ _ _ _ _ _ _ _ _ _ _ _ _ _ _ [(.ref a224)] _
        exact go_areturn d_m6_64 rfl rfl rfl (ws' := []) all0 ⟨_, _, _, rfl, rfl, (Nat.le_of_ble_eq_true rfl), (Byt.cons (hB.at 0) (Byt.cons (hB.at 1) Byt.nil)), L252⟩
      · -- q39 does not hold
        refine g_icmpYes d_m6_39 (pc' := 65) (feq q39).2 (by decide) (by decide) ?_
        refine g_iloadN d_m6_65 (pc' := 66) rfl rfl ?_
        refine g_iconst d_m6_66 (pc' := 67) rfl (z := 3) rfl ?_
        by_cases q67 : n = (3 : Int32)
        · -- q67 holds
          refine g_icmpNo d_m6_67 (pc' := 70) rfl (teq q67).2 ?_
          refine go_new d_m6_70 (w55 hw) (w2 hw) (w1 hw) (by decide) (by decide) (pc' := 73) rfl ?_
          intro h255 a256 g257 E258 A259 D260
          have F261 : Fld Z h255 a256 "java/lang/String" "value" "[B" .null := D260 (Or.inr (w4 hw)) (ty := (.array .byte)) (by decide)
          have F262 : Fld Z h255 a256 "java/lang/String" "coder" "B" (.int (0 : Int32)) := D260 (Or.inr (w5 hw)) (ty := .byte) (by decide)
          refine g_dup d_m6_73 (pc' := 74) rfl rfl ?_
          refine g_iconst d_m6_74 (pc' := 75) rfl (z := 3) rfl ?_
          refine go_newarray d_m6_75 (w21 hw) (by decide) (cap := 3) (by decide) (by decide) (by decide) (by decide) (ad := "[C") rfl (pc' := 77) rfl ?_
          intro h263 a264 k265 g266 E267 A268 X269
          have A270 : Arv Z h263 a264 k265 .char (3 : Int32) [.int 0, .int 0, .int 0] (.int 0) := Arv.pad A268 (pad_rep [] (.int 0) 3)
          refine g_dup d_m6_77 (pc' := 78) rfl rfl ?_
          refine g_iconst d_m6_78 (pc' := 79) rfl (z := 0) rfl ?_
          refine g_aloadN d_m6_79 (pc' := 80) rfl rfl rfl ?_
          refine g_iconst d_m6_80 (pc' := 81) rfl (z := 0) rfl ?_
          refine go_caload d_m6_81 ((A.ext E258).ext E267) (v := (.int (cs.getD 0 0))) ⟨by decide, by decide⟩ (map_getD cs 0) (pc' := 82) rfl ?_
          refine go_castore 0 d_m6_82 A270 ⟨by decide, by decide⟩ rfl (Nat.le_of_ble_eq_true rfl) (x' := (cs.getD 0 0)) (nar_byt (hB.at 0)) (List.mem_of_getElem? (i := 0) rfl) (pc' := 83) rfl ?_
          intro h271 W272 A273
          refine g_dup d_m6_83 (pc' := 84) rfl rfl ?_
          refine g_iconst d_m6_84 (pc' := 85) rfl (z := 1) rfl ?_
          refine g_aloadN d_m6_85 (pc' := 86) rfl rfl rfl ?_
          refine g_iconst d_m6_86 (pc' := 87) rfl (z := 1) rfl ?_
          have ne274 : ca ≠ a264 := Nat.ne_of_lt (Nat.lt_of_lt_of_le (A.ext E258).lt (Nat.le_of_eq g266.symm))
          refine go_caload d_m6_87 (((A.ext E258).ext E267).other W272 ne274) (v := (.int (cs.getD 1 0))) ⟨by decide, by decide⟩ (map_getD cs 1) (pc' := 88) rfl ?_
          refine go_castore 1 d_m6_88 A273 ⟨by decide, by decide⟩ rfl (Nat.le_of_ble_eq_true rfl) (x' := (cs.getD 1 0)) (nar_byt (hB.at 1)) (List.mem_of_getElem? (i := 0) rfl) (pc' := 89) rfl ?_
          intro h275 W276 A277
          refine g_dup d_m6_89 (pc' := 90) rfl rfl ?_
          refine g_iconst d_m6_90 (pc' := 91) rfl (z := 2) rfl ?_
          refine g_aloadN d_m6_91 (pc' := 92) rfl rfl rfl ?_
          refine g_iconst d_m6_92 (pc' := 93) rfl (z := 2) rfl ?_
          have f278 := ((((A.ext E258).ext E267).other W272 ne274).other W276 ne274)
          refine go_caload d_m6_93 f278 (v := (.int (cs.getD 2 0))) ⟨by decide, by decide⟩ (map_getD cs 2) (pc' := 94) rfl ?_
          refine go_castore 2 d_m6_94 A277 ⟨by decide, by decide⟩ rfl (Nat.le_of_ble_eq_true rfl) (x' := (cs.getD 2 0)) (nar_byt (hB.at 2)) (List.mem_of_getElem? (i := 0) rfl) (pc' := 95) rfl ?_
          intro h279 W280 A281
          have ne282 : a256 ≠ a264 := Nat.ne_of_lt (Nat.lt_of_lt_of_le A259.lt (Nat.le_of_eq g266.symm))
          have f283 := (Fld.other W280 (Fld.other W276 (Fld.other W272 (F261.ext E267) (Or.inl ne282)) (Or.inl ne282)) (Or.inl ne282))
          have f284 := (Fld.other W280 (Fld.other W276 (Fld.other W272 (F262.ext E267) (Or.inl ne282)) (Or.inl ne282)) (Or.inl ne282))
          refine go_special d_m6_95 (rm_initC hw [(cs.getD 0 0), (cs.getD 1 0), (cs.getD 2 0)] a256 a264 _ _ _ co [a264] h279 (Nat.le_of_ble_eq_true rfl) (Byt.lat (Byt.cons (hB.at 0) (Byt.cons (hB.at 1) (Byt.cons (hB.at 2) Byt.nil)))) (Exa.wr W280 (Exa.wr W276 (Exa.wr W272 (A259.ext E267)))) f283 f284 A281 Sc hco) (allS (List.mem_of_getElem? (i := 1) rfl) (allS (List.mem_of_getElem? (i := 0) rfl) all0)) rfl (w56 hw) (w57 hw) (w1 hw) (w58 hw) (by decide) (argsL := [(.ref a264)]) (rest := [(.ref a256)]) (lenOf pd19 rfl) rfl rfl rfl (W := 1) (Nat.le_of_ble_eq_true rfl) (by decide) (by decide) (by decide) (by decide) (pc' := 98) rfl ?_
          rintro _ h285 _ ⟨rfl, b286, rfl, K287, L288, N289⟩ z290
          show Go _ _ _ _ _ _ _ _ _ _ _ _ _ _ _ _ _ _ _ _ _ _ _ _ [(.ref a256)] _
          exact go_areturn d_m6_98 rfl rfl rfl (ws' := []) all0 ⟨_, _, _, rfl, rfl, (Nat.le_of_ble_eq_true rfl), (Byt.cons (hB.at 0) (Byt.cons (hB.at 1) (Byt.cons (hB.at 2) Byt.nil))), L288⟩
        · -- q67 does not hold
          refine g_icmpYes d_m6_67 (pc' := 99) (feq q67).2 (by decide) (by decide) ?_
          refine g_iloadN d_m6_99 (pc' := 100) rfl rfl ?_
          refine g_iconst d_m6_100 (pc' := 101) rfl (z := 4) rfl ?_
          by_cases q101 : n = (4 : Int32)
          · -- q101 holds
            refine g_icmpNo d_m6_101 (pc' := 104) rfl (teq q101).2 ?_
            refine go_new d_m6_104 (w55 hw) (w2 hw) (w1 hw) (by decide) (by decide) (pc' := 107) rfl ?_
            intro h291 a292 g293 E294 A295 D296
            have F297 : Fld Z h291 a292 "java/lang/String" "value" "[B" .null := D296 (Or.inr (w4 hw)) (ty := (.array .byte)) (by decide)
            have F298 : Fld Z h291 a292 "java/lang/String" "coder" "B" (.int (0 : Int32)) := D296 (Or.inr (w5 hw)) (ty := .byte) (by decide)
            refine g_dup d_m6_107 (pc' := 108) rfl rfl ?_
            refine g_iconst d_m6_108 (pc' := 109) rfl (z := 4) rfl ?_
            refine go_newarray d_m6_109 (w21 hw) (by decide) (cap := 4) (by decide) (by decide) (by decide) (by decide) (ad := "[C") rfl (pc' := 111) rfl ?_
            intro h299 a300 k301 g302 E303 A304 X305
            have A306 : Arv Z h299 a300 k301 .char (4 : Int32) [.int 0, .int 0, .int 0, .int 0] (.int 0) := Arv.pad A304 (pad_rep [] (.int 0) 4)
            refine g_dup d_m6_111 (pc' := 112) rfl rfl ?_
            refine g_iconst d_m6_112 (pc' := 113) rfl (z := 0) rfl ?_
            refine g_aloadN d_m6_113 (pc' := 114) rfl rfl rfl ?_
            refine g_iconst d_m6_114 (pc' := 115) rfl (z := 0) rfl ?_
            refine go_caload d_m6_115 ((A.ext E294).ext E303) (v := (.int (cs.getD 0 0))) ⟨by decide, by decide⟩ (map_getD cs 0) (pc' := 116) rfl ?_
            refine go_castore 0 d_m6_116 A306 ⟨by decide, by decide⟩ rfl (Nat.le_of_ble_eq_true rfl) (x' := (cs.getD 0 0)) (nar_byt (hB.at 0)) (List.mem_of_getElem? (i := 0) rfl) (pc' := 117) rfl ?_
            intro h307 W308 A309
            refine g_dup d_m6_117 (pc' := 118) rfl rfl ?_
            refine g_iconst d_m6_118 (pc' := 119) rfl (z := 1) rfl ?_
            refine g_aloadN d_m6_119 (pc' := 120) rfl rfl rfl ?_
            refine g_iconst d_m6_120 (pc' := 121) rfl (z := 1) rfl ?_
            have ne310 : ca ≠ a300 := Nat.ne_of_lt (Nat.lt_of_lt_of_le (A.ext E294).lt (Nat.le_of_eq g302.symm))
            refine go_caload d_m6_121 (((A.ext E294).ext E303).other W308 ne310) (v := (.int (cs.getD 1 0))) ⟨by decide, by decide⟩ (map_getD cs 1) (pc' := 122) rfl ?_
            refine go_castore 1 d_m6_122 A309 ⟨by decide, by decide⟩ rfl (Nat.le_of_ble_eq_true rfl) (x' := (cs.getD 1 0)) (nar_byt (hB.at 1)) (List.mem_of_getElem? (i := 0) rfl) (pc' := 123) rfl ?_
            intro h311 W312 A313
            refine g_dup d_m6_123 (pc' := 124) rfl rfl ?_
            refine g_iconst d_m6_124 (pc' := 125) rfl (z := 2) rfl ?_
            refine g_aloadN d_m6_125 (pc' := 126) rfl rfl rfl ?_
            refine g_iconst d_m6_126 (pc' := 127) rfl (z := 2) rfl ?_
            have f314 := ((((A.ext E294).ext E303).other W308 ne310).other W312 ne310)
            refine go_caload d_m6_127 f314 (v := (.int (cs.getD 2 0))) ⟨by decide, by decide⟩ (map_getD cs 2) (pc' := 128) rfl ?_
            refine go_castore 2 d_m6_128 A313 ⟨by decide, by decide⟩ rfl (Nat.le_of_ble_eq_true rfl) (x' := (cs.getD 2 0)) (nar_byt (hB.at 2)) (List.mem_of_getElem? (i := 0) rfl) (pc' := 129) rfl ?_
            intro h315 W316 A317
            refine g_dup d_m6_129 (pc' := 130) rfl rfl ?_
            refine g_iconst d_m6_130 (pc' := 131) rfl (z := 3) rfl ?_
            refine g_aloadN d_m6_131 (pc' := 132) rfl rfl rfl ?_
            refine g_iconst d_m6_132 (pc' := 133) rfl (z := 3) rfl ?_
            refine go_caload d_m6_133 (f314.other W316 ne310) (v := (.int (cs.getD 3 0))) ⟨by decide, by decide⟩ (map_getD cs 3) (pc' := 134) rfl ?_
            refine go_castore 3 d_m6_134 A317 ⟨by decide, by decide⟩ rfl (Nat.le_of_ble_eq_true rfl) (x' := (cs.getD 3 0)) (nar_byt (hB.at 3)) (List.mem_of_getElem? (i := 0) rfl) (pc' := 135) rfl ?_
            intro h318 W319 A320
            have f321 := (Exa.wr W319 (Exa.wr W316 (Exa.wr W312 (Exa.wr W308 (A295.ext E303)))))
            have ne322 : a292 ≠ a300 := Nat.ne_of_lt (Nat.lt_of_lt_of_le A295.lt (Nat.le_of_eq g302.symm))
            have f323 := (Fld.other W319 (Fld.other W316 (Fld.other W312 (Fld.other W308 (F297.ext E303) (Or.inl ne322)) (Or.inl ne322)) (Or.inl ne322)) (Or.inl ne322))
            have f324 := (Fld.other W319 (Fld.other W316 (Fld.other W312 (Fld.other W308 (F298.ext E303) (Or.inl ne322)) (Or.inl ne322)) (Or.inl ne322)) (Or.inl ne322))
            refine go_special d_m6_135 (rm_initC hw [(cs.getD 0 0), (cs.getD 1 0), (cs.getD 2 0), (cs.getD 3 0)] a292 a300 _ _ _ co [a300] h318 (Nat.le_of_ble_eq_true rfl) (Byt.lat (Byt.cons (hB.at 0) (Byt.cons (hB.at 1) (Byt.cons (hB.at 2) (Byt.cons (hB.at 3) Byt.nil))))) f321 f323 f324 A320 Sc hco) (allS (List.mem_of_getElem? (i := 1) rfl) (allS (List.mem_of_getElem? (i := 0) rfl) all0)) rfl (w56 hw) (w57 hw) (w1 hw) (w58 hw) (by decide) (argsL := [(.ref a300)]) (rest := [(.ref a292)]) (lenOf pd19 rfl) rfl rfl rfl (W := 1) (Nat.le_of_ble_eq_true rfl) (by decide) (by decide) (by decide) (by decide) (pc' := 138) rfl ?_
            rintro _ h325 _ ⟨rfl, b326, rfl, K327, L328, N329⟩ z330
            show Go _ _ _ _ _ _ _ _ _ _ _ _ _ _ _ _ _ _ _ _ _ _ _ _ [(.ref a292)] _
            exact go_areturn d_m6_138 rfl rfl rfl (ws' := []) all0 ⟨_, _, _, rfl, rfl, (Nat.le_of_ble_eq_true rfl), (Byt.cons (hB.at 0) (Byt.cons (hB.at 1) (Byt.cons (hB.at 2) (Byt.cons (hB.at 3) Byt.nil)))), L328⟩
          · -- q101 does not hold
            refine g_icmpYes d_m6_101 (pc' := 139) (feq q101).2 (by decide) (by decide) ?_
            refine g_iloadN d_m6_139 (pc' := 140) rfl rfl ?_
            refine g_iconst d_m6_140 (pc' := 141) rfl (z := 5) rfl ?_
            by_cases q141 : n = (5 : Int32)
            · -- q141 holds
              refine g_icmpNo d_m6_141 (pc' := 144) rfl (teq q141).2 ?_
              refine go_new d_m6_144 (w55 hw) (w2 hw) (w1 hw) (by decide) (by decide) (pc' := 147) rfl ?_
              intro h331 a332 g333 E334 A335 D336
              have F337 : Fld Z h331 a332 "java/lang/String" "value" "[B" .null := D336 (Or.inr (w4 hw)) (ty := (.array .byte)) (by decide)
              have F338 : Fld Z h331 a332 "java/lang/String" "coder" "B" (.int (0 : Int32)) := D336 (Or.inr (w5 hw)) (ty := .byte) (by decide)
              refine g_dup d_m6_147 (pc' := 148) rfl rfl ?_
              refine g_iconst d_m6_148 (pc' := 149) rfl (z := 5) rfl ?_
              refine go_newarray d_m6_149 (w21 hw) (by decide) (cap := 5) (by decide) (by decide) (by decide) (by decide) (ad := "[C") rfl (pc' := 151) rfl ?_
              intro h339 a340 k341 g342 E343 A344 X345
              have A346 : Arv Z h339 a340 k341 .char (5 : Int32) [.int 0, .int 0, .int 0, .int 0, .int 0] (.int 0) := Arv.pad A344 (pad_rep [] (.int 0) 5)
              refine g_dup d_m6_151 (pc' := 152) rfl rfl ?_
              refine g_iconst d_m6_152 (pc' := 153) rfl (z := 0) rfl ?_
              refine g_aloadN d_m6_153 (pc' := 154) rfl rfl rfl ?_
              refine g_iconst d_m6_154 (pc' := 155) rfl (z := 0) rfl ?_
              refine go_caload d_m6_155 ((A.ext E334).ext E343) (v := (.int (cs.getD 0 0))) ⟨by decide, by decide⟩ (map_getD cs 0) (pc' := 156) rfl ?_
              refine go_castore 0 d_m6_156 A346 ⟨by decide, by decide⟩ rfl (Nat.le_of_ble_eq_true rfl) (x' := (cs.getD 0 0)) (nar_byt (hB.at 0)) (List.mem_of_getElem? (i := 0) rfl) (pc' := 157) rfl ?_
              intro h347 W348 A349
              refine g_dup d_m6_157 (pc' := 158) rfl rfl ?_
              refine g_iconst d_m6_158 (pc' := 159) rfl (z := 1) rfl ?_
              refine g_aloadN d_m6_159 (pc' := 160) rfl rfl rfl ?_
              refine g_iconst d_m6_160 (pc' := 161) rfl (z := 1) rfl ?_
              have ne350 : ca ≠ a340 := Nat.ne_of_lt (Nat.lt_of_lt_of_le (A.ext E334).lt (Nat.le_of_eq g342.symm))
              refine go_caload d_m6_161 (((A.ext E334).ext E343).other W348 ne350) (v := (.int (cs.getD 1 0))) ⟨by decide, by decide⟩ (map_getD cs 1) (pc' := 162) rfl ?_
              refine go_castore 1 d_m6_162 A349 ⟨by decide, by decide⟩ rfl (Nat.le_of_ble_eq_true rfl) (x' := (cs.getD 1 0)) (nar_byt (hB.at 1)) (List.mem_of_getElem? (i := 0) rfl) (pc' := 163) rfl ?_
              intro h351 W352 A353
              refine g_dup d_m6_163 (pc' := 164) rfl rfl ?_
              refine g_iconst d_m6_164 (pc' := 165) rfl (z := 2) rfl ?_
              refine g_aloadN d_m6_165 (pc' := 166) rfl rfl rfl ?_
              refine g_iconst d_m6_166 (pc' := 167) rfl (z := 2) rfl ?_
              have f354 := ((((A.ext E334).ext E343).other W348 ne350).other W352 ne350)
              refine go_caload d_m6_167 f354 (v := (.int (cs.getD 2 0))) ⟨by decide, by decide⟩ (map_getD cs 2) (pc' := 168) rfl ?_
              refine go_castore 2 d_m6_168 A353 ⟨by decide, by decide⟩ rfl (Nat.le_of_ble_eq_true rfl) (x' := (cs.getD 2 0)) (nar_byt (hB.at 2)) (List.mem_of_getElem? (i := 0) rfl) (pc' := 169) rfl ?_
              intro h355 W356 A357
              refine g_dup d_m6_169 (pc' := 170) rfl rfl ?_
              refine g_iconst d_m6_170 (pc' := 171) rfl (z := 3) rfl ?_
              refine g_aloadN d_m6_171 (pc' := 172) rfl rfl rfl ?_
              refine g_iconst d_m6_172 (pc' := 173) rfl (z := 3) rfl ?_
              refine go_caload d_m6_173 (f354.other W356 ne350) (v := (.int (cs.getD 3 0))) ⟨by decide, by decide⟩ (map_getD cs 3) (pc' := 174) rfl ?_
              refine go_castore 3 d_m6_174 A357 ⟨by decide, by decide⟩ rfl (Nat.le_of_ble_eq_true rfl) (x' := (cs.getD 3 0)) (nar_byt (hB.at 3)) (List.mem_of_getElem? (i := 0) rfl) (pc' := 175) rfl ?_
              intro h358 W359 A360
              refine g_dup d_m6_175 (pc' := 176) rfl rfl ?_
              refine g_iconst d_m6_176 (pc' := 177) rfl (z := 4) rfl ?_
              refine g_aloadN d_m6_177 (pc' := 178) rfl rfl rfl ?_
              refine g_iconst d_m6_178 (pc' := 179) rfl (z := 4) rfl ?_
              refine go_caload d_m6_179 ((f354.other W356 ne350).other W359 ne350) (v := (.int (cs.getD 4 0))) ⟨by decide, by decide⟩ (map_getD cs 4) (pc' := 180) rfl ?_
              refine go_castore 4 d_m6_180 A360 ⟨by decide, by decide⟩ rfl (Nat.le_of_ble_eq_true rfl) (x' := (cs.getD 4 0)) (nar_byt (hB.at 4)) (List.mem_of_getElem? (i := 0) rfl) (pc' := 181) rfl ?_
              intro h361 W362 A363
              have f364 := (Exa.wr W362 (Exa.wr W359 (Exa.wr W356 (Exa.wr W352 (Exa.wr W348 (A335.ext E343))))))
              have ne365 : a332 ≠ a340 := Nat.ne_of_lt (Nat.lt_of_lt_of_le A335.lt (Nat.le_of_eq g342.symm))
              have f366 := (Fld.other W362 (Fld.other W359 (Fld.other W356 (Fld.other W352 (Fld.other W348 (F337.ext E343) (Or.inl ne365)) (Or.inl ne365)) (Or.inl ne365)) (Or.inl ne365)) (Or.inl ne365))
              have f367 := (Fld.other W362 (Fld.other W359 (Fld.other W356 (Fld.other W352 (Fld.other W348 (F338.ext E343) (Or.inl ne365)) (Or.inl ne365)) (Or.inl ne365)) (Or.inl ne365)) (Or.inl ne365))
              refine go_special d_m6_181 (rm_initC hw [(cs.getD 0 0), (cs.getD 1 0), (cs.getD 2 0), (cs.getD 3 0), (cs.getD 4 0)] a332 a340 _ _ _ co [a340] h361 (Nat.le_of_ble_eq_true rfl) (Byt.lat (Byt.cons (hB.at 0) (Byt.cons (hB.at 1) (Byt.cons (hB.at 2) (Byt.cons (hB.at 3) (Byt.cons (hB.at 4) Byt.nil)))))) f364 f366 f367 A363 Sc hco) (allS (List.mem_of_getElem? (i := 1) rfl) (allS (List.mem_of_getElem? (i := 0) rfl) all0)) rfl (w56 hw) (w57 hw) (w1 hw) (w58 hw) (by decide) (argsL := [(.ref a340)]) (rest := [(.ref a332)]) (lenOf pd19 rfl) rfl rfl rfl (W := 1) (Nat.le_of_ble_eq_true rfl) (by decide) (by decide) (by decide) (by decide) (pc' := 184) rfl ?_
              rintro _ h368 _ ⟨rfl, b369, rfl, K370, L371, N372⟩ z373
              show Go _ _ _ _ _ _ _ _ _ _ _ _ _ _ _ _ _ _ _ _ _ _ _ _ [(.ref a332)] _
              exact go_areturn d_m6_184 rfl rfl rfl (ws' := []) all0 ⟨_, _, _, rfl, rfl, (Nat.le_of_ble_eq_true rfl), (Byt.cons (hB.at 0) (Byt.cons (hB.at 1) (Byt.cons (hB.at 2) (Byt.cons (hB.at 3) (Byt.cons (hB.at 4) Byt.nil))))), L371⟩
            · -- q141 does not hold
              refine g_icmpYes d_m6_141 (pc' := 185) (feq q141).2 (by decide) (by decide) ?_
              refine g_iloadN d_m6_185 (pc' := 186) rfl rfl ?_
              refine g_bipush d_m6_186 (pc' := 188) rfl (z := 6) rfl ?_
              by_cases q188 : n = (6 : Int32)
              · -- q188 holds
                refine g_icmpNo d_m6_188 (pc' := 191) rfl (teq q188).2 ?_
                refine go_new d_m6_191 (w55 hw) (w2 hw) (w1 hw) (by decide) (by decide) (pc' := 194) rfl ?_
                intro h374 a375 g376 E377 A378 D379
                have F380 : Fld Z h374 a375 "java/lang/String" "value" "[B" .null := D379 (Or.inr (w4 hw)) (ty := (.array .byte)) (by decide)
                have F381 : Fld Z h374 a375 "java/lang/String" "coder" "B" (.int (0 : Int32)) := D379 (Or.inr (w5 hw)) (ty := .byte) (by decide)
                refine g_dup d_m6_194 (pc' := 195) rfl rfl ?_
                refine g_bipush d_m6_195 (pc' := 197) rfl (z := 6) rfl ?_
                refine go_newarray d_m6_197 (w21 hw) (by decide) (cap := 6) (by decide) (by decide) (by decide) (by decide) (ad := "[C") rfl (pc' := 199) rfl ?_
                intro h382 a383 k384 g385 E386 A387 X388
                have A389 : Arv Z h382 a383 k384 .char (6 : Int32) [.int 0, .int 0, .int 0, .int 0, .int 0, .int 0] (.int 0) := Arv.pad A387 (pad_rep [] (.int 0) 6)
                refine g_dup d_m6_199 (pc' := 200) rfl rfl ?_
                refine g_iconst d_m6_200 (pc' := 201) rfl (z := 0) rfl ?_
                refine g_aloadN d_m6_201 (pc' := 202) rfl rfl rfl ?_
                refine g_iconst d_m6_202 (pc' := 203) rfl (z := 0) rfl ?_
                refine go_caload d_m6_203 ((A.ext E377).ext E386) (v := (.int (cs.getD 0 0))) ⟨by decide, by decide⟩ (map_getD cs 0) (pc' := 204) rfl ?_
                refine go_castore 0 d_m6_204 A389 ⟨by decide, by decide⟩ rfl (Nat.le_of_ble_eq_true rfl) (x' := (cs.getD 0 0)) (nar_byt (hB.at 0)) (List.mem_of_getElem? (i := 0) rfl) (pc' := 205) rfl ?_
                intro h390 W391 A392
                refine g_dup d_m6_205 (pc' := 206) rfl rfl ?_
                refine g_iconst d_m6_206 (pc' := 207) rfl (z := 1) rfl ?_
                refine g_aloadN d_m6_207 (pc' := 208) rfl rfl rfl ?_
                refine g_iconst d_m6_208 (pc' := 209) rfl (z := 1) rfl ?_
                have ne393 : ca ≠ a383 := Nat.ne_of_lt (Nat.lt_of_lt_of_le (A.ext E377).lt (Nat.le_of_eq g385.symm))
                refine go_caload d_m6_209 (((A.ext E377).ext E386).other W391 ne393) (v := (.int (cs.getD 1 0))) ⟨by decide, by decide⟩ (map_getD cs 1) (pc' := 210) rfl ?_
                refine go_castore 1 d_m6_210 A392 ⟨by decide, by decide⟩ rfl (Nat.le_of_ble_eq_true rfl) (x' := (cs.getD 1 0)) (nar_byt (hB.at 1)) (List.mem_of_getElem? (i := 0) rfl) (pc' := 211) rfl ?_
                intro h394 W395 A396
                refine g_dup d_m6_211 (pc' := 212) rfl rfl ?_
                refine g_iconst d_m6_212 (pc' := 213) rfl (z := 2) rfl ?_
                refine g_aloadN d_m6_213 (pc' := 214) rfl rfl rfl ?_
                refine g_iconst d_m6_214 (pc' := 215) rfl (z := 2) rfl ?_
                have f397 := ((((A.ext E377).ext E386).other W391 ne393).other W395 ne393)
                refine go_caload d_m6_215 f397 (v := (.int (cs.getD 2 0))) ⟨by decide, by decide⟩ (map_getD cs 2) (pc' := 216) rfl ?_
                refine go_castore 2 d_m6_216 A396 ⟨by decide, by decide⟩ rfl (Nat.le_of_ble_eq_true rfl) (x' := (cs.getD 2 0)) (nar_byt (hB.at 2)) (List.mem_of_getElem? (i := 0) rfl) (pc' := 217) rfl ?_
                intro h398 W399 A400
                refine g_dup d_m6_217 (pc' := 218) rfl rfl ?_
                refine g_iconst d_m6_218 (pc' := 219) rfl (z := 3) rfl ?_
                refine g_aloadN d_m6_219 (pc' := 220) rfl rfl rfl ?_
                refine g_iconst d_m6_220 (pc' := 221) rfl (z := 3) rfl ?_
                refine go_caload d_m6_221 (f397.other W399 ne393) (v := (.int (cs.getD 3 0))) ⟨by decide, by decide⟩ (map_getD cs 3) (pc' := 222) rfl ?_
                refine go_castore 3 d_m6_222 A400 ⟨by decide, by decide⟩ rfl (Nat.le_of_ble_eq_true rfl) (x' := (cs.getD 3 0)) (nar_byt (hB.at 3)) (List.mem_of_getElem? (i := 0) rfl) (pc' := 223) rfl ?_
                intro h401 W402 A403
                refine g_dup d_m6_223 (pc' := 224) rfl rfl ?_
                refine g_iconst d_m6_224 (pc' := 225) rfl (z := 4) rfl ?_
                refine g_aloadN d_m6_225 (pc' := 226) rfl rfl rfl ?_
                refine g_iconst d_m6_226 (pc' := 227) rfl (z := 4) rfl ?_
                refine go_caload d_m6_227 ((f397.other W399 ne393).other W402 ne393) (v := (.int (cs.getD 4 0))) ⟨by decide, by decide⟩ (map_getD cs 4) (pc' := 228) rfl ?_
                refine go_castore 4 d_m6_228 A403 ⟨by decide, by decide⟩ rfl (Nat.le_of_ble_eq_true rfl) (x' := (cs.getD 4 0)) (nar_byt (hB.at 4)) (List.mem_of_getElem? (i := 0) rfl) (pc' := 229) rfl ?_
                intro h404 W405 A406
                refine g_dup d_m6_229 (pc' := 230) rfl rfl ?_
                refine g_iconst d_m6_230 (pc' := 231) rfl (z := 5) rfl ?_
                refine g_aloadN d_m6_231 (pc' := 232) rfl rfl rfl ?_
                refine g_iconst d_m6_232 (pc' := 233) rfl (z := 5) rfl ?_
                have f407 := (((f397.other W399 ne393).other W402 ne393).other W405 ne393)
                refine go_caload d_m6_233 f407 (v := (.int (cs.getD 5 0))) ⟨by decide, by decide⟩ (map_getD cs 5) (pc' := 234) rfl ?_
                refine go_castore 5 d_m6_234 A406 ⟨by decide, by decide⟩ rfl (Nat.le_of_ble_eq_true rfl) (x' := (cs.getD 5 0)) (nar_byt (hB.at 5)) (List.mem_of_getElem? (i := 0) rfl) (pc' := 235) rfl ?_
                intro h408 W409 A410
                have f411 := (Exa.wr W409 (Exa.wr W405 (Exa.wr W402 (Exa.wr W399 (Exa.wr W395 (Exa.wr W391 (A378.ext E386)))))))
                have ne412 : a375 ≠ a383 := Nat.ne_of_lt (Nat.lt_of_lt_of_le A378.lt (Nat.le_of_eq g385.symm))
                have f413 := (Fld.other W409 (Fld.other W405 (Fld.other W402 (Fld.other W399 (Fld.other W395 (Fld.other W391 (F380.ext E386) (Or.inl ne412)) (Or.inl ne412)) (Or.inl ne412)) (Or.inl ne412)) (Or.inl ne412)) (Or.inl ne412))
                have f414 := (Fld.other W409 (Fld.other W405 (Fld.other W402 (Fld.other W399 (Fld.other W395 (Fld.other W391 (F381.ext E386) (Or.inl ne412)) (Or.inl ne412)) (Or.inl ne412)) (Or.inl ne412)) (Or.inl ne412)) (Or.inl ne412))
                refine go_special d_m6_235 (rm_initC hw [(cs.getD 0 0), (cs.getD 1 0), (cs.getD 2 0), (cs.getD 3 0), (cs.getD 4 0), (cs.getD 5 0)] a375 a383 _ _ _ co [a383] h408 (Nat.le_of_ble_eq_true rfl) (Byt.lat (Byt.cons (hB.at 0) (Byt.cons (hB.at 1) (Byt.cons (hB.at 2) (Byt.cons (hB.at 3) (Byt.cons (hB.at 4) (Byt.cons (hB.at 5) Byt.nil))))))) f411 f413 f414 A410 Sc hco) (allS (List.mem_of_getElem? (i := 1) rfl) (allS (List.mem_of_getElem? (i := 0) rfl) all0)) rfl (w56 hw) (w57 hw) (w1 hw) (w58 hw) (by decide) (argsL := [(.ref a383)]) (rest := [(.ref a375)]) (lenOf pd19 rfl) rfl rfl rfl (W := 1) (Nat.le_of_ble_eq_true rfl) (by decide) (by decide) (by decide) (by decide) (pc' := 238) rfl ?_
                rintro _ h415 _ ⟨rfl, b416, rfl, K417, L418, N419⟩ z420
                show Go _ _ _ _ _ _ _ _ _ _ _ _ _ _ _ _ _ _ _ _ _ _ _ _ [(.ref a375)] _
                exact go_areturn d_m6_238 rfl rfl rfl (ws' := []) all0 ⟨_, _, _, rfl, rfl, (Nat.le_of_ble_eq_true rfl), (Byt.cons (hB.at 0) (Byt.cons (hB.at 1) (Byt.cons (hB.at 2) (Byt.cons (hB.at 3) (Byt.cons (hB.at 4) (Byt.cons (hB.at 5) Byt.nil)))))), L418⟩
              · -- q188 does not hold
                refine g_icmpYes d_m6_188 (pc' := 239) (feq q188).2 (by decide) (by decide) ?_
                refine g_iloadN d_m6_239 (pc' := 240) rfl rfl ?_
                refine g_bipush d_m6_240 (pc' := 242) rfl (z := 7) rfl ?_
                by_cases q242 : n = (7 : Int32)
                · -- q242 holds
                  refine g_icmpNo d_m6_242 (pc' := 245) rfl (teq q242).2 ?_
                  refine go_new d_m6_245 (w55 hw) (w2 hw) (w1 hw) (by decide) (by decide) (pc' := 248) rfl ?_
                  intro h421 a422 g423 E424 A425 D426
                  have F427 : Fld Z h421 a422 "java/lang/String" "value" "[B" .null := D426 (Or.inr (w4 hw)) (ty := (.array .byte)) (by decide)
                  have F428 : Fld Z h421 a422 "java/lang/String" "coder" "B" (.int (0 : Int32)) := D426 (Or.inr (w5 hw)) (ty := .byte) (by decide)
                  refine g_dup d_m6_248 (pc' := 249) rfl rfl ?_
                  refine g_bipush d_m6_249 (pc' := 251) rfl (z := 7) rfl ?_
                  refine go_newarray d_m6_251 (w21 hw) (by decide) (cap := 7) (by decide) (by decide) (by decide) (by decide) (ad := "[C") rfl (pc' := 253) rfl ?_
                  intro h429 a430 k431 g432 E433 A434 X435
                  have A436 : Arv Z h429 a430 k431 .char (7 : Int32) [.int 0, .int 0, .int 0, .int 0, .int 0, .int 0, .int 0] (.int 0) := Arv.pad A434 (pad_rep [] (.int 0) 7)
                  refine g_dup d_m6_253 (pc' := 254) rfl rfl ?_
                  refine g_iconst d_m6_254 (pc' := 255) rfl (z := 0) rfl ?_
                  refine g_aloadN d_m6_255 (pc' := 256) rfl rfl rfl ?_
                  refine g_iconst d_m6_256 (pc' := 257) rfl (z := 0) rfl ?_
                  refine go_caload d_m6_257 ((A.ext E424).ext E433) (v := (.int (cs.getD 0 0))) ⟨by decide, by decide⟩ (map_getD cs 0) (pc' := 258) rfl ?_
                  refine go_castore 0 d_m6_258 A436 ⟨by decide, by decide⟩ rfl (Nat.le_of_ble_eq_true rfl) (x' := (cs.getD 0 0)) (nar_byt (hB.at 0)) (List.mem_of_getElem? (i := 0) rfl) (pc' := 259) rfl ?_
                  intro h437 W438 A439
                  refine g_dup d_m6_259 (pc' := 260) rfl rfl ?_
                  refine g_iconst d_m6_260 (pc' := 261) rfl (z := 1) rfl ?_
                  refine g_aloadN d_m6_261 (pc' := 262) rfl rfl rfl ?_
                  refine g_iconst d_m6_262 (pc' := 263) rfl (z := 1) rfl ?_
                  have ne440 : ca ≠ a430 := Nat.ne_of_lt (Nat.lt_of_lt_of_le (A.ext E424).lt (Nat.le_of_eq g432.symm))
                  refine go_caload d_m6_263 (((A.ext E424).ext E433).other W438 ne440) (v := (.int (cs.getD 1 0))) ⟨by decide, by decide⟩ (map_getD cs 1) (pc' := 264) rfl ?_
                  refine go_castore 1 d_m6_264 A439 ⟨by decide, by decide⟩ rfl (Nat.le_of_ble_eq_true rfl) (x' := (cs.getD 1 0)) (nar_byt (hB.at 1)) (List.mem_of_getElem? (i := 0) rfl) (pc' := 265) rfl ?_
                  intro h441 W442 A443
                  refine g_dup d_m6_265 (pc' := 266) rfl rfl ?_
                  refine g_iconst d_m6_266 (pc' := 267) rfl (z := 2) rfl ?_
                  refine g_aloadN d_m6_267 (pc' := 268) rfl rfl rfl ?_
                  refine g_iconst d_m6_268 (pc' := 269) rfl (z := 2) rfl ?_
                  have f444 := ((((A.ext E424).ext E433).other W438 ne440).other W442 ne440)
                  refine go_caload d_m6_269 f444 (v := (.int (cs.getD 2 0))) ⟨by decide, by decide⟩ (map_getD cs 2) (pc' := 270) rfl ?_
                  refine go_castore 2 d_m6_270 A443 ⟨by decide, by decide⟩ rfl (Nat.le_of_ble_eq_true rfl) (x' := (cs.getD 2 0)) (nar_byt (hB.at 2)) (List.mem_of_getElem? (i := 0) rfl) (pc' := 271) rfl ?_
                  intro h445 W446 A447
                  refine g_dup d_m6_271 (pc' := 272) rfl rfl ?_
                  refine g_iconst d_m6_272 (pc' := 273) rfl (z := 3) rfl ?_
                  refine g_aloadN d_m6_273 (pc' := 274) rfl rfl rfl ?_
                  refine g_iconst d_m6_274 (pc' := 275) rfl (z := 3) rfl ?_
                  refine go_caload d_m6_275 (f444.other W446 ne440) (v := (.int (cs.getD 3 0))) ⟨by decide, by decide⟩ (map_getD cs 3) (pc' := 276) rfl ?_
                  refine go_castore 3 d_m6_276 A447 ⟨by decide, by decide⟩ rfl (Nat.le_of_ble_eq_true rfl) (x' := (cs.getD 3 0)) (nar_byt (hB.at 3)) (List.mem_of_getElem? (i := 0) rfl) (pc' := 277) rfl ?_
                  intro h448 W449 A450
                  refine g_dup d_m6_277 (pc' := 278) rfl rfl ?_
                  refine g_iconst d_m6_278 (pc' := 279) rfl (z := 4) rfl ?_
                  refine g_aloadN d_m6_279 (pc' := 280) rfl rfl rfl ?_
                  refine g_iconst d_m6_280 (pc' := 281) rfl (z := 4) rfl ?_
                  refine go_caload d_m6_281 ((f444.other W446 ne440).other W449 ne440) (v := (.int (cs.getD 4 0))) ⟨by decide, by decide⟩ (map_getD cs 4) (pc' := 282) rfl ?_
                  refine go_castore 4 d_m6_282 A450 ⟨by decide, by decide⟩ rfl (Nat.le_of_ble_eq_true rfl) (x' := (cs.getD 4 0)) (nar_byt (hB.at 4)) (List.mem_of_getElem? (i := 0) rfl) (pc' := 283) rfl ?_
                  intro h451 W452 A453
                  refine g_dup d_m6_283 (pc' := 284) rfl rfl ?_
                  refine g_iconst d_m6_284 (pc' := 285) rfl (z := 5) rfl ?_
                  refine g_aloadN d_m6_285 (pc' := 286) rfl rfl rfl ?_
                  refine g_iconst d_m6_286 (pc' := 287) rfl (z := 5) rfl ?_
                  have f454 := (((f444.other W446 ne440).other W449 ne440).other W452 ne440)
                  refine go_caload d_m6_287 f454 (v := (.int (cs.getD 5 0))) ⟨by decide, by decide⟩ (map_getD cs 5) (pc' := 288) rfl ?_
                  refine go_castore 5 d_m6_288 A453 ⟨by decide, by decide⟩ rfl (Nat.le_of_ble_eq_true rfl) (x' := (cs.getD 5 0)) (nar_byt (hB.at 5)) (List.mem_of_getElem? (i := 0) rfl) (pc' := 289) rfl ?_
                  intro h455 W456 A457
                  refine g_dup d_m6_289 (pc' := 290) rfl rfl ?_
                  refine g_bipush d_m6_290 (pc' := 292) rfl (z := 6) rfl ?_
                  refine g_aloadN d_m6_292 (pc' := 293) rfl rfl rfl ?_
                  refine g_bipush d_m6_293 (pc' := 295) rfl (z := 6) rfl ?_
                  refine go_caload d_m6_295 (f454.other W456 ne440) (v := (.int (cs.getD 6 0))) ⟨by decide, by decide⟩ (map_getD cs 6) (pc' := 296) rfl ?_
                  refine go_castore 6 d_m6_296 A457 ⟨by decide, by decide⟩ rfl (Nat.le_of_ble_eq_true rfl) (x' := (cs.getD 6 0)) (nar_byt (hB.at 6)) (List.mem_of_getElem? (i := 0) rfl) (pc' := 297) rfl ?_
                  intro h458 W459 A460
                  have f461 := (Exa.wr W459 (Exa.wr W456 (Exa.wr W452 (Exa.wr W449 (Exa.wr W446 (Exa.wr W442 (Exa.wr W438 (A425.ext E433))))))))
                  have ne462 : a422 ≠ a430 := Nat.ne_of_lt (Nat.lt_of_lt_of_le A425.lt (Nat.le_of_eq g432.symm))
                  have f463 := (Fld.other W459 (Fld.other W456 (Fld.other W452 (Fld.other W449 (Fld.other W446 (Fld.other W442 (Fld.other W438 (F427.ext E433) (Or.inl ne462)) (Or.inl ne462)) (Or.inl ne462)) (Or.inl ne462)) (Or.inl ne462)) (Or.inl ne462)) (Or.inl ne462))
                  have f464 := (Fld.other W459 (Fld.other W456 (Fld.other W452 (Fld.other W449 (Fld.other W446 (Fld.other W442 (Fld.other W438 (F428.ext E433) (Or.inl ne462)) (Or.inl ne462)) (Or.inl ne462)) (Or.inl ne462)) (Or.inl ne462)) (Or.inl ne462)) (Or.inl ne462))
                  refine go_special d_m6_297 (rm_initC hw [(cs.getD 0 0), (cs.getD 1 0), (cs.getD 2 0), (cs.getD 3 0), (cs.getD 4 0), (cs.getD 5 0), (cs.getD 6 0)] a422 a430 _ _ _ co [a430] h458 (Nat.le_of_ble_eq_true rfl) (Byt.lat (Byt.cons (hB.at 0) (Byt.cons (hB.at 1) (Byt.cons (hB.at 2) (Byt.cons (hB.at 3) (Byt.cons (hB.at 4) (Byt.cons (hB.at 5) (Byt.cons (hB.at 6) Byt.nil)))))))) f461 f463 f464 A460 Sc hco) (allS (List.mem_of_getElem? (i := 1) rfl) (allS (List.mem_of_getElem? (i := 0) rfl) all0)) rfl (w56 hw) (w57 hw) (w1 hw) (w58 hw) (by decide) (argsL := [(.ref a430)]) (rest := [(.ref a422)]) (lenOf pd19 rfl) rfl rfl rfl (W := 1) (Nat.le_of_ble_eq_true rfl) (by decide) (by decide) (by decide) (by decide) (pc' := 300) rfl ?_
                  rintro _ h465 _ ⟨rfl, b466, rfl, K467, L468, N469⟩ z470
                  show Go _ _ _ _ _ _ _ _ _ _ _ _ _ _ _ _ _ _ _ _ _ _ _ _ [(.ref a422)] _
                  exact go_areturn d_m6_300 rfl rfl rfl (ws' := []) all0 ⟨_, _, _, rfl, rfl, (Nat.le_of_ble_eq_true rfl), (Byt.cons (hB.at 0) (Byt.cons (hB.at 1) (Byt.cons (hB.at 2) (Byt.cons (hB.at 3) (Byt.cons (hB.at 4) (Byt.cons (hB.at 5) (Byt.cons (hB.at 6) Byt.nil))))))), L468⟩
                · -- q242 does not hold
                  refine g_icmpYes d_m6_242 (pc' := 301) (feq q242).2 (by decide) (by decide) ?_
                  refine g_iloadN d_m6_301 (pc' := 302) rfl rfl ?_
                  refine g_bipush d_m6_302 (pc' := 304) rfl (z := 8) rfl ?_
                  by_cases q304 : n = (8 : Int32)
                  · -- q304 holds
                    refine g_icmpNo d_m6_304 (pc' := 307) rfl (teq q304).2 ?_
                    refine go_new d_m6_307 (w55 hw) (w2 hw) (w1 hw) (by decide) (by decide) (pc' := 310) rfl ?_
                    intro h471 a472 g473 E474 A475 D476
                    have F477 : Fld Z h471 a472 "java/lang/String" "value" "[B" .null := D476 (Or.inr (w4 hw)) (ty := (.array .byte)) (by decide)
                    have F478 : Fld Z h471 a472 "java/lang/String" "coder" "B" (.int (0 : Int32)) := D476 (Or.inr (w5 hw)) (ty := .byte) (by decide)
                    refine g_dup d_m6_310 (pc' := 311) rfl rfl ?_
                    refine g_bipush d_m6_311 (pc' := 313) rfl (z := 8) rfl ?_
                    refine go_newarray d_m6_313 (w21 hw) (by decide) (cap := 8) (by decide) (by decide) (by decide) (by decide) (ad := "[C") rfl (pc' := 315) rfl ?_
                    intro h479 a480 k481 g482 E483 A484 X485
                    have A486 : Arv Z h479 a480 k481 .char (8 : Int32) [.int 0, .int 0, .int 0, .int 0, .int 0, .int 0, .int 0, .int 0] (.int 0) := Arv.pad A484 (pad_rep [] (.int 0) 8)
                    refine g_dup d_m6_315 (pc' := 316) rfl rfl ?_
                    refine g_iconst d_m6_316 (pc' := 317) rfl (z := 0) rfl ?_
                    refine g_aloadN d_m6_317 (pc' := 318) rfl rfl rfl ?_
                    refine g_iconst d_m6_318 (pc' := 319) rfl (z := 0) rfl ?_
                    refine go_caload d_m6_319 ((A.ext E474).ext E483) (v := (.int (cs.getD 0 0))) ⟨by decide, by decide⟩ (map_getD cs 0) (pc' := 320) rfl ?_
                    refine go_castore 0 d_m6_320 A486 ⟨by decide, by decide⟩ rfl (Nat.le_of_ble_eq_true rfl) (x' := (cs.getD 0 0)) (nar_byt (hB.at 0)) (List.mem_of_getElem? (i := 0) rfl) (pc' := 321) rfl ?_
                    intro h487 W488 A489
                    refine g_dup d_m6_321 (pc' := 322) rfl rfl ?_
                    refine g_iconst d_m6_322 (pc' := 323) rfl (z := 1) rfl ?_
                    refine g_aloadN d_m6_323 (pc' := 324) rfl rfl rfl ?_
                    refine g_iconst d_m6_324 (pc' := 325) rfl (z := 1) rfl ?_
                    have ne490 : ca ≠ a480 := Nat.ne_of_lt (Nat.lt_of_lt_of_le (A.ext E474).lt (Nat.le_of_eq g482.symm))
                    refine go_caload d_m6_325 (((A.ext E474).ext E483).other W488 ne490) (v := (.int (cs.getD 1 0))) ⟨by decide, by decide⟩ (map_getD cs 1) (pc' := 326) rfl ?_
                    refine go_castore 1 d_m6_326 A489 ⟨by decide, by decide⟩ rfl (Nat.le_of_ble_eq_true rfl) (x' := (cs.getD 1 0)) (nar_byt (hB.at 1)) (List.mem_of_getElem? (i := 0) rfl) (pc' := 327) rfl ?_
                    intro h491 W492 A493
                    refine g_dup d_m6_327 (pc' := 328) rfl rfl ?_
                    refine g_iconst d_m6_328 (pc' := 329) rfl (z := 2) rfl ?_
                    refine g_aloadN d_m6_329 (pc' := 330) rfl rfl rfl ?_
                    refine g_iconst d_m6_330 (pc' := 331) rfl (z := 2) rfl ?_
                    have f494 := ((((A.ext E474).ext E483).other W488 ne490).other W492 ne490)
                    refine go_caload d_m6_331 f494 (v := (.int (cs.getD 2 0))) ⟨by decide, by decide⟩ (map_getD cs 2) (pc' := 332) rfl ?_
                    refine go_castore 2 d_m6_332 A493 ⟨by decide, by decide⟩ rfl (Nat.le_of_ble_eq_true rfl) (x' := (cs.getD 2 0)) (nar_byt (hB.at 2)) (List.mem_of_getElem? (i := 0) rfl) (pc' := 333) rfl ?_
                    intro h495 W496 A497
                    refine g_dup d_m6_333 (pc' := 334) rfl rfl ?_
                    refine g_iconst d_m6_334 (pc' := 335) rfl (z := 3) rfl ?_
                    refine g_aloadN d_m6_335 (pc' := 336) rfl rfl rfl ?_
                    refine g_iconst d_m6_336 (pc' := 337) rfl (z := 3) rfl ?_
                    refine go_caload d_m6_337 (f494.other W496 ne490) (v := (.int (cs.getD 3 0))) ⟨by decide, by decide⟩ (map_getD cs 3) (pc' := 338) rfl ?_
                    refine go_castore 3 d_m6_338 A497 ⟨by decide, by decide⟩ rfl (Nat.le_of_ble_eq_true rfl) (x' := (cs.getD 3 0)) (nar_byt (hB.at 3)) (List.mem_of_getElem? (i := 0) rfl) (pc' := 339) rfl ?_
                    intro h498 W499 A500
                    refine g_dup d_m6_339 (pc' := 340) rfl rfl ?_
                    refine g_iconst d_m6_340 (pc' := 341) rfl (z := 4) rfl ?_
                    refine g_aloadN d_m6_341 (pc' := 342) rfl rfl rfl ?_
                    refine g_iconst d_m6_342 (pc' := 343) rfl (z := 4) rfl ?_
                    refine go_caload d_m6_343 ((f494.other W496 ne490).other W499 ne490) (v := (.int (cs.getD 4 0))) ⟨by decide, by decide⟩ (map_getD cs 4) (pc' := 344) rfl ?_
                    refine go_castore 4 d_m6_344 A500 ⟨by decide, by decide⟩ rfl (Nat.le_of_ble_eq_true rfl) (x' := (cs.getD 4 0)) (nar_byt (hB.at 4)) (List.mem_of_getElem? (i := 0) rfl) (pc' := 345) rfl ?_
                    intro h501 W502 A503
                    refine g_dup d_m6_345 (pc' := 346) rfl rfl ?_
                    refine g_iconst d_m6_346 (pc' := 347) rfl (z := 5) rfl ?_
                    refine g_aloadN d_m6_347 (pc' := 348) rfl rfl rfl ?_
                    refine g_iconst d_m6_348 (pc' := 349) rfl (z := 5) rfl ?_
                    have f504 := (((f494.other W496 ne490).other W499 ne490).other W502 ne490)
                    refine go_caload d_m6_349 f504 (v := (.int (cs.getD 5 0))) ⟨by decide, by decide⟩ (map_getD cs 5) (pc' := 350) rfl ?_
                    refine go_castore 5 d_m6_350 A503 ⟨by decide, by decide⟩ rfl (Nat.le_of_ble_eq_true rfl) (x' := (cs.getD 5 0)) (nar_byt (hB.at 5)) (List.mem_of_getElem? (i := 0) rfl) (pc' := 351) rfl ?_
                    intro h505 W506 A507
                    refine g_dup d_m6_351 (pc' := 352) rfl rfl ?_
                    refine g_bipush d_m6_352 (pc' := 354) rfl (z := 6) rfl ?_
                    refine g_aloadN d_m6_354 (pc' := 355) rfl rfl rfl ?_
                    refine g_bipush d_m6_355 (pc' := 357) rfl (z := 6) rfl ?_
                    refine go_caload d_m6_357 (f504.other W506 ne490) (v := (.int (cs.getD 6 0))) ⟨by decide, by decide⟩ (map_getD cs 6) (pc' := 358) rfl ?_
                    refine go_castore 6 d_m6_358 A507 ⟨by decide, by decide⟩ rfl (Nat.le_of_ble_eq_true rfl) (x' := (cs.getD 6 0)) (nar_byt (hB.at 6)) (List.mem_of_getElem? (i := 0) rfl) (pc' := 359) rfl ?_
                    intro h508 W509 A510
                    refine g_dup d_m6_359 (pc' := 360) rfl rfl ?_
                    refine g_bipush d_m6_360 (pc' := 362) rfl (z := 7) rfl ?_
                    refine g_aloadN d_m6_362 (pc' := 363) rfl rfl rfl ?_
                    refine g_bipush d_m6_363 (pc' := 365) rfl (z := 7) rfl ?_
                    refine go_caload d_m6_365 ((f504.other W506 ne490).other W509 ne490) (v := (.int (cs.getD 7 0))) ⟨by decide, by decide⟩ (map_getD cs 7) (pc' := 366) rfl ?_
                    refine go_castore 7 d_m6_366 A510 ⟨by decide, by decide⟩ rfl (Nat.le_of_ble_eq_true rfl) (x' := (cs.getD 7 0)) (nar_byt (hB.at 7)) (List.mem_of_getElem? (i := 0) rfl) (pc' := 367) rfl ?_
                    intro h511 W512 A513
                    have f514 := (Exa.wr W512 (Exa.wr W509 (Exa.wr W506 (Exa.wr W502 (Exa.wr W499 (Exa.wr W496 (Exa.wr W492 (Exa.wr W488 (A475.ext E483)))))))))
                    have ne515 : a472 ≠ a480 := Nat.ne_of_lt (Nat.lt_of_lt_of_le A475.lt (Nat.le_of_eq g482.symm))
                    have f516 := (Fld.other W512 (Fld.other W509 (Fld.other W506 (Fld.other W502 (Fld.other W499 (Fld.other W496 (Fld.other W492 (Fld.other W488 (F477.ext E483) (Or.inl ne515)) (Or.inl ne515)) (Or.inl ne515)) (Or.inl ne515)) (Or.inl ne515)) (Or.inl ne515)) (Or.inl ne515)) (Or.inl ne515))
                    have f517 := (Fld.other W512 (Fld.other W509 (Fld.other W506 (Fld.other W502 (Fld.other W499 (Fld.other W496 (Fld.other W492 (Fld.other W488 (F478.ext E483) (Or.inl ne515)) (Or.inl ne515)) (Or.inl ne515)) (Or.inl ne515)) (Or.inl ne515)) (Or.inl ne515)) (Or.inl ne515)) (Or.inl ne515))
                    refine go_special d_m6_367 (rm_initC hw [(cs.getD 0 0), (cs.getD 1 0), (cs.getD 2 0), (cs.getD 3 0), (cs.getD 4 0), (cs.getD 5 0), (cs.getD 6 0), (cs.getD 7 0)] a472 a480 _ _ _ co [a480] h511 (Nat.le_of_ble_eq_true rfl) (Byt.lat (Byt.cons (hB.at 0) (Byt.cons (hB.at 1) (Byt.cons (hB.at 2) (Byt.cons (hB.at 3) (Byt.cons (hB.at 4) (Byt.cons (hB.at 5) (Byt.cons (hB.at 6) (Byt.cons (hB.at 7) Byt.nil))))))))) f514 f516 f517 A513 Sc hco) (allS (List.mem_of_getElem? (i := 1) rfl) (allS (List.mem_of_getElem? (i := 0) rfl) all0)) rfl (w56 hw) (w57 hw) (w1 hw) (w58 hw) (by decide) (argsL := [(.ref a480)]) (rest := [(.ref a472)]) (lenOf pd19 rfl) rfl rfl rfl (W := 1) (Nat.le_of_ble_eq_true rfl) (by decide) (by decide) (by decide) (by decide) (pc' := 370) rfl ?_
                    rintro _ h518 _ ⟨rfl, b519, rfl, K520, L521, N522⟩ z523
                    show Go _ _ _ _ _ _ _ _ _ _ _ _ _ _ _ _ _ _ _ _ _ _ _ _ [(.ref a472)] _
                    exact go_areturn d_m6_370 rfl rfl rfl (ws' := []) all0 ⟨_, _, _, rfl, rfl, (Nat.le_of_ble_eq_true rfl), (Byt.cons (hB.at 0) (Byt.cons (hB.at 1) (Byt.cons (hB.at 2) (Byt.cons (hB.at 3) (Byt.cons (hB.at 4) (Byt.cons (hB.at 5) (Byt.cons (hB.at 6) (Byt.cons (hB.at 7) Byt.nil)))))))), L521⟩
                  · -- q304 does not hold
                    refine g_icmpYes d_m6_304 (pc' := 371) (feq q304).2 (by decide) (by decide) ?_
                    refine go_new d_m6_371 (w55 hw) (w2 hw) (w1 hw) (by decide) (by decide) (pc' := 374) rfl ?_
                    intro h524 a525 g526 E527 A528 D529
                    have F530 : Fld Z h524 a525 "java/lang/String" "value" "[B" .null := D529 (Or.inr (w4 hw)) (ty := (.array .byte)) (by decide)
                    have F531 : Fld Z h524 a525 "java/lang/String" "coder" "B" (.int (0 : Int32)) := D529 (Or.inr (w5 hw)) (ty := .byte) (by decide)
                    refine g_dup d_m6_374 (pc' := 375) rfl rfl ?_
                    refine g_bipush d_m6_375 (pc' := 377) rfl (z := 9) rfl ?_
                    refine go_newarray d_m6_377 (w21 hw) (by decide) (cap := 9) (by decide) (by decide) (by decide) (by decide) (ad := "[C") rfl (pc' := 379) rfl ?_
                    intro h532 a533 k534 g535 E536 A537 X538
                    have A539 : Arv Z h532 a533 k534 .char (9 : Int32) [.int 0, .int 0, .int 0, .int 0, .int 0, .int 0, .int 0, .int 0, .int 0] (.int 0) := Arv.pad A537 (pad_rep [] (.int 0) 9)
                    refine g_dup d_m6_379 (pc' := 380) rfl rfl ?_
                    refine g_iconst d_m6_380 (pc' := 381) rfl (z := 0) rfl ?_
                    refine g_aloadN d_m6_381 (pc' := 382) rfl rfl rfl ?_
                    refine g_iconst d_m6_382 (pc' := 383) rfl (z := 0) rfl ?_
                    refine go_caload d_m6_383 ((A.ext E527).ext E536) (v := (.int (cs.getD 0 0))) ⟨by decide, by decide⟩ (map_getD cs 0) (pc' := 384) rfl ?_
                    refine go_castore 0 d_m6_384 A539 ⟨by decide, by decide⟩ rfl (Nat.le_of_ble_eq_true rfl) (x' := (cs.getD 0 0)) (nar_byt (hB.at 0)) (List.mem_of_getElem? (i := 0) rfl) (pc' := 385) rfl ?_
                    intro h540 W541 A542
                    refine g_dup d_m6_385 (pc' := 386) rfl rfl ?_
                    refine g_iconst d_m6_386 (pc' := 387) rfl (z := 1) rfl ?_
                    refine g_aloadN d_m6_387 (pc' := 388) rfl rfl rfl ?_
                    refine g_iconst d_m6_388 (pc' := 389) rfl (z := 1) rfl ?_
                    have ne543 : ca ≠ a533 := Nat.ne_of_lt (Nat.lt_of_lt_of_le (A.ext E527).lt (Nat.le_of_eq g535.symm))
                    refine go_caload d_m6_389 (((A.ext E527).ext E536).other W541 ne543) (v := (.int (cs.getD 1 0))) ⟨by decide, by decide⟩ (map_getD cs 1) (pc' := 390) rfl ?_
                    refine go_castore 1 d_m6_390 A542 ⟨by decide, by decide⟩ rfl (Nat.le_of_ble_eq_true rfl) (x' := (cs.getD 1 0)) (nar_byt (hB.at 1)) (List.mem_of_getElem? (i := 0) rfl) (pc' := 391) rfl ?_
                    intro h544 W545 A546
                    refine g_dup d_m6_391 (pc' := 392) rfl rfl ?_
                    refine g_iconst d_m6_392 (pc' := 393) rfl (z := 2) rfl ?_
                    refine g_aloadN d_m6_393 (pc' := 394) rfl rfl rfl ?_
                    refine g_iconst d_m6_394 (pc' := 395) rfl (z := 2) rfl ?_
                    have f547 := ((((A.ext E527).ext E536).other W541 ne543).other W545 ne543)
                    refine go_caload d_m6_395 f547 (v := (.int (cs.getD 2 0))) ⟨by decide, by decide⟩ (map_getD cs 2) (pc' := 396) rfl ?_
                    refine go_castore 2 d_m6_396 A546 ⟨by decide, by decide⟩ rfl (Nat.le_of_ble_eq_true rfl) (x' := (cs.getD 2 0)) (nar_byt (hB.at 2)) (List.mem_of_getElem? (i := 0) rfl) (pc' := 397) rfl ?_
                    intro h548 W549 A550
                    refine g_dup d_m6_397 (pc' := 398) rfl rfl ?_
                    refine g_iconst d_m6_398 (pc' := 399) rfl (z := 3) rfl ?_
                    refine g_aloadN d_m6_399 (pc' := 400) rfl rfl rfl ?_
                    refine g_iconst d_m6_400 (pc' := 401) rfl (z := 3) rfl ?_
                    refine go_caload d_m6_401 (f547.other W549 ne543) (v := (.int (cs.getD 3 0))) ⟨by decide, by decide⟩ (map_getD cs 3) (pc' := 402) rfl ?_
                    refine go_castore 3 d_m6_402 A550 ⟨by decide, by decide⟩ rfl (Nat.le_of_ble_eq_true rfl) (x' := (cs.getD 3 0)) (nar_byt (hB.at 3)) (List.mem_of_getElem? (i := 0) rfl) (pc' := 403) rfl ?_
                    intro h551 W552 A553
                    refine g_dup d_m6_403 (pc' := 404) rfl rfl ?_
                    refine g_iconst d_m6_404 (pc' := 405) rfl (z := 4) rfl ?_
                    refine g_aloadN d_m6_405 (pc' := 406) rfl rfl rfl ?_
                    refine g_iconst d_m6_406 (pc' := 407) rfl (z := 4) rfl ?_
                    refine go_caload d_m6_407 ((f547.other W549 ne543).other W552 ne543) (v := (.int (cs.getD 4 0))) ⟨by decide, by decide⟩ (map_getD cs 4) (pc' := 408) rfl ?_
                    refine go_castore 4 d_m6_408 A553 ⟨by decide, by decide⟩ rfl (Nat.le_of_ble_eq_true rfl) (x' := (cs.getD 4 0)) (nar_byt (hB.at 4)) (List.mem_of_getElem? (i := 0) rfl) (pc' := 409) rfl ?_
                    intro h554 W555 A556
                    refine g_dup d_m6_409 (pc' := 410) rfl rfl ?_
                    refine g_iconst d_m6_410 (pc' := 411) rfl (z := 5) rfl ?_
                    refine g_aloadN d_m6_411 (pc' := 412) rfl rfl rfl ?_
                    refine g_iconst d_m6_412 (pc' := 413) rfl (z := 5) rfl ?_
                    have f557 := (((f547.other W549 ne543).other W552 ne543).other W555 ne543)
                    refine go_caload d_m6_413 f557 (v := (.int (cs.getD 5 0))) ⟨by decide, by decide⟩ (map_getD cs 5) (pc' := 414) rfl ?_
                    refine go_castore 5 d_m6_414 A556 ⟨by decide, by decide⟩ rfl (Nat.le_of_ble_eq_true rfl) (x' := (cs.getD 5 0)) (nar_byt (hB.at 5)) (List.mem_of_getElem? (i := 0) rfl) (pc' := 415) rfl ?_
                    intro h558 W559 A560
                    refine g_dup d_m6_415 (pc' := 416) rfl rfl ?_
                    refine g_bipush d_m6_416 (pc' := 418) rfl (z := 6) rfl ?_
                    refine g_aloadN d_m6_418 (pc' := 419) rfl rfl rfl ?_
                    refine g_bipush d_m6_419 (pc' := 421) rfl (z := 6) rfl ?_
                    refine go_caload d_m6_421 (f557.other W559 ne543) (v := (.int (cs.getD 6 0))) ⟨by decide, by decide⟩ (map_getD cs 6) (pc' := 422) rfl ?_
                    refine go_castore 6 d_m6_422 A560 ⟨by decide, by decide⟩ rfl (Nat.le_of_ble_eq_true rfl) (x' := (cs.getD 6 0)) (nar_byt (hB.at 6)) (List.mem_of_getElem? (i := 0) rfl) (pc' := 423) rfl ?_
                    intro h561 W562 A563
                    refine g_dup d_m6_423 (pc' := 424) rfl rfl ?_
                    refine g_bipush d_m6_424 (pc' := 426) rfl (z := 7) rfl ?_
                    refine g_aloadN d_m6_426 (pc' := 427) rfl rfl rfl ?_
                    refine g_bipush d_m6_427 (pc' := 429) rfl (z := 7) rfl ?_
                    refine go_caload d_m6_429 ((f557.other W559 ne543).other W562 ne543) (v := (.int (cs.getD 7 0))) ⟨by decide, by decide⟩ (map_getD cs 7) (pc' := 430) rfl ?_
                    refine go_castore 7 d_m6_430 A563 ⟨by decide, by decide⟩ rfl (Nat.le_of_ble_eq_true rfl) (x' := (cs.getD 7 0)) (nar_byt (hB.at 7)) (List.mem_of_getElem? (i := 0) rfl) (pc' := 431) rfl ?_
                    intro h564 W565 A566
                    refine g_dup d_m6_431 (pc' := 432) rfl rfl ?_
                    refine g_bipush d_m6_432 (pc' := 434) rfl (z := 8) rfl ?_
                    refine g_aloadN d_m6_434 (pc' := 435) rfl rfl rfl ?_
                    refine g_bipush d_m6_435 (pc' := 437) rfl (z := 8) rfl ?_
                    have f567 := (((f557.other W559 ne543).other W562 ne543).other W565 ne543)
                    refine go_caload d_m6_437 f567 (v := (.int (cs.getD 8 0))) ⟨by decide, by decide⟩ (map_getD cs 8) (pc' := 438) rfl ?_
                    refine go_castore 8 d_m6_438 A566 ⟨by decide, by decide⟩ rfl (Nat.le_of_ble_eq_true rfl) (x' := (cs.getD 8 0)) (nar_byt (hB.at 8)) (List.mem_of_getElem? (i := 0) rfl) (pc' := 439) rfl ?_
                    intro h568 W569 A570
                    have f571 := (Exa.wr W569 (Exa.wr W565 (Exa.wr W562 (Exa.wr W559 (Exa.wr W555 (Exa.wr W552 (Exa.wr W549 (Exa.wr W545 (Exa.wr W541 (A528.ext E536))))))))))
                    have ne572 : a525 ≠ a533 := Nat.ne_of_lt (Nat.lt_of_lt_of_le A528.lt (Nat.le_of_eq g535.symm))
                    have f573 := (Fld.other W569 (Fld.other W565 (Fld.other W562 (Fld.other W559 (Fld.other W555 (Fld.other W552 (Fld.other W549 (Fld.other W545 (Fld.other W541 (F530.ext E536) (Or.inl ne572)) (Or.inl ne572)) (Or.inl ne572)) (Or.inl ne572)) (Or.inl ne572)) (Or.inl ne572)) (Or.inl ne572)) (Or.inl ne572)) (Or.inl ne572))
                    have f574 := (Fld.other W569 (Fld.other W565 (Fld.other W562 (Fld.other W559 (Fld.other W555 (Fld.other W552 (Fld.other W549 (Fld.other W545 (Fld.other W541 (F531.ext E536) (Or.inl ne572)) (Or.inl ne572)) (Or.inl ne572)) (Or.inl ne572)) (Or.inl ne572)) (Or.inl ne572)) (Or.inl ne572)) (Or.inl ne572)) (Or.inl ne572))
                    refine go_special d_m6_439 (rm_initC hw [(cs.getD 0 0), (cs.getD 1 0), (cs.getD 2 0), (cs.getD 3 0), (cs.getD 4 0), (cs.getD 5 0), (cs.getD 6 0), (cs.getD 7 0), (cs.getD 8 0)] a525 a533 _ _ _ co [a533] h568 (Nat.le_of_ble_eq_true rfl) (Byt.lat (Byt.cons (hB.at 0) (Byt.cons (hB.at 1) (Byt.cons (hB.at 2) (Byt.cons (hB.at 3) (Byt.cons (hB.at 4) (Byt.cons (hB.at 5) (Byt.cons (hB.at 6) (Byt.cons (hB.at 7) (Byt.cons (hB.at 8) Byt.nil)))))))))) f571 f573 f574 A570 Sc hco) (allS (List.mem_of_getElem? (i := 1) rfl) (allS (List.mem_of_getElem? (i := 0) rfl) all0)) rfl (w56 hw) (w57 hw) (w1 hw) (w58 hw) (by decide) (argsL := [(.ref a533)]) (rest := [(.ref a525)]) (lenOf pd19 rfl) rfl rfl rfl (W := 1) (Nat.le_of_ble_eq_true rfl) (by decide) (by decide) (by decide) (by decide) (pc' := 442) rfl ?_
                    rintro _ h575 _ ⟨rfl, b576, rfl, K577, L578, N579⟩ z580
                    show Go _ _ _ _ _ _ _ _ _ _ _ _ _ _ _ _ _ _ _ _ _ _ _ _ [(.ref a525)] _
                    exact go_areturn d_m6_442 rfl rfl rfl (ws' := []) all0 ⟨_, _, _, rfl, rfl, (Nat.le_of_ble_eq_true rfl), (Byt.cons (hB.at 0) (Byt.cons (hB.at 1) (Byt.cons (hB.at 2) (Byt.cons (hB.at 3) (Byt.cons (hB.at 4) (Byt.cons (hB.at 5) (Byt.cons (hB.at 6) (Byt.cons (hB.at 7) (Byt.cons (hB.at 8) Byt.nil))))))))), L578⟩
set_option maxRecDepth 65536 in
set_option maxHeartbeats 40000000 in
theorem lw_263a {l : Launch} {Z : State} {a0 : Array Value} (hw : ∀ d ∈ tables_1, d.before a0 Z = true) {p : Program} {e : Env} {s : State} {m : MethodId} {args : Array Value} {below : List Frame} {meth : Method} {c : Code} (md : Int32) (bits : Int64) (ch ps ln wsel op co : Int32) (fm : Value) (va : Addr) (kv : ClassId) (su re en wsu bsu wre bre wen ben em : Addr) (cs : List Int32) (ca : Addr) (k : ClassId) (bs : Addr) (wl fr : Int32) (n x14 : Int32) (h0 : Heap) (hl : cs.length = 9) (hB : Byt cs) (A : Arv Z h0 ca k .char 9 (cs.map Value.int) (.int 0)) (Sc : Sta Z Z.heap "java/lang/String" "COMPACT_STRINGS" "Z" (.int co)) (hco : ¬ co = 0) (Sf : Sta Z Z.heap "jdk/internal/util/Preconditions" "SIOOBE_FORMATTER" "Ljava/util/function/BiFunction;" fm) (hfm : fm.isRef = true) (Ssu : Sta Z Z.heap "com/example/sundew/sundew/Holder$Kind" "SUBJECT" "Lcom/example/sundew/sundew/Holder$Kind;" (.ref su)) (Sre : Sta Z Z.heap "com/example/sundew/sundew/Holder$Kind" "RESOURCE" "Lcom/example/sundew/sundew/Holder$Kind;" (.ref re)) (Sen : Sta Z Z.heap "com/example/sundew/sundew/Holder$Kind" "ENV" "Lcom/example/sundew/sundew/Holder$Kind;" (.ref en)) (Sv : Sta Z Z.heap "com/example/sundew/sundew/Holder$Kind" "$VALUES" "[Lcom/example/sundew/sundew/Holder$Kind;" (.ref va)) (Xv : Exa Z Z.heap va "[Lcom/example/sundew/sundew/Holder$Kind;") (Av : Arv Z Z.heap va kv (.object "com/example/sundew/sundew/Holder$Kind") 3 [.ref su, .ref re, .ref en] .null) (Fsu : Fld Z Z.heap su "com/example/sundew/sundew/Holder$Kind" "variable" "Ljava/lang/String;" (.ref wsu)) (Lsu : LatB Z Z.heap wsu bsu [(115 : Int32), (117 : Int32), (98 : Int32), (106 : Int32), (101 : Int32), (99 : Int32), (116 : Int32)]) (Fre : Fld Z Z.heap re "com/example/sundew/sundew/Holder$Kind" "variable" "Ljava/lang/String;" (.ref wre)) (Lre : LatB Z Z.heap wre bre [(114 : Int32), (101 : Int32), (115 : Int32), (111 : Int32), (117 : Int32), (114 : Int32), (99 : Int32), (101 : Int32)]) (Fen : Fld Z Z.heap en "com/example/sundew/sundew/Holder$Kind" "variable" "Ljava/lang/String;" (.ref wen)) (Len : LatB Z Z.heap wen ben [(101 : Int32), (110 : Int32), (118 : Int32)]) (Se : Sta Z Z.heap "java/util/Optional" "EMPTY" "Ljava/util/Optional;" (.ref em)) (Xe : Exa Z Z.heap em "java/util/Optional") (Fe : Fld Z Z.heap em "java/util/Optional" "value" "Ljava/lang/Object;" .null) :
    Go p l e room_1 s m args below meth c Z a0 EL "com/example/sundew/sundew/KindOfVariablePinLaw" code 15 ret "law" [ca] h0 3 45 263 #[.val (.int md), .val (.long bits), .second, .val (.int ch), .val (.int ps), .val (.int ln), .val (.int wsel), .val (.int op), .unset, .val (.ref bs), .val (.int wl), .val (.int fr), .val (.ref ca), .val (.int n), .unset] [] (fun v h ws => v = some (.int 1)) := by
  refine g_aload at_263 (pc' := 265) rfl rfl rfl ?_
  refine g_iload at_265 (pc' := 267) rfl rfl ?_
  refine go_static at_267 (rm_str hw cs n ca k co h0 hl hB A Sc hco) all0 (w52 hw) (w53 hw) (w24 hw) (w54 hw) (by decide) (argsL := [(.ref ca), (.int n)]) (rest := []) (lenOf pd20 rfl) rfl rfl rfl (W := 0) (Nat.le_of_ble_eq_true rfl) (by decide) (by decide) (by decide) (by decide) (pc' := 270) rfl ?_
  rintro _ h581 _ ⟨sa, sb, ts, rfl, rfl, hT9, hT, LT⟩ hzs
  show Go _ _ _ _ _ _ _ _ _ _ _ _ _ _ _ _ _ _ _ _ _ _ _ _ [(.ref sa)] _
  by_cases t0 : ts = [(115 : Int32), (117 : Int32), (98 : Int32), (106 : Int32), (101 : Int32), (99 : Int32), (116 : Int32)]
  · -- it is
    refine g_astore at_270 (pc' := 272) (Ls' := #[.val (.int md), .val (.long bits), .second, .val (.int ch), .val (.int ps), .val (.int ln), .val (.int wsel), .val (.int op), .val (.ref sa), .val (.ref bs), .val (.int wl), .val (.int fr), .val (.ref ca), .val (.int n), .unset]) rfl rfl rfl ?_
    refine g_aload at_272 (pc' := 274) rfl rfl rfl ?_
    refine go_static at_274 (rm_exp hw ts sa _ co h581 (by omega) hT LT Sc hco) all0 (w76 hw) (w77 hw) (w24 hw) (w78 hw) (by decide) (argsL := [(.ref sa)]) (rest := []) (lenOf pd21 rfl) rfl rfl rfl (W := 0) (Nat.le_of_ble_eq_true rfl) (by decide) (by decide) (by decide) (by decide) (pc' := 277) rfl ?_
    rintro _ h582 _ ⟨rfl, rfl, Kx⟩ hzx
    rw [show expOf ts = 0 from by unfold expOf; rw [if_pos t0]]
    show Go _ _ _ _ _ _ _ _ _ _ _ _ _ _ _ _ _ _ _ _ _ _ _ _ [(.int (0 : Int32))] _
    refine g_istore at_277 (pc' := 279) (Ls' := #[.val (.int md), .val (.long bits), .second, .val (.int ch), .val (.int ps), .val (.int ln), .val (.int wsel), .val (.int op), .val (.ref sa), .val (.int (0 : Int32)), .val (.int wl), .val (.int fr), .val (.ref ca), .val (.int n), .unset]) rfl rfl ?_
    refine g_aload at_279 (pc' := 281) rfl rfl rfl ?_
    refine go_static at_281 (rm_ofv hw ts sa _ co va kv su re en wsu bsu wre bre wen ben em h582 (by omega) hT (LT.keep Kx nin0 nin0) Sc hco Sv Xv Av Fsu Lsu Fre Lre Fen Len Se Xe Fe) all0 (w88 hw) (w89 hw) (w90 hw) (w91 hw) (by decide) (argsL := [(.ref sa)]) (rest := []) (lenOf pd22 rfl) rfl rfl rfl (W := 0) (Nat.le_of_ble_eq_true rfl) (by decide) (by decide) (by decide) (by decide) (pc' := 284) rfl ?_
    rintro _ h583 _ ⟨o, rfl, rfl, Xo, Fo⟩ hzo
    rw [show kindOf ts su re en = (.ref su) from by unfold kindOf; rw [if_pos t0]] at Fo
    show Go _ _ _ _ _ _ _ _ _ _ _ _ _ _ _ _ _ _ _ _ _ _ _ _ [(.ref o)] _
    refine g_astore at_284 (pc' := 286) (Ls' := #[.val (.int md), .val (.long bits), .second, .val (.int ch), .val (.int ps), .val (.int ln), .val (.int wsel), .val (.int op), .val (.ref sa), .val (.int (0 : Int32)), .val (.ref o), .val (.int fr), .val (.ref ca), .val (.int n), .unset]) rfl rfl rfl ?_
    refine g_iload at_286 (pc' := 288) rfl rfl ?_
    refine g_ifYes at_288 (pc' := 305) (flt (by decide : ¬ ((0 : Int32) < (0 : Int32)))).2.1 (by decide) (by decide) ?_
    refine g_iload at_305 (pc' := 307) rfl rfl ?_
    refine g_ifNo at_307 (pc' := 310) rfl (teq (by decide : (0 : Int32) = (0 : Int32))).2 ?_
    refine go_getstatic at_310 (w134 hw) Via.refl Ssu (pc' := 313) rfl ?_
    refine g_goto at_313 (pc' := 331) (by decide) (by decide) ?_
    refine g_astore at_331 (pc' := 333) (Ls' := #[.val (.int md), .val (.long bits), .second, .val (.int ch), .val (.int ps), .val (.int ln), .val (.int wsel), .val (.int op), .val (.ref sa), .val (.int (0 : Int32)), .val (.ref o), .val (.ref su), .val (.ref ca), .val (.int n), .unset]) rfl rfl rfl ?_
    refine g_aload at_333 (pc' := 335) rfl rfl rfl ?_
    refine go_virtual at_335 (rm_isP1 hw o su h583 Fo) all0 Xo (w135 hw) (w136 hw) (w138 hw) (nf_sel (w138 hw)) (w137 hw) (w94 hw) (w139 hw) (by decide) (argsL := []) (rest := []) (lenOf pd7 rfl) rfl rfl rfl (W := 0) (Nat.le_of_ble_eq_true rfl) (by decide) (by decide) (by decide) (by decide) (pc' := 338) rfl ?_
    rintro _ _ _ ⟨rfl, rfl, rfl⟩ z584
    show Go _ _ _ _ _ _ _ _ _ _ _ _ _ _ _ _ _ _ _ _ _ _ _ _ [(.int (1 : Int32))] _
    refine g_ifNo at_338 (pc' := 341) rfl (feq (by decide : ¬ ((1 : Int32) = (0 : Int32)))).1 ?_
    refine g_aload at_341 (pc' := 343) rfl rfl rfl ?_
    refine go_virtual at_343 (rm_get hw o su h583 Fo) all0 Xo (w140 hw) (w141 hw) (w143 hw) (nf_sel (w143 hw)) (w142 hw) (w94 hw) (w144 hw) (by decide) (argsL := []) (rest := []) (lenOf pd23 rfl) rfl rfl rfl (W := 0) (Nat.le_of_ble_eq_true rfl) (by decide) (by decide) (by decide) (by decide) (pc' := 346) rfl ?_
    rintro _ _ _ ⟨rfl, rfl, rfl⟩ z585
    show Go _ _ _ _ _ _ _ _ _ _ _ _ _ _ _ _ _ _ _ _ _ _ _ _ [(.ref su)] _
    refine g_aload at_346 (pc' := 348) rfl rfl rfl ?_
    refine g_acmp at_348 rfl rfl (same := true) (decide_eq_true rfl) (by decide) (pc' := 351) rfl ?_
    refine g_iconst at_351 (pc' := 352) rfl (z := 1) rfl ?_
    refine g_goto at_352 (pc' := 356) (by decide) (by decide) ?_
    exact go_ireturn at_356 rfl (Or.inr (Or.inl rfl)) rfl (ws' := []) all0 rfl
  by_cases t1 : ts = [(114 : Int32), (101 : Int32), (115 : Int32), (111 : Int32), (117 : Int32), (114 : Int32), (99 : Int32), (101 : Int32)]
  · -- it is
    refine g_astore at_270 (pc' := 272) (Ls' := #[.val (.int md), .val (.long bits), .second, .val (.int ch), .val (.int ps), .val (.int ln), .val (.int wsel), .val (.int op), .val (.ref sa), .val (.ref bs), .val (.int wl), .val (.int fr), .val (.ref ca), .val (.int n), .unset]) rfl rfl rfl ?_
    refine g_aload at_272 (pc' := 274) rfl rfl rfl ?_
    refine go_static at_274 (rm_exp hw ts sa _ co h581 (by omega) hT LT Sc hco) all0 (w76 hw) (w77 hw) (w24 hw) (w78 hw) (by decide) (argsL := [(.ref sa)]) (rest := []) (lenOf pd21 rfl) rfl rfl rfl (W := 0) (Nat.le_of_ble_eq_true rfl) (by decide) (by decide) (by decide) (by decide) (pc' := 277) rfl ?_
    rintro _ h586 _ ⟨rfl, rfl, Kx⟩ hzx
    rw [show expOf ts = 1 from by unfold expOf; rw [if_neg t0, if_pos t1]]
    show Go _ _ _ _ _ _ _ _ _ _ _ _ _ _ _ _ _ _ _ _ _ _ _ _ [(.int (1 : Int32))] _
    refine g_istore at_277 (pc' := 279) (Ls' := #[.val (.int md), .val (.long bits), .second, .val (.int ch), .val (.int ps), .val (.int ln), .val (.int wsel), .val (.int op), .val (.ref sa), .val (.int (1 : Int32)), .val (.int wl), .val (.int fr), .val (.ref ca), .val (.int n), .unset]) rfl rfl ?_
    refine g_aload at_279 (pc' := 281) rfl rfl rfl ?_
    refine go_static at_281 (rm_ofv hw ts sa _ co va kv su re en wsu bsu wre bre wen ben em h586 (by omega) hT (LT.keep Kx nin0 nin0) Sc hco Sv Xv Av Fsu Lsu Fre Lre Fen Len Se Xe Fe) all0 (w88 hw) (w89 hw) (w90 hw) (w91 hw) (by decide) (argsL := [(.ref sa)]) (rest := []) (lenOf pd22 rfl) rfl rfl rfl (W := 0) (Nat.le_of_ble_eq_true rfl) (by decide) (by decide) (by decide) (by decide) (pc' := 284) rfl ?_
    rintro _ h587 _ ⟨o, rfl, rfl, Xo, Fo⟩ hzo
    rw [show kindOf ts su re en = (.ref re) from by unfold kindOf; rw [if_neg t0, if_pos t1]] at Fo
    show Go _ _ _ _ _ _ _ _ _ _ _ _ _ _ _ _ _ _ _ _ _ _ _ _ [(.ref o)] _
    refine g_astore at_284 (pc' := 286) (Ls' := #[.val (.int md), .val (.long bits), .second, .val (.int ch), .val (.int ps), .val (.int ln), .val (.int wsel), .val (.int op), .val (.ref sa), .val (.int (1 : Int32)), .val (.ref o), .val (.int fr), .val (.ref ca), .val (.int n), .unset]) rfl rfl rfl ?_
    refine g_iload at_286 (pc' := 288) rfl rfl ?_
    refine g_ifYes at_288 (pc' := 305) (flt (by decide : ¬ ((1 : Int32) < (0 : Int32)))).2.1 (by decide) (by decide) ?_
    refine g_iload at_305 (pc' := 307) rfl rfl ?_
    refine g_ifYes at_307 (pc' := 316) (feq (by decide : ¬ ((1 : Int32) = (0 : Int32)))).2 (by decide) (by decide) ?_
    refine g_iload at_316 (pc' := 318) rfl rfl ?_
    refine g_iconst at_318 (pc' := 319) rfl (z := 1) rfl ?_
    refine g_icmpNo at_319 (pc' := 322) rfl (teq (by decide : (1 : Int32) = (1 : Int32))).2 ?_
    refine go_getstatic at_322 (w150 hw) Via.refl Sre (pc' := 325) rfl ?_
    refine g_goto at_325 (pc' := 331) (by decide) (by decide) ?_
    refine g_astore at_331 (pc' := 333) (Ls' := #[.val (.int md), .val (.long bits), .second, .val (.int ch), .val (.int ps), .val (.int ln), .val (.int wsel), .val (.int op), .val (.ref sa), .val (.int (1 : Int32)), .val (.ref o), .val (.ref re), .val (.ref ca), .val (.int n), .unset]) rfl rfl rfl ?_
    refine g_aload at_333 (pc' := 335) rfl rfl rfl ?_
    refine go_virtual at_335 (rm_isP1 hw o re h587 Fo) all0 Xo (w135 hw) (w136 hw) (w138 hw) (nf_sel (w138 hw)) (w137 hw) (w94 hw) (w139 hw) (by decide) (argsL := []) (rest := []) (lenOf pd7 rfl) rfl rfl rfl (W := 0) (Nat.le_of_ble_eq_true rfl) (by decide) (by decide) (by decide) (by decide) (pc' := 338) rfl ?_
    rintro _ _ _ ⟨rfl, rfl, rfl⟩ z588
    show Go _ _ _ _ _ _ _ _ _ _ _ _ _ _ _ _ _ _ _ _ _ _ _ _ [(.int (1 : Int32))] _
    refine g_ifNo at_338 (pc' := 341) rfl (feq (by decide : ¬ ((1 : Int32) = (0 : Int32)))).1 ?_
    refine g_aload at_341 (pc' := 343) rfl rfl rfl ?_
    refine go_virtual at_343 (rm_get hw o re h587 Fo) all0 Xo (w140 hw) (w141 hw) (w143 hw) (nf_sel (w143 hw)) (w142 hw) (w94 hw) (w144 hw) (by decide) (argsL := []) (rest := []) (lenOf pd23 rfl) rfl rfl rfl (W := 0) (Nat.le_of_ble_eq_true rfl) (by decide) (by decide) (by decide) (by decide) (pc' := 346) rfl ?_
    rintro _ _ _ ⟨rfl, rfl, rfl⟩ z589
    show Go _ _ _ _ _ _ _ _ _ _ _ _ _ _ _ _ _ _ _ _ _ _ _ _ [(.ref re)] _
    refine g_aload at_346 (pc' := 348) rfl rfl rfl ?_
    refine g_acmp at_348 rfl rfl (same := true) (decide_eq_true rfl) (by decide) (pc' := 351) rfl ?_
    refine g_iconst at_351 (pc' := 352) rfl (z := 1) rfl ?_
    refine g_goto at_352 (pc' := 356) (by decide) (by decide) ?_
    exact go_ireturn at_356 rfl (Or.inr (Or.inl rfl)) rfl (ws' := []) all0 rfl
  by_cases t2 : ts = [(101 : Int32), (110 : Int32), (118 : Int32)]
  · -- it is
    refine g_astore at_270 (pc' := 272) (Ls' := #[.val (.int md), .val (.long bits), .second, .val (.int ch), .val (.int ps), .val (.int ln), .val (.int wsel), .val (.int op), .val (.ref sa), .val (.ref bs), .val (.int wl), .val (.int fr), .val (.ref ca), .val (.int n), .unset]) rfl rfl rfl ?_
    refine g_aload at_272 (pc' := 274) rfl rfl rfl ?_
    refine go_static at_274 (rm_exp hw ts sa _ co h581 (by omega) hT LT Sc hco) all0 (w76 hw) (w77 hw) (w24 hw) (w78 hw) (by decide) (argsL := [(.ref sa)]) (rest := []) (lenOf pd21 rfl) rfl rfl rfl (W := 0) (Nat.le_of_ble_eq_true rfl) (by decide) (by decide) (by decide) (by decide) (pc' := 277) rfl ?_
    rintro _ h590 _ ⟨rfl, rfl, Kx⟩ hzx
    rw [show expOf ts = 2 from by unfold expOf; rw [if_neg t0, if_neg t1, if_pos t2]]
    show Go _ _ _ _ _ _ _ _ _ _ _ _ _ _ _ _ _ _ _ _ _ _ _ _ [(.int (2 : Int32))] _
    refine g_istore at_277 (pc' := 279) (Ls' := #[.val (.int md), .val (.long bits), .second, .val (.int ch), .val (.int ps), .val (.int ln), .val (.int wsel), .val (.int op), .val (.ref sa), .val (.int (2 : Int32)), .val (.int wl), .val (.int fr), .val (.ref ca), .val (.int n), .unset]) rfl rfl ?_
    refine g_aload at_279 (pc' := 281) rfl rfl rfl ?_
    refine go_static at_281 (rm_ofv hw ts sa _ co va kv su re en wsu bsu wre bre wen ben em h590 (by omega) hT (LT.keep Kx nin0 nin0) Sc hco Sv Xv Av Fsu Lsu Fre Lre Fen Len Se Xe Fe) all0 (w88 hw) (w89 hw) (w90 hw) (w91 hw) (by decide) (argsL := [(.ref sa)]) (rest := []) (lenOf pd22 rfl) rfl rfl rfl (W := 0) (Nat.le_of_ble_eq_true rfl) (by decide) (by decide) (by decide) (by decide) (pc' := 284) rfl ?_
    rintro _ h591 _ ⟨o, rfl, rfl, Xo, Fo⟩ hzo
    rw [show kindOf ts su re en = (.ref en) from by unfold kindOf; rw [if_neg t0, if_neg t1, if_pos t2]] at Fo
    show Go _ _ _ _ _ _ _ _ _ _ _ _ _ _ _ _ _ _ _ _ _ _ _ _ [(.ref o)] _
    refine g_astore at_284 (pc' := 286) (Ls' := #[.val (.int md), .val (.long bits), .second, .val (.int ch), .val (.int ps), .val (.int ln), .val (.int wsel), .val (.int op), .val (.ref sa), .val (.int (2 : Int32)), .val (.ref o), .val (.int fr), .val (.ref ca), .val (.int n), .unset]) rfl rfl rfl ?_
    refine g_iload at_286 (pc' := 288) rfl rfl ?_
    refine g_ifYes at_288 (pc' := 305) (flt (by decide : ¬ ((2 : Int32) < (0 : Int32)))).2.1 (by decide) (by decide) ?_
    refine g_iload at_305 (pc' := 307) rfl rfl ?_
    refine g_ifYes at_307 (pc' := 316) (feq (by decide : ¬ ((2 : Int32) = (0 : Int32)))).2 (by decide) (by decide) ?_
    refine g_iload at_316 (pc' := 318) rfl rfl ?_
    refine g_iconst at_318 (pc' := 319) rfl (z := 1) rfl ?_
    refine g_icmpYes at_319 (pc' := 328) (feq (by decide : ¬ ((2 : Int32) = (1 : Int32)))).2 (by decide) (by decide) ?_
    refine go_getstatic at_328 (w148 hw) Via.refl Sen (pc' := 331) rfl ?_
    refine g_astore at_331 (pc' := 333) (Ls' := #[.val (.int md), .val (.long bits), .second, .val (.int ch), .val (.int ps), .val (.int ln), .val (.int wsel), .val (.int op), .val (.ref sa), .val (.int (2 : Int32)), .val (.ref o), .val (.ref en), .val (.ref ca), .val (.int n), .unset]) rfl rfl rfl ?_
    refine g_aload at_333 (pc' := 335) rfl rfl rfl ?_
    refine go_virtual at_335 (rm_isP1 hw o en h591 Fo) all0 Xo (w135 hw) (w136 hw) (w138 hw) (nf_sel (w138 hw)) (w137 hw) (w94 hw) (w139 hw) (by decide) (argsL := []) (rest := []) (lenOf pd7 rfl) rfl rfl rfl (W := 0) (Nat.le_of_ble_eq_true rfl) (by decide) (by decide) (by decide) (by decide) (pc' := 338) rfl ?_
    rintro _ _ _ ⟨rfl, rfl, rfl⟩ z592
    show Go _ _ _ _ _ _ _ _ _ _ _ _ _ _ _ _ _ _ _ _ _ _ _ _ [(.int (1 : Int32))] _
    refine g_ifNo at_338 (pc' := 341) rfl (feq (by decide : ¬ ((1 : Int32) = (0 : Int32)))).1 ?_
    refine g_aload at_341 (pc' := 343) rfl rfl rfl ?_
    refine go_virtual at_343 (rm_get hw o en h591 Fo) all0 Xo (w140 hw) (w141 hw) (w143 hw) (nf_sel (w143 hw)) (w142 hw) (w94 hw) (w144 hw) (by decide) (argsL := []) (rest := []) (lenOf pd23 rfl) rfl rfl rfl (W := 0) (Nat.le_of_ble_eq_true rfl) (by decide) (by decide) (by decide) (by decide) (pc' := 346) rfl ?_
    rintro _ _ _ ⟨rfl, rfl, rfl⟩ z593
    show Go _ _ _ _ _ _ _ _ _ _ _ _ _ _ _ _ _ _ _ _ _ _ _ _ [(.ref en)] _
    refine g_aload at_346 (pc' := 348) rfl rfl rfl ?_
    refine g_acmp at_348 rfl rfl (same := true) (decide_eq_true rfl) (by decide) (pc' := 351) rfl ?_
    refine g_iconst at_351 (pc' := 352) rfl (z := 1) rfl ?_
    refine g_goto at_352 (pc' := 356) (by decide) (by decide) ?_
    exact go_ireturn at_356 rfl (Or.inr (Or.inl rfl)) rfl (ws' := []) all0 rfl
  refine g_astore at_270 (pc' := 272) (Ls' := #[.val (.int md), .val (.long bits), .second, .val (.int ch), .val (.int ps), .val (.int ln), .val (.int wsel), .val (.int op), .val (.ref sa), .val (.ref bs), .val (.int wl), .val (.int fr), .val (.ref ca), .val (.int n), .unset]) rfl rfl rfl ?_
  refine g_aload at_272 (pc' := 274) rfl rfl rfl ?_
  refine go_static at_274 (rm_exp hw ts sa _ co h581 (by omega) hT LT Sc hco) all0 (w76 hw) (w77 hw) (w24 hw) (w78 hw) (by decide) (argsL := [(.ref sa)]) (rest := []) (lenOf pd21 rfl) rfl rfl rfl (W := 0) (Nat.le_of_ble_eq_true rfl) (by decide) (by decide) (by decide) (by decide) (pc' := 277) rfl ?_
  rintro _ h594 _ ⟨rfl, rfl, Kx⟩ hzx
  rw [show expOf ts = (-1) from by unfold expOf; rw [if_neg t0, if_neg t1, if_neg t2]]
  show Go _ _ _ _ _ _ _ _ _ _ _ _ _ _ _ _ _ _ _ _ _ _ _ _ [(.int (-1 : Int32))] _
  refine g_istore at_277 (pc' := 279) (Ls' := #[.val (.int md), .val (.long bits), .second, .val (.int ch), .val (.int ps), .val (.int ln), .val (.int wsel), .val (.int op), .val (.ref sa), .val (.int (-1 : Int32)), .val (.int wl), .val (.int fr), .val (.ref ca), .val (.int n), .unset]) rfl rfl ?_
  refine g_aload at_279 (pc' := 281) rfl rfl rfl ?_
  refine go_static at_281 (rm_ofv hw ts sa _ co va kv su re en wsu bsu wre bre wen ben em h594 (by omega) hT (LT.keep Kx nin0 nin0) Sc hco Sv Xv Av Fsu Lsu Fre Lre Fen Len Se Xe Fe) all0 (w88 hw) (w89 hw) (w90 hw) (w91 hw) (by decide) (argsL := [(.ref sa)]) (rest := []) (lenOf pd22 rfl) rfl rfl rfl (W := 0) (Nat.le_of_ble_eq_true rfl) (by decide) (by decide) (by decide) (by decide) (pc' := 284) rfl ?_
  rintro _ h595 _ ⟨o, rfl, rfl, Xo, Fo⟩ hzo
  rw [show kindOf ts su re en = .null from by unfold kindOf; rw [if_neg t0, if_neg t1, if_neg t2]] at Fo
  show Go _ _ _ _ _ _ _ _ _ _ _ _ _ _ _ _ _ _ _ _ _ _ _ _ [(.ref o)] _
  refine g_astore at_284 (pc' := 286) (Ls' := #[.val (.int md), .val (.long bits), .second, .val (.int ch), .val (.int ps), .val (.int ln), .val (.int wsel), .val (.int op), .val (.ref sa), .val (.int (-1 : Int32)), .val (.ref o), .val (.int fr), .val (.ref ca), .val (.int n), .unset]) rfl rfl rfl ?_
  refine g_iload at_286 (pc' := 288) rfl rfl ?_
  refine g_ifNo at_288 (pc' := 291) rfl (tlt (by decide : (-1 : Int32) < (0 : Int32))).2.1 ?_
  refine g_aload at_291 (pc' := 293) rfl rfl rfl ?_
  refine go_virtual at_293 (rm_isP0 hw o h595 Fo) all0 Xo (w135 hw) (w136 hw) (w138 hw) (nf_sel (w138 hw)) (w137 hw) (w94 hw) (w139 hw) (by decide) (argsL := []) (rest := []) (lenOf pd7 rfl) rfl rfl rfl (W := 0) (Nat.le_of_ble_eq_true rfl) (by decide) (by decide) (by decide) (by decide) (pc' := 296) rfl ?_
  rintro _ _ _ ⟨rfl, rfl, rfl⟩ z596
  show Go _ _ _ _ _ _ _ _ _ _ _ _ _ _ _ _ _ _ _ _ _ _ _ _ [(.int (0 : Int32))] _
  refine g_ifNo at_296 (pc' := 299) rfl (teq (by decide : (0 : Int32) = (0 : Int32))).2 ?_
  refine g_iconst at_299 (pc' := 300) rfl (z := 1) rfl ?_
  refine g_goto at_300 (pc' := 304) (by decide) (by decide) ?_
  exact go_ireturn at_304 rfl (Or.inr (Or.inl rfl)) rfl (ws' := []) all0 rfl
set_option maxRecDepth 65536 in
set_option maxHeartbeats 40000000 in
theorem lw_263b {l : Launch} {Z : State} {a0 : Array Value} (hw : ∀ d ∈ tables_1, d.before a0 Z = true) {p : Program} {e : Env} {s : State} {m : MethodId} {args : Array Value} {below : List Frame} {meth : Method} {c : Code} (md : Int32) (bits : Int64) (ch ps ln wsel op co : Int32) (fm : Value) (va : Addr) (kv : ClassId) (su re en wsu bsu wre bre wen ben em : Addr) (cs : List Int32) (ca : Addr) (k : ClassId) (bs : Addr) (wl fr : Int32) (n x14 : Int32) (h0 : Heap) (hl : cs.length = 9) (hB : Byt cs) (A : Arv Z h0 ca k .char 9 (cs.map Value.int) (.int 0)) (Sc : Sta Z Z.heap "java/lang/String" "COMPACT_STRINGS" "Z" (.int co)) (hco : ¬ co = 0) (Sf : Sta Z Z.heap "jdk/internal/util/Preconditions" "SIOOBE_FORMATTER" "Ljava/util/function/BiFunction;" fm) (hfm : fm.isRef = true) (Ssu : Sta Z Z.heap "com/example/sundew/sundew/Holder$Kind" "SUBJECT" "Lcom/example/sundew/sundew/Holder$Kind;" (.ref su)) (Sre : Sta Z Z.heap "com/example/sundew/sundew/Holder$Kind" "RESOURCE" "Lcom/example/sundew/sundew/Holder$Kind;" (.ref re)) (Sen : Sta Z Z.heap "com/example/sundew/sundew/Holder$Kind" "ENV" "Lcom/example/sundew/sundew/Holder$Kind;" (.ref en)) (Sv : Sta Z Z.heap "com/example/sundew/sundew/Holder$Kind" "$VALUES" "[Lcom/example/sundew/sundew/Holder$Kind;" (.ref va)) (Xv : Exa Z Z.heap va "[Lcom/example/sundew/sundew/Holder$Kind;") (Av : Arv Z Z.heap va kv (.object "com/example/sundew/sundew/Holder$Kind") 3 [.ref su, .ref re, .ref en] .null) (Fsu : Fld Z Z.heap su "com/example/sundew/sundew/Holder$Kind" "variable" "Ljava/lang/String;" (.ref wsu)) (Lsu : LatB Z Z.heap wsu bsu [(115 : Int32), (117 : Int32), (98 : Int32), (106 : Int32), (101 : Int32), (99 : Int32), (116 : Int32)]) (Fre : Fld Z Z.heap re "com/example/sundew/sundew/Holder$Kind" "variable" "Ljava/lang/String;" (.ref wre)) (Lre : LatB Z Z.heap wre bre [(114 : Int32), (101 : Int32), (115 : Int32), (111 : Int32), (117 : Int32), (114 : Int32), (99 : Int32), (101 : Int32)]) (Fen : Fld Z Z.heap en "com/example/sundew/sundew/Holder$Kind" "variable" "Ljava/lang/String;" (.ref wen)) (Len : LatB Z Z.heap wen ben [(101 : Int32), (110 : Int32), (118 : Int32)]) (Se : Sta Z Z.heap "java/util/Optional" "EMPTY" "Ljava/util/Optional;" (.ref em)) (Xe : Exa Z Z.heap em "java/util/Optional") (Fe : Fld Z Z.heap em "java/util/Optional" "value" "Ljava/lang/Object;" .null) :
    Go p l e room_1 s m args below meth c Z a0 EL "com/example/sundew/sundew/KindOfVariablePinLaw" code 15 ret "law" [ca] h0 3 45 263 #[.val (.int md), .val (.long bits), .second, .val (.int ch), .val (.int ps), .val (.int ln), .val (.int wsel), .val (.int op), .unset, .val (.ref bs), .val (.int wl), .val (.int fr), .val (.ref ca), .val (.int n), .val (.int x14)] [] (fun v h ws => v = some (.int 1)) := by
  refine g_aload at_263 (pc' := 265) rfl rfl rfl ?_
  refine g_iload at_265 (pc' := 267) rfl rfl ?_
  refine go_static at_267 (rm_str hw cs n ca k co h0 hl hB A Sc hco) all0 (w52 hw) (w53 hw) (w24 hw) (w54 hw) (by decide) (argsL := [(.ref ca), (.int n)]) (rest := []) (lenOf pd20 rfl) rfl rfl rfl (W := 0) (Nat.le_of_ble_eq_true rfl) (by decide) (by decide) (by decide) (by decide) (pc' := 270) rfl ?_
  rintro _ h597 _ ⟨sa, sb, ts, rfl, rfl, hT9, hT, LT⟩ hzs
  show Go _ _ _ _ _ _ _ _ _ _ _ _ _ _ _ _ _ _ _ _ _ _ _ _ [(.ref sa)] _
  by_cases t0 : ts = [(115 : Int32), (117 : Int32), (98 : Int32), (106 : Int32), (101 : Int32), (99 : Int32), (116 : Int32)]
  · -- it is
    refine g_astore at_270 (pc' := 272) (Ls' := #[.val (.int md), .val (.long bits), .second, .val (.int ch), .val (.int ps), .val (.int ln), .val (.int wsel), .val (.int op), .val (.ref sa), .val (.ref bs), .val (.int wl), .val (.int fr), .val (.ref ca), .val (.int n), .val (.int x14)]) rfl rfl rfl ?_
    refine g_aload at_272 (pc' := 274) rfl rfl rfl ?_
    refine go_static at_274 (rm_exp hw ts sa _ co h597 (by omega) hT LT Sc hco) all0 (w76 hw) (w77 hw) (w24 hw) (w78 hw) (by decide) (argsL := [(.ref sa)]) (rest := []) (lenOf pd21 rfl) rfl rfl rfl (W := 0) (Nat.le_of_ble_eq_true rfl) (by decide) (by decide) (by decide) (by decide) (pc' := 277) rfl ?_
    rintro _ h598 _ ⟨rfl, rfl, Kx⟩ hzx
    rw [show expOf ts = 0 from by unfold expOf; rw [if_pos t0]]
    show Go _ _ _ _ _ _ _ _ _ _ _ _ _ _ _ _ _ _ _ _ _ _ _ _ [(.int (0 : Int32))] _
    refine g_istore at_277 (pc' := 279) (Ls' := #[.val (.int md), .val (.long bits), .second, .val (.int ch), .val (.int ps), .val (.int ln), .val (.int wsel), .val (.int op), .val (.ref sa), .val (.int (0 : Int32)), .val (.int wl), .val (.int fr), .val (.ref ca), .val (.int n), .val (.int x14)]) rfl rfl ?_
    refine g_aload at_279 (pc' := 281) rfl rfl rfl ?_
    refine go_static at_281 (rm_ofv hw ts sa _ co va kv su re en wsu bsu wre bre wen ben em h598 (by omega) hT (LT.keep Kx nin0 nin0) Sc hco Sv Xv Av Fsu Lsu Fre Lre Fen Len Se Xe Fe) all0 (w88 hw) (w89 hw) (w90 hw) (w91 hw) (by decide) (argsL := [(.ref sa)]) (rest := []) (lenOf pd22 rfl) rfl rfl rfl (W := 0) (Nat.le_of_ble_eq_true rfl) (by decide) (by decide) (by decide) (by decide) (pc' := 284) rfl ?_
    rintro _ h599 _ ⟨o, rfl, rfl, Xo, Fo⟩ hzo
    rw [show kindOf ts su re en = (.ref su) from by unfold kindOf; rw [if_pos t0]] at Fo
    show Go _ _ _ _ _ _ _ _ _ _ _ _ _ _ _ _ _ _ _ _ _ _ _ _ [(.ref o)] _
    refine g_astore at_284 (pc' := 286) (Ls' := #[.val (.int md), .val (.long bits), .second, .val (.int ch), .val (.int ps), .val (.int ln), .val (.int wsel), .val (.int op), .val (.ref sa), .val (.int (0 : Int32)), .val (.ref o), .val (.int fr), .val (.ref ca), .val (.int n), .val (.int x14)]) rfl rfl rfl ?_
    refine g_iload at_286 (pc' := 288) rfl rfl ?_
    refine g_ifYes at_288 (pc' := 305) (flt (by decide : ¬ ((0 : Int32) < (0 : Int32)))).2.1 (by decide) (by decide) ?_
    refine g_iload at_305 (pc' := 307) rfl rfl ?_
    refine g_ifNo at_307 (pc' := 310) rfl (teq (by decide : (0 : Int32) = (0 : Int32))).2 ?_
    refine go_getstatic at_310 (w134 hw) Via.refl Ssu (pc' := 313) rfl ?_
    refine g_goto at_313 (pc' := 331) (by decide) (by decide) ?_
    refine g_astore at_331 (pc' := 333) (Ls' := #[.val (.int md), .val (.long bits), .second, .val (.int ch), .val (.int ps), .val (.int ln), .val (.int wsel), .val (.int op), .val (.ref sa), .val (.int (0 : Int32)), .val (.ref o), .val (.ref su), .val (.ref ca), .val (.int n), .val (.int x14)]) rfl rfl rfl ?_
    refine g_aload at_333 (pc' := 335) rfl rfl rfl ?_
    refine go_virtual at_335 (rm_isP1 hw o su h599 Fo) all0 Xo (w135 hw) (w136 hw) (w138 hw) (nf_sel (w138 hw)) (w137 hw) (w94 hw) (w139 hw) (by decide) (argsL := []) (rest := []) (lenOf pd7 rfl) rfl rfl rfl (W := 0) (Nat.le_of_ble_eq_true rfl) (by decide) (by decide) (by decide) (by decide) (pc' := 338) rfl ?_
    rintro _ _ _ ⟨rfl, rfl, rfl⟩ z600
    show Go _ _ _ _ _ _ _ _ _ _ _ _ _ _ _ _ _ _ _ _ _ _ _ _ [(.int (1 : Int32))] _
    refine g_ifNo at_338 (pc' := 341) rfl (feq (by decide : ¬ ((1 : Int32) = (0 : Int32)))).1 ?_
    refine g_aload at_341 (pc' := 343) rfl rfl rfl ?_
    refine go_virtual at_343 (rm_get hw o su h599 Fo) all0 Xo (w140 hw) (w141 hw) (w143 hw) (nf_sel (w143 hw)) (w142 hw) (w94 hw) (w144 hw) (by decide) (argsL := []) (rest := []) (lenOf pd23 rfl) rfl rfl rfl (W := 0) (Nat.le_of_ble_eq_true rfl) (by decide) (by decide) (by decide) (by decide) (pc' := 346) rfl ?_
    rintro _ _ _ ⟨rfl, rfl, rfl⟩ z601
    show Go _ _ _ _ _ _ _ _ _ _ _ _ _ _ _ _ _ _ _ _ _ _ _ _ [(.ref su)] _
    refine g_aload at_346 (pc' := 348) rfl rfl rfl ?_
    refine g_acmp at_348 rfl rfl (same := true) (decide_eq_true rfl) (by decide) (pc' := 351) rfl ?_
    refine g_iconst at_351 (pc' := 352) rfl (z := 1) rfl ?_
    refine g_goto at_352 (pc' := 356) (by decide) (by decide) ?_
    exact go_ireturn at_356 rfl (Or.inr (Or.inl rfl)) rfl (ws' := []) all0 rfl
  by_cases t1 : ts = [(114 : Int32), (101 : Int32), (115 : Int32), (111 : Int32), (117 : Int32), (114 : Int32), (99 : Int32), (101 : Int32)]
  · -- it is
    refine g_astore at_270 (pc' := 272) (Ls' := #[.val (.int md), .val (.long bits), .second, .val (.int ch), .val (.int ps), .val (.int ln), .val (.int wsel), .val (.int op), .val (.ref sa), .val (.ref bs), .val (.int wl), .val (.int fr), .val (.ref ca), .val (.int n), .val (.int x14)]) rfl rfl rfl ?_
    refine g_aload at_272 (pc' := 274) rfl rfl rfl ?_
    refine go_static at_274 (rm_exp hw ts sa _ co h597 (by omega) hT LT Sc hco) all0 (w76 hw) (w77 hw) (w24 hw) (w78 hw) (by decide) (argsL := [(.ref sa)]) (rest := []) (lenOf pd21 rfl) rfl rfl rfl (W := 0) (Nat.le_of_ble_eq_true rfl) (by decide) (by decide) (by decide) (by decide) (pc' := 277) rfl ?_
    rintro _ h602 _ ⟨rfl, rfl, Kx⟩ hzx
    rw [show expOf ts = 1 from by unfold expOf; rw [if_neg t0, if_pos t1]]
    show Go _ _ _ _ _ _ _ _ _ _ _ _ _ _ _ _ _ _ _ _ _ _ _ _ [(.int (1 : Int32))] _
    refine g_istore at_277 (pc' := 279) (Ls' := #[.val (.int md), .val (.long bits), .second, .val (.int ch), .val (.int ps), .val (.int ln), .val (.int wsel), .val (.int op), .val (.ref sa), .val (.int (1 : Int32)), .val (.int wl), .val (.int fr), .val (.ref ca), .val (.int n), .val (.int x14)]) rfl rfl ?_
    refine g_aload at_279 (pc' := 281) rfl rfl rfl ?_
    refine go_static at_281 (rm_ofv hw ts sa _ co va kv su re en wsu bsu wre bre wen ben em h602 (by omega) hT (LT.keep Kx nin0 nin0) Sc hco Sv Xv Av Fsu Lsu Fre Lre Fen Len Se Xe Fe) all0 (w88 hw) (w89 hw) (w90 hw) (w91 hw) (by decide) (argsL := [(.ref sa)]) (rest := []) (lenOf pd22 rfl) rfl rfl rfl (W := 0) (Nat.le_of_ble_eq_true rfl) (by decide) (by decide) (by decide) (by decide) (pc' := 284) rfl ?_
    rintro _ h603 _ ⟨o, rfl, rfl, Xo, Fo⟩ hzo
    rw [show kindOf ts su re en = (.ref re) from by unfold kindOf; rw [if_neg t0, if_pos t1]] at Fo
    show Go _ _ _ _ _ _ _ _ _ _ _ _ _ _ _ _ _ _ _ _ _ _ _ _ [(.ref o)] _
    refine g_astore at_284 (pc' := 286) (Ls' := #[.val (.int md), .val (.long bits), .second, .val (.int ch), .val (.int ps), .val (.int ln), .val (.int wsel), .val (.int op), .val (.ref sa), .val (.int (1 : Int32)), .val (.ref o), .val (.int fr), .val (.ref ca), .val (.int n), .val (.int x14)]) rfl rfl rfl ?_
    refine g_iload at_286 (pc' := 288) rfl rfl ?_
    refine g_ifYes at_288 (pc' := 305) (flt (by decide : ¬ ((1 : Int32) < (0 : Int32)))).2.1 (by decide) (by decide) ?_
    refine g_iload at_305 (pc' := 307) rfl rfl ?_
    refine g_ifYes at_307 (pc' := 316) (feq (by decide : ¬ ((1 : Int32) = (0 : Int32)))).2 (by decide) (by decide) ?_
    refine g_iload at_316 (pc' := 318) rfl rfl ?_
    refine g_iconst at_318 (pc' := 319) rfl (z := 1) rfl ?_
    refine g_icmpNo at_319 (pc' := 322) rfl (teq (by decide : (1 : Int32) = (1 : Int32))).2 ?_
    refine go_getstatic at_322 (w150 hw) Via.refl Sre (pc' := 325) rfl ?_
    refine g_goto at_325 (pc' := 331) (by decide) (by decide) ?_
    refine g_astore at_331 (pc' := 333) (Ls' := #[.val (.int md), .val (.long bits), .second, .val (.int ch), .val (.int ps), .val (.int ln), .val (.int wsel), .val (.int op), .val (.ref sa), .val (.int (1 : Int32)), .val (.ref o), .val (.ref re), .val (.ref ca), .val (.int n), .val (.int x14)]) rfl rfl rfl ?_
    refine g_aload at_333 (pc' := 335) rfl rfl rfl ?_
    refine go_virtual at_335 (rm_isP1 hw o re h603 Fo) all0 Xo (w135 hw) (w136 hw) (w138 hw) (nf_sel (w138 hw)) (w137 hw) (w94 hw) (w139 hw) (by decide) (argsL := []) (rest := []) (lenOf pd7 rfl) rfl rfl rfl (W := 0) (Nat.le_of_ble_eq_true rfl) (by decide) (by decide) (by decide) (by decide) (pc' := 338) rfl ?_
    rintro _ _ _ ⟨rfl, rfl, rfl⟩ z604
    show Go _ _ _ _ _ _ _ _ _ _ _ _ _ _ _ _ _ _ _ _ _ _ _ _ [(.int (1 : Int32))] _
    refine g_ifNo at_338 (pc' := 341) rfl (feq (by decide : ¬ ((1 : Int32) = (0 : Int32)))).1 ?_
    refine g_aload at_341 (pc' := 343) rfl rfl rfl ?_
    refine go_virtual at_343 (rm_get hw o re h603 Fo) all0 Xo (w140 hw) (w141 hw) (w143 hw) (nf_sel (w143 hw)) (w142 hw) (w94 hw) (w144 hw) (by decide) (argsL := []) (rest := []) (lenOf pd23 rfl) rfl rfl rfl (W := 0) (Nat.le_of_ble_eq_true rfl) (by decide) (by decide) (by decide) (by decide) (pc' := 346) rfl ?_
    rintro _ _ _ ⟨rfl, rfl, rfl⟩ z605
    show Go _ _ _ _ _ _ _ _ _ _ _ _ _ _ _ _ _ _ _ _ _ _ _ _ [(.ref re)] _
    refine g_aload at_346 (pc' := 348) rfl rfl rfl ?_
    refine g_acmp at_348 rfl rfl (same := true) (decide_eq_true rfl) (by decide) (pc' := 351) rfl ?_
    refine g_iconst at_351 (pc' := 352) rfl (z := 1) rfl ?_
    refine g_goto at_352 (pc' := 356) (by decide) (by decide) ?_
    exact go_ireturn at_356 rfl (Or.inr (Or.inl rfl)) rfl (ws' := []) all0 rfl
  by_cases t2 : ts = [(101 : Int32), (110 : Int32), (118 : Int32)]
  · -- it is
    refine g_astore at_270 (pc' := 272) (Ls' := #[.val (.int md), .val (.long bits), .second, .val (.int ch), .val (.int ps), .val (.int ln), .val (.int wsel), .val (.int op), .val (.ref sa), .val (.ref bs), .val (.int wl), .val (.int fr), .val (.ref ca), .val (.int n), .val (.int x14)]) rfl rfl rfl ?_
    refine g_aload at_272 (pc' := 274) rfl rfl rfl ?_
    refine go_static at_274 (rm_exp hw ts sa _ co h597 (by omega) hT LT Sc hco) all0 (w76 hw) (w77 hw) (w24 hw) (w78 hw) (by decide) (argsL := [(.ref sa)]) (rest := []) (lenOf pd21 rfl) rfl rfl rfl (W := 0) (Nat.le_of_ble_eq_true rfl) (by decide) (by decide) (by decide) (by decide) (pc' := 277) rfl ?_
    rintro _ h606 _ ⟨rfl, rfl, Kx⟩ hzx
    rw [show expOf ts = 2 from by unfold expOf; rw [if_neg t0, if_neg t1, if_pos t2]]
    show Go _ _ _ _ _ _ _ _ _ _ _ _ _ _ _ _ _ _ _ _ _ _ _ _ [(.int (2 : Int32))] _
    refine g_istore at_277 (pc' := 279) (Ls' := #[.val (.int md), .val (.long bits), .second, .val (.int ch), .val (.int ps), .val (.int ln), .val (.int wsel), .val (.int op), .val (.ref sa), .val (.int (2 : Int32)), .val (.int wl), .val (.int fr), .val (.ref ca), .val (.int n), .val (.int x14)]) rfl rfl ?_
    refine g_aload at_279 (pc' := 281) rfl rfl rfl ?_
    refine go_static at_281 (rm_ofv hw ts sa _ co va kv su re en wsu bsu wre bre wen ben em h606 (by omega) hT (LT.keep Kx nin0 nin0) Sc hco Sv Xv Av Fsu Lsu Fre Lre Fen Len Se Xe Fe) all0 (w88 hw) (w89 hw) (w90 hw) (w91 hw) (by decide) (argsL := [(.ref sa)]) (rest := []) (lenOf pd22 rfl) rfl rfl rfl (W := 0) (Nat.le_of_ble_eq_true rfl) (by decide) (by decide) (by decide) (by decide) (pc' := 284) rfl ?_
    rintro _ h607 _ ⟨o, rfl, rfl, Xo, Fo⟩ hzo
    rw [show kindOf ts su re en = (.ref en) from by unfold kindOf; rw [if_neg t0, if_neg t1, if_pos t2]] at Fo
    show Go _ _ _ _ _ _ _ _ _ _ _ _ _ _ _ _ _ _ _ _ _ _ _ _ [(.ref o)] _
    refine g_astore at_284 (pc' := 286) (Ls' := #[.val (.int md), .val (.long bits), .second, .val (.int ch), .val (.int ps), .val (.int ln), .val (.int wsel), .val (.int op), .val (.ref sa), .val (.int (2 : Int32)), .val (.ref o), .val (.int fr), .val (.ref ca), .val (.int n), .val (.int x14)]) rfl rfl rfl ?_
    refine g_iload at_286 (pc' := 288) rfl rfl ?_
    refine g_ifYes at_288 (pc' := 305) (flt (by decide : ¬ ((2 : Int32) < (0 : Int32)))).2.1 (by decide) (by decide) ?_
    refine g_iload at_305 (pc' := 307) rfl rfl ?_
    refine g_ifYes at_307 (pc' := 316) (feq (by decide : ¬ ((2 : Int32) = (0 : Int32)))).2 (by decide) (by decide) ?_
    refine g_iload at_316 (pc' := 318) rfl rfl ?_
    refine g_iconst at_318 (pc' := 319) rfl (z := 1) rfl ?_
    refine g_icmpYes at_319 (pc' := 328) (feq (by decide : ¬ ((2 : Int32) = (1 : Int32)))).2 (by decide) (by decide) ?_
    refine go_getstatic at_328 (w148 hw) Via.refl Sen (pc' := 331) rfl ?_
    refine g_astore at_331 (pc' := 333) (Ls' := #[.val (.int md), .val (.long bits), .second, .val (.int ch), .val (.int ps), .val (.int ln), .val (.int wsel), .val (.int op), .val (.ref sa), .val (.int (2 : Int32)), .val (.ref o), .val (.ref en), .val (.ref ca), .val (.int n), .val (.int x14)]) rfl rfl rfl ?_
    refine g_aload at_333 (pc' := 335) rfl rfl rfl ?_
    refine go_virtual at_335 (rm_isP1 hw o en h607 Fo) all0 Xo (w135 hw) (w136 hw) (w138 hw) (nf_sel (w138 hw)) (w137 hw) (w94 hw) (w139 hw) (by decide) (argsL := []) (rest := []) (lenOf pd7 rfl) rfl rfl rfl (W := 0) (Nat.le_of_ble_eq_true rfl) (by decide) (by decide) (by decide) (by decide) (pc' := 338) rfl ?_
    rintro _ _ _ ⟨rfl, rfl, rfl⟩ z608
    show Go _ _ _ _ _ _ _ _ _ _ _ _ _ _ _ _ _ _ _ _ _ _ _ _ [(.int (1 : Int32))] _
    refine g_ifNo at_338 (pc' := 341) rfl (feq (by decide : ¬ ((1 : Int32) = (0 : Int32)))).1 ?_
    refine g_aload at_341 (pc' := 343) rfl rfl rfl ?_
    refine go_virtual at_343 (rm_get hw o en h607 Fo) all0 Xo (w140 hw) (w141 hw) (w143 hw) (nf_sel (w143 hw)) (w142 hw) (w94 hw) (w144 hw) (by decide) (argsL := []) (rest := []) (lenOf pd23 rfl) rfl rfl rfl (W := 0) (Nat.le_of_ble_eq_true rfl) (by decide) (by decide) (by decide) (by decide) (pc' := 346) rfl ?_
    rintro _ _ _ ⟨rfl, rfl, rfl⟩ z609
    show Go _ _ _ _ _ _ _ _ _ _ _ _ _ _ _ _ _ _ _ _ _ _ _ _ [(.ref en)] _
    refine g_aload at_346 (pc' := 348) rfl rfl rfl ?_
    refine g_acmp at_348 rfl rfl (same := true) (decide_eq_true rfl) (by decide) (pc' := 351) rfl ?_
    refine g_iconst at_351 (pc' := 352) rfl (z := 1) rfl ?_
    refine g_goto at_352 (pc' := 356) (by decide) (by decide) ?_
    exact go_ireturn at_356 rfl (Or.inr (Or.inl rfl)) rfl (ws' := []) all0 rfl
  refine g_astore at_270 (pc' := 272) (Ls' := #[.val (.int md), .val (.long bits), .second, .val (.int ch), .val (.int ps), .val (.int ln), .val (.int wsel), .val (.int op), .val (.ref sa), .val (.ref bs), .val (.int wl), .val (.int fr), .val (.ref ca), .val (.int n), .val (.int x14)]) rfl rfl rfl ?_
  refine g_aload at_272 (pc' := 274) rfl rfl rfl ?_
  refine go_static at_274 (rm_exp hw ts sa _ co h597 (by omega) hT LT Sc hco) all0 (w76 hw) (w77 hw) (w24 hw) (w78 hw) (by decide) (argsL := [(.ref sa)]) (rest := []) (lenOf pd21 rfl) rfl rfl rfl (W := 0) (Nat.le_of_ble_eq_true rfl) (by decide) (by decide) (by decide) (by decide) (pc' := 277) rfl ?_
  rintro _ h610 _ ⟨rfl, rfl, Kx⟩ hzx
  rw [show expOf ts = (-1) from by unfold expOf; rw [if_neg t0, if_neg t1, if_neg t2]]
  show Go _ _ _ _ _ _ _ _ _ _ _ _ _ _ _ _ _ _ _ _ _ _ _ _ [(.int (-1 : Int32))] _
  refine g_istore at_277 (pc' := 279) (Ls' := #[.val (.int md), .val (.long bits), .second, .val (.int ch), .val (.int ps), .val (.int ln), .val (.int wsel), .val (.int op), .val (.ref sa), .val (.int (-1 : Int32)), .val (.int wl), .val (.int fr), .val (.ref ca), .val (.int n), .val (.int x14)]) rfl rfl ?_
  refine g_aload at_279 (pc' := 281) rfl rfl rfl ?_
  refine go_static at_281 (rm_ofv hw ts sa _ co va kv su re en wsu bsu wre bre wen ben em h610 (by omega) hT (LT.keep Kx nin0 nin0) Sc hco Sv Xv Av Fsu Lsu Fre Lre Fen Len Se Xe Fe) all0 (w88 hw) (w89 hw) (w90 hw) (w91 hw) (by decide) (argsL := [(.ref sa)]) (rest := []) (lenOf pd22 rfl) rfl rfl rfl (W := 0) (Nat.le_of_ble_eq_true rfl) (by decide) (by decide) (by decide) (by decide) (pc' := 284) rfl ?_
  rintro _ h611 _ ⟨o, rfl, rfl, Xo, Fo⟩ hzo
  rw [show kindOf ts su re en = .null from by unfold kindOf; rw [if_neg t0, if_neg t1, if_neg t2]] at Fo
  show Go _ _ _ _ _ _ _ _ _ _ _ _ _ _ _ _ _ _ _ _ _ _ _ _ [(.ref o)] _
  refine g_astore at_284 (pc' := 286) (Ls' := #[.val (.int md), .val (.long bits), .second, .val (.int ch), .val (.int ps), .val (.int ln), .val (.int wsel), .val (.int op), .val (.ref sa), .val (.int (-1 : Int32)), .val (.ref o), .val (.int fr), .val (.ref ca), .val (.int n), .val (.int x14)]) rfl rfl rfl ?_
  refine g_iload at_286 (pc' := 288) rfl rfl ?_
  refine g_ifNo at_288 (pc' := 291) rfl (tlt (by decide : (-1 : Int32) < (0 : Int32))).2.1 ?_
  refine g_aload at_291 (pc' := 293) rfl rfl rfl ?_
  refine go_virtual at_293 (rm_isP0 hw o h611 Fo) all0 Xo (w135 hw) (w136 hw) (w138 hw) (nf_sel (w138 hw)) (w137 hw) (w94 hw) (w139 hw) (by decide) (argsL := []) (rest := []) (lenOf pd7 rfl) rfl rfl rfl (W := 0) (Nat.le_of_ble_eq_true rfl) (by decide) (by decide) (by decide) (by decide) (pc' := 296) rfl ?_
  rintro _ _ _ ⟨rfl, rfl, rfl⟩ z612
  show Go _ _ _ _ _ _ _ _ _ _ _ _ _ _ _ _ _ _ _ _ _ _ _ _ [(.int (0 : Int32))] _
  refine g_ifNo at_296 (pc' := 299) rfl (teq (by decide : (0 : Int32) = (0 : Int32))).2 ?_
  refine g_iconst at_299 (pc' := 300) rfl (z := 1) rfl ?_
  refine g_goto at_300 (pc' := 304) (by decide) (by decide) ?_
  exact go_ireturn at_304 rfl (Or.inr (Or.inl rfl)) rfl (ws' := []) all0 rfl
set_option maxRecDepth 65536 in
set_option maxHeartbeats 40000000 in
theorem lw_207 {l : Launch} {Z : State} {a0 : Array Value} (hw : ∀ d ∈ tables_1, d.before a0 Z = true) {p : Program} {e : Env} {s : State} {m : MethodId} {args : Array Value} {below : List Frame} {meth : Method} {c : Code} (md : Int32) (bits : Int64) (ch ps ln wsel op co : Int32) (fm : Value) (va : Addr) (kv : ClassId) (su re en wsu bsu wre bre wen ben em : Addr) (cs : List Int32) (ca : Addr) (k : ClassId) (bs : Addr) (nl : Nat) (fr : Int32) (h0 : Heap) (hn0 : 0 < nl) (hn8 : nl ≤ 8) (hl : cs.length = 9) (hB : Byt cs) (A : Arv Z h0 ca k .char 9 (cs.map Value.int) (.int 0)) (Sc : Sta Z Z.heap "java/lang/String" "COMPACT_STRINGS" "Z" (.int co)) (hco : ¬ co = 0) (Sf : Sta Z Z.heap "jdk/internal/util/Preconditions" "SIOOBE_FORMATTER" "Ljava/util/function/BiFunction;" fm) (hfm : fm.isRef = true) (Ssu : Sta Z Z.heap "com/example/sundew/sundew/Holder$Kind" "SUBJECT" "Lcom/example/sundew/sundew/Holder$Kind;" (.ref su)) (Sre : Sta Z Z.heap "com/example/sundew/sundew/Holder$Kind" "RESOURCE" "Lcom/example/sundew/sundew/Holder$Kind;" (.ref re)) (Sen : Sta Z Z.heap "com/example/sundew/sundew/Holder$Kind" "ENV" "Lcom/example/sundew/sundew/Holder$Kind;" (.ref en)) (Sv : Sta Z Z.heap "com/example/sundew/sundew/Holder$Kind" "$VALUES" "[Lcom/example/sundew/sundew/Holder$Kind;" (.ref va)) (Xv : Exa Z Z.heap va "[Lcom/example/sundew/sundew/Holder$Kind;") (Av : Arv Z Z.heap va kv (.object "com/example/sundew/sundew/Holder$Kind") 3 [.ref su, .ref re, .ref en] .null) (Fsu : Fld Z Z.heap su "com/example/sundew/sundew/Holder$Kind" "variable" "Ljava/lang/String;" (.ref wsu)) (Lsu : LatB Z Z.heap wsu bsu [(115 : Int32), (117 : Int32), (98 : Int32), (106 : Int32), (101 : Int32), (99 : Int32), (116 : Int32)]) (Fre : Fld Z Z.heap re "com/example/sundew/sundew/Holder$Kind" "variable" "Ljava/lang/String;" (.ref wre)) (Lre : LatB Z Z.heap wre bre [(114 : Int32), (101 : Int32), (115 : Int32), (111 : Int32), (117 : Int32), (114 : Int32), (99 : Int32), (101 : Int32)]) (Fen : Fld Z Z.heap en "com/example/sundew/sundew/Holder$Kind" "variable" "Ljava/lang/String;" (.ref wen)) (Len : LatB Z Z.heap wen ben [(101 : Int32), (110 : Int32), (118 : Int32)]) (Se : Sta Z Z.heap "java/util/Optional" "EMPTY" "Ljava/util/Optional;" (.ref em)) (Xe : Exa Z Z.heap em "java/util/Optional") (Fe : Fld Z Z.heap em "java/util/Optional" "value" "Ljava/lang/Object;" .null) :
    Go p l e room_1 s m args below meth c Z a0 EL "com/example/sundew/sundew/KindOfVariablePinLaw" code 15 ret "law" [ca] h0 3 45 207 #[.val (.int md), .val (.long bits), .second, .val (.int ch), .val (.int ps), .val (.int ln), .val (.int wsel), .val (.int op), .unset, .val (.ref bs), .val (.int (Int32.ofNat nl)), .val (.int fr), .val (.ref ca), .unset, .unset] [] (fun v h ws => v = some (.int 1)) := by
  refine g_iload at_207 (pc' := 209) rfl rfl ?_
  by_cases h209 : op = (0 : Int32)
  · -- h209 holds
    refine g_ifNo at_209 (pc' := 212) rfl (teq h209).2 ?_
    refine g_iload at_212 (pc' := 214) rfl rfl ?_
    refine g_istore at_214 (pc' := 216) (Ls' := #[.val (.int md), .val (.long bits), .second, .val (.int ch), .val (.int ps), .val (.int ln), .val (.int wsel), .val (.int op), .unset, .val (.ref bs), .val (.int (Int32.ofNat nl)), .val (.int fr), .val (.ref ca), .val (.int (Int32.ofNat nl)), .unset]) rfl rfl ?_
    refine g_goto at_216 (pc' := 263) (by decide) (by decide) ?_
    exact lw_263a hw md bits ch ps ln wsel op co fm va kv su re en wsu bsu wre bre wen ben em cs ca k bs (Int32.ofNat nl) fr (Int32.ofNat nl) 0 h0 hl hB A Sc hco Sf hfm Ssu Sre Sen Sv Xv Av Fsu Lsu Fre Lre Fen Len Se Xe Fe
  · -- h209 does not hold
    refine g_ifYes at_209 (pc' := 219) (feq h209).2 (by decide) (by decide) ?_
    refine g_iload at_219 (pc' := 221) rfl rfl ?_
    refine g_iconst at_221 (pc' := 222) rfl (z := 1) rfl ?_
    by_cases h222 : op = (1 : Int32)
    · -- h222 holds
      refine g_icmpNo at_222 (pc' := 225) rfl (teq h222).2 ?_
      refine g_iload at_225 (pc' := 227) rfl rfl ?_
      refine go_ldcI at_227 (w145 hw) (pc' := 229) rfl ?_
      refine g_iand at_229 (pc' := 230) rfl ?_
      refine g_iload at_230 (pc' := 232) rfl rfl ?_
      refine g_irem at_232 (pc' := 233) rfl (fun q => by have := (o_eq (n := 0) (by omega) (by omega)).mp q; omega) ?_
      obtain ⟨j, hj, ej⟩ := rem_nat ps (Int32.ofNat nl) (o_int (by omega)) hn0 (by omega)
      rw [ej]
      refine g_istore at_233 (pc' := 235) (Ls' := #[.val (.int md), .val (.long bits), .second, .val (.int ch), .val (.int ps), .val (.int ln), .val (.int wsel), .val (.int op), .unset, .val (.ref bs), .val (.int (Int32.ofNat nl)), .val (.int fr), .val (.ref ca), .unset, .val (.int (Int32.ofNat j))]) rfl rfl ?_
      refine g_aload at_235 (pc' := 237) rfl rfl rfl ?_
      refine g_iload at_237 (pc' := 239) rfl rfl ?_
      refine g_iloadN at_239 (pc' := 240) rfl rfl ?_
      refine g_sipush at_240 (pc' := 243) rfl (z := 255) rfl ?_
      refine g_iand at_243 (pc' := 244) rfl ?_
      refine g_i2c at_244 (pc' := 245) rfl ?_
      refine go_castore j at_245 A ⟨o_nn (by omega), (o_lt (n := 9) (by omega) (by omega)).mpr (by omega)⟩ (o_cl (by omega)) (by rw [List.length_map]; omega) (x' := (((ch &&& (255 : Int32))).toUInt32.toUInt16.toUInt32.toInt32)) (nar_i2c _) (List.mem_of_getElem? (i := 0) rfl) (pc' := 246) rfl ?_
      intro h613 W614 A615
      refine g_iload at_246 (pc' := 248) rfl rfl ?_
      refine g_istore at_248 (pc' := 250) (Ls' := #[.val (.int md), .val (.long bits), .second, .val (.int ch), .val (.int ps), .val (.int ln), .val (.int wsel), .val (.int op), .unset, .val (.ref bs), .val (.int (Int32.ofNat nl)), .val (.int fr), .val (.ref ca), .val (.int (Int32.ofNat nl)), .val (.int (Int32.ofNat j))]) rfl rfl ?_
      refine g_goto at_250 (pc' := 263) (by decide) (by decide) ?_
      exact lw_263b hw md bits ch ps ln wsel op co fm va kv su re en wsu bsu wre bre wen ben em (cs.set j (((ch &&& (255 : Int32))).toUInt32.toUInt16.toUInt32.toInt32)) ca k bs (Int32.ofNat nl) fr (Int32.ofNat nl) (Int32.ofNat j) h613 (by rw [List.length_set]; exact hl) (hB.set (byt255 _) _) (by rw [List.map_set]; exact A615) Sc hco Sf hfm Ssu Sre Sen Sv Xv Av Fsu Lsu Fre Lre Fen Len Se Xe Fe
    · -- h222 does not hold
      refine g_icmpYes at_222 (pc' := 253) (feq h222).2 (by decide) (by decide) ?_
      refine g_iload at_253 (pc' := 255) rfl rfl ?_
      refine go_ldcI at_255 (w145 hw) (pc' := 257) rfl ?_
      refine g_iand at_257 (pc' := 258) rfl ?_
      refine g_bipush at_258 (pc' := 260) rfl (z := 10) rfl ?_
      refine g_irem at_260 (pc' := 261) rfl (by decide) ?_
      refine g_istore at_261 (pc' := 263) (Ls' := #[.val (.int md), .val (.long bits), .second, .val (.int ch), .val (.int ps), .val (.int ln), .val (.int wsel), .val (.int op), .unset, .val (.ref bs), .val (.int (Int32.ofNat nl)), .val (.int fr), .val (.ref ca), .val (.int ((ln &&& (2147483647 : Int32)) % (10 : Int32))), .unset]) rfl rfl ?_
      exact lw_263a hw md bits ch ps ln wsel op co fm va kv su re en wsu bsu wre bre wen ben em cs ca k bs (Int32.ofNat nl) fr ((ln &&& (2147483647 : Int32)) % (10 : Int32)) 0 h0 hl hB A Sc hco Sf hfm Ssu Sre Sen Sv Xv Av Fsu Lsu Fre Lre Fen Len Se Xe Fe
set_option maxRecDepth 65536 in
set_option maxHeartbeats 40000000 in
theorem lw_67 {l : Launch} {Z : State} {a0 : Array Value} (hw : ∀ d ∈ tables_1, d.before a0 Z = true) {p : Program} {e : Env} {s : State} {m : MethodId} {args : Array Value} {below : List Frame} {meth : Method} {c : Code} (md : Int32) (bits : Int64) (ch ps ln wsel op co : Int32) (fm : Value) (va : Addr) (kv : ClassId) (su re en wsu bsu wre bre wen ben em : Addr) (bs bb : Addr) (ds : List Int32) (fr : Int32) (h0 : Heap) (hD : Byt ds) (hd0 : 0 < ds.length) (hd8 : ds.length ≤ 8) (L : LatB Z h0 bs bb ds) (Sc : Sta Z Z.heap "java/lang/String" "COMPACT_STRINGS" "Z" (.int co)) (hco : ¬ co = 0) (Sf : Sta Z Z.heap "jdk/internal/util/Preconditions" "SIOOBE_FORMATTER" "Ljava/util/function/BiFunction;" fm) (hfm : fm.isRef = true) (Ssu : Sta Z Z.heap "com/example/sundew/sundew/Holder$Kind" "SUBJECT" "Lcom/example/sundew/sundew/Holder$Kind;" (.ref su)) (Sre : Sta Z Z.heap "com/example/sundew/sundew/Holder$Kind" "RESOURCE" "Lcom/example/sundew/sundew/Holder$Kind;" (.ref re)) (Sen : Sta Z Z.heap "com/example/sundew/sundew/Holder$Kind" "ENV" "Lcom/example/sundew/sundew/Holder$Kind;" (.ref en)) (Sv : Sta Z Z.heap "com/example/sundew/sundew/Holder$Kind" "$VALUES" "[Lcom/example/sundew/sundew/Holder$Kind;" (.ref va)) (Xv : Exa Z Z.heap va "[Lcom/example/sundew/sundew/Holder$Kind;") (Av : Arv Z Z.heap va kv (.object "com/example/sundew/sundew/Holder$Kind") 3 [.ref su, .ref re, .ref en] .null) (Fsu : Fld Z Z.heap su "com/example/sundew/sundew/Holder$Kind" "variable" "Ljava/lang/String;" (.ref wsu)) (Lsu : LatB Z Z.heap wsu bsu [(115 : Int32), (117 : Int32), (98 : Int32), (106 : Int32), (101 : Int32), (99 : Int32), (116 : Int32)]) (Fre : Fld Z Z.heap re "com/example/sundew/sundew/Holder$Kind" "variable" "Ljava/lang/String;" (.ref wre)) (Lre : LatB Z Z.heap wre bre [(114 : Int32), (101 : Int32), (115 : Int32), (111 : Int32), (117 : Int32), (114 : Int32), (99 : Int32), (101 : Int32)]) (Fen : Fld Z Z.heap en "com/example/sundew/sundew/Holder$Kind" "variable" "Ljava/lang/String;" (.ref wen)) (Len : LatB Z Z.heap wen ben [(101 : Int32), (110 : Int32), (118 : Int32)]) (Se : Sta Z Z.heap "java/util/Optional" "EMPTY" "Ljava/util/Optional;" (.ref em)) (Xe : Exa Z Z.heap em "java/util/Optional") (Fe : Fld Z Z.heap em "java/util/Optional" "value" "Ljava/lang/Object;" .null) :
    Go p l e room_1 s m args below meth c Z a0 EL "com/example/sundew/sundew/KindOfVariablePinLaw" code 15 ret "law" [] h0 2 36 67 #[.val (.int md), .val (.long bits), .second, .val (.int ch), .val (.int ps), .val (.int ln), .val (.int wsel), .val (.int op), .unset, .val (.ref bs), .val (.int (Int32.ofNat ds.length)), .unset, .unset, .unset, .unset] [(.int fr)] (fun v h ws => v = some (.int 1)) := by
  refine g_istore at_67 (pc' := 69) (Ls' := #[.val (.int md), .val (.long bits), .second, .val (.int ch), .val (.int ps), .val (.int ln), .val (.int wsel), .val (.int op), .unset, .val (.ref bs), .val (.int (Int32.ofNat ds.length)), .val (.int fr), .unset, .unset, .unset]) rfl rfl ?_
  refine g_bipush at_69 (pc' := 71) rfl (z := 9) rfl ?_
  refine go_newarray at_71 (w21 hw) (by decide) (cap := 9) (by decide) (by decide) (by decide) (by decide) (ad := "[C") rfl (pc' := 73) rfl ?_
  intro h616 a617 k618 g619 E620 A621 X622
  have A623 : Arv Z h616 a617 k618 .char (9 : Int32) [.int 0, .int 0, .int 0, .int 0, .int 0, .int 0, .int 0, .int 0, .int 0] (.int 0) := Arv.pad A621 (pad_rep [] (.int 0) 9)
  refine g_astore at_73 (pc' := 75) (Ls' := #[.val (.int md), .val (.long bits), .second, .val (.int ch), .val (.int ps), .val (.int ln), .val (.int wsel), .val (.int op), .unset, .val (.ref bs), .val (.int (Int32.ofNat ds.length)), .val (.int fr), .val (.ref a617), .unset, .unset]) rfl rfl rfl ?_
  refine g_aload at_75 (pc' := 77) rfl rfl rfl ?_
  refine g_iconst at_77 (pc' := 78) rfl (z := 0) rfl ?_
  refine g_aload at_78 (pc' := 80) rfl rfl rfl ?_
  refine g_iconst at_80 (pc' := 81) rfl (z := 0) rfl ?_
  refine g_iload at_81 (pc' := 83) rfl rfl ?_
  refine g_lloadN at_83 (pc' := 84) rfl rfl ?_
  refine g_iloadN at_84 (pc' := 85) rfl rfl ?_
  refine go_static at_85 (rm_pick hw ds bs bb co fm 0 fr bits ch h616 (by omega) hD (L.ext E620) (by decide) Sc hco Sf hfm) all0 (w22 hw) (w23 hw) (w24 hw) (w25 hw) (by decide) (argsL := [(.ref bs), (.int (0 : Int32)), (.int fr), (.long bits), (.int ch)]) (rest := [(.int (0 : Int32)), (.ref a617)]) (lenOf pd24 rfl) rfl rfl rfl (W := 2) (Nat.le_of_ble_eq_true rfl) (by decide) (by decide) (by decide) (by decide) (pc' := 88) rfl ?_
  rintro _ _ _ ⟨x0, rfl, hx0, rfl, rfl⟩ hz0
  show Go _ _ _ _ _ _ _ _ _ _ _ _ _ _ _ _ _ _ _ _ _ _ _ _ [(.int x0), (.int (0 : Int32)), (.ref a617)] _
  refine go_castore 0 at_88 A623 ⟨by decide, by decide⟩ rfl (Nat.le_of_ble_eq_true rfl) (x' := x0) (nar_byt hx0) (List.mem_of_getElem? (i := 0) rfl) (pc' := 89) rfl ?_
  intro h624 W625 A626
  refine g_aload at_89 (pc' := 91) rfl rfl rfl ?_
  refine g_iconst at_91 (pc' := 92) rfl (z := 1) rfl ?_
  refine g_aload at_92 (pc' := 94) rfl rfl rfl ?_
  refine g_iconst at_94 (pc' := 95) rfl (z := 1) rfl ?_
  refine g_iload at_95 (pc' := 97) rfl rfl ?_
  refine g_lloadN at_97 (pc' := 98) rfl rfl ?_
  refine g_iloadN at_98 (pc' := 99) rfl rfl ?_
  have ne627 : bs ≠ a617 := Nat.ne_of_lt (Nat.lt_of_lt_of_le L.lt (Nat.le_of_eq g619.symm))
  have ne628 : bb ≠ a617 := Nat.ne_of_lt (Nat.lt_of_lt_of_le L.blt (Nat.le_of_eq g619.symm))
  refine go_static at_99 (rm_pick hw ds bs bb co fm 1 fr bits ch h624 (by omega) hD ((L.ext E620).other W625 ne627 ne628) (by decide) Sc hco Sf hfm) all0 (w22 hw) (w23 hw) (w24 hw) (w25 hw) (by decide) (argsL := [(.ref bs), (.int (1 : Int32)), (.int fr), (.long bits), (.int ch)]) (rest := [(.int (1 : Int32)), (.ref a617)]) (lenOf pd24 rfl) rfl rfl rfl (W := 2) (Nat.le_of_ble_eq_true rfl) (by decide) (by decide) (by decide) (by decide) (pc' := 102) rfl ?_
  rintro _ _ _ ⟨x1, rfl, hx1, rfl, rfl⟩ hz1
  show Go _ _ _ _ _ _ _ _ _ _ _ _ _ _ _ _ _ _ _ _ _ _ _ _ [(.int x1), (.int (1 : Int32)), (.ref a617)] _
  refine go_castore 1 at_102 A626 ⟨by decide, by decide⟩ rfl (Nat.le_of_ble_eq_true rfl) (x' := x1) (nar_byt hx1) (List.mem_of_getElem? (i := 0) rfl) (pc' := 103) rfl ?_
  intro h629 W630 A631
  refine g_aload at_103 (pc' := 105) rfl rfl rfl ?_
  refine g_iconst at_105 (pc' := 106) rfl (z := 2) rfl ?_
  refine g_aload at_106 (pc' := 108) rfl rfl rfl ?_
  refine g_iconst at_108 (pc' := 109) rfl (z := 2) rfl ?_
  refine g_iload at_109 (pc' := 111) rfl rfl ?_
  refine g_lloadN at_111 (pc' := 112) rfl rfl ?_
  refine g_iloadN at_112 (pc' := 113) rfl rfl ?_
  have f632 := (((L.ext E620).other W625 ne627 ne628).other W630 ne627 ne628)
  refine go_static at_113 (rm_pick hw ds bs bb co fm 2 fr bits ch h629 (by omega) hD f632 (by decide) Sc hco Sf hfm) all0 (w22 hw) (w23 hw) (w24 hw) (w25 hw) (by decide) (argsL := [(.ref bs), (.int (2 : Int32)), (.int fr), (.long bits), (.int ch)]) (rest := [(.int (2 : Int32)), (.ref a617)]) (lenOf pd24 rfl) rfl rfl rfl (W := 2) (Nat.le_of_ble_eq_true rfl) (by decide) (by decide) (by decide) (by decide) (pc' := 116) rfl ?_
  rintro _ _ _ ⟨x2, rfl, hx2, rfl, rfl⟩ hz2
  show Go _ _ _ _ _ _ _ _ _ _ _ _ _ _ _ _ _ _ _ _ _ _ _ _ [(.int x2), (.int (2 : Int32)), (.ref a617)] _
  refine go_castore 2 at_116 A631 ⟨by decide, by decide⟩ rfl (Nat.le_of_ble_eq_true rfl) (x' := x2) (nar_byt hx2) (List.mem_of_getElem? (i := 0) rfl) (pc' := 117) rfl ?_
  intro h633 W634 A635
  refine g_aload at_117 (pc' := 119) rfl rfl rfl ?_
  refine g_iconst at_119 (pc' := 120) rfl (z := 3) rfl ?_
  refine g_aload at_120 (pc' := 122) rfl rfl rfl ?_
  refine g_iconst at_122 (pc' := 123) rfl (z := 3) rfl ?_
  refine g_iload at_123 (pc' := 125) rfl rfl ?_
  refine g_lloadN at_125 (pc' := 126) rfl rfl ?_
  refine g_iloadN at_126 (pc' := 127) rfl rfl ?_
  refine go_static at_127 (rm_pick hw ds bs bb co fm 3 fr bits ch h633 (by omega) hD (f632.other W634 ne627 ne628) (by decide) Sc hco Sf hfm) all0 (w22 hw) (w23 hw) (w24 hw) (w25 hw) (by decide) (argsL := [(.ref bs), (.int (3 : Int32)), (.int fr), (.long bits), (.int ch)]) (rest := [(.int (3 : Int32)), (.ref a617)]) (lenOf pd24 rfl) rfl rfl rfl (W := 2) (Nat.le_of_ble_eq_true rfl) (by decide) (by decide) (by decide) (by decide) (pc' := 130) rfl ?_
  rintro _ _ _ ⟨x3, rfl, hx3, rfl, rfl⟩ hz3
  show Go _ _ _ _ _ _ _ _ _ _ _ _ _ _ _ _ _ _ _ _ _ _ _ _ [(.int x3), (.int (3 : Int32)), (.ref a617)] _
  refine go_castore 3 at_130 A635 ⟨by decide, by decide⟩ rfl (Nat.le_of_ble_eq_true rfl) (x' := x3) (nar_byt hx3) (List.mem_of_getElem? (i := 0) rfl) (pc' := 131) rfl ?_
  intro h636 W637 A638
  refine g_aload at_131 (pc' := 133) rfl rfl rfl ?_
  refine g_iconst at_133 (pc' := 134) rfl (z := 4) rfl ?_
  refine g_aload at_134 (pc' := 136) rfl rfl rfl ?_
  refine g_iconst at_136 (pc' := 137) rfl (z := 4) rfl ?_
  refine g_iload at_137 (pc' := 139) rfl rfl ?_
  refine g_lloadN at_139 (pc' := 140) rfl rfl ?_
  refine g_iloadN at_140 (pc' := 141) rfl rfl ?_
  refine go_static at_141 (rm_pick hw ds bs bb co fm 4 fr bits ch h636 (by omega) hD ((f632.other W634 ne627 ne628).other W637 ne627 ne628) (by decide) Sc hco Sf hfm) all0 (w22 hw) (w23 hw) (w24 hw) (w25 hw) (by decide) (argsL := [(.ref bs), (.int (4 : Int32)), (.int fr), (.long bits), (.int ch)]) (rest := [(.int (4 : Int32)), (.ref a617)]) (lenOf pd24 rfl) rfl rfl rfl (W := 2) (Nat.le_of_ble_eq_true rfl) (by decide) (by decide) (by decide) (by decide) (pc' := 144) rfl ?_
  rintro _ _ _ ⟨x4, rfl, hx4, rfl, rfl⟩ hz4
  show Go _ _ _ _ _ _ _ _ _ _ _ _ _ _ _ _ _ _ _ _ _ _ _ _ [(.int x4), (.int (4 : Int32)), (.ref a617)] _
  refine go_castore 4 at_144 A638 ⟨by decide, by decide⟩ rfl (Nat.le_of_ble_eq_true rfl) (x' := x4) (nar_byt hx4) (List.mem_of_getElem? (i := 0) rfl) (pc' := 145) rfl ?_
  intro h639 W640 A641
  refine g_aload at_145 (pc' := 147) rfl rfl rfl ?_
  refine g_iconst at_147 (pc' := 148) rfl (z := 5) rfl ?_
  refine g_aload at_148 (pc' := 150) rfl rfl rfl ?_
  refine g_iconst at_150 (pc' := 151) rfl (z := 5) rfl ?_
  refine g_iload at_151 (pc' := 153) rfl rfl ?_
  refine g_lloadN at_153 (pc' := 154) rfl rfl ?_
  refine g_iloadN at_154 (pc' := 155) rfl rfl ?_
  have f642 := (((f632.other W634 ne627 ne628).other W637 ne627 ne628).other W640 ne627 ne628)
  refine go_static at_155 (rm_pick hw ds bs bb co fm 5 fr bits ch h639 (by omega) hD f642 (by decide) Sc hco Sf hfm) all0 (w22 hw) (w23 hw) (w24 hw) (w25 hw) (by decide) (argsL := [(.ref bs), (.int (5 : Int32)), (.int fr), (.long bits), (.int ch)]) (rest := [(.int (5 : Int32)), (.ref a617)]) (lenOf pd24 rfl) rfl rfl rfl (W := 2) (Nat.le_of_ble_eq_true rfl) (by decide) (by decide) (by decide) (by decide) (pc' := 158) rfl ?_
  rintro _ _ _ ⟨x5, rfl, hx5, rfl, rfl⟩ hz5
  show Go _ _ _ _ _ _ _ _ _ _ _ _ _ _ _ _ _ _ _ _ _ _ _ _ [(.int x5), (.int (5 : Int32)), (.ref a617)] _
  refine go_castore 5 at_158 A641 ⟨by decide, by decide⟩ rfl (Nat.le_of_ble_eq_true rfl) (x' := x5) (nar_byt hx5) (List.mem_of_getElem? (i := 0) rfl) (pc' := 159) rfl ?_
  intro h643 W644 A645
  refine g_aload at_159 (pc' := 161) rfl rfl rfl ?_
  refine g_bipush at_161 (pc' := 163) rfl (z := 6) rfl ?_
  refine g_aload at_163 (pc' := 165) rfl rfl rfl ?_
  refine g_bipush at_165 (pc' := 167) rfl (z := 6) rfl ?_
  refine g_iload at_167 (pc' := 169) rfl rfl ?_
  refine g_lloadN at_169 (pc' := 170) rfl rfl ?_
  refine g_iloadN at_170 (pc' := 171) rfl rfl ?_
  refine go_static at_171 (rm_pick hw ds bs bb co fm 6 fr bits ch h643 (by omega) hD (f642.other W644 ne627 ne628) (by decide) Sc hco Sf hfm) all0 (w22 hw) (w23 hw) (w24 hw) (w25 hw) (by decide) (argsL := [(.ref bs), (.int (6 : Int32)), (.int fr), (.long bits), (.int ch)]) (rest := [(.int (6 : Int32)), (.ref a617)]) (lenOf pd24 rfl) rfl rfl rfl (W := 2) (Nat.le_of_ble_eq_true rfl) (by decide) (by decide) (by decide) (by decide) (pc' := 174) rfl ?_
  rintro _ _ _ ⟨x6, rfl, hx6, rfl, rfl⟩ hz6
  show Go _ _ _ _ _ _ _ _ _ _ _ _ _ _ _ _ _ _ _ _ _ _ _ _ [(.int x6), (.int (6 : Int32)), (.ref a617)] _
  refine go_castore 6 at_174 A645 ⟨by decide, by decide⟩ rfl (Nat.le_of_ble_eq_true rfl) (x' := x6) (nar_byt hx6) (List.mem_of_getElem? (i := 0) rfl) (pc' := 175) rfl ?_
  intro h646 W647 A648
  refine g_aload at_175 (pc' := 177) rfl rfl rfl ?_
  refine g_bipush at_177 (pc' := 179) rfl (z := 7) rfl ?_
  refine g_aload at_179 (pc' := 181) rfl rfl rfl ?_
  refine g_bipush at_181 (pc' := 183) rfl (z := 7) rfl ?_
  refine g_iload at_183 (pc' := 185) rfl rfl ?_
  refine g_lloadN at_185 (pc' := 186) rfl rfl ?_
  refine g_iloadN at_186 (pc' := 187) rfl rfl ?_
  refine go_static at_187 (rm_pick hw ds bs bb co fm 7 fr bits ch h646 (by omega) hD ((f642.other W644 ne627 ne628).other W647 ne627 ne628) (by decide) Sc hco Sf hfm) all0 (w22 hw) (w23 hw) (w24 hw) (w25 hw) (by decide) (argsL := [(.ref bs), (.int (7 : Int32)), (.int fr), (.long bits), (.int ch)]) (rest := [(.int (7 : Int32)), (.ref a617)]) (lenOf pd24 rfl) rfl rfl rfl (W := 2) (Nat.le_of_ble_eq_true rfl) (by decide) (by decide) (by decide) (by decide) (pc' := 190) rfl ?_
  rintro _ _ _ ⟨x7, rfl, hx7, rfl, rfl⟩ hz7
  show Go _ _ _ _ _ _ _ _ _ _ _ _ _ _ _ _ _ _ _ _ _ _ _ _ [(.int x7), (.int (7 : Int32)), (.ref a617)] _
  refine go_castore 7 at_190 A648 ⟨by decide, by decide⟩ rfl (Nat.le_of_ble_eq_true rfl) (x' := x7) (nar_byt hx7) (List.mem_of_getElem? (i := 0) rfl) (pc' := 191) rfl ?_
  intro h649 W650 A651
  refine g_aload at_191 (pc' := 193) rfl rfl rfl ?_
  refine g_bipush at_193 (pc' := 195) rfl (z := 8) rfl ?_
  refine g_aload at_195 (pc' := 197) rfl rfl rfl ?_
  refine g_bipush at_197 (pc' := 199) rfl (z := 8) rfl ?_
  refine g_iload at_199 (pc' := 201) rfl rfl ?_
  refine g_lloadN at_201 (pc' := 202) rfl rfl ?_
  refine g_iloadN at_202 (pc' := 203) rfl rfl ?_
  have f652 := (((f642.other W644 ne627 ne628).other W647 ne627 ne628).other W650 ne627 ne628)
  refine go_static at_203 (rm_pick hw ds bs bb co fm 8 fr bits ch h649 (by omega) hD f652 (by decide) Sc hco Sf hfm) all0 (w22 hw) (w23 hw) (w24 hw) (w25 hw) (by decide) (argsL := [(.ref bs), (.int (8 : Int32)), (.int fr), (.long bits), (.int ch)]) (rest := [(.int (8 : Int32)), (.ref a617)]) (lenOf pd24 rfl) rfl rfl rfl (W := 2) (Nat.le_of_ble_eq_true rfl) (by decide) (by decide) (by decide) (by decide) (pc' := 206) rfl ?_
  rintro _ _ _ ⟨x8, rfl, hx8, rfl, rfl⟩ hz8
  show Go _ _ _ _ _ _ _ _ _ _ _ _ _ _ _ _ _ _ _ _ _ _ _ _ [(.int x8), (.int (8 : Int32)), (.ref a617)] _
  refine go_castore 8 at_206 A651 ⟨by decide, by decide⟩ rfl (Nat.le_of_ble_eq_true rfl) (x' := x8) (nar_byt hx8) (List.mem_of_getElem? (i := 0) rfl) (pc' := 207) rfl ?_
  intro h653 W654 A655
  exact lw_207 hw md bits ch ps ln wsel op co fm va kv su re en wsu bsu wre bre wen ben em [x0, x1, x2, x3, x4, x5, x6, x7, x8] a617 k618 bs ds.length fr h653 hd0 hd8 rfl (Byt.cons hx0 (Byt.cons hx1 (Byt.cons hx2 (Byt.cons hx3 (Byt.cons hx4 (Byt.cons hx5 (Byt.cons hx6 (Byt.cons hx7 (Byt.cons hx8 Byt.nil))))))))) A655 Sc hco Sf hfm Ssu Sre Sen Sv Xv Av Fsu Lsu Fre Lre Fen Len Se Xe Fe
set_option maxRecDepth 65536 in
set_option maxHeartbeats 40000000 in
theorem lw_47 {l : Launch} {Z : State} {a0 : Array Value} (hw : ∀ d ∈ tables_1, d.before a0 Z = true) {p : Program} {e : Env} {s : State} {m : MethodId} {args : Array Value} {below : List Frame} {meth : Method} {c : Code} (md : Int32) (bits : Int64) (ch ps ln wsel op co : Int32) (fm : Value) (va : Addr) (kv : ClassId) (su re en wsu bsu wre bre wen ben em : Addr) (bs bb : Addr) (ds : List Int32) (h0 : Heap) (hD : Byt ds) (hd0 : 0 < ds.length) (hd8 : ds.length ≤ 8) (L : LatB Z h0 bs bb ds) (Sc : Sta Z Z.heap "java/lang/String" "COMPACT_STRINGS" "Z" (.int co)) (hco : ¬ co = 0) (Sf : Sta Z Z.heap "jdk/internal/util/Preconditions" "SIOOBE_FORMATTER" "Ljava/util/function/BiFunction;" fm) (hfm : fm.isRef = true) (Ssu : Sta Z Z.heap "com/example/sundew/sundew/Holder$Kind" "SUBJECT" "Lcom/example/sundew/sundew/Holder$Kind;" (.ref su)) (Sre : Sta Z Z.heap "com/example/sundew/sundew/Holder$Kind" "RESOURCE" "Lcom/example/sundew/sundew/Holder$Kind;" (.ref re)) (Sen : Sta Z Z.heap "com/example/sundew/sundew/Holder$Kind" "ENV" "Lcom/example/sundew/sundew/Holder$Kind;" (.ref en)) (Sv : Sta Z Z.heap "com/example/sundew/sundew/Holder$Kind" "$VALUES" "[Lcom/example/sundew/sundew/Holder$Kind;" (.ref va)) (Xv : Exa Z Z.heap va "[Lcom/example/sundew/sundew/Holder$Kind;") (Av : Arv Z Z.heap va kv (.object "com/example/sundew/sundew/Holder$Kind") 3 [.ref su, .ref re, .ref en] .null) (Fsu : Fld Z Z.heap su "com/example/sundew/sundew/Holder$Kind" "variable" "Ljava/lang/String;" (.ref wsu)) (Lsu : LatB Z Z.heap wsu bsu [(115 : Int32), (117 : Int32), (98 : Int32), (106 : Int32), (101 : Int32), (99 : Int32), (116 : Int32)]) (Fre : Fld Z Z.heap re "com/example/sundew/sundew/Holder$Kind" "variable" "Ljava/lang/String;" (.ref wre)) (Lre : LatB Z Z.heap wre bre [(114 : Int32), (101 : Int32), (115 : Int32), (111 : Int32), (117 : Int32), (114 : Int32), (99 : Int32), (101 : Int32)]) (Fen : Fld Z Z.heap en "com/example/sundew/sundew/Holder$Kind" "variable" "Ljava/lang/String;" (.ref wen)) (Len : LatB Z Z.heap wen ben [(101 : Int32), (110 : Int32), (118 : Int32)]) (Se : Sta Z Z.heap "java/util/Optional" "EMPTY" "Ljava/util/Optional;" (.ref em)) (Xe : Exa Z Z.heap em "java/util/Optional") (Fe : Fld Z Z.heap em "java/util/Optional" "value" "Ljava/lang/Object;" .null) :
    Go p l e room_1 s m args below meth c Z a0 EL "com/example/sundew/sundew/KindOfVariablePinLaw" code 15 ret "law" [] h0 2 36 47 #[.val (.int md), .val (.long bits), .second, .val (.int ch), .val (.int ps), .val (.int ln), .val (.int wsel), .val (.int op), .unset, .unset, .unset, .unset, .unset, .unset, .unset] [(.ref bs)] (fun v h ws => v = some (.int 1)) := by
  refine g_astore at_47 (pc' := 49) (Ls' := #[.val (.int md), .val (.long bits), .second, .val (.int ch), .val (.int ps), .val (.int ln), .val (.int wsel), .val (.int op), .unset, .val (.ref bs), .unset, .unset, .unset, .unset, .unset]) rfl rfl rfl ?_
  refine g_aload at_49 (pc' := 51) rfl rfl rfl ?_
  refine go_virtual at_51 (rm_length hw bs _ ds co h0 L Sc hco) (fun _ q => q) L.1 (w8 hw) (w9 hw) (w11 hw) (nf_sel (w11 hw)) (w10 hw) (w1 hw) (w12 hw) (by decide) (argsL := []) (rest := []) (lenOf pd16 rfl) rfl rfl rfl (W := 0) (Nat.le_of_ble_eq_true rfl) (by decide) (by decide) (by decide) (by decide) (pc' := 54) rfl ?_
  rintro _ _ _ ⟨rfl, rfl, rfl⟩ z656
  show Go _ _ _ _ _ _ _ _ _ _ _ _ _ _ _ _ _ _ _ _ _ _ _ _ [(.int (Int32.ofNat (ds).length))] _
  refine g_istore at_54 (pc' := 56) (Ls' := #[.val (.int md), .val (.long bits), .second, .val (.int ch), .val (.int ps), .val (.int ln), .val (.int wsel), .val (.int op), .unset, .val (.ref bs), .val (.int (Int32.ofNat (ds).length)), .unset, .unset, .unset, .unset]) rfl rfl ?_
  refine g_iload at_56 (pc' := 58) rfl rfl ?_
  refine g_iconst at_58 (pc' := 59) rfl (z := 3) rfl ?_
  by_cases h59 : op = (3 : Int32)
  · -- h59 holds
    refine g_icmpNo at_59 (pc' := 62) rfl (teq h59).2 ?_
    refine g_iconst at_62 (pc' := 63) rfl (z := 1) rfl ?_
    refine g_goto at_63 (pc' := 67) (by decide) (by decide) ?_
    exact lw_67 hw md bits ch ps ln wsel op co fm va kv su re en wsu bsu wre bre wen ben em bs bb ds (1 : Int32) h0 hD hd0 hd8 L Sc hco Sf hfm Ssu Sre Sen Sv Xv Av Fsu Lsu Fre Lre Fen Len Se Xe Fe
  · -- h59 does not hold
    refine g_icmpYes at_59 (pc' := 66) (feq h59).2 (by decide) (by decide) ?_
    refine g_iconst at_66 (pc' := 67) rfl (z := 0) rfl ?_
    exact lw_67 hw md bits ch ps ln wsel op co fm va kv su re en wsu bsu wre bre wen ben em bs bb ds (0 : Int32) h0 hD hd0 hd8 L Sc hco Sf hfm Ssu Sre Sen Sv Xv Av Fsu Lsu Fre Lre Fen Len Se Xe Fe
set_option maxRecDepth 65536 in
set_option maxHeartbeats 40000000 in
theorem law_con {l : Launch} {Z : State} {a0 : Array Value} (hw : ∀ d ∈ tables_1, d.before a0 Z = true) (md : Int32) (bits : Int64) (ch ps ln co : Int32) (fm : Value) (va : Addr) (kv : ClassId) (su re en wsu bsu wre bre wen ben em : Addr) (h0 : Heap) (Sc : Sta Z Z.heap "java/lang/String" "COMPACT_STRINGS" "Z" (.int co)) (hco : ¬ co = 0) (Sf : Sta Z Z.heap "jdk/internal/util/Preconditions" "SIOOBE_FORMATTER" "Ljava/util/function/BiFunction;" fm) (hfm : fm.isRef = true) (Ssu : Sta Z Z.heap "com/example/sundew/sundew/Holder$Kind" "SUBJECT" "Lcom/example/sundew/sundew/Holder$Kind;" (.ref su)) (Sre : Sta Z Z.heap "com/example/sundew/sundew/Holder$Kind" "RESOURCE" "Lcom/example/sundew/sundew/Holder$Kind;" (.ref re)) (Sen : Sta Z Z.heap "com/example/sundew/sundew/Holder$Kind" "ENV" "Lcom/example/sundew/sundew/Holder$Kind;" (.ref en)) (Sv : Sta Z Z.heap "com/example/sundew/sundew/Holder$Kind" "$VALUES" "[Lcom/example/sundew/sundew/Holder$Kind;" (.ref va)) (Xv : Exa Z Z.heap va "[Lcom/example/sundew/sundew/Holder$Kind;") (Av : Arv Z Z.heap va kv (.object "com/example/sundew/sundew/Holder$Kind") 3 [.ref su, .ref re, .ref en] .null) (Fsu : Fld Z Z.heap su "com/example/sundew/sundew/Holder$Kind" "variable" "Ljava/lang/String;" (.ref wsu)) (Lsu : LatB Z Z.heap wsu bsu [(115 : Int32), (117 : Int32), (98 : Int32), (106 : Int32), (101 : Int32), (99 : Int32), (116 : Int32)]) (Fre : Fld Z Z.heap re "com/example/sundew/sundew/Holder$Kind" "variable" "Ljava/lang/String;" (.ref wre)) (Lre : LatB Z Z.heap wre bre [(114 : Int32), (101 : Int32), (115 : Int32), (111 : Int32), (117 : Int32), (114 : Int32), (99 : Int32), (101 : Int32)]) (Fen : Fld Z Z.heap en "com/example/sundew/sundew/Holder$Kind" "variable" "Ljava/lang/String;" (.ref wen)) (Len : LatB Z Z.heap wen ben [(101 : Int32), (110 : Int32), (118 : Int32)]) (Se : Sta Z Z.heap "java/util/Optional" "EMPTY" "Ljava/util/Optional;" (.ref em)) (Xe : Exa Z Z.heap em "java/util/Optional") (Fe : Fld Z Z.heap em "java/util/Optional" "value" "Ljava/lang/Object;" .null) :
    Con l Z EL ⟨"com/example/sundew/sundew/KindOfVariablePinLaw", "law", "(IJIII)Z"⟩ code 15 ret tables_1 room_1 #[(.int md), (.long bits), (.int ch), (.int ps), (.int ln)] h0 [] (fun v h ws => v = some (.int 1)) := by
  refine con_of (a0 := a0) (Ls := #[.val (.int md), .val (.long bits), .second, .val (.int ch), .val (.int ps), .val (.int ln), .unset, .unset, .unset, .unset, .unset, .unset, .unset, .unset, .unset]) (plainFor_of_name pn5) (eW hw) (fun m => by first | (simp [entryFrame, mkF, argsToLocals, Value.category, maxLocals]; done) | rfl) ?_
  intro p e s m below meth c
  refine g_iloadN at_0 (pc' := 1) rfl rfl ?_
  refine g_iconst at_1 (pc' := 2) rfl (z := 3) rfl ?_
  refine g_iand at_2 (pc' := 3) rfl ?_
  refine g_istore at_3 (pc' := 5) (Ls' := #[.val (.int md), .val (.long bits), .second, .val (.int ch), .val (.int ps), .val (.int ln), .val (.int (md &&& (3 : Int32))), .unset, .unset, .unset, .unset, .unset, .unset, .unset, .unset]) rfl rfl ?_
  refine g_iloadN at_5 (pc' := 6) rfl rfl ?_
  refine g_iconst at_6 (pc' := 7) rfl (z := 2) rfl ?_
  refine g_iushr at_7 (pc' := 8) rfl ?_
  refine g_iconst at_8 (pc' := 9) rfl (z := 3) rfl ?_
  refine g_iand at_9 (pc' := 10) rfl ?_
  refine g_istore at_10 (pc' := 12) (Ls' := #[.val (.int md), .val (.long bits), .second, .val (.int ch), .val (.int ps), .val (.int ln), .val (.int (md &&& (3 : Int32))), .val (.int ((((md).toUInt32 >>> (((2 : Int32) &&& 31)).toUInt32).toInt32) &&& (3 : Int32))), .unset, .unset, .unset, .unset, .unset, .unset, .unset]) rfl rfl ?_
  refine g_iload at_12 (pc' := 14) rfl rfl ?_
  refine g_iconst at_14 (pc' := 15) rfl (z := 3) rfl ?_
  by_cases h15 : (md &&& (3 : Int32)) = (3 : Int32)
  · -- h15 holds
    refine g_icmpNo at_15 (pc' := 18) rfl (teq h15).2 ?_
    refine g_aconstNull at_18 (pc' := 19) rfl ?_
    refine g_astore at_19 (pc' := 21) (Ls' := #[.val (.int md), .val (.long bits), .second, .val (.int ch), .val (.int ps), .val (.int ln), .val (.int (md &&& (3 : Int32))), .val (.int ((((md).toUInt32 >>> (((2 : Int32) &&& 31)).toUInt32).toInt32) &&& (3 : Int32))), .val .null, .unset, .unset, .unset, .unset, .unset, .unset]) rfl rfl rfl ?_
    refine g_goto at_21 (pc' := 272) (by decide) (by decide) ?_
    refine g_aload at_272 (pc' := 274) rfl rfl rfl ?_
    refine go_static at_274 (rm_expN hw h0) (fun _ q => q) (w76 hw) (w77 hw) (w24 hw) (w78 hw) (by decide) (argsL := [.null]) (rest := []) (lenOf pd21 rfl) rfl rfl rfl (W := 0) (Nat.le_of_ble_eq_true rfl) (by decide) (by decide) (by decide) (by decide) (pc' := 277) rfl ?_
    rintro _ _ _ ⟨rfl, rfl, rfl⟩ hzx
    show Go _ _ _ _ _ _ _ _ _ _ _ _ _ _ _ _ _ _ _ _ _ _ _ _ [(.int (-1 : Int32))] _
    refine g_istore at_277 (pc' := 279) (Ls' := #[.val (.int md), .val (.long bits), .second, .val (.int ch), .val (.int ps), .val (.int ln), .val (.int (md &&& (3 : Int32))), .val (.int ((((md).toUInt32 >>> (((2 : Int32) &&& 31)).toUInt32).toInt32) &&& (3 : Int32))), .val .null, .val (.int (-1 : Int32)), .unset, .unset, .unset, .unset, .unset]) rfl rfl ?_
    refine g_aload at_279 (pc' := 281) rfl rfl rfl ?_
    refine go_static at_281 (rm_ofvN hw co va kv su re en wsu bsu wre bre wen ben em h0 Sc hco Sv Xv Av Fsu Lsu Fre Lre Fen Len Se Xe Fe) (fun _ q => q) (w88 hw) (w89 hw) (w90 hw) (w91 hw) (by decide) (argsL := [.null]) (rest := []) (lenOf pd22 rfl) rfl rfl rfl (W := 0) (Nat.le_of_ble_eq_true rfl) (by decide) (by decide) (by decide) (by decide) (pc' := 284) rfl ?_
    rintro _ h657 _ ⟨o, rfl, rfl, Xo, Fo⟩ hzo
    show Go _ _ _ _ _ _ _ _ _ _ _ _ _ _ _ _ _ _ _ _ _ _ _ _ [(.ref o)] _
    refine g_astore at_284 (pc' := 286) (Ls' := #[.val (.int md), .val (.long bits), .second, .val (.int ch), .val (.int ps), .val (.int ln), .val (.int (md &&& (3 : Int32))), .val (.int ((((md).toUInt32 >>> (((2 : Int32) &&& 31)).toUInt32).toInt32) &&& (3 : Int32))), .val .null, .val (.int (-1 : Int32)), .val (.ref o), .unset, .unset, .unset, .unset]) rfl rfl rfl ?_
    refine g_iload at_286 (pc' := 288) rfl rfl ?_
    refine g_ifNo at_288 (pc' := 291) rfl (tlt (by decide : (-1 : Int32) < (0 : Int32))).2.1 ?_
    refine g_aload at_291 (pc' := 293) rfl rfl rfl ?_
    refine go_virtual at_293 (rm_isP0 hw o h657 Fo) (fun _ q => q) Xo (w135 hw) (w136 hw) (w138 hw) (nf_sel (w138 hw)) (w137 hw) (w94 hw) (w139 hw) (by decide) (argsL := []) (rest := []) (lenOf pd7 rfl) rfl rfl rfl (W := 0) (Nat.le_of_ble_eq_true rfl) (by decide) (by decide) (by decide) (by decide) (pc' := 296) rfl ?_
    rintro _ _ _ ⟨rfl, rfl, rfl⟩ z658
    show Go _ _ _ _ _ _ _ _ _ _ _ _ _ _ _ _ _ _ _ _ _ _ _ _ [(.int (0 : Int32))] _
    refine g_ifNo at_296 (pc' := 299) rfl (teq (by decide : (0 : Int32) = (0 : Int32))).2 ?_
    refine g_iconst at_299 (pc' := 300) rfl (z := 1) rfl ?_
    refine g_goto at_300 (pc' := 304) (by decide) (by decide) ?_
    exact go_ireturn at_304 rfl (Or.inr (Or.inl rfl)) rfl (ws' := []) (fun _ q => q) rfl
  · -- h15 does not hold
    refine g_icmpYes at_15 (pc' := 24) (feq h15).2 (by decide) (by decide) ?_
    refine g_iload at_24 (pc' := 26) rfl rfl ?_
    by_cases h26 : (md &&& (3 : Int32)) = (0 : Int32)
    · -- h26 holds
      refine g_ifNo at_26 (pc' := 29) rfl (teq h26).2 ?_
      refine go_ldcR at_29 (w0 hw) (sA hw) (vs := [(.int (115 : Int32)), (.int (117 : Int32)), (.int (98 : Int32)), (.int (106 : Int32)), (.int (101 : Int32)), (.int (99 : Int32)), (.int (116 : Int32))]) (z := 7) (by decide) ⟨by decide, by decide⟩ (by decide) (by decide) (n := 28) (by decide) (by decide) (by decide) (by decide) (pc' := 31) rfl ?_
      intro h659 a660 b662 k663 E661 X664 F665 G666 A667 N668
      have L669 : LatB Z h659 a660 b662 [(115 : Int32), (117 : Int32), (98 : Int32), (106 : Int32), (101 : Int32), (99 : Int32), (116 : Int32)] := LatB.mk X664 F665 G666 A667 rfl rfl
      refine g_goto at_31 (pc' := 47) (by decide) (by decide) ?_
      refine go_less (ws' := []) (cells' := 2) (slots' := 36) (fun _ q => q) (by decide) (by decide) (by decide) (by decide) ?_
      exact lw_47 hw md bits ch ps ln (md &&& (3 : Int32)) ((((md).toUInt32 >>> (((2 : Int32) &&& 31)).toUInt32).toInt32) &&& (3 : Int32)) co fm va kv su re en wsu bsu wre bre wen ben em a660 _ [(115 : Int32), (117 : Int32), (98 : Int32), (106 : Int32), (101 : Int32), (99 : Int32), (116 : Int32)] h659 (Byt.cons ⟨by decide, by decide⟩ (Byt.cons ⟨by decide, by decide⟩ (Byt.cons ⟨by decide, by decide⟩ (Byt.cons ⟨by decide, by decide⟩ (Byt.cons ⟨by decide, by decide⟩ (Byt.cons ⟨by decide, by decide⟩ (Byt.cons ⟨by decide, by decide⟩ Byt.nil))))))) (by decide) (by decide) L669 Sc hco Sf hfm Ssu Sre Sen Sv Xv Av Fsu Lsu Fre Lre Fen Len Se Xe Fe
    · -- h26 does not hold
      refine g_ifYes at_26 (pc' := 34) (feq h26).2 (by decide) (by decide) ?_
      refine g_iload at_34 (pc' := 36) rfl rfl ?_
      refine g_iconst at_36 (pc' := 37) rfl (z := 1) rfl ?_
      by_cases h37 : (md &&& (3 : Int32)) = (1 : Int32)
      · -- h37 holds
        refine g_icmpNo at_37 (pc' := 40) rfl (teq h37).2 ?_
        refine go_ldcR at_40 (w146 hw) (sA hw) (vs := [(.int (114 : Int32)), (.int (101 : Int32)), (.int (115 : Int32)), (.int (111 : Int32)), (.int (117 : Int32)), (.int (114 : Int32)), (.int (99 : Int32)), (.int (101 : Int32))]) (z := 8) (by decide) ⟨by decide, by decide⟩ (by decide) (by decide) (n := 32) (by decide) (by decide) (by decide) (by decide) (pc' := 42) rfl ?_
        intro h670 a671 b673 k674 E672 X675 F676 G677 A678 N679
        have L680 : LatB Z h670 a671 b673 [(114 : Int32), (101 : Int32), (115 : Int32), (111 : Int32), (117 : Int32), (114 : Int32), (99 : Int32), (101 : Int32)] := LatB.mk X675 F676 G677 A678 rfl rfl
        refine g_goto at_42 (pc' := 47) (by decide) (by decide) ?_
        exact lw_47 hw md bits ch ps ln (md &&& (3 : Int32)) ((((md).toUInt32 >>> (((2 : Int32) &&& 31)).toUInt32).toInt32) &&& (3 : Int32)) co fm va kv su re en wsu bsu wre bre wen ben em a671 _ [(114 : Int32), (101 : Int32), (115 : Int32), (111 : Int32), (117 : Int32), (114 : Int32), (99 : Int32), (101 : Int32)] h670 (Byt.cons ⟨by decide, by decide⟩ (Byt.cons ⟨by decide, by decide⟩ (Byt.cons ⟨by decide, by decide⟩ (Byt.cons ⟨by decide, by decide⟩ (Byt.cons ⟨by decide, by decide⟩ (Byt.cons ⟨by decide, by decide⟩ (Byt.cons ⟨by decide, by decide⟩ (Byt.cons ⟨by decide, by decide⟩ Byt.nil)))))))) (by decide) (by decide) L680 Sc hco Sf hfm Ssu Sre Sen Sv Xv Av Fsu Lsu Fre Lre Fen Len Se Xe Fe
      · -- h37 does not hold
        refine g_icmpYes at_37 (pc' := 45) (feq h37).2 (by decide) (by decide) ?_
        refine go_ldcR at_45 (w147 hw) (sA hw) (vs := [(.int (101 : Int32)), (.int (110 : Int32)), (.int (118 : Int32))]) (z := 3) (by decide) ⟨by decide, by decide⟩ (by decide) (by decide) (n := 12) (by decide) (by decide) (by decide) (by decide) (pc' := 47) rfl ?_
        intro h681 a682 b684 k685 E683 X686 F687 G688 A689 N690
        have L691 : LatB Z h681 a682 b684 [(101 : Int32), (110 : Int32), (118 : Int32)] := LatB.mk X686 F687 G688 A689 rfl rfl
        refine go_less (ws' := []) (cells' := 2) (slots' := 36) (fun _ q => q) (by decide) (by decide) (by decide) (by decide) ?_
        exact lw_47 hw md bits ch ps ln (md &&& (3 : Int32)) ((((md).toUInt32 >>> (((2 : Int32) &&& 31)).toUInt32).toInt32) &&& (3 : Int32)) co fm va kv su re en wsu bsu wre bre wen ben em a682 _ [(101 : Int32), (110 : Int32), (118 : Int32)] h681 (Byt.cons ⟨by decide, by decide⟩ (Byt.cons ⟨by decide, by decide⟩ (Byt.cons ⟨by decide, by decide⟩ Byt.nil))) (by decide) (by decide) L691 Sc hco Sf hfm Ssu Sre Sen Sv Xv Av Fsu Lsu Fre Lre Fen Len Se Xe Fe
set_option maxRecDepth 65536 in
set_option maxHeartbeats 40000000 in
theorem comes_1 {Post : Tables → Env → Array Value → State → Outcome → State → Prop} (hpost : ∀ tb e args s v u, (limb_1_1.after args s (.returned v) u = true ∧ limb_1_2.after args s (.returned v) u = true ∧ True) → FramedW s (.returned v) u (Jvm.fieldLocs frame_1_writes args s ++ Jvm.arrayLocs frame_1_arrays args s ++ Jvm.staticLocs frame_1_statics s) 32 4288 → Post tb e args s (.returned v) u) :
    ArmFor flags0 classFile x code maxLocals ret World_1 tables_1 room_1 Calls_1 rest_1 Pre_1 Post := by
  intro l hfl _ _ p e ha hc hk s m args below hf hA hF happ hP
  obtain ⟨hcalls, hrest, hpre⟩ := hP
  obtain ⟨-, -, -, hnamed, -, -, -, hat⟩ := (Spec.applies_iff hf).mp happ
  obtain ⟨hg, hn⟩ := and_e (Cond.before_iff.mp (show (Jvm.Cond.and given_1 narrow_1).before args s = true from hpre))
  obtain ⟨hcnt, hg0⟩ := and_e hg
  obtain ⟨ga0, hg1⟩ := and_e hg0
  obtain ⟨ga1, hg2⟩ := and_e hg1
  obtain ⟨ga2, hg3⟩ := and_e hg2
  obtain ⟨ga3, hg4⟩ := and_e hg3
  have ga4 := hg4
  obtain ⟨w0, w1, w2, w3, w4, rfl⟩ : ∃ w0 w1 w2 w3 w4 : Value, args = #[w0, w1, w2, w3, w4] := by
    have hs : args.size = 5 := by simpa [Cond.value, given_1] using hcnt
    obtain ⟨L⟩ := args
    match L, hs with
    | [w0, w1, w2, w3, w4], _ => exact ⟨w0, w1, w2, w3, w4, rfl⟩
  have hw := fun d (hd : d ∈ tables_1) => atoms_spec (ws := Jvm.Cond.code x code maxLocals ret :: tables_1) hat d (List.mem_cons_of_mem _ hd)
  obtain ⟨hsets, hown0⟩ := atoms_of _ (rest_1_c_eq ▸ (show rest_1_c.before _ s = true from hrest))
  obtain ⟨i0, e0⟩ := is_v ga0
  obtain rfl : w0 = (.int i0) := Option.some.inj e0
  obtain ⟨i1, e1⟩ := isL_v ga1
  obtain rfl : w1 = (.long i1) := Option.some.inj e1
  obtain ⟨i2, e2⟩ := is_v ga2
  obtain rfl : w2 = (.int i2) := Option.some.inj e2
  obtain ⟨i3, e3⟩ := is_v ga3
  obtain rfl : w3 = (.int i3) := Option.some.inj e3
  obtain ⟨i4, e4⟩ := is_v ga4
  obtain rfl : w4 = (.int i4) := Option.some.inj e4
  obtain ⟨co, eco⟩ := is_v (Cond.before_iff.mp (hsets _ (List.mem_of_getElem? (i := 1) rfl)))
  have Sc : Sta s s.heap "java/lang/String" "COMPACT_STRINGS" "Z" (.int co) := Sta.start eco (Or.inl (hsets _ (List.mem_of_getElem? (i := 0) rfl)))
  have hco : ¬ (co = (0 : Int32)) := gotF (Cond.eq_ints eco (Term.int_eval (0))) (not_v (Cond.before_iff.mp (hsets _ (List.mem_of_getElem? (i := 2) rfl))))
  obtain ⟨fm, efm, hfm⟩ := isR_v (Cond.before_iff.mp (hsets _ (List.mem_of_getElem? (i := 8) rfl)))
  have Sf : Sta s s.heap "jdk/internal/util/Preconditions" "SIOOBE_FORMATTER" "Ljava/util/function/BiFunction;" fm := Sta.start efm (Or.inl (hsets _ (List.mem_of_getElem? (i := 7) rfl)))
  obtain ⟨n0, nr0⟩ := and_e hn
  obtain ⟨n1, nr1⟩ := and_e nr0
  obtain ⟨n2, nr2⟩ := and_e nr1
  obtain ⟨n3, nr3⟩ := and_e nr2
  obtain ⟨n4, nr4⟩ := and_e nr3
  obtain ⟨n5, nr5⟩ := and_e nr4
  obtain ⟨n6, nr6⟩ := and_e nr5
  obtain ⟨n7, nr7⟩ := and_e nr6
  obtain ⟨n8, nr8⟩ := and_e nr7
  obtain ⟨n9, nr9⟩ := and_e nr8
  obtain ⟨n10, nr10⟩ := and_e nr9
  obtain ⟨n11, nr11⟩ := and_e nr10
  obtain ⟨n12, nr12⟩ := and_e nr11
  obtain ⟨n13, nr13⟩ := and_e nr12
  obtain ⟨n14, nr14⟩ := and_e nr13
  obtain ⟨n15, nr15⟩ := and_e nr14
  obtain ⟨n16, nr16⟩ := and_e nr15
  obtain ⟨n17, nr17⟩ := and_e nr16
  obtain ⟨n18, nr18⟩ := and_e nr17
  obtain ⟨n19, nr19⟩ := and_e nr18
  obtain ⟨n20, nr20⟩ := and_e nr19
  obtain ⟨n21, nr21⟩ := and_e nr20
  obtain ⟨n22, nr22⟩ := and_e nr21
  obtain ⟨n23, nr23⟩ := and_e nr22
  obtain ⟨n24, nr24⟩ := and_e nr23
  obtain ⟨n25, nr25⟩ := and_e nr24
  obtain ⟨n26, nr26⟩ := and_e nr25
  obtain ⟨n27, nr27⟩ := and_e nr26
  obtain ⟨n28, nr28⟩ := and_e nr27
  obtain ⟨n29, nr29⟩ := and_e nr28
  obtain ⟨n30, nr30⟩ := and_e nr29
  obtain ⟨n31, nr31⟩ := and_e nr30
  obtain ⟨n32, nr32⟩ := and_e nr31
  obtain ⟨n33, nr33⟩ := and_e nr32
  obtain ⟨n34, nr34⟩ := and_e nr33
  obtain ⟨n35, nr35⟩ := and_e nr34
  obtain ⟨n36, nr36⟩ := and_e nr35
  obtain ⟨n37, nr37⟩ := and_e nr36
  have n38 := nr37
  obtain ⟨ob1, oe1⟩ := exa_v n1
  have oS1 := Sta.start oe1 (Or.inr ⟨(w90 hw), (w101 hw)⟩)
  have oX1 := Exa.start oe1 n1
  obtain ⟨ob3, oe3⟩ := exa_v n3
  have oS3 := Sta.start oe3 (Or.inr ⟨(w90 hw), (w109 hw)⟩)
  have oX3 := Exa.start oe3 n3
  obtain ⟨ob5, oe5⟩ := exa_v n5
  have oS5 := Sta.start oe5 (Or.inr ⟨(w90 hw), (w110 hw)⟩)
  have oX5 := Exa.start oe5 n5
  obtain ⟨ob7, oe7⟩ := exa_v n7
  have oS7 := Sta.start oe7 (Or.inr ⟨(w90 hw), (w111 hw)⟩)
  have oX7 := Exa.start oe7 n7
  obtain ⟨kv, Av⟩ := arv_start (dv := .null) (vs := [.ref ob3, .ref ob5, .ref ob7]) oe1 n0 n2 (by decide) rfl (Nat.le_of_ble_eq_true rfl) ⟨eq_ref oe3 n4, eq_ref oe5 n6, eq_ref oe7 n8, trivial⟩ (by intro v hv; simp only [List.mem_cons, List.not_mem_nil, or_false] at hv; rcases hv with rfl | rfl | rfl <;> rfl)
  obtain ⟨wsu, wesu⟩ := exa_v n9
  have Fsu := Fld.start ((fld_at oe3).symm.trans wesu)
  obtain ⟨bsu, Lsu⟩ := lat_start (cs := [(115 : Int32), (117 : Int32), (98 : Int32), (106 : Int32), (101 : Int32), (99 : Int32), (116 : Int32)]) (vs := [.int 115, .int 117, .int 98, .int 106, .int 101, .int 99, .int 116]) wesu n9 n10 n11 n12 (by decide) ⟨el_int n24, el_int n25, el_int n26, el_int n27, el_int n28, el_int n29, el_int n30, trivial⟩ (by decide) (by decide)
  obtain ⟨wre, were⟩ := exa_v n13
  have Fre := Fld.start ((fld_at oe5).symm.trans were)
  obtain ⟨bre, Lre⟩ := lat_start (cs := [(114 : Int32), (101 : Int32), (115 : Int32), (111 : Int32), (117 : Int32), (114 : Int32), (99 : Int32), (101 : Int32)]) (vs := [.int 114, .int 101, .int 115, .int 111, .int 117, .int 114, .int 99, .int 101]) were n13 n14 n15 n16 (by decide) ⟨el_int n31, el_int n32, el_int n33, el_int n34, el_int n35, el_int n36, el_int n37, el_int n38, trivial⟩ (by decide) (by decide)
  obtain ⟨wen, ween⟩ := exa_v n17
  have Fen := Fld.start ((fld_at oe7).symm.trans ween)
  obtain ⟨ben, Len⟩ := lat_start (cs := [(101 : Int32), (110 : Int32), (118 : Int32)]) (vs := [.int 101, .int 110, .int 118]) ween n17 n18 n19 n20 (by decide) ⟨el_int n21, el_int n22, el_int n23, trivial⟩ (by decide) (by decide)
  have nX := Cond.before_iff.mp (hsets _ (List.mem_of_getElem? (i := 11) rfl))
  obtain ⟨em, eem⟩ := exa_v nX
  have Xe := Exa.start eem nX
  have Se := Sta.start eem (Or.inl (hsets _ (List.mem_of_getElem? (i := 10) rfl)))
  have Fe := Fld.start ((fld_at eem).symm.trans (null_v (Cond.before_iff.mp (hsets _ (List.mem_of_getElem? (i := 12) rfl)))))
  obtain ⟨n, o, g1, g2, g3, v, L, ws', rfl, rfl, N, -, -, W⟩ := (law_con hw i0 i1 i2 i3 i4 co fm ob1 kv ob3 ob5 ob7 wsu bsu wre bre wen ben em s.heap Sc hco Sf hfm oS3 oS5 oS7 oS1 oX1 Av Fsu Lsu Fre Lre Fen Len Se Xe Fe) p e ha hc hk s m _ below hf ((Spec.applies_iff_loose hf).mp happ).1 ⟨rfl, State.Warmed39.refl s, rfl, ⟨CHv.start (eW hw) (fun p hp => hcalls.1 p hp) (hsets _ (List.mem_of_getElem? (i := 2) rfl)) (hw _ (List.mem_of_getElem? (i := 3) rfl)) (hw _ (List.mem_of_getElem? (i := 2) rfl)), ⟨Nat.le_refl _, fun _ _ q => q⟩, all0⟩⟩ trivial
  refine ⟨n, _, g1, g2, g3, hpost _ _ _ _ _ _ ⟨Cond.after_iff.mpr rfl, Cond.after_iff.mpr (eq_i res_at (Term.int_eval (1)) rfl), trivial⟩ ⟨W.1, W.2.1, W.2.2.1, (W.2.2.2.sift fun y hy => Or.inr (N y hy)).mono (by decide) (by decide)⟩⟩
theorem main_1_1 : Claimed_1_1 := comes_1 fun _ _ _ _ _ _ h hF => ⟨h.1, hF⟩
theorem main_1_2 : Claimed_1_2 := comes_1 fun _ _ _ _ _ _ h hF => ⟨h.2.1, hF⟩
end Jvm.Pilot.@@N@@
namespace Jvm.Pilot.@@N@@
open Jvm Jvm.ClassFile Sem Op Lib Jvm.Free Jvm.Stand Jvm.Pilot.@@N@@.Jvm.D
/-! MADE BY PROGRAM (witnessworld.py) out of the Statement's table words and the real class files: 24 classes; the members and pool entries that the words name. The judged class is class 1, her method 1. -/
namespace start1
open Jvm.ClassFile
def u (s : String) : CpInfo := .utf8 (stringToUtf16 s)
/-- a pool by its gaps: so many unusable entries, then the entry; so many at the end -/
def gap : Nat → List CpInfo → List CpInfo
  | 0, r => r
  | n + 1, r => .unusable :: gap n r
def poolList (es : List (Nat × CpInfo)) (last : Nat) : List CpInfo := es.foldr (fun e r => gap e.1 (e.2 :: r)) (gap last [])
def pool (es : List (Nat × CpInfo)) (last : Nat) : Array CpInfo := ⟨poolList es last⟩
def fileOf (pool : Array CpInfo) (this : Nat) (attrs : Array Attribute := #[]) (ms : Array MethodInfo := #[]) (fl : Nat := 33) (sup : Nat := 0) (ifs : Array Nat := #[]) (fds : Array FieldInfo := #[]) : ClassFile where
  minorVersion := 0
  majorVersion := 65
  constantPool := pool
  accessFlags := fl
  thisClass := this
  superClass := sup
  interfaces := ifs
  fields := fds
  methods := ms
  attributes := attrs
def plain (name : String) (sup : Option ClassId) : Class where
  name := name
  kind := .ordinary
  loader := none
  accessFlags := 33
  super := sup
  interfaces := #[]
  cf := none
  fields := #[]
  methods := #[]
  instanceTypes := #[]
  staticTypes := #[]
  resolved := #[]
  callSites := []
  init := .initialized
  statics := none
  mirror := none

def pool0 : Array CpInfo := pool [(5, u "<init>"), (0, u "()V"), (1, .class_ 10), (1, u "java/lang/Object"), (85, u "clone"), (0, u "()Ljava/lang/Object;")] 26

def k0c0 : Code := { maxStack := 0, maxLocals := 1, code := object_method_1_code, exceptionTable := #[], attributes := #[] }
def k0m0 : Method := { name := "<init>", desc := "()V", sig := { parameters := [], returnType := none }, accessFlags := 1, code := some k0c0 }
def k0m1 : Method := { name := "clone", desc := "()Ljava/lang/Object;", sig := { parameters := [], returnType := some (.object "java/lang/Object") }, accessFlags := 260, code := none }
/-- java/lang/Object -/
def k0 : Class := { plain "java/lang/Object" none with
  accessFlags := 33
  interfaces := #[]
  cf := some (fileOf pool0 8 #[] #[{ accessFlags := 1, nameIndex := 5, descriptorIndex := 6, attributes := #[] }, { accessFlags := 260, nameIndex := 96, descriptorIndex := 97, attributes := #[] }] 33 0 #[] #[])
  fields := #[]
  methods := #[k0m0, k0m1]
  instanceTypes := #[]
  staticTypes := #[]
  resolved := Array.replicate 124 none
  statics := none }

def pool1 : Array CpInfo := pool [(2, .class_ 4), (1, u "java/lang/Object"), (0, u "<init>"), (0, u "()V"), (0, .string 8), (0, u "subject"), (0, .string 10), (0, u "resource"), (0, .string 12), (0, u "env"), (0, .methodref 14 15), (0, .class_ 16), (0, .nameAndType 17 18), (0, u "java/lang/String"), (0, u "length"), (0, u "()I"), (0, .methodref 20 21), (0, .class_ 22), (0, .nameAndType 23 24), (0, u "com/example/sundew/sundew/KindOfVariablePinLaw"), (0, u "pick"), (0, u "(Ljava/lang/String;IZJI)C"), (0, .integer 2147483647), (0, .methodref 20 27), (0, .nameAndType 28 29), (0, u "str"), (0, u "([CI)Ljava/lang/String;"), (0, .methodref 20 31), (0, .nameAndType 32 33), (0, u "expected"), (0, u "(Ljava/lang/String;)I"), (0, .methodref 35 36), (0, .class_ 37), (0, .nameAndType 38 39), (0, u "com/example/sundew/sundew/Holder$Kind"), (0, u "ofVariable"), (0, u "(Ljava/lang/String;)Ljava/util/Optional;"), (0, .methodref 41 42), (0, .class_ 43), (0, .nameAndType 44 45), (0, u "java/util/Optional"), (0, u "isPresent"), (0, u "()Z"), (0, .fieldref 35 47), (0, .nameAndType 48 49), (0, u "SUBJECT"), (0, u "Lcom/example/sundew/sundew/Holder$Kind;"), (0, .fieldref 35 51), (0, .nameAndType 52 49), (0, u "RESOURCE"), (0, .fieldref 35 54), (0, .nameAndType 55 49), (0, u "ENV"), (0, .methodref 41 57), (0, .nameAndType 58 59), (0, u "get"), (0, u "()Ljava/lang/Object;"), (0, .methodref 14 61), (0, .nameAndType 62 63), (0, u "equals"), (0, u "(Ljava/lang/Object;)Z"), (0, .long 255), (1, .methodref 14 67), (0, .nameAndType 68 69), (0, u "charAt"), (0, u "(I)C"), (0, .methodref 20 71), (0, .nameAndType 72 73), (0, u "drawn"), (0, u "(IJI)C"), (0, .methodref 14 75), (0, .nameAndType 5 76), (0, u "([C)V"), (2, u "law"), (0, u "(IJIII)Z")] 9

def k1m0 : Method := { name := "<init>", desc := "()V", sig := { parameters := [], returnType := none }, accessFlags := 2, code := none }
def k1c1 : Code := { maxStack := 8, maxLocals := 15, code := code, exceptionTable := #[], attributes := #[] }
def k1m1 : Method := { name := "law", desc := "(IJIII)Z", sig := { parameters := [.int, .long, .int, .int, .int], returnType := some .boolean }, accessFlags := 9, code := some k1c1 }
def k1c2 : Code := { maxStack := 2, maxLocals := 1, code := method_3_code, exceptionTable := #[], attributes := #[] }
def k1m2 : Method := { name := "expected", desc := "(Ljava/lang/String;)I", sig := { parameters := [(.object "java/lang/String")], returnType := some .int }, accessFlags := 10, code := some k1c2 }
def k1c3 : Code := { maxStack := 4, maxLocals := 4, code := method_4_code, exceptionTable := #[], attributes := #[] }
def k1m3 : Method := { name := "drawn", desc := "(IJI)C", sig := { parameters := [.int, .long, .int], returnType := some .char }, accessFlags := 10, code := some k1c3 }
def k1c4 : Code := { maxStack := 4, maxLocals := 6, code := method_5_code, exceptionTable := #[], attributes := #[] }
def k1m4 : Method := { name := "pick", desc := "(Ljava/lang/String;IZJI)C", sig := { parameters := [(.object "java/lang/String"), .int, .boolean, .long, .int], returnType := some .char }, accessFlags := 10, code := some k1c4 }
def k1c5 : Code := { maxStack := 7, maxLocals := 2, code := method_6_code, exceptionTable := #[], attributes := #[] }
def k1m5 : Method := { name := "str", desc := "([CI)Ljava/lang/String;", sig := { parameters := [(.array .char), .int], returnType := some (.object "java/lang/String") }, accessFlags := 10, code := some k1c5 }
/-- com/example/sundew/sundew/KindOfVariablePinLaw -/
def k1 : Class := { plain "com/example/sundew/sundew/KindOfVariablePinLaw" (some 0) with
  accessFlags := 49
  interfaces := #[]
  cf := some (fileOf pool1 20 #[] #[{ accessFlags := 2, nameIndex := 5, descriptorIndex := 6, attributes := #[] }, { accessFlags := 9, nameIndex := 79, descriptorIndex := 80, attributes := #[] }, { accessFlags := 10, nameIndex := 32, descriptorIndex := 33, attributes := #[] }, { accessFlags := 10, nameIndex := 72, descriptorIndex := 73, attributes := #[] }, { accessFlags := 10, nameIndex := 23, descriptorIndex := 24, attributes := #[] }, { accessFlags := 10, nameIndex := 28, descriptorIndex := 29, attributes := #[] }] 49 2 #[] #[])
  fields := #[]
  methods := #[k1m0, k1m1, k1m2, k1m3, k1m4, k1m5]
  instanceTypes := #[]
  staticTypes := #[]
  resolved := Array.replicate 90 none
  statics := none }

def pool2 : Array CpInfo := pool [(1, .class_ 2), (0, u "java/io/Serializable"), (0, .class_ 4), (0, u "java/lang/Object")] 2

/-- java/io/Serializable -/
def k2 : Class := { plain "java/io/Serializable" (some 0) with
  accessFlags := 1537
  interfaces := #[]
  cf := some (fileOf pool2 1 #[] #[] 1537 3 #[] #[])
  fields := #[]
  methods := #[]
  instanceTypes := #[]
  staticTypes := #[]
  resolved := Array.replicate 7 none
  statics := none }

def pool3 : Array CpInfo := pool [(1, .class_ 2), (0, u "java/lang/Comparable"), (0, .class_ 4), (0, u "java/lang/Object")] 7

/-- java/lang/Comparable -/
def k3 : Class := { plain "java/lang/Comparable" (some 0) with
  accessFlags := 1537
  interfaces := #[]
  cf := some (fileOf pool3 1 #[] #[] 1537 3 #[] #[])
  fields := #[]
  methods := #[]
  instanceTypes := #[]
  staticTypes := #[]
  resolved := Array.replicate 12 none
  statics := none }

def pool4 : Array CpInfo := pool [(2, .class_ 4), (1, u "java/lang/CharSequence"), (42, .class_ 48), (0, u "java/lang/CharSequence$1CodePointIterator"), (10, .class_ 60), (0, u "java/lang/CharSequence$1CharIterator"), (5, .class_ 67), (0, u "java/lang/Object")] 63

/-- java/lang/CharSequence -/
def k4 : Class := { plain "java/lang/CharSequence" (some 0) with
  accessFlags := 1537
  interfaces := #[]
  cf := some (fileOf pool4 2 #[.nestMembers #[47, 59]] #[] 1537 66 #[] #[])
  fields := #[]
  methods := #[]
  instanceTypes := #[]
  staticTypes := #[]
  resolved := Array.replicate 131 none
  statics := none }

def pool5 : Array CpInfo := pool [(1, .class_ 2), (0, u "java/lang/constant/Constable"), (0, .class_ 4), (0, u "java/lang/Object")] 6

/-- java/lang/constant/Constable -/
def k5 : Class := { plain "java/lang/constant/Constable" (some 0) with
  accessFlags := 1537
  interfaces := #[]
  cf := some (fileOf pool5 1 #[] #[] 1537 3 #[] #[])
  fields := #[]
  methods := #[]
  instanceTypes := #[]
  staticTypes := #[]
  resolved := Array.replicate 11 none
  statics := none }

def pool6 : Array CpInfo := pool [(1, .class_ 2), (0, u "java/lang/constant/ConstantDesc"), (0, .class_ 4), (0, u "java/lang/Object")] 32

/-- java/lang/constant/ConstantDesc -/
def k6 : Class := { plain "java/lang/constant/ConstantDesc" (some 0) with
  accessFlags := 1537
  interfaces := #[]
  cf := some (fileOf pool6 1 #[] #[] 1537 3 #[] #[])
  fields := #[]
  methods := #[]
  instanceTypes := #[]
  staticTypes := #[]
  resolved := Array.replicate 37 none
  statics := none }

def pool7 : Array CpInfo := pool [(1, .methodref 2 3), (0, .class_ 4), (0, .nameAndType 5 6), (0, u "java/lang/Object"), (0, u "<init>"), (0, u "()V"), (0, .string 8), (0, u ""), (0, .fieldref 10 11), (0, .class_ 12), (0, .nameAndType 13 14), (0, u "java/lang/String"), (0, u "value"), (0, u "[B"), (0, .fieldref 10 16), (0, .nameAndType 17 18), (0, u "coder"), (0, u "B"), (2, u "hash"), (0, u "I"), (2, u "hashIsZero"), (0, u "Z"), (0, .methodref 10 28), (0, .nameAndType 5 29), (0, u "([CIILjava/lang/Void;)V"), (8, .fieldref 10 39), (0, .nameAndType 40 26), (0, u "COMPACT_STRINGS"), (1, .class_ 44), (1, u "java/lang/StringUTF16"), (0, u "compress"), (1, .methodref 42 48), (0, .nameAndType 49 50), (0, u "coderFromArrayLen"), (0, u "([BI)B"), (56, .class_ 109), (1, u "java/lang/StringLatin1"), (32, u "()Z"), (34, .methodref 42 178), (0, .nameAndType 45 179), (0, u "([CII)[B"), (154, u "()I"), (0, .methodref 10 336), (0, .nameAndType 17 337), (0, u "()B"), (25, u "([BI)C"), (27, u "(II)V"), (35, u "(I)C"), (64, .methodref 10 493), (0, .nameAndType 494 142), (0, u "isLatin1"), (0, .methodref 107 496), (0, .nameAndType 497 363), (0, u "charAt"), (3, u "checkIndex"), (5, u "length"), (33, .methodref 107 542), (0, .nameAndType 543 544), (0, u "equals"), (0, u "([B[B)Z"), (28, u "(Ljava/lang/Object;)Z"), (1, .class_ 576), (0, u "java/lang/CharSequence"), (22, u "CASE_INSENSITIVE_ORDER"), (0, u "Ljava/util/Comparator;"), (409, u "([C)V"), (42, .fieldref 1054 1055), (0, .class_ 1056), (0, .nameAndType 1057 1058), (0, u "jdk/internal/util/Preconditions"), (0, u "SIOOBE_FORMATTER"), (0, u "Ljava/util/function/BiFunction;"), (0, .methodref 1054 1060), (0, .nameAndType 501 1061), (0, u "(IILjava/util/function/BiFunction;)I"), (39, u "serialPersistentFields"), (0, u "[Ljava/io/ObjectStreamField;"), (0, .class_ 1104), (0, u "java/lang/String$CaseInsensitiveComparator"), (1, .class_ 1107), (0, u "java/io/Serializable"), (0, .class_ 1109), (0, u "java/lang/Comparable"), (0, .class_ 1111), (0, u "java/lang/constant/Constable"), (0, .class_ 1113), (0, u "java/lang/constant/ConstantDesc"), (2, u "serialVersionUID"), (0, u "J"), (3, u "REPL"), (0, u "C"), (2, u "LATIN1"), (1, u "UTF16")] 323

def k7m0 : Method := { name := "<init>", desc := "()V", sig := { parameters := [], returnType := none }, accessFlags := 1, code := none }
def k7c1 : Code := { maxStack := 5, maxLocals := 2, code := jdk_42_method_3_code, exceptionTable := #[], attributes := #[] }
def k7m1 : Method := { name := "<init>", desc := "([C)V", sig := { parameters := [(.array .char)], returnType := none }, accessFlags := 1, code := some k7c1 }
def k7c2 : Code := { maxStack := 2, maxLocals := 1, code := jdk_42_method_54_code, exceptionTable := #[], attributes := #[] }
def k7m2 : Method := { name := "length", desc := "()I", sig := { parameters := [], returnType := some .int }, accessFlags := 1, code := some k7c2 }
def k7c3 : Code := { maxStack := 2, maxLocals := 2, code := jdk_42_method_56_code, exceptionTable := #[], attributes := #[] }
def k7m3 : Method := { name := "charAt", desc := "(I)C", sig := { parameters := [.int], returnType := some .char }, accessFlags := 1, code := some k7c3 }
def k7c4 : Code := { maxStack := 2, maxLocals := 3, code := jdk_42_method_66_code, exceptionTable := #[], attributes := #[] }
def k7m4 : Method := { name := "equals", desc := "(Ljava/lang/Object;)Z", sig := { parameters := [(.object "java/lang/Object")], returnType := some .boolean }, accessFlags := 1, code := some k7c4 }
def k7c5 : Code := { maxStack := 4, maxLocals := 6, code := jdk_42_method_149_code, exceptionTable := #[], attributes := #[] }
def k7m5 : Method := { name := "<init>", desc := "([CIILjava/lang/Void;)V", sig := { parameters := [(.array .char), .int, .int, (.object "java/lang/Void")], returnType := none }, accessFlags := 2, code := some k7c5 }
def k7c6 : Code := { maxStack := 1, maxLocals := 1, code := jdk_42_method_152_code, exceptionTable := #[], attributes := #[] }
def k7m6 : Method := { name := "coder", desc := "()B", sig := { parameters := [], returnType := some .byte }, accessFlags := 0, code := some k7c6 }
def k7c7 : Code := { maxStack := 1, maxLocals := 1, code := jdk_42_method_154_code, exceptionTable := #[], attributes := #[] }
def k7m7 : Method := { name := "isLatin1", desc := "()Z", sig := { parameters := [], returnType := some .boolean }, accessFlags := 0, code := some k7c7 }
def k7c8 : Code := { maxStack := 3, maxLocals := 2, code := jdk_42_method_155_code, exceptionTable := #[], attributes := #[] }
def k7m8 : Method := { name := "checkIndex", desc := "(II)V", sig := { parameters := [.int, .int], returnType := none }, accessFlags := 8, code := some k7c8 }
/-- java/lang/String -/
def k7 : Class := { plain "java/lang/String" (some 0) with
  accessFlags := 49
  interfaces := #[2, 3, 4, 5, 6]
  cf := some (fileOf pool7 10 #[.nestMembers #[1103]] #[{ accessFlags := 1, nameIndex := 5, descriptorIndex := 6, attributes := #[] }, { accessFlags := 1, nameIndex := 5, descriptorIndex := 1010, attributes := #[] }, { accessFlags := 1, nameIndex := 507, descriptorIndex := 334, attributes := #[] }, { accessFlags := 1, nameIndex := 497, descriptorIndex := 427, attributes := #[] }, { accessFlags := 1, nameIndex := 543, descriptorIndex := 573, attributes := #[] }, { accessFlags := 2, nameIndex := 5, descriptorIndex := 29, attributes := #[] }, { accessFlags := 0, nameIndex := 17, descriptorIndex := 337, attributes := #[] }, { accessFlags := 0, nameIndex := 494, descriptorIndex := 142, attributes := #[] }, { accessFlags := 8, nameIndex := 501, descriptorIndex := 391, attributes := #[] }] 49 2 #[1106, 1108, 575, 1110, 1112] #[{ accessFlags := 18, nameIndex := 13, descriptorIndex := 14, attributes := #[] }, { accessFlags := 18, nameIndex := 17, descriptorIndex := 18, attributes := #[] }, { accessFlags := 2, nameIndex := 21, descriptorIndex := 22, attributes := #[] }, { accessFlags := 2, nameIndex := 25, descriptorIndex := 26, attributes := #[] }, { accessFlags := 26, nameIndex := 1116, descriptorIndex := 1117, attributes := #[] }, { accessFlags := 24, nameIndex := 40, descriptorIndex := 26, attributes := #[] }, { accessFlags := 26, nameIndex := 1101, descriptorIndex := 1102, attributes := #[] }, { accessFlags := 26, nameIndex := 1121, descriptorIndex := 1122, attributes := #[] }, { accessFlags := 25, nameIndex := 599, descriptorIndex := 600, attributes := #[] }, { accessFlags := 24, nameIndex := 1125, descriptorIndex := 18, attributes := #[] }, { accessFlags := 24, nameIndex := 1127, descriptorIndex := 18, attributes := #[] }])
  fields := #[{ name := "value", type := (.array .byte), accessFlags := 18, slot := 0, constantValue := 0 }, { name := "coder", type := .byte, accessFlags := 18, slot := 1, constantValue := 0 }, { name := "hash", type := .int, accessFlags := 2, slot := 2, constantValue := 0 }, { name := "hashIsZero", type := .boolean, accessFlags := 2, slot := 3, constantValue := 0 }, { name := "serialVersionUID", type := .long, accessFlags := 26, slot := 0, constantValue := 0 }, { name := "COMPACT_STRINGS", type := .boolean, accessFlags := 24, slot := 1, constantValue := 0 }, { name := "serialPersistentFields", type := (.array (.object "java/io/ObjectStreamField")), accessFlags := 26, slot := 2, constantValue := 0 }, { name := "REPL", type := .char, accessFlags := 26, slot := 3, constantValue := 0 }, { name := "CASE_INSENSITIVE_ORDER", type := (.object "java/util/Comparator"), accessFlags := 25, slot := 4, constantValue := 0 }, { name := "LATIN1", type := .byte, accessFlags := 24, slot := 5, constantValue := 0 }, { name := "UTF16", type := .byte, accessFlags := 24, slot := 6, constantValue := 0 }]
  methods := #[k7m0, k7m1, k7m2, k7m3, k7m4, k7m5, k7m6, k7m7, k7m8]
  instanceTypes := #[(.array .byte), .byte, .int, .boolean]
  staticTypes := #[.long, .boolean, (.array (.object "java/io/ObjectStreamField")), .char, (.object "java/util/Comparator"), .byte, .byte]
  resolved := Array.replicate 1451 none
  statics := some 0 }

def pool8 : Array CpInfo := pool [(1, .class_ 2), (0, u "java/lang/String"), (1, .class_ 6), (1, u "java/lang/Object"), (0, u "<init>"), (0, u "()V"), (0, .methodref 1 10), (0, .nameAndType 11 12), (0, u "checkIndex"), (0, u "(II)V"), (1, .class_ 16), (1, u "java/lang/StringLatin1"), (36, u "([BI)C"), (67, u "$assertionsDisabled"), (0, u "Z"), (98, .class_ 223), (1, u "java/lang/StringLatin1$LinesSpliterator"), (28, u "charAt"), (28, u "equals"), (0, u "([B[B)Z"), (107, .class_ 391), (0, u "java/lang/StringLatin1$CharsSpliterator")] 3

def k8m0 : Method := { name := "<init>", desc := "()V", sig := { parameters := [], returnType := none }, accessFlags := 0, code := none }
def k8c1 : Code := { maxStack := 2, maxLocals := 2, code := jdk_43_method_2_code, exceptionTable := #[], attributes := #[] }
def k8m1 : Method := { name := "charAt", desc := "([BI)C", sig := { parameters := [(.array .byte), .int], returnType := some .char }, accessFlags := 9, code := some k8c1 }
def k8c2 : Code := { maxStack := 3, maxLocals := 3, code := jdk_43_method_13_code, exceptionTable := #[], attributes := #[] }
def k8m2 : Method := { name := "equals", desc := "([B[B)Z", sig := { parameters := [(.array .byte), (.array .byte)], returnType := some .boolean }, accessFlags := 9, code := some k8c2 }
/-- java/lang/StringLatin1 -/
def k8 : Class := { plain "java/lang/StringLatin1" (some 0) with
  accessFlags := 48
  interfaces := #[]
  cf := some (fileOf pool8 14 #[.nestMembers #[390, 221]] #[{ accessFlags := 0, nameIndex := 7, descriptorIndex := 8, attributes := #[] }, { accessFlags := 9, nameIndex := 252, descriptorIndex := 53, attributes := #[] }, { accessFlags := 9, nameIndex := 281, descriptorIndex := 282, attributes := #[] }] 48 4 #[] #[{ accessFlags := 4120, nameIndex := 121, descriptorIndex := 122, attributes := #[] }])
  fields := #[{ name := "$assertionsDisabled", type := .boolean, accessFlags := 4120, slot := 0, constantValue := 0 }]
  methods := #[k8m0, k8m1, k8m2]
  instanceTypes := #[]
  staticTypes := #[.boolean]
  resolved := Array.replicate 395 none
  statics := none }

def pool9 : Array CpInfo := pool [(2, .class_ 4), (1, u "java/lang/Object"), (0, u "<init>"), (0, u "()V"), (17, .class_ 26), (1, u "jdk/internal/util/Preconditions"), (6, u "checkIndex"), (21, .class_ 56), (0, u "jdk/internal/util/Preconditions$4"), (57, .class_ 115), (0, u "jdk/internal/util/Preconditions$1"), (7, u "SIOOBE_FORMATTER"), (0, u "Ljava/util/function/BiFunction;"), (0, .class_ 126), (0, u "jdk/internal/util/Preconditions$2"), (3, u "AIOOBE_FORMATTER"), (0, .class_ 132), (0, u "jdk/internal/util/Preconditions$3"), (3, u "IOOBE_FORMATTER"), (41, u "(IILjava/util/function/BiFunction;)I")] 15

def k9m0 : Method := { name := "<init>", desc := "()V", sig := { parameters := [], returnType := none }, accessFlags := 1, code := none }
def k9c1 : Code := { maxStack := 3, maxLocals := 3, code := jdk_41_method_11_code, exceptionTable := #[], attributes := #[] }
def k9m1 : Method := { name := "checkIndex", desc := "(IILjava/util/function/BiFunction;)I", sig := { parameters := [.int, .int, (.object "java/util/function/BiFunction")], returnType := some .int }, accessFlags := 9, code := some k9c1 }
/-- jdk/internal/util/Preconditions -/
def k9 : Class := { plain "jdk/internal/util/Preconditions" (some 0) with
  accessFlags := 33
  interfaces := #[]
  cf := some (fileOf pool9 24 #[.nestMembers #[55, 131, 125, 114]] #[{ accessFlags := 1, nameIndex := 5, descriptorIndex := 6, attributes := #[] }, { accessFlags := 9, nameIndex := 33, descriptorIndex := 178, attributes := #[] }] 33 2 #[] #[{ accessFlags := 25, nameIndex := 123, descriptorIndex := 124, attributes := #[] }, { accessFlags := 25, nameIndex := 130, descriptorIndex := 124, attributes := #[] }, { accessFlags := 25, nameIndex := 136, descriptorIndex := 124, attributes := #[] }])
  fields := #[{ name := "SIOOBE_FORMATTER", type := (.object "java/util/function/BiFunction"), accessFlags := 25, slot := 0, constantValue := 0 }, { name := "AIOOBE_FORMATTER", type := (.object "java/util/function/BiFunction"), accessFlags := 25, slot := 1, constantValue := 0 }, { name := "IOOBE_FORMATTER", type := (.object "java/util/function/BiFunction"), accessFlags := 25, slot := 2, constantValue := 0 }]
  methods := #[k9m0, k9m1]
  instanceTypes := #[]
  staticTypes := #[(.object "java/util/function/BiFunction"), (.object "java/util/function/BiFunction"), (.object "java/util/function/BiFunction")]
  resolved := Array.replicate 194 none
  statics := some 1 }

def pool10 : Array CpInfo := pool [(6, .class_ 8), (1, u "java/lang/Object"), (0, u "<init>"), (0, u "()V"), (1, .class_ 14), (1, u "java/lang/StringUTF16"), (31, u "$assertionsDisabled"), (0, u "Z"), (13, u "HI_BYTE_SHIFT"), (0, u "I"), (2, u "LO_BYTE_SHIFT"), (49, .methodref 12 116), (0, .nameAndType 117 118), (0, u "compress"), (0, u "([CI[BII)I"), (3, u "([CII)[B"), (138, u "coderFromArrayLen"), (0, u "([BI)B"), (106, .class_ 371), (1, u "java/lang/StringUTF16$LinesSpliterator"), (58, u "MAX_LENGTH"), (196, .class_ 628), (0, u "java/lang/StringUTF16$CodePointsSpliterator"), (0, .class_ 630), (0, u "java/lang/StringUTF16$CharsSpliterator")] 4

def k10m0 : Method := { name := "<init>", desc := "()V", sig := { parameters := [], returnType := none }, accessFlags := 0, code := none }
def k10c1 : Code := { maxStack := 2, maxLocals := 2, code := jdk_52_method_15_code, exceptionTable := #[], attributes := #[] }
def k10m1 : Method := { name := "coderFromArrayLen", desc := "([BI)B", sig := { parameters := [(.array .byte), .int], returnType := some .byte }, accessFlags := 8, code := some k10c1 }
def k10c2 : Code := { maxStack := 5, maxLocals := 6, code := jdk_52_method_16_code, exceptionTable := #[], attributes := #[] }
def k10m2 : Method := { name := "compress", desc := "([CII)[B", sig := { parameters := [(.array .char), .int, .int], returnType := some (.array .byte) }, accessFlags := 9, code := some k10c2 }
def k10c3 : Code := { maxStack := 3, maxLocals := 7, code := jdk_52_method_21_code, exceptionTable := #[], attributes := #[] }
def k10m3 : Method := { name := "compress", desc := "([CI[BII)I", sig := { parameters := [(.array .char), .int, (.array .byte), .int, .int], returnType := some .int }, accessFlags := 9, code := some k10c3 }
/-- java/lang/StringUTF16 -/
def k10 : Class := { plain "java/lang/StringUTF16" (some 0) with
  accessFlags := 48
  interfaces := #[]
  cf := some (fileOf pool10 12 #[.nestMembers #[627, 629, 369]] #[{ accessFlags := 0, nameIndex := 9, descriptorIndex := 10, attributes := #[] }, { accessFlags := 8, nameIndex := 261, descriptorIndex := 262, attributes := #[] }, { accessFlags := 9, nameIndex := 117, descriptorIndex := 122, attributes := #[] }, { accessFlags := 9, nameIndex := 117, descriptorIndex := 118, attributes := #[] }] 48 6 #[] #[{ accessFlags := 26, nameIndex := 61, descriptorIndex := 62, attributes := #[] }, { accessFlags := 26, nameIndex := 65, descriptorIndex := 62, attributes := #[] }, { accessFlags := 24, nameIndex := 430, descriptorIndex := 62, attributes := #[] }, { accessFlags := 4120, nameIndex := 46, descriptorIndex := 47, attributes := #[] }])
  fields := #[{ name := "HI_BYTE_SHIFT", type := .int, accessFlags := 26, slot := 0, constantValue := 0 }, { name := "LO_BYTE_SHIFT", type := .int, accessFlags := 26, slot := 1, constantValue := 0 }, { name := "MAX_LENGTH", type := .int, accessFlags := 24, slot := 2, constantValue := 0 }, { name := "$assertionsDisabled", type := .boolean, accessFlags := 4120, slot := 3, constantValue := 0 }]
  methods := #[k10m0, k10m1, k10m2, k10m3]
  instanceTypes := #[]
  staticTypes := #[.int, .int, .int, .boolean]
  resolved := Array.replicate 635 none
  statics := none }

def pool11 : Array CpInfo := pool [(2, .class_ 4), (1, u "java/lang/Enum"), (0, u "name"), (0, u "Ljava/lang/String;"), (2, u "ordinal"), (0, u "I"), (1, .class_ 14), (1, u "java/lang/Object"), (4, u "hash"), (86, .class_ 108), (1, u "java/lang/Enum$EnumDesc"), (2, .class_ 112), (0, u "java/lang/constant/Constable"), (0, .class_ 114), (0, u "java/lang/Comparable"), (0, .class_ 116), (0, u "java/io/Serializable")] 87

/-- java/lang/Enum -/
def k11 : Class := { plain "java/lang/Enum" (some 0) with
  accessFlags := 1057
  interfaces := #[5, 3, 2]
  cf := some (fileOf pool11 2 #[.nestMembers #[106]] #[] 1057 12 #[111, 113, 115] #[{ accessFlags := 18, nameIndex := 5, descriptorIndex := 6, attributes := #[] }, { accessFlags := 18, nameIndex := 9, descriptorIndex := 10, attributes := #[] }, { accessFlags := 2, nameIndex := 19, descriptorIndex := 10, attributes := #[] }])
  fields := #[{ name := "name", type := (.object "java/lang/String"), accessFlags := 18, slot := 0, constantValue := 0 }, { name := "ordinal", type := .int, accessFlags := 18, slot := 1, constantValue := 0 }, { name := "hash", type := .int, accessFlags := 2, slot := 2, constantValue := 0 }]
  methods := #[]
  instanceTypes := #[(.object "java/lang/String"), .int, .int]
  staticTypes := #[]
  resolved := Array.replicate 204 none
  statics := none }

def pool12 : Array CpInfo := pool [(1, .class_ 2), (0, u "com/example/sundew/sundew/Holder$Kind"), (2, u "SUBJECT"), (0, u "Lcom/example/sundew/sundew/Holder$Kind;"), (2, u "RESOURCE"), (2, u "ENV"), (0, .fieldref 1 14), (0, .nameAndType 15 16), (0, u "$VALUES"), (0, u "[Lcom/example/sundew/sundew/Holder$Kind;"), (0, .methodref 18 19), (0, .class_ 16), (0, .nameAndType 20 21), (0, u "clone"), (0, u "()Ljava/lang/Object;"), (1, .class_ 25), (1, u "java/lang/Enum"), (6, .fieldref 1 33), (0, .nameAndType 34 35), (0, u "variable"), (0, u "Ljava/lang/String;"), (9, .class_ 46), (0, u "com/example/sundew/sundew/Holder"), (21, .methodref 69 70), (0, .class_ 71), (0, .nameAndType 72 73), (0, u "java/util/Optional"), (0, u "empty"), (0, u "()Ljava/util/Optional;"), (0, .methodref 1 75), (0, .nameAndType 76 77), (0, u "values"), (0, u "()[Lcom/example/sundew/sundew/Holder$Kind;"), (0, .methodref 79 80), (0, .class_ 81), (0, .nameAndType 82 83), (0, u "java/lang/String"), (0, u "equals"), (0, u "(Ljava/lang/Object;)Z"), (0, .methodref 69 85), (0, .nameAndType 86 87), (0, u "of"), (0, u "(Ljava/lang/Object;)Ljava/util/Optional;"), (22, u "ofVariable"), (0, u "(Ljava/lang/String;)Ljava/util/Optional;")] 10

def k12c0 : Code := { maxStack := 1, maxLocals := 0, code := prog_11_method_1_code, exceptionTable := #[], attributes := #[] }
def k12m0 : Method := { name := "values", desc := "()[Lcom/example/sundew/sundew/Holder$Kind;", sig := { parameters := [], returnType := some (.array (.object "com/example/sundew/sundew/Holder$Kind")) }, accessFlags := 9, code := some k12c0 }
def k12c1 : Code := { maxStack := 2, maxLocals := 6, code := prog_11_method_6_code, exceptionTable := #[], attributes := #[] }
def k12m1 : Method := { name := "ofVariable", desc := "(Ljava/lang/String;)Ljava/util/Optional;", sig := { parameters := [(.object "java/lang/String")], returnType := some (.object "java/util/Optional") }, accessFlags := 8, code := some k12c1 }
/-- com/example/sundew/sundew/Holder$Kind -/
def k12 : Class := { plain "com/example/sundew/sundew/Holder$Kind" (some 11) with
  accessFlags := 16433
  interfaces := #[]
  cf := some (fileOf pool12 1 #[.nestHost 45] #[{ accessFlags := 9, nameIndex := 76, descriptorIndex := 77, attributes := #[] }, { accessFlags := 8, nameIndex := 110, descriptorIndex := 111, attributes := #[] }] 16433 23 #[] #[{ accessFlags := 16409, nameIndex := 5, descriptorIndex := 6, attributes := #[] }, { accessFlags := 16409, nameIndex := 9, descriptorIndex := 6, attributes := #[] }, { accessFlags := 16409, nameIndex := 12, descriptorIndex := 6, attributes := #[] }, { accessFlags := 18, nameIndex := 34, descriptorIndex := 35, attributes := #[] }, { accessFlags := 4122, nameIndex := 15, descriptorIndex := 16, attributes := #[] }])
  fields := #[{ name := "SUBJECT", type := (.object "com/example/sundew/sundew/Holder$Kind"), accessFlags := 16409, slot := 0, constantValue := 0 }, { name := "RESOURCE", type := (.object "com/example/sundew/sundew/Holder$Kind"), accessFlags := 16409, slot := 1, constantValue := 0 }, { name := "ENV", type := (.object "com/example/sundew/sundew/Holder$Kind"), accessFlags := 16409, slot := 2, constantValue := 0 }, { name := "variable", type := (.object "java/lang/String"), accessFlags := 18, slot := 3, constantValue := 0 }, { name := "$VALUES", type := (.array (.object "com/example/sundew/sundew/Holder$Kind")), accessFlags := 4122, slot := 3, constantValue := 0 }]
  methods := #[k12m0, k12m1]
  instanceTypes := #[(.object "java/lang/String"), .int, .int, (.object "java/lang/String")]
  staticTypes := #[(.object "com/example/sundew/sundew/Holder$Kind"), (.object "com/example/sundew/sundew/Holder$Kind"), (.object "com/example/sundew/sundew/Holder$Kind"), (.array (.object "com/example/sundew/sundew/Holder$Kind"))]
  resolved := Array.replicate 122 none
  statics := some 2 }

def pool13 : Array CpInfo := pool [(1, .fieldref 2 3), (0, .class_ 4), (0, .nameAndType 5 6), (0, u "java/util/Optional"), (0, u "EMPTY"), (0, u "Ljava/util/Optional;"), (0, .methodref 8 9), (0, .class_ 10), (0, .nameAndType 11 12), (0, u "java/lang/Object"), (0, u "<init>"), (0, u "()V"), (0, .fieldref 2 14), (0, .nameAndType 15 16), (0, u "value"), (0, u "Ljava/lang/Object;"), (0, .methodref 18 19), (0, .class_ 20), (0, .nameAndType 21 22), (0, u "java/util/Objects"), (0, u "requireNonNull"), (0, u "(Ljava/lang/Object;)Ljava/lang/Object;"), (0, .methodref 2 24), (0, .nameAndType 11 25), (0, u "(Ljava/lang/Object;)V"), (20, u "()Z"), (8, u "empty"), (0, u "()Ljava/util/Optional;"), (8, u "(Ljava/lang/Object;)Ljava/util/Optional;"), (2, u "isPresent"), (4, u "get"), (0, u "()Ljava/lang/Object;"), (7, u "of")] 104

def k13c0 : Code := { maxStack := 1, maxLocals := 1, code := jdk_32_method_1_code, exceptionTable := #[], attributes := #[] }
def k13m0 : Method := { name := "empty", desc := "()Ljava/util/Optional;", sig := { parameters := [], returnType := some (.object "java/util/Optional") }, accessFlags := 9, code := some k13c0 }
def k13c1 : Code := { maxStack := 2, maxLocals := 2, code := jdk_32_method_2_code, exceptionTable := #[], attributes := #[] }
def k13m1 : Method := { name := "<init>", desc := "(Ljava/lang/Object;)V", sig := { parameters := [(.object "java/lang/Object")], returnType := none }, accessFlags := 2, code := some k13c1 }
def k13c2 : Code := { maxStack := 3, maxLocals := 1, code := jdk_32_method_3_code, exceptionTable := #[], attributes := #[] }
def k13m2 : Method := { name := "of", desc := "(Ljava/lang/Object;)Ljava/util/Optional;", sig := { parameters := [(.object "java/lang/Object")], returnType := some (.object "java/util/Optional") }, accessFlags := 9, code := some k13c2 }
def k13c3 : Code := { maxStack := 3, maxLocals := 1, code := jdk_32_method_5_code, exceptionTable := #[], attributes := #[] }
def k13m3 : Method := { name := "get", desc := "()Ljava/lang/Object;", sig := { parameters := [], returnType := some (.object "java/lang/Object") }, accessFlags := 1, code := some k13c3 }
def k13c4 : Code := { maxStack := 1, maxLocals := 1, code := jdk_32_method_6_code, exceptionTable := #[], attributes := #[] }
def k13m4 : Method := { name := "isPresent", desc := "()Z", sig := { parameters := [], returnType := some .boolean }, accessFlags := 1, code := some k13c4 }
/-- java/util/Optional -/
def k13 : Class := { plain "java/util/Optional" (some 0) with
  accessFlags := 49
  interfaces := #[]
  cf := some (fileOf pool13 2 #[] #[{ accessFlags := 9, nameIndex := 55, descriptorIndex := 56, attributes := #[] }, { accessFlags := 2, nameIndex := 11, descriptorIndex := 25, attributes := #[] }, { accessFlags := 9, nameIndex := 82, descriptorIndex := 65, attributes := #[] }, { accessFlags := 1, nameIndex := 73, descriptorIndex := 74, attributes := #[] }, { accessFlags := 1, nameIndex := 68, descriptorIndex := 46, attributes := #[] }] 49 8 #[] #[{ accessFlags := 26, nameIndex := 5, descriptorIndex := 6, attributes := #[] }, { accessFlags := 18, nameIndex := 15, descriptorIndex := 16, attributes := #[] }])
  fields := #[{ name := "EMPTY", type := (.object "java/util/Optional"), accessFlags := 26, slot := 0, constantValue := 0 }, { name := "value", type := (.object "java/lang/Object"), accessFlags := 18, slot := 0, constantValue := 0 }]
  methods := #[k13m0, k13m1, k13m2, k13m3, k13m4]
  instanceTypes := #[(.object "java/lang/Object")]
  staticTypes := #[(.object "java/util/Optional")]
  resolved := Array.replicate 187 none
  statics := some 3 }

def pool14 : Array CpInfo := pool [(1, .class_ 2), (0, u "java/lang/Cloneable"), (0, .class_ 4), (0, u "java/lang/Object")] 2

/-- java/lang/Cloneable -/
def k14 : Class := { plain "java/lang/Cloneable" (some 0) with
  accessFlags := 1537
  interfaces := #[]
  cf := some (fileOf pool14 1 #[] #[] 1537 3 #[] #[])
  fields := #[]
  methods := #[]
  instanceTypes := #[]
  staticTypes := #[]
  resolved := Array.replicate 7 none
  statics := none }

def pool15 : Array CpInfo := pool [(2, .class_ 4), (1, u "java/lang/Object"), (0, u "<init>"), (0, u "()V"), (35, .class_ 44), (1, u "java/util/Objects"), (0, u "requireNonNull"), (0, u "(Ljava/lang/Object;)Ljava/lang/Object;")] 137

def k15m0 : Method := { name := "<init>", desc := "()V", sig := { parameters := [], returnType := none }, accessFlags := 2, code := none }
def k15c1 : Code := { maxStack := 2, maxLocals := 1, code := jdk_31_method_10_code, exceptionTable := #[], attributes := #[] }
def k15m1 : Method := { name := "requireNonNull", desc := "(Ljava/lang/Object;)Ljava/lang/Object;", sig := { parameters := [(.object "java/lang/Object")], returnType := some (.object "java/lang/Object") }, accessFlags := 9, code := some k15c1 }
/-- java/util/Objects -/
def k15 : Class := { plain "java/util/Objects" (some 0) with
  accessFlags := 49
  interfaces := #[]
  cf := some (fileOf pool15 42 #[] #[{ accessFlags := 2, nameIndex := 5, descriptorIndex := 6, attributes := #[] }, { accessFlags := 9, nameIndex := 45, descriptorIndex := 46, attributes := #[] }] 49 2 #[] #[])
  fields := #[]
  methods := #[k15m0, k15m1]
  instanceTypes := #[]
  staticTypes := #[]
  resolved := Array.replicate 184 none
  statics := none }

def pool16 : Array CpInfo := pool [(9, u "<init>"), (6, .class_ 18), (1, u "java/lang/Object"), (0, u "()V"), (1, .class_ 23), (1, u "jdk/internal/util/ArraysSupport"), (0, u "LOG2_ARRAY_LONG_INDEX_SCALE"), (0, u "I"), (2, u "U"), (0, u "Ljdk/internal/misc/Unsafe;"), (8, u "BIG_ENDIAN"), (0, u "Z"), (8, u "LOG2_BYTE_BIT_SIZE"), (4, u "LOG2_ARRAY_INT_INDEX_SCALE"), (54, u "JLA"), (0, u "Ljdk/internal/access/JavaLangAccess;"), (11, u "LOG2_ARRAY_BOOLEAN_INDEX_SCALE"), (9, u "LOG2_ARRAY_BYTE_INDEX_SCALE"), (5, u "LOG2_ARRAY_CHAR_INDEX_SCALE"), (5, u "LOG2_ARRAY_SHORT_INDEX_SCALE"), (18, u "LOG2_ARRAY_FLOAT_INDEX_SCALE"), (24, u "LOG2_ARRAY_DOUBLE_INDEX_SCALE"), (89, u "T_BOOLEAN"), (2, u "T_CHAR"), (1, u "T_FLOAT"), (1, u "T_DOUBLE"), (1, u "T_BYTE"), (1, u "T_SHORT"), (1, u "T_INT"), (1, u "T_LONG"), (1, u "SOFT_MAX_ARRAY_LENGTH")] 83

def k16m0 : Method := { name := "<init>", desc := "()V", sig := { parameters := [], returnType := none }, accessFlags := 2, code := none }
/-- jdk/internal/util/ArraysSupport -/
def k16 : Class := { plain "jdk/internal/util/ArraysSupport" (some 0) with
  accessFlags := 33
  interfaces := #[]
  cf := some (fileOf pool16 21 #[] #[{ accessFlags := 2, nameIndex := 9, descriptorIndex := 19, attributes := #[] }] 33 16 #[] #[{ accessFlags := 24, nameIndex := 28, descriptorIndex := 29, attributes := #[] }, { accessFlags := 26, nameIndex := 38, descriptorIndex := 39, attributes := #[] }, { accessFlags := 25, nameIndex := 121, descriptorIndex := 25, attributes := #[] }, { accessFlags := 25, nameIndex := 131, descriptorIndex := 25, attributes := #[] }, { accessFlags := 25, nameIndex := 137, descriptorIndex := 25, attributes := #[] }, { accessFlags := 25, nameIndex := 143, descriptorIndex := 25, attributes := #[] }, { accessFlags := 25, nameIndex := 53, descriptorIndex := 25, attributes := #[] }, { accessFlags := 25, nameIndex := 24, descriptorIndex := 25, attributes := #[] }, { accessFlags := 25, nameIndex := 162, descriptorIndex := 25, attributes := #[] }, { accessFlags := 25, nameIndex := 187, descriptorIndex := 25, attributes := #[] }, { accessFlags := 26, nameIndex := 48, descriptorIndex := 25, attributes := #[] }, { accessFlags := 25, nameIndex := 277, descriptorIndex := 25, attributes := #[] }, { accessFlags := 25, nameIndex := 280, descriptorIndex := 25, attributes := #[] }, { accessFlags := 25, nameIndex := 282, descriptorIndex := 25, attributes := #[] }, { accessFlags := 25, nameIndex := 284, descriptorIndex := 25, attributes := #[] }, { accessFlags := 25, nameIndex := 286, descriptorIndex := 25, attributes := #[] }, { accessFlags := 25, nameIndex := 288, descriptorIndex := 25, attributes := #[] }, { accessFlags := 25, nameIndex := 290, descriptorIndex := 25, attributes := #[] }, { accessFlags := 25, nameIndex := 292, descriptorIndex := 25, attributes := #[] }, { accessFlags := 26, nameIndex := 108, descriptorIndex := 109, attributes := #[] }, { accessFlags := 25, nameIndex := 294, descriptorIndex := 25, attributes := #[] }])
  fields := #[{ name := "U", type := (.object "jdk/internal/misc/Unsafe"), accessFlags := 24, slot := 0, constantValue := 0 }, { name := "BIG_ENDIAN", type := .boolean, accessFlags := 26, slot := 1, constantValue := 0 }, { name := "LOG2_ARRAY_BOOLEAN_INDEX_SCALE", type := .int, accessFlags := 25, slot := 2, constantValue := 0 }, { name := "LOG2_ARRAY_BYTE_INDEX_SCALE", type := .int, accessFlags := 25, slot := 3, constantValue := 0 }, { name := "LOG2_ARRAY_CHAR_INDEX_SCALE", type := .int, accessFlags := 25, slot := 4, constantValue := 0 }, { name := "LOG2_ARRAY_SHORT_INDEX_SCALE", type := .int, accessFlags := 25, slot := 5, constantValue := 0 }, { name := "LOG2_ARRAY_INT_INDEX_SCALE", type := .int, accessFlags := 25, slot := 6, constantValue := 0 }, { name := "LOG2_ARRAY_LONG_INDEX_SCALE", type := .int, accessFlags := 25, slot := 7, constantValue := 0 }, { name := "LOG2_ARRAY_FLOAT_INDEX_SCALE", type := .int, accessFlags := 25, slot := 8, constantValue := 0 }, { name := "LOG2_ARRAY_DOUBLE_INDEX_SCALE", type := .int, accessFlags := 25, slot := 9, constantValue := 0 }, { name := "LOG2_BYTE_BIT_SIZE", type := .int, accessFlags := 26, slot := 10, constantValue := 0 }, { name := "T_BOOLEAN", type := .int, accessFlags := 25, slot := 11, constantValue := 0 }, { name := "T_CHAR", type := .int, accessFlags := 25, slot := 12, constantValue := 0 }, { name := "T_FLOAT", type := .int, accessFlags := 25, slot := 13, constantValue := 0 }, { name := "T_DOUBLE", type := .int, accessFlags := 25, slot := 14, constantValue := 0 }, { name := "T_BYTE", type := .int, accessFlags := 25, slot := 15, constantValue := 0 }, { name := "T_SHORT", type := .int, accessFlags := 25, slot := 16, constantValue := 0 }, { name := "T_INT", type := .int, accessFlags := 25, slot := 17, constantValue := 0 }, { name := "T_LONG", type := .int, accessFlags := 25, slot := 18, constantValue := 0 }, { name := "JLA", type := (.object "jdk/internal/access/JavaLangAccess"), accessFlags := 26, slot := 19, constantValue := 0 }, { name := "SOFT_MAX_ARRAY_LENGTH", type := .int, accessFlags := 25, slot := 20, constantValue := 0 }]
  methods := #[k16m0]
  instanceTypes := #[]
  staticTypes := #[(.object "jdk/internal/misc/Unsafe"), .boolean, .int, .int, .int, .int, .int, .int, .int, .int, .int, .int, .int, .int, .int, .int, .int, .int, .int, (.object "jdk/internal/access/JavaLangAccess"), .int]
  resolved := Array.replicate 378 none
  statics := none }

/-- the primitive byte -/
def k17 : Class := { plain "byte" none with kind := .primitive 'B', accessFlags := 0x411 }
/-- [B -/
def k18 : Class := { plain "[B" (some 0) with kind := .array 17 .byte, interfaces := #[14, 2], accessFlags := 1041 }

/-- the primitive char -/
def k19 : Class := { plain "char" none with kind := .primitive 'C', accessFlags := 0x411 }
/-- [C -/
def k20 : Class := { plain "[C" (some 0) with kind := .array 19 .char, interfaces := #[14, 2], accessFlags := 1041 }

/-- the primitive int -/
def k21 : Class := { plain "int" none with kind := .primitive 'I', accessFlags := 0x411 }
/-- [I -/
def k22 : Class := { plain "[I" (some 0) with kind := .array 21 .int, interfaces := #[14, 2], accessFlags := 1041 }

/-- [Lcom/example/sundew/sundew/Holder$Kind; -/
def k23 : Class := { plain "[Lcom/example/sundew/sundew/Holder$Kind;" (some 0) with kind := .array 12 (.object "com/example/sundew/sundew/Holder$Kind"), interfaces := #[14, 2], accessFlags := 1041 }

def heap : Heap := #[{ cls := 7, slots := #[.long 0, .int 1, .null, .int 0, .null, .int 0, .int 0], vm := .statics 7 },
  { cls := 9, slots := #[.null, .null, .null], vm := .statics 9 },
  { cls := 12, slots := #[.ref 5, .ref 6, .ref 7, .ref 4], vm := .statics 12 },
  { cls := 13, slots := #[.ref 14], vm := .statics 13 },
  { cls := 23, slots := #[.ref 5, .ref 6, .ref 7], vm := .none },
  { cls := 12, slots := #[.null, .int 0, .int 0, .ref 8], vm := .none },
  { cls := 12, slots := #[.null, .int 0, .int 0, .ref 10], vm := .none },
  { cls := 12, slots := #[.null, .int 0, .int 0, .ref 12], vm := .none },
  { cls := 7, slots := #[.ref 9, .int 0, .int 0, .int 0], vm := .none },
  { cls := 18, slots := #[.int 115, .int 117, .int 98, .int 106, .int 101, .int 99, .int 116], vm := .none },
  { cls := 7, slots := #[.ref 11, .int 0, .int 0, .int 0], vm := .none },
  { cls := 18, slots := #[.int 114, .int 101, .int 115, .int 111, .int 117, .int 114, .int 99, .int 101], vm := .none },
  { cls := 7, slots := #[.ref 13, .int 0, .int 0, .int 0], vm := .none },
  { cls := 18, slots := #[.int 101, .int 110, .int 118], vm := .none },
  { cls := 13, slots := #[.null], vm := .none }]
def classes : Array Class := #[k0, k1, k2, k3, k4, k5, k6, k7, k8, k9, k10, k11, k12, k13, k14, k15, k16, k17, k18, k19, k20, k21, k22, k23]
def interned : List (Array UInt16 × Addr) := []
def slotsUsed : Nat := 61
def theMethod : MethodId := ⟨1, 1⟩
def args0 : Array Value := #[.int 5, .long 5, .int 5, .int 5, .int 5]
def aboutOver (below : List Frame) : State where
  vm := { classes := classes, interned := interned.toArray }
  heap := heap
  slotsUsed := slotsUsed
  threads := #[{ frames := .invoking theMethod args0 :: below }]
def below0 : List Frame := [.native { method := ⟨0, 0⟩, args := #[] }]
def about1 : State := aboutOver below0
def p0 : Program := .bare "" "" ""
def e0 : Env := launch0.env 0 0 0
theorem w_frames : about1.frames = Frame.invoking theMethod args0 :: below0 := rfl
set_option maxRecDepth 65536 in
theorem w_args : argsFit about1.vm theMethod args0 = true := by decide +kernel
set_option maxRecDepth 65536 in
theorem w_heap : heapFits about1 = true := by decide +kernel
set_option maxRecDepth 65536 in
theorem w_runnable : about1.curStatus? = some .runnable := by decide +kernel
set_option maxRecDepth 65536 in
theorem w_alone : about1.alone = true := by decide +kernel
set_option maxRecDepth 65536 in
theorem w_named : about1.methodNamed? x = some theMethod := by decide +kernel
set_option maxRecDepth 65536 in
theorem w_hears : about1.hears theMethod below0 = true := by decide +kernel
set_option maxRecDepth 65536 in
theorem w_ripe : about1.ripe theMethod args0 below0 = true := by decide +kernel
theorem w_running : about1.status = .running := rfl
set_option maxRecDepth 65536 in
theorem w_room : about1.hasRoom e0.platform room_1 = true :=
  launch0.hasRoom_least _ room_1 (by decide +kernel) (by decide +kernel) (by decide +kernel) (by decide +kernel) (by decide +kernel) (by decide +kernel)
theorem allAtoms_all (ts : List Jvm.Cond) (a : Array Jvm.Value) (st : Jvm.State) : (allAtoms ts).before a st = ts.all (fun c => c.before a st) := by
  induction ts with
  | nil => rfl
  | cons c t ih =>
    show (Jvm.Cond.and c (allAtoms t)).before a st = _
    rw [Jvm.Cond.before_and, ih, List.all_cons]
def words1 : List Jvm.Cond := Jvm.Cond.code x code maxLocals ret :: tables_1
/-- a 'code' word, met by the world's own term for the bytes: nothing is compared byte by byte -/
theorem code_word {y : MethodName} {bytes : ByteArray} {mx : Nat} {rt : Option FieldType} {a : Array Value} {s : State} {m : MethodId} {meth : Method} {c : Code} (h1 : s.methodNamed? y = some m) (h2 : s.vm.method? m = some meth) (h3 : meth.code = some c) (h4 : c.code = bytes)
    (h5 : (c.maxLocals == mx && c.exceptionTable.isEmpty && decide (c.maxStack ≤ mostOperands) && decide (meth.sig.returnType = rt) && !meth.locks && decide (parseMethodDescriptor y.desc = some meth.sig)) = true) : (Jvm.Cond.code y bytes mx rt).before a s = true := by
  simp only [Bool.and_eq_true, beq_iff_eq, Bool.not_eq_true', decide_eq_true_eq] at h5
  obtain ⟨⟨⟨⟨⟨g1, g2⟩, g3⟩, g4⟩, g5⟩, g6⟩ := h5
  simp [Cond.before, Cond.holds, Cond.value, h1, h2, h3, h4, g1, g2, g3, g4, g5, g6]
def isCode : Jvm.Cond → Bool
  | .code _ _ _ _ => true
  | _ => false
theorem all_split {L : List Jvm.Cond} {P : Jvm.Cond → Bool} (h1 : L.all (fun c => isCode c || P c) = true) (h2 : ∀ c ∈ L.filter isCode, P c = true) : L.all P = true := by
  refine List.all_eq_true.mpr fun c hc => ?_
  have h := List.all_eq_true.mp h1 c hc
  rcases Bool.eq_false_or_eq_true (isCode c) with hi | hi
  · exact h2 c (List.mem_filter.mpr ⟨hc, hi⟩)
  · simpa [hi] using h
set_option maxRecDepth 65536 in
theorem w_c0 : (Jvm.Cond.code x code maxLocals ret).before args0 about1 = true := code_word (m := ⟨1, 1⟩) (meth := k1m1) (c := k1c1) (by decide +kernel) rfl rfl rfl (by decide +kernel)
set_option maxRecDepth 65536 in
theorem w_c1 : (Jvm.Cond.code ({ cls := "java/lang/String", name := "length", desc := "()I" } : Jvm.MethodName) jdk_42_method_54_code (1 : Nat) (Option.some Jvm.ClassFile.FieldType.int)).before args0 about1 = true := code_word (m := ⟨7, 2⟩) (meth := k7m2) (c := k7c2) (by decide +kernel) rfl rfl rfl (by decide +kernel)
set_option maxRecDepth 65536 in
theorem w_c2 : (Jvm.Cond.code ({ cls := "java/lang/String", name := "coder", desc := "()B" } : Jvm.MethodName) jdk_42_method_152_code (1 : Nat) (Option.some Jvm.ClassFile.FieldType.byte)).before args0 about1 = true := code_word (m := ⟨7, 6⟩) (meth := k7m6) (c := k7c6) (by decide +kernel) rfl rfl rfl (by decide +kernel)
set_option maxRecDepth 65536 in
theorem w_c3 : (Jvm.Cond.code ({ cls := "com/example/sundew/sundew/KindOfVariablePinLaw", name := "pick", desc := "(Ljava/lang/String;IZJI)C" } : Jvm.MethodName) method_5_code (6 : Nat) (Option.some Jvm.ClassFile.FieldType.char)).before args0 about1 = true := code_word (m := ⟨1, 4⟩) (meth := k1m4) (c := k1c4) (by decide +kernel) rfl rfl rfl (by decide +kernel)
set_option maxRecDepth 65536 in
theorem w_c4 : (Jvm.Cond.code ({ cls := "java/lang/String", name := "charAt", desc := "(I)C" } : Jvm.MethodName) jdk_42_method_56_code (2 : Nat) (Option.some Jvm.ClassFile.FieldType.char)).before args0 about1 = true := code_word (m := ⟨7, 3⟩) (meth := k7m3) (c := k7c3) (by decide +kernel) rfl rfl rfl (by decide +kernel)
set_option maxRecDepth 65536 in
theorem w_c5 : (Jvm.Cond.code ({ cls := "java/lang/String", name := "isLatin1", desc := "()Z" } : Jvm.MethodName) jdk_42_method_154_code (1 : Nat) (Option.some Jvm.ClassFile.FieldType.boolean)).before args0 about1 = true := code_word (m := ⟨7, 7⟩) (meth := k7m7) (c := k7c7) (by decide +kernel) rfl rfl rfl (by decide +kernel)
set_option maxRecDepth 65536 in
theorem w_c6 : (Jvm.Cond.code ({ cls := "java/lang/StringLatin1", name := "charAt", desc := "([BI)C" } : Jvm.MethodName) jdk_43_method_2_code (2 : Nat) (Option.some Jvm.ClassFile.FieldType.char)).before args0 about1 = true := code_word (m := ⟨8, 1⟩) (meth := k8m1) (c := k8c1) (by decide +kernel) rfl rfl rfl (by decide +kernel)
set_option maxRecDepth 65536 in
theorem w_c7 : (Jvm.Cond.code ({ cls := "java/lang/String", name := "checkIndex", desc := "(II)V" } : Jvm.MethodName) jdk_42_method_155_code (2 : Nat) (Option.none : Option Jvm.ClassFile.FieldType)).before args0 about1 = true := code_word (m := ⟨7, 8⟩) (meth := k7m8) (c := k7c8) (by decide +kernel) rfl rfl rfl (by decide +kernel)
set_option maxRecDepth 65536 in
theorem w_c8 : (Jvm.Cond.code ({ cls := "jdk/internal/util/Preconditions", name := "checkIndex", desc := "(IILjava/util/function/BiFunction;)I" } : Jvm.MethodName) jdk_41_method_11_code (3 : Nat) (Option.some Jvm.ClassFile.FieldType.int)).before args0 about1 = true := code_word (m := ⟨9, 1⟩) (meth := k9m1) (c := k9c1) (by decide +kernel) rfl rfl rfl (by decide +kernel)
set_option maxRecDepth 65536 in
theorem w_c9 : (Jvm.Cond.code ({ cls := "com/example/sundew/sundew/KindOfVariablePinLaw", name := "drawn", desc := "(IJI)C" } : Jvm.MethodName) method_4_code (4 : Nat) (Option.some Jvm.ClassFile.FieldType.char)).before args0 about1 = true := code_word (m := ⟨1, 3⟩) (meth := k1m3) (c := k1c3) (by decide +kernel) rfl rfl rfl (by decide +kernel)
set_option maxRecDepth 65536 in
theorem w_c10 : (Jvm.Cond.code ({ cls := "com/example/sundew/sundew/KindOfVariablePinLaw", name := "str", desc := "([CI)Ljava/lang/String;" } : Jvm.MethodName) method_6_code (2 : Nat) (Option.some (Jvm.ClassFile.FieldType.object "java/lang/String"))).before args0 about1 = true := code_word (m := ⟨1, 5⟩) (meth := k1m5) (c := k1c5) (by decide +kernel) rfl rfl rfl (by decide +kernel)
set_option maxRecDepth 65536 in
theorem w_c11 : (Jvm.Cond.code ({ cls := "java/lang/String", name := "<init>", desc := "([C)V" } : Jvm.MethodName) jdk_42_method_3_code (2 : Nat) (Option.none : Option Jvm.ClassFile.FieldType)).before args0 about1 = true := code_word (m := ⟨7, 1⟩) (meth := k7m1) (c := k7c1) (by decide +kernel) rfl rfl rfl (by decide +kernel)
set_option maxRecDepth 65536 in
theorem w_c12 : (Jvm.Cond.code ({ cls := "java/lang/String", name := "<init>", desc := "([CIILjava/lang/Void;)V" } : Jvm.MethodName) jdk_42_method_149_code (6 : Nat) (Option.none : Option Jvm.ClassFile.FieldType)).before args0 about1 = true := code_word (m := ⟨7, 5⟩) (meth := k7m5) (c := k7c5) (by decide +kernel) rfl rfl rfl (by decide +kernel)
set_option maxRecDepth 65536 in
theorem w_c13 : (Jvm.Cond.code ({ cls := "java/lang/Object", name := "<init>", desc := "()V" } : Jvm.MethodName) object_method_1_code (1 : Nat) (Option.none : Option Jvm.ClassFile.FieldType)).before args0 about1 = true := code_word (m := ⟨0, 0⟩) (meth := k0m0) (c := k0c0) (by decide +kernel) rfl rfl rfl (by decide +kernel)
set_option maxRecDepth 65536 in
theorem w_c14 : (Jvm.Cond.code ({ cls := "java/lang/StringUTF16", name := "compress", desc := "([CII)[B" } : Jvm.MethodName) jdk_52_method_16_code (6 : Nat) (Option.some (Jvm.ClassFile.FieldType.array Jvm.ClassFile.FieldType.byte))).before args0 about1 = true := code_word (m := ⟨10, 2⟩) (meth := k10m2) (c := k10c2) (by decide +kernel) rfl rfl rfl (by decide +kernel)
set_option maxRecDepth 65536 in
theorem w_c15 : (Jvm.Cond.code ({ cls := "java/lang/StringUTF16", name := "compress", desc := "([CI[BII)I" } : Jvm.MethodName) jdk_52_method_21_code (7 : Nat) (Option.some Jvm.ClassFile.FieldType.int)).before args0 about1 = true := code_word (m := ⟨10, 3⟩) (meth := k10m3) (c := k10c3) (by decide +kernel) rfl rfl rfl (by decide +kernel)
set_option maxRecDepth 65536 in
theorem w_c16 : (Jvm.Cond.code ({ cls := "java/lang/StringUTF16", name := "coderFromArrayLen", desc := "([BI)B" } : Jvm.MethodName) jdk_52_method_15_code (2 : Nat) (Option.some Jvm.ClassFile.FieldType.byte)).before args0 about1 = true := code_word (m := ⟨10, 1⟩) (meth := k10m1) (c := k10c1) (by decide +kernel) rfl rfl rfl (by decide +kernel)
set_option maxRecDepth 65536 in
theorem w_c17 : (Jvm.Cond.code ({ cls := "com/example/sundew/sundew/KindOfVariablePinLaw", name := "expected", desc := "(Ljava/lang/String;)I" } : Jvm.MethodName) method_3_code (1 : Nat) (Option.some Jvm.ClassFile.FieldType.int)).before args0 about1 = true := code_word (m := ⟨1, 2⟩) (meth := k1m2) (c := k1c2) (by decide +kernel) rfl rfl rfl (by decide +kernel)
set_option maxRecDepth 65536 in
theorem w_c18 : (Jvm.Cond.code ({ cls := "java/lang/String", name := "equals", desc := "(Ljava/lang/Object;)Z" } : Jvm.MethodName) jdk_42_method_66_code (3 : Nat) (Option.some Jvm.ClassFile.FieldType.boolean)).before args0 about1 = true := code_word (m := ⟨7, 4⟩) (meth := k7m4) (c := k7c4) (by decide +kernel) rfl rfl rfl (by decide +kernel)
set_option maxRecDepth 65536 in
theorem w_c19 : (Jvm.Cond.code ({ cls := "java/lang/StringLatin1", name := "equals", desc := "([B[B)Z" } : Jvm.MethodName) jdk_43_method_13_code (3 : Nat) (Option.some Jvm.ClassFile.FieldType.boolean)).before args0 about1 = true := code_word (m := ⟨8, 2⟩) (meth := k8m2) (c := k8c2) (by decide +kernel) rfl rfl rfl (by decide +kernel)
set_option maxRecDepth 65536 in
theorem w_c20 : (Jvm.Cond.code ({ cls := "com/example/sundew/sundew/Holder$Kind", name := "ofVariable", desc := "(Ljava/lang/String;)Ljava/util/Optional;" } : Jvm.MethodName) prog_11_method_6_code (6 : Nat) (Option.some (Jvm.ClassFile.FieldType.object "java/util/Optional"))).before args0 about1 = true := code_word (m := ⟨12, 1⟩) (meth := k12m1) (c := k12c1) (by decide +kernel) rfl rfl rfl (by decide +kernel)
set_option maxRecDepth 65536 in
theorem w_c21 : (Jvm.Cond.code ({ cls := "java/util/Optional", name := "empty", desc := "()Ljava/util/Optional;" } : Jvm.MethodName) jdk_32_method_1_code (1 : Nat) (Option.some (Jvm.ClassFile.FieldType.object "java/util/Optional"))).before args0 about1 = true := code_word (m := ⟨13, 0⟩) (meth := k13m0) (c := k13c0) (by decide +kernel) rfl rfl rfl (by decide +kernel)
set_option maxRecDepth 65536 in
theorem w_c22 : (Jvm.Cond.code ({ cls := "com/example/sundew/sundew/Holder$Kind", name := "values", desc := "()[Lcom/example/sundew/sundew/Holder$Kind;" } : Jvm.MethodName) prog_11_method_1_code (0 : Nat) (Option.some (Jvm.ClassFile.FieldType.array (Jvm.ClassFile.FieldType.object "com/example/sundew/sundew/Holder$Kind")))).before args0 about1 = true := code_word (m := ⟨12, 0⟩) (meth := k12m0) (c := k12c0) (by decide +kernel) rfl rfl rfl (by decide +kernel)
set_option maxRecDepth 65536 in
theorem w_c23 : (Jvm.Cond.code ({ cls := "java/util/Optional", name := "of", desc := "(Ljava/lang/Object;)Ljava/util/Optional;" } : Jvm.MethodName) jdk_32_method_3_code (1 : Nat) (Option.some (Jvm.ClassFile.FieldType.object "java/util/Optional"))).before args0 about1 = true := code_word (m := ⟨13, 2⟩) (meth := k13m2) (c := k13c2) (by decide +kernel) rfl rfl rfl (by decide +kernel)
set_option maxRecDepth 65536 in
theorem w_c24 : (Jvm.Cond.code ({ cls := "java/util/Objects", name := "requireNonNull", desc := "(Ljava/lang/Object;)Ljava/lang/Object;" } : Jvm.MethodName) jdk_31_method_10_code (1 : Nat) (Option.some (Jvm.ClassFile.FieldType.object "java/lang/Object"))).before args0 about1 = true := code_word (m := ⟨15, 1⟩) (meth := k15m1) (c := k15c1) (by decide +kernel) rfl rfl rfl (by decide +kernel)
set_option maxRecDepth 65536 in
theorem w_c25 : (Jvm.Cond.code ({ cls := "java/util/Optional", name := "<init>", desc := "(Ljava/lang/Object;)V" } : Jvm.MethodName) jdk_32_method_2_code (2 : Nat) (Option.none : Option Jvm.ClassFile.FieldType)).before args0 about1 = true := code_word (m := ⟨13, 1⟩) (meth := k13m1) (c := k13c1) (by decide +kernel) rfl rfl rfl (by decide +kernel)
set_option maxRecDepth 65536 in
theorem w_c26 : (Jvm.Cond.code ({ cls := "java/util/Optional", name := "isPresent", desc := "()Z" } : Jvm.MethodName) jdk_32_method_6_code (1 : Nat) (Option.some Jvm.ClassFile.FieldType.boolean)).before args0 about1 = true := code_word (m := ⟨13, 4⟩) (meth := k13m4) (c := k13c4) (by decide +kernel) rfl rfl rfl (by decide +kernel)
set_option maxRecDepth 65536 in
theorem w_c27 : (Jvm.Cond.code ({ cls := "java/util/Optional", name := "get", desc := "()Ljava/lang/Object;" } : Jvm.MethodName) jdk_32_method_5_code (1 : Nat) (Option.some (Jvm.ClassFile.FieldType.object "java/lang/Object"))).before args0 about1 = true := code_word (m := ⟨13, 3⟩) (meth := k13m3) (c := k13c3) (by decide +kernel) rfl rfl rfl (by decide +kernel)
def codes1 : List Jvm.Cond := [Jvm.Cond.code x code maxLocals ret, Jvm.Cond.code ({ cls := "java/lang/String", name := "length", desc := "()I" } : Jvm.MethodName) jdk_42_method_54_code (1 : Nat) (Option.some Jvm.ClassFile.FieldType.int), Jvm.Cond.code ({ cls := "java/lang/String", name := "coder", desc := "()B" } : Jvm.MethodName) jdk_42_method_152_code (1 : Nat) (Option.some Jvm.ClassFile.FieldType.byte), Jvm.Cond.code ({ cls := "com/example/sundew/sundew/KindOfVariablePinLaw", name := "pick", desc := "(Ljava/lang/String;IZJI)C" } : Jvm.MethodName) method_5_code (6 : Nat) (Option.some Jvm.ClassFile.FieldType.char), Jvm.Cond.code ({ cls := "java/lang/String", name := "charAt", desc := "(I)C" } : Jvm.MethodName) jdk_42_method_56_code (2 : Nat) (Option.some Jvm.ClassFile.FieldType.char), Jvm.Cond.code ({ cls := "java/lang/String", name := "isLatin1", desc := "()Z" } : Jvm.MethodName) jdk_42_method_154_code (1 : Nat) (Option.some Jvm.ClassFile.FieldType.boolean), Jvm.Cond.code ({ cls := "java/lang/StringLatin1", name := "charAt", desc := "([BI)C" } : Jvm.MethodName) jdk_43_method_2_code (2 : Nat) (Option.some Jvm.ClassFile.FieldType.char), Jvm.Cond.code ({ cls := "java/lang/String", name := "checkIndex", desc := "(II)V" } : Jvm.MethodName) jdk_42_method_155_code (2 : Nat) (Option.none : Option Jvm.ClassFile.FieldType), Jvm.Cond.code ({ cls := "jdk/internal/util/Preconditions", name := "checkIndex", desc := "(IILjava/util/function/BiFunction;)I" } : Jvm.MethodName) jdk_41_method_11_code (3 : Nat) (Option.some Jvm.ClassFile.FieldType.int), Jvm.Cond.code ({ cls := "com/example/sundew/sundew/KindOfVariablePinLaw", name := "drawn", desc := "(IJI)C" } : Jvm.MethodName) method_4_code (4 : Nat) (Option.some Jvm.ClassFile.FieldType.char), Jvm.Cond.code ({ cls := "com/example/sundew/sundew/KindOfVariablePinLaw", name := "str", desc := "([CI)Ljava/lang/String;" } : Jvm.MethodName) method_6_code (2 : Nat) (Option.some (Jvm.ClassFile.FieldType.object "java/lang/String")), Jvm.Cond.code ({ cls := "java/lang/String", name := "<init>", desc := "([C)V" } : Jvm.MethodName) jdk_42_method_3_code (2 : Nat) (Option.none : Option Jvm.ClassFile.FieldType), Jvm.Cond.code ({ cls := "java/lang/String", name := "<init>", desc := "([CIILjava/lang/Void;)V" } : Jvm.MethodName) jdk_42_method_149_code (6 : Nat) (Option.none : Option Jvm.ClassFile.FieldType), Jvm.Cond.code ({ cls := "java/lang/Object", name := "<init>", desc := "()V" } : Jvm.MethodName) object_method_1_code (1 : Nat) (Option.none : Option Jvm.ClassFile.FieldType), Jvm.Cond.code ({ cls := "java/lang/StringUTF16", name := "compress", desc := "([CII)[B" } : Jvm.MethodName) jdk_52_method_16_code (6 : Nat) (Option.some (Jvm.ClassFile.FieldType.array Jvm.ClassFile.FieldType.byte)), Jvm.Cond.code ({ cls := "java/lang/StringUTF16", name := "compress", desc := "([CI[BII)I" } : Jvm.MethodName) jdk_52_method_21_code (7 : Nat) (Option.some Jvm.ClassFile.FieldType.int), Jvm.Cond.code ({ cls := "java/lang/StringUTF16", name := "coderFromArrayLen", desc := "([BI)B" } : Jvm.MethodName) jdk_52_method_15_code (2 : Nat) (Option.some Jvm.ClassFile.FieldType.byte), Jvm.Cond.code ({ cls := "com/example/sundew/sundew/KindOfVariablePinLaw", name := "expected", desc := "(Ljava/lang/String;)I" } : Jvm.MethodName) method_3_code (1 : Nat) (Option.some Jvm.ClassFile.FieldType.int), Jvm.Cond.code ({ cls := "java/lang/String", name := "equals", desc := "(Ljava/lang/Object;)Z" } : Jvm.MethodName) jdk_42_method_66_code (3 : Nat) (Option.some Jvm.ClassFile.FieldType.boolean), Jvm.Cond.code ({ cls := "java/lang/StringLatin1", name := "equals", desc := "([B[B)Z" } : Jvm.MethodName) jdk_43_method_13_code (3 : Nat) (Option.some Jvm.ClassFile.FieldType.boolean), Jvm.Cond.code ({ cls := "com/example/sundew/sundew/Holder$Kind", name := "ofVariable", desc := "(Ljava/lang/String;)Ljava/util/Optional;" } : Jvm.MethodName) prog_11_method_6_code (6 : Nat) (Option.some (Jvm.ClassFile.FieldType.object "java/util/Optional")), Jvm.Cond.code ({ cls := "java/util/Optional", name := "empty", desc := "()Ljava/util/Optional;" } : Jvm.MethodName) jdk_32_method_1_code (1 : Nat) (Option.some (Jvm.ClassFile.FieldType.object "java/util/Optional")), Jvm.Cond.code ({ cls := "com/example/sundew/sundew/Holder$Kind", name := "values", desc := "()[Lcom/example/sundew/sundew/Holder$Kind;" } : Jvm.MethodName) prog_11_method_1_code (0 : Nat) (Option.some (Jvm.ClassFile.FieldType.array (Jvm.ClassFile.FieldType.object "com/example/sundew/sundew/Holder$Kind"))), Jvm.Cond.code ({ cls := "java/util/Optional", name := "of", desc := "(Ljava/lang/Object;)Ljava/util/Optional;" } : Jvm.MethodName) jdk_32_method_3_code (1 : Nat) (Option.some (Jvm.ClassFile.FieldType.object "java/util/Optional")), Jvm.Cond.code ({ cls := "java/util/Objects", name := "requireNonNull", desc := "(Ljava/lang/Object;)Ljava/lang/Object;" } : Jvm.MethodName) jdk_31_method_10_code (1 : Nat) (Option.some (Jvm.ClassFile.FieldType.object "java/lang/Object")), Jvm.Cond.code ({ cls := "java/util/Optional", name := "<init>", desc := "(Ljava/lang/Object;)V" } : Jvm.MethodName) jdk_32_method_2_code (2 : Nat) (Option.none : Option Jvm.ClassFile.FieldType), Jvm.Cond.code ({ cls := "java/util/Optional", name := "isPresent", desc := "()Z" } : Jvm.MethodName) jdk_32_method_6_code (1 : Nat) (Option.some Jvm.ClassFile.FieldType.boolean), Jvm.Cond.code ({ cls := "java/util/Optional", name := "get", desc := "()Ljava/lang/Object;" } : Jvm.MethodName) jdk_32_method_5_code (1 : Nat) (Option.some (Jvm.ClassFile.FieldType.object "java/lang/Object"))]
set_option maxRecDepth 65536 in
theorem codes_eq : words1.filter isCode = codes1 := rfl
theorem w_codes : ∀ c ∈ words1.filter isCode, c.before args0 about1 = true := by
  rw [codes_eq]
  intro c hc
  simp only [codes1, List.mem_cons, List.not_mem_nil, or_false] at hc
  rcases hc with rfl | rfl | rfl | rfl | rfl | rfl | rfl | rfl | rfl | rfl | rfl | rfl | rfl | rfl | rfl | rfl | rfl | rfl | rfl | rfl | rfl | rfl | rfl | rfl | rfl | rfl | rfl | rfl
  · exact w_c0
  · exact w_c1
  · exact w_c2
  · exact w_c3
  · exact w_c4
  · exact w_c5
  · exact w_c6
  · exact w_c7
  · exact w_c8
  · exact w_c9
  · exact w_c10
  · exact w_c11
  · exact w_c12
  · exact w_c13
  · exact w_c14
  · exact w_c15
  · exact w_c16
  · exact w_c17
  · exact w_c18
  · exact w_c19
  · exact w_c20
  · exact w_c21
  · exact w_c22
  · exact w_c23
  · exact w_c24
  · exact w_c25
  · exact w_c26
  · exact w_c27
set_option maxRecDepth 65536 in
theorem w_t1 : (words1.take 24).all (fun c => isCode c || c.before args0 about1) = true := by decide +kernel
set_option maxRecDepth 65536 in
theorem w_t2 : ((words1.drop 24).take 24).all (fun c => isCode c || c.before args0 about1) = true := by decide +kernel
set_option maxRecDepth 65536 in
theorem w_t3 : (((words1.drop 24).drop 24).take 24).all (fun c => isCode c || c.before args0 about1) = true := by decide +kernel
set_option maxRecDepth 65536 in
theorem w_t4 : ((((words1.drop 24).drop 24).drop 24).take 24).all (fun c => isCode c || c.before args0 about1) = true := by decide +kernel
set_option maxRecDepth 65536 in
theorem w_t5 : (((((words1.drop 24).drop 24).drop 24).drop 24).take 24).all (fun c => isCode c || c.before args0 about1) = true := by decide +kernel
set_option maxRecDepth 65536 in
theorem w_t6 : ((((((words1.drop 24).drop 24).drop 24).drop 24).drop 24).take 24).all (fun c => isCode c || c.before args0 about1) = true := by decide +kernel
set_option maxRecDepth 65536 in
theorem w_t7 : ((((((words1.drop 24).drop 24).drop 24).drop 24).drop 24).drop 24).all (fun c => isCode c || c.before args0 about1) = true := by decide +kernel
theorem w_tables : (allAtoms (Jvm.Cond.code x code maxLocals ret :: tables_1)).before args0 about1 = true := by
  rw [allAtoms_all]
  show words1.all (fun c => c.before args0 about1) = true
  refine all_split ?_ w_codes
  rw [← List.take_append_drop 24 words1, List.all_append, w_t1, ← List.take_append_drop 24 (words1.drop 24), List.all_append, w_t2, ← List.take_append_drop 24 ((words1.drop 24).drop 24), List.all_append, w_t3, ← List.take_append_drop 24 (((words1.drop 24).drop 24).drop 24), List.all_append, w_t4, ← List.take_append_drop 24 ((((words1.drop 24).drop 24).drop 24).drop 24), List.all_append, w_t5, ← List.take_append_drop 24 (((((words1.drop 24).drop 24).drop 24).drop 24).drop 24), List.all_append, w_t6, w_t7]
  rfl
set_option maxRecDepth 65536 in
theorem w_rest : rest_1_c.before args0 about1 = true := by decide +kernel
set_option maxRecDepth 65536 in
theorem w_case : (Jvm.Cond.and given_1 narrow_1).before args0 about1 = true := by decide +kernel
set_option maxRecDepth 65536 in
theorem w_consts : constsHeld consts_1 about1 := Jvm.Lit.constsHeldB_iff.mp (by decide +kernel)
theorem w_applies : (headSpec (Jvm.Cond.code x code maxLocals ret :: tables_1) room_1).applies x e0.platform about1 = true :=
  (Spec.applies_iff w_frames).mpr ⟨w_running, w_runnable, w_alone, w_named, w_hears, w_ripe, w_room, w_tables⟩
theorem atStart : AtStart classFile x code maxLocals ret World_1 tables_1 room_1 Calls_1 rest_1 Pre_1 launch0 p0 e0 about1 theMethod args0 below0 :=
  ⟨lists_1, trivial, launch0.admits_env _ _ _, launch0.least_env, fairChoices_fair.cas, fairChoices_fair.clock, w_frames, w_args, w_heap, w_applies, ⟨w_consts, trivial⟩, w_rest, w_case⟩
end start1
theorem witness_1 : WitnessClaimed_1 := ⟨start1.p0, start1.e0, start1.about1, start1.theMethod, start1.args0, start1.below0, start1.atStart⟩
end Jvm.Pilot.@@N@@
