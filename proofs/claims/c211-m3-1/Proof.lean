import JvmDerived
import JvmDerived.Pilot.@@N@@Statement
import JvmDerived.Pilot.@@N@@Code
set_option linter.unusedVariables false
set_option linter.unusedSimpArgs false
namespace Jvm.Own
open Sem ClassFile Op Lib Bundle Jvm.Stand Jvm.Free Jvm.LawKit Jvm.RoadKit
/-! A small calculus of weakest conditions over the library's walks: 'Go' says that from here the body comes to its end with Q; each rule goes back over one instruction. -/
/-- what is kept up at every point: the constants of EL say their texts; the cells of the start stand; the cells in ws are new and no constant's -/
def Inv (Z : State) (EL : List (String × Nat)) (ws : List Addr) (vm : Vm) (h : Heap) : Prop :=
  CHv Z EL vm h ∧ Ext Z.heap h ∧ ∀ x ∈ ws, Z.heap.size ≤ x ∧ x < h.size ∧ Safe Z EL vm h x
section Facts
variable {Z : State} {a0 : Array Value} {EL : List (String × Nat)} {ws ws' : List Addr} {vm vm1 : Vm} {h h' : Heap} {a : Addr} {sl : Nat} {v : Value}
theorem Inv.ext (I : Inv Z EL ws vm h) (E : Ext h h') : Inv Z EL ws vm h' :=
  ⟨I.1.ext E, ⟨Nat.le_trans I.2.1.1 E.1, fun x c q => E.2 x c (I.2.1.2 x c q)⟩, fun x hx => ⟨(I.2.2 x hx).1, Nat.lt_of_lt_of_le (I.2.2 x hx).2.1 E.1, Safe.ext E I.1 (I.2.2 x hx).2.2⟩⟩
theorem Inv.new (I : Inv Z EL ws vm h) (E : Ext h h') (ha : a = h.size) (hl : a < h'.size) : Inv Z EL (a :: ws) vm h' :=
  ⟨(I.ext E).1, (I.ext E).2.1, fun x hx => by
    rcases List.mem_cons.mp hx with rfl | hx
    · exact ⟨by rw [ha]; exact I.2.1.1, hl, Safe.ext E I.1 (Safe.new (Nat.le_of_eq ha.symm))⟩
    · exact (I.ext E).2.2 x hx⟩
theorem Inv.wr (I : Inv Z EL ws vm h) (W : Wr h h' a sl v) (ha : a ∈ ws) : Inv Z EL ws vm h' :=
  have S := (I.2.2 a ha).2.2
  ⟨I.1.wr W S, (Old.wr (n0 := Z.heap.size) ⟨rfl, I.2.1⟩ W (I.2.2 a ha).1).2, fun x hx => ⟨(I.2.2 x hx).1, by rw [W.size]; exact (I.2.2 x hx).2.1, Safe.wr W S I.1 (I.2.2 x hx).2.2⟩⟩
theorem Inv.keep {xs : List Addr} (I : Inv Z EL ws vm h) (K : Keep h h' xs) (hs : ∀ x ∈ xs, x ∈ ws) : Inv Z EL ws vm h' :=
  have S : ∀ x ∈ xs, Safe Z EL vm h x := fun x hx => (I.2.2 x (hs x hx)).2.2
  ⟨I.1.keep K S, (Old.keep (n0 := Z.heap.size) ⟨rfl, I.2.1⟩ K fun x hx => (I.2.2 x (hs x hx)).1).2, fun x hx => ⟨(I.2.2 x hx).1, Nat.lt_of_lt_of_le (I.2.2 x hx).2.1 K.1, Safe.keep K S I.1 (I.2.2 x hx).2.2⟩⟩
theorem Inv.sub (I : Inv Z EL ws vm h) (hs : ∀ x ∈ ws', x ∈ ws) : Inv Z EL ws' vm h := ⟨I.1, I.2.1, fun x hx => I.2.2 x (hs x hx)⟩
/-- behind an end: what was writable is writable still, and what the end says besides -/
theorem Inv.later (I : Inv Z EL ws vm h) (C : CHr Z EL vm h vm1 h') (J : Inv Z EL ws' vm1 h') : Inv Z EL (ws' ++ ws) vm1 h' :=
  ⟨C.1, J.2.1, fun x hx => (List.mem_append.mp hx).elim (J.2.2 x) fun q => ⟨(I.2.2 x q).1, Nat.lt_of_lt_of_le (I.2.2 x q).2.1 C.2.1, C.safe (I.2.2 x q).2.1 (I.2.2 x q).2.2⟩⟩
theorem Inv.moved (I : Inv Z EL ws vm h) (C : CHr Z EL vm h vm1 h) : Inv Z EL ws vm1 h :=
  ⟨C.1, I.2.1, fun x q => ⟨(I.2.2 x q).1, (I.2.2 x q).2.1, C.safe (I.2.2 x q).2.1 (I.2.2 x q).2.2⟩⟩
theorem Inv.ld (I : Inv Z EL ws vm h) (C : CHr Z EL vm h vm1 h') (E : Ext h h') : Inv Z EL ws vm1 h' :=
  ⟨C.1, (I.ext E).2.1, fun x q => ⟨(I.2.2 x q).1, Nat.lt_of_lt_of_le (I.2.2 x q).2.1 C.2.1, C.safe (I.2.2 x q).2.1 (I.2.2 x q).2.2⟩⟩
end Facts
/-- what a body's walk may lean on, all along -/
def Cst (p : Program) (meth : Method) (c : Code) (Z : State) (a0 : Array Value) (EL : List (String × Nat)) (bytes : ByteArray) (maxL : Nat) (ret : Option FieldType) (nm : String) : Prop :=
  p.tables.exec = Jvm.exec ∧ c.code = bytes ∧ c.maxLocals = maxL ∧ meth.sig.returnType = ret ∧ meth.locks = false ∧ meth.name = nm ∧ EW Z a0 EL
/-- the walk stands at T -/
def Pos (p : Program) (l : Launch) (e : Env) (R : Room) (s : State) (m : MethodId) (args : Array Value) (below : List Frame) (meth : Method) (c : Code) (Z : State) (EL : List (String × Nat)) (own : String) (ws : List Addr) (h : Heap) (cells slots : Nat) (T : State) : Prop :=
  ∃ (vm0 : Vm) (k0 : Nat) (locs : List Loc), Stand p l e R (s.setVm vm0) m args below meth c T locs cells slots ∧ T.heap = h ∧ s.Since vm0 k0 ∧ k0 ≤ h.size ∧ Z.Warmed39 vm0 ∧ vm0.findClass own = some m.cls ∧ Fr Z.heap.size locs ∧ Inv Z EL ws vm0 h ∧ CHr Z EL s.vm s.heap vm0 h ∧ cells ≤ R.cells ∧ slots ≤ R.slots
/-- the body has come to its end -/
def Done (s : State) (below : List Frame) (R : Room) (Z : State) (EL : List (String × Nat)) (Q : Option Value → Heap → List Addr → Prop) (u : State) : Prop :=
  u.status = .running ∧ ∃ (v : Option Value) (L : List Loc) (ws' : List Addr), Ended u below (.returned v) ∧ Q v u.heap ws' ∧ Fr Z.heap.size L ∧ Inv Z EL ws' u.vm u.heap ∧ CHr Z EL s.vm s.heap u.vm u.heap ∧ ReturnedEndW s (.returned v) u L R.cells R.slots
def Go (p : Program) (l : Launch) (e : Env) (R : Room) (s : State) (m : MethodId) (args : Array Value) (below : List Frame) (meth : Method) (c : Code) (Z : State) (a0 : Array Value) (EL : List (String × Nat)) (own : String) (bytes : ByteArray) (maxL : Nat) (ret : Option FieldType) (nm : String)
    (ws : List Addr) (h : Heap) (cells slots : Nat) (pc : Nat) (Ls : Array Slot) (st : List Value) (Q : Option Value → Heap → List Addr → Prop) : Prop :=
  Cst p meth c Z a0 EL bytes maxL ret nm → ∀ T : State, Pos p l e R s m args below meth c Z EL own ws h cells slots T → ∃ u, Steps p.tables e below (T.setTop (mkF m pc Ls st)) u ∧ Done s below R Z EL Q u
/-- a method's contract: for these arguments, over the heap h, ws writable: it returns, with Q -/
def Con (l : Launch) (Z : State) (EL : List (String × Nat)) (y : MethodName) (bytes : ByteArray) (maxL : Nat) (ret : Option FieldType) (cs : List Cond) (rm : Room) (as' : Array Value) (h : Heap) (ws : List Addr) (Q : Option Value → Heap → List Addr → Prop) : Prop :=
  MetFree l y (head1 (Cond.code y bytes maxL ret :: cs) rm) (fun a U => a = as' ∧ Z.Warmed39 U.vm ∧ U.heap = h ∧ Inv Z EL ws U.vm h) (fun _ _ _ _ _ => True)
    (fun _ U o U' => ∃ (v : Option Value) (L : List Loc) (ws' : List Addr), o = .returned v ∧ Q v U'.heap ws' ∧ Fr Z.heap.size L ∧ Inv Z EL ws' U'.vm U'.heap ∧ CHr Z EL U.vm U.heap U'.vm U'.heap ∧ ReturnedEndW U o U' L rm.cells rm.slots)
section Rules
variable {p : Program} {l : Launch} {e : Env} {R : Room} {s : State} {m : MethodId} {args : Array Value} {below : List Frame} {meth : Method} {c : Code} {Z : State} {a0 : Array Value} {EL : List (String × Nat)} {own : String} {bytes : ByteArray} {maxL : Nat} {ret : Option FieldType} {nm : String}
  {ws : List Addr} {h : Heap} {cells slots : Nat} {pc pc' : Nat} {Ls Ls' : Array Slot} {st st' rest : List Value} {Q Q' : Option Value → Heap → List Addr → Prop}
theorem con_of {y : MethodName} {rm : Room} {as' : Array Value} {cs : List Cond} (hn : plainFor y = true) (hEL : EW Z a0 EL) (hef : ∀ m, entryFrame m as' maxL = mkF m 0 Ls [])
    (go : ∀ p e s m below meth c, Go p l e rm s m as' below meth c Z a0 EL y.cls bytes maxL ret y.name ws h 0 0 0 Ls [] Q) : Con l Z EL y bytes maxL ret cs rm as' h ws Q := by
  refine MetFree.of_bodySF hn hisR ?_
  intro p e s m args below meth c s₁ Bd hml hP hK
  obtain ⟨rfl, hZ, hh, I⟩ := hP
  have X0 : Stand p l e rm s m args below meth c s₁ [] 0 0 := Stand.of_body Bd
  have e0 : s₁.heap = h := by rw [← hh, Bd.state]; rfl
  obtain ⟨u, S2, hrun, v, L, ws', hend, q, N, I2, C, W⟩ := go p e s m below meth c ⟨Bd.exec, Bd.bytes, hml, Bd.returns, Bd.notSynchronized, (name_of_methodNamed Bd.named Bd.method).1, hEL⟩ s₁
    ⟨s.vm, 0, [], X0, e0, (State.WarmedH.refl s).since _, Nat.zero_le _, hZ, findClass_of_methodNamed Bd.named, Fr.nil _, I, by rw [hh]; exact CHr.refl I.1, Nat.zero_le _, Nat.zero_le _⟩
  exact ⟨u, _, castTop (hef m) S2, hrun, hend, v, L, ws', rfl, q, N, I2, C, W⟩
theorem Con.mono {y : MethodName} {rm : Room} {as' : Array Value} {cs : List Cond} (K : Con l Z EL y bytes maxL ret cs rm as' h ws Q) (hq : ∀ v h ws, Q v h ws → Q' v h ws) : Con l Z EL y bytes maxL ret cs rm as' h ws Q' := by
  intro p e h1 h2 h3 s m args below hf ha hP hK
  obtain ⟨n, o, g1, g2, g3, v, L, ws', e1, q, r⟩ := K p e h1 h2 h3 s m args below hf ha hP hK
  exact ⟨n, o, g1, g2, g3, v, L, ws', e1, hq _ _ _ q, r⟩
/-- the payer of a call -/
theorem backC {vm0 : Vm} {y : MethodName} {bY : ByteArray} {mY : Nat} {rY : Option FieldType} {rm : Room} {len W : Nat} {as' : Array Value} {ws0 : List Addr} (hM : Con l Z EL y bY mY rY [] rm as' h ws0 Q)
    (hZ : Z.Warmed39 vm0) (wc : (Cond.code y bY mY rY).before a0 Z = true) (wz : (Cond.initialized y.cls).before a0 Z = true) (hf : rm.frames + 1 ≤ R.frames) (hl : W + (mY + 11) + rm.locals ≤ R.locals) (hEL : EW Z a0 EL) (I : Inv Z EL ws vm0 h) (hs : ∀ x ∈ ws0, x ∈ ws) :
    BackS l R p e below (s.setVm vm0) args y len W (fun A a => a = as' ∧ A.U.heap = h ∧ A.cells + rm.cells ≤ R.cells ∧ A.slots + rm.slots ≤ R.slots)
      (fun A _ v B => ∃ (L : List Loc) (ws' : List Addr), Q v B.U.heap ws' ∧ Fr Z.heap.size L ∧ B.locs = A.locs ++ L ∧ B.cells = A.cells + rm.cells ∧ B.slots = A.slots + rm.slots ∧ CHr Z EL vm0 h B.U.vm B.U.heap ∧ Inv Z EL (ws' ++ ws) B.U.vm B.U.heap) :=
  BackS.of_freeW (bytes := bY) (maxL := mY) (ret := rY) (E := fun _ first o t L k n => k = rm.cells ∧ n = rm.slots ∧ ∃ (v : Option Value) (ws' : List Addr), o = .returned v ∧ Q v t.heap ws' ∧ Fr Z.heap.size L ∧ Inv Z EL ws' t.vm t.heap ∧ CHr Z EL first.vm first.heap t.vm t.heap) hM hf hl
    (fun m meth c A a Y hp => have hU : Z.Warmed39 A.U.vm := wtrans (s := s.setVm vm0) hZ Y.warmed
      ⟨by show (Cond.and _ .tt).before a A.U = true; rw [Cond.before_and, mv hU wc]; rfl, mv hU wc, mv hU wz, hp.2.2.1, hp.2.2.2⟩)
    (fun m meth c A a g mk Y hp => ⟨hp.1, wtrans (s := s.setVm vm0) hZ Y.warmed, hp.2.1, show Inv Z EL ws0 A.U.vm h from (I.sub hs).moved (CHv.at Y hZ hEL I.1)⟩) (fun _ _ _ _ _ _ _ _ _ => trivial)
    (fun _ _ _ _ ⟨v, L, ws', h1, h2, h3, h4, h5, h6⟩ => ⟨L, _, _, h6, rfl, rfl, v, ws', h1, h2, h3, h4, h5⟩)
    (fun m meth c A a g mk v t L k n Y hp _ _ ⟨e1, e2, v', ws', e3, e4, e5, e6, e7⟩ => by
      cases e3; subst e1 e2
      have C : CHr Z EL vm0 h t.vm t.heap := (CHv.at Y hZ hEL I.1).trans (by rw [← hp.2.1]; exact e7)
      exact ⟨L, ws', e4, e5, rfl, rfl, rfl, C, I.later C e6⟩)
theorem go_step (hs : p.tables.exec = Jvm.exec → c.code = bytes → ∀ T : State, At T m c below → ∀ t, Steps p.tables e below (T.setTop (mkF m pc' Ls' st')) t → Steps p.tables e below (T.setTop (mkF m pc Ls st)) t)
    (n : Go p l e R s m args below meth c Z a0 EL own bytes maxL ret nm ws h cells slots pc' Ls' st' Q) : Go p l e R s m args below meth c Z a0 EL own bytes maxL ret nm ws h cells slots pc Ls st Q := fun K T P => by
  obtain ⟨u, S, E⟩ := n K T P
  obtain ⟨vm0, k0, locs, X, -⟩ := P
  exact ⟨u, hs K.1 K.2.1 T X.here _ S, E⟩
theorem go_mono (hq : ∀ v h ws, Q v h ws → Q' v h ws) (n : Go p l e R s m args below meth c Z a0 EL own bytes maxL ret nm ws h cells slots pc Ls st Q) : Go p l e R s m args below meth c Z a0 EL own bytes maxL ret nm ws h cells slots pc Ls st Q' := fun K T P => by
  obtain ⟨u, S, r, v, L, ws', e1, q, x⟩ := n K T P
  exact ⟨u, S, r, v, L, ws', e1, hq _ _ _ q, x⟩
theorem go_old (n : Ext Z.heap h → Go p l e R s m args below meth c Z a0 EL own bytes maxL ret nm ws h cells slots pc Ls st Q) : Go p l e R s m args below meth c Z a0 EL own bytes maxL ret nm ws h cells slots pc Ls st Q := fun K T P => by
  obtain ⟨vm0, k0, locs, X, eT, hS, hk, hZ, hown, N, I, C, r⟩ := id P
  exact n I.2.1 K T P
theorem go_safe (n : (∀ x ∈ ws, Z.heap.size ≤ x ∧ x < h.size) → Go p l e R s m args below meth c Z a0 EL own bytes maxL ret nm ws h cells slots pc Ls st Q) : Go p l e R s m args below meth c Z a0 EL own bytes maxL ret nm ws h cells slots pc Ls st Q := fun K T P => by
  obtain ⟨vm0, k0, locs, X, eT, hS, hk, hZ, hown, N, I, C, r⟩ := id P
  exact n (fun x hx => ⟨(I.2.2 x hx).1, (I.2.2 x hx).2.1⟩) K T P
theorem go_room (n : cells ≤ R.cells → slots ≤ R.slots → Go p l e R s m args below meth c Z a0 EL own bytes maxL ret nm ws h cells slots pc Ls st Q) : Go p l e R s m args below meth c Z a0 EL own bytes maxL ret nm ws h cells slots pc Ls st Q := fun K T P => by
  obtain ⟨vm0, k0, locs, X, eT, hS, hk, hZ, hown, N, I, C, r1, r2⟩ := id P
  exact n r1 r2 K T P
/-- fewer writable cells, more made: the same walk -/
theorem go_less {ws' : List Addr} {cells' slots' : Nat} (hs : ∀ x ∈ ws', x ∈ ws) (hc : cells ≤ cells') (hl : slots ≤ slots') (hc' : cells' ≤ R.cells) (hl' : slots' ≤ R.slots) (n : Go p l e R s m args below meth c Z a0 EL own bytes maxL ret nm ws' h cells' slots' pc Ls st Q) :
    Go p l e R s m args below meth c Z a0 EL own bytes maxL ret nm ws h cells slots pc Ls st Q := fun K T P => by
  obtain ⟨vm0, k0, locs, X, eT, hS, hk, hZ, hown, N, I, C, r1, r2⟩ := P
  exact n K T ⟨vm0, k0, locs, X.mono hc hl, eT, hS, hk, hZ, hown, N, I.sub hs, C, hc', hl'⟩
/-! ## returns -/
theorem go_ret {i : Instr} {w : Value} {t : FieldType} (hd : decode bytes pc = .ok (i, 1)) (ht : ret = some t) (hn : narrow t w = w)
    (hi : (i = .ireturn ∧ (t = .int ∨ t = .boolean ∨ t = .byte ∨ t = .char ∨ t = .short) ∧ ∃ z, w = .int z) ∨ (i = .lreturn ∧ t = .long ∧ ∃ z, w = .long z) ∨ (i = .dreturn ∧ t = .double ∧ ∃ z, w = .double z) ∨ (i = .freturn ∧ t = .float ∧ ∃ z, w = .float z) ∨ (i = .areturn ∧ t.isReference = true ∧ w.isRef = true))
    {ws' : List Addr} (hs : ∀ x ∈ ws', x ∈ ws) (q : Q (some w) h ws') : Go p l e R s m args below meth c Z a0 EL own bytes maxL ret nm ws h cells slots pc Ls (w :: rest) Q := fun K T P => by
  obtain ⟨vm0, k0, locs, X, eT, hS, hk, hZ, hown, N, I, C, r1, r2⟩ := P
  obtain ⟨hx, hby, hml, hrt, hlk, hnm, hEL⟩ := K
  obtain ⟨fs, hr, hrun, hended, hW⟩ := X.leaveW hS (by rw [eT]; exact hk) (v := some w) (fun h => by rw [hrt, ht] at h; cases h) hlk
  have D := CHv.at X hZ hEL I.1
  refine ⟨T.setFrames fs, retOut X hx (hrt.trans ht) hn hi (hb hby hd) hr, hrun, some w, locs, ws', hended, ?_, N, ?_, ?_, hW.1, hW.2.1, hW.2.2.1, hW.2.2.2.mono r1 r2⟩
  · show Q (some w) T.heap ws'; rw [eT]; exact q
  · show Inv Z EL ws' T.vm T.heap; rw [eT]; exact (I.sub hs).moved D
  · show CHr Z EL s.vm s.heap T.vm T.heap; rw [eT]; exact C.trans D
theorem go_ireturn {z : Int32} {t : FieldType} (hd : decode bytes pc = .ok (.ireturn, 1)) (ht : ret = some t) (ht' : t = .int ∨ t = .boolean ∨ t = .byte ∨ t = .char ∨ t = .short) (hn : narrow t (.int z) = .int z) {ws' : List Addr} (hs : ∀ x ∈ ws', x ∈ ws) (q : Q (some (.int z)) h ws') :
    Go p l e R s m args below meth c Z a0 EL own bytes maxL ret nm ws h cells slots pc Ls (.int z :: rest) Q := go_ret hd ht hn (Or.inl ⟨rfl, ht', z, rfl⟩) hs q
theorem go_areturn {w : Value} {t : FieldType} (hd : decode bytes pc = .ok (.areturn, 1)) (ht : ret = some t) (ht' : t.isReference = true) (hw : w.isRef = true) {ws' : List Addr} (hs : ∀ x ∈ ws', x ∈ ws) (q : Q (some w) h ws') :
    Go p l e R s m args below meth c Z a0 EL own bytes maxL ret nm ws h cells slots pc Ls (w :: rest) Q := go_ret hd ht (by cases t <;> first | (cases ht'; done) | (cases w <;> first | rfl | (cases hw; done))) (Or.inr (Or.inr (Or.inr (Or.inr ⟨rfl, ht', hw⟩)))) hs q
theorem go_return (hd : decode bytes pc = .ok (.return_, 1)) (ht : ret = none) {ws' : List Addr} (hs : ∀ x ∈ ws', x ∈ ws) (q : Q none h ws') : Go p l e R s m args below meth c Z a0 EL own bytes maxL ret nm ws h cells slots pc Ls [] Q := fun K T P => by
  obtain ⟨vm0, k0, locs, X, eT, hS, hk, hZ, hown, N, I, C, r1, r2⟩ := P
  obtain ⟨hx, hby, hml, hrt, hlk, hnm, hEL⟩ := K
  obtain ⟨fs, hr, hrun, hended, hW⟩ := X.leaveW hS (by rw [eT]; exact hk) (v := none) (fun _ => rfl) hlk
  have D := CHv.at X hZ hEL I.1
  refine ⟨T.setFrames fs, X.returnOut hx (hrt.trans ht) (hb hby hd) hr, hrun, none, locs, ws', hended, ?_, N, ?_, ?_, hW.1, hW.2.1, hW.2.2.1, hW.2.2.2.mono r1 r2⟩
  · show Q none T.heap ws'; rw [eT]; exact q
  · show Inv Z EL ws' T.vm T.heap; rw [eT]; exact (I.sub hs).moved D
  · show CHr Z EL s.vm s.heap T.vm T.heap; rw [eT]; exact C.trans D
/-! ## fields, statics -/
theorem go_getstatic {R0 O n d : String} {idx : Nat} {v : Value} (hd : decode bytes pc = .ok (.getstatic idx, 3)) (w : (Cond.fieldLink own idx R0 n d).before a0 Z = true) (via : Via Z R0 O n d) (F : Sta Z Z.heap O n d v) (hp : pc + 3 = pc')
    (nx : Go p l e R s m args below meth c Z a0 EL own bytes maxL ret nm ws h cells slots pc' Ls (v :: st) Q) : Go p l e R s m args below meth c Z a0 EL own bytes maxL ret nm ws h cells slots pc Ls st Q := fun K T P => by
  obtain ⟨vm0, k0, locs, X, eT, hS, hk, hZ, hown, N, I, C, r⟩ := P
  obtain ⟨T', X', e', stp⟩ := getS (host := "") X K.1 hZ hown w via eT (F.ext I.2.1) (g := mkF m pc Ls st) rfl (hb K.2.1 hd)
  subst hp
  obtain ⟨u, S2, E⟩ := nx K T' ⟨vm0, k0, locs, X', e', hS, hk, hZ, hown, N, I, C, r⟩
  exact ⟨u, stp _ S2, E⟩
theorem go_getstaticN {R0 O n d host : String} {idx : Nat} {v : Value} (hd : decode bytes pc = .ok (.getstatic idx, 3)) (w : (Cond.fieldLinkNest own idx R0 n d host).before a0 Z = true) (via : Via Z R0 O n d) (F : Sta Z Z.heap O n d v) (hp : pc + 3 = pc')
    (nx : Go p l e R s m args below meth c Z a0 EL own bytes maxL ret nm ws h cells slots pc' Ls (v :: st) Q) : Go p l e R s m args below meth c Z a0 EL own bytes maxL ret nm ws h cells slots pc Ls st Q := fun K T P => by
  obtain ⟨vm0, k0, locs, X, eT, hS, hk, hZ, hown, N, I, C, r⟩ := P
  obtain ⟨T', X', e', stp⟩ := getS2 X K.1 hZ hown (Or.inr w) via eT (F.ext I.2.1) (g := mkF m pc Ls st) rfl (hb K.2.1 hd)
  subst hp
  obtain ⟨u, S2, E⟩ := nx K T' ⟨vm0, k0, locs, X', e', hS, hk, hZ, hown, N, I, C, r⟩
  exact ⟨u, stp _ S2, E⟩
theorem go_getfield {R0 O n d host : String} {idx : Nat} {a : Addr} {v : Value} (hd : decode bytes pc = .ok (.getfield idx, 3)) (w : (Cond.fieldLink own idx R0 n d).before a0 Z = true ∨ (Cond.fieldLinkNest own idx R0 n d host).before a0 Z = true) (via : Via Z R0 O n d) (F : Fld Z h a O n d v) (hp : pc + 3 = pc')
    (nx : Go p l e R s m args below meth c Z a0 EL own bytes maxL ret nm ws h cells slots pc' Ls (v :: rest) Q) : Go p l e R s m args below meth c Z a0 EL own bytes maxL ret nm ws h cells slots pc Ls (.ref a :: rest) Q := fun K T P => by
  obtain ⟨vm0, k0, locs, X, eT, hS, hk, hZ, hown, N, I, C, r⟩ := P
  obtain ⟨T', X', e', stp⟩ := getF X K.1 hZ hown w via eT F (g := mkF m pc Ls (.ref a :: rest)) rfl rfl (hb K.2.1 hd)
  subst hp
  obtain ⟨u, S2, E⟩ := nx K T' ⟨vm0, k0, locs, X', e', hS, hk, hZ, hown, N, I, C, r⟩
  exact ⟨u, stp _ S2, E⟩
/-- a store into a field of a new object; of the narrow kinds too -/
theorem go_putfield {R0 O n d C0 : String} {idx kk : Nat} {a : Addr} {v v' old : Value} {ty : FieldType} (hd : decode bytes pc = .ok (.putfield idx, 3)) (w : (Cond.fieldLink own idx R0 n d).before a0 Z = true) (via : Via Z R0 O n d) (F : Fld Z h a O n d old) (E : Exa Z h a C0)
    (L : (Cond.lays C0 O n d).before a0 Z = true ∨ ((Cond.laysFinal C0 O n d).before a0 Z = true ∧ own = O ∧ nm = "<init>")) (wi : (Cond.instantiable C0 kk).before a0 Z = true) (hty : parseFieldDescriptor d = some ty) (hn : narrow ty v = v') (hf : fits ty v' = true) (ha : a ∈ ws) (hp : pc + 3 = pc')
    (nx : ∀ h', Wr h h' a (Jvm.RoadKit.slotOf Z O n d) v' → Go p l e R s m args below meth c Z a0 EL own bytes maxL ret nm ws h' cells slots pc' Ls rest Q) : Go p l e R s m args below meth c Z a0 EL own bytes maxL ret nm ws h cells slots pc Ls (v :: .ref a :: rest) Q := fun K T P => by
  obtain ⟨vm0, k0, locs, X, eT, hS, hk, hZ, hown, N, I, C, r⟩ := P
  obtain ⟨T', h', X', e', W, stp⟩ := putFN X K.1 hZ hown w via eT F E (L.imp id fun q => ⟨q.1, q.2.1, K.2.2.2.2.2.1.trans q.2.2⟩) wi hty hn hf (g := mkF m pc Ls (v :: .ref a :: rest)) rfl rfl (hb K.2.1 hd)
  subst hp
  obtain ⟨u, S2, E⟩ := nx h' W K T' ⟨vm0, k0, _, X', e', hS, by rw [W.size]; exact hk, hZ, hown, Fr.snoc X' N (I.2.2 a ha).1, I.wr W ha, C.trans (CHr.wr W (I.2.2 a ha).2.2 I.1), r⟩
  exact ⟨u, stp _ S2, E⟩
/-! ## new objects and arrays -/
theorem go_new {C0 : String} {idx k : Nat} (hd : decode bytes pc = .ok (.new idx, 3)) (w : (Cond.classLink own idx C0).before a0 Z = true) (wi : (Cond.instantiable C0 k).before a0 Z = true) (wz : (Cond.initialized C0).before a0 Z = true) (hc : cells + 1 ≤ R.cells) (hl : slots + k ≤ R.slots) (hp : pc + 3 = pc')
    (nx : ∀ h' a, a = h.size → Ext h h' → Exa Z h' a C0 → (∀ {O n d : String} {ty : FieldType}, Laid Z a0 C0 O n d → parseFieldDescriptor d = some ty → Fld Z h' a O n d (defaultValue ty)) → Go p l e R s m args below meth c Z a0 EL own bytes maxL ret nm (a :: ws) h' (cells + 1) (slots + k) pc' Ls (.ref a :: st) Q) :
    Go p l e R s m args below meth c Z a0 EL own bytes maxL ret nm ws h cells slots pc Ls st Q := fun K T P => by
  obtain ⟨vm0, k0, locs, X, eT, hS, hk, hZ, hown, N, I, C, r⟩ := P
  obtain ⟨T', h', X', e', E', A', D', -, stp⟩ := newO X K.1 hZ hown w wi wz eT (g := mkF m pc Ls st) rfl (hb K.2.1 hd) hc hl
  subst hp
  obtain ⟨u, S2, E⟩ := nx h' h.size rfl E' A' D' K T' ⟨vm0, k0, _, X', e', hS, Nat.le_trans hk E'.1, hZ, hown, N, I.new E' rfl A'.lt, C.trans (CHr.ext E' I.1), hc, hl⟩
  exact ⟨u, stp _ S2, E⟩
theorem go_newarray {aty : ArrayType} {z : Int32} {cap : Nat} (hd : decode bytes pc = .ok (.newarray aty, 2)) (w : (Cond.arrayClass (newarray.typeOf aty)).before a0 Z = true) (hz : ¬ z < 0) (hcap : z.toNatClampNeg ≤ cap) (hb8 : cap * 8 ≤ 536870912) (hc : cells + 1 ≤ R.cells) (hl : slots + cap ≤ R.slots) {ad : String} (had : "[" ++ (newarray.typeOf aty).toString = ad) (hp : pc + 2 = pc')
    (nx : ∀ h' a k, a = h.size → Ext h h' → Arv Z h' a k (newarray.typeOf aty) z [] (defaultValue (newarray.typeOf aty)) → Exa Z h' a ad → Go p l e R s m args below meth c Z a0 EL own bytes maxL ret nm (a :: ws) h' (cells + 1) (slots + cap) pc' Ls (.ref a :: rest) Q) :
    Go p l e R s m args below meth c Z a0 EL own bytes maxL ret nm ws h cells slots pc Ls (.int z :: rest) Q := fun K T P => by
  obtain ⟨vm0, k0, locs, X, eT, hS, hk, hZ, hown, N, I, C, r⟩ := P
  obtain ⟨T', h', k, X', e', E', A', D', stp⟩ := newPE X K.1 hZ w eT (g := mkF m pc Ls (.int z :: rest)) rfl (hb K.2.1 hd) rfl hz hcap hb8 hc hl had
  subst hp
  obtain ⟨u, S2, E⟩ := nx h' h.size k rfl E' (Arv.new A' hz) D' K T' ⟨vm0, k0, _, X', e', hS, Nat.le_trans hk E'.1, hZ, hown, N, I.new E' rfl A'.lt, C.trans (CHr.ext E' I.1), hc, hl⟩
  exact ⟨u, stp _ S2, E⟩
theorem go_anewarray {C0 : String} {idx : Nat} {z : Int32} {cap : Nat} (hd : decode bytes pc = .ok (.anewarray idx, 3)) (w : (Cond.classLink own idx C0).before a0 Z = true) (w2 : (Cond.arrayOver (.object C0)).before a0 Z = true) (hz : ¬ z < 0) (hcap : z.toNatClampNeg ≤ cap) (hb8 : cap * 8 ≤ 536870912) (hc : cells + 1 ≤ R.cells) (hl : slots + cap ≤ R.slots) {ad : String} (had : "[" ++ (FieldType.object C0).toString = ad) (hp : pc + 3 = pc')
    (nx : ∀ h' a k, a = h.size → Ext h h' → Arv Z h' a k (.object C0) z [] .null → Exa Z h' a ad → Ovr Z k C0 → Go p l e R s m args below meth c Z a0 EL own bytes maxL ret nm (a :: ws) h' (cells + 1) (slots + cap) pc' Ls (.ref a :: rest) Q) :
    Go p l e R s m args below meth c Z a0 EL own bytes maxL ret nm ws h cells slots pc Ls (.int z :: rest) Q := fun K T P => by
  obtain ⟨vm0, k0, locs, X, eT, hS, hk, hZ, hown, N, I, C, r⟩ := P
  obtain ⟨T', h', k, X', e', E', A', D', O', stp⟩ := newRE X K.1 hZ hown w w2 eT (g := mkF m pc Ls (.int z :: rest)) rfl (hb K.2.1 hd) rfl hz hcap hb8 hc hl had
  subst hp
  obtain ⟨u, S2, E⟩ := nx h' h.size k rfl E' (Arv.new A' hz) D' O' K T' ⟨vm0, k0, _, X', e', hS, Nat.le_trans hk E'.1, hZ, hown, N, I.new E' rfl A'.lt, C.trans (CHr.ext E' I.1), hc, hl⟩
  exact ⟨u, stp _ S2, E⟩
/-! ## arrays: length, loads, stores -/
theorem go_arraylength {a : Addr} {k : ClassId} {ty : FieldType} {z : Int32} {vs : List Value} {dv : Value} (hd : decode bytes pc = .ok (.arraylength, 1)) (F : Arv Z h a k ty z vs dv) (hp : pc + 1 = pc')
    (nx : Go p l e R s m args below meth c Z a0 EL own bytes maxL ret nm ws h cells slots pc' Ls (.int z :: rest) Q) : Go p l e R s m args below meth c Z a0 EL own bytes maxL ret nm ws h cells slots pc Ls (.ref a :: rest) Q := fun K T P => by
  obtain ⟨u, S2, E⟩ := nx K T P
  obtain ⟨vm0, k0, locs, X, eT, hS, hk, hZ, hown, N, I, C, r⟩ := P
  obtain ⟨cl, A, q1, S, q3, H, G⟩ := F
  subst hp
  refine ⟨u, X.arraylength K.1 (cell := cl) (by rw [eT]; exact A.1) (State.isArrayOf_alike hZ.alike A.2.1) (g := mkF m pc Ls (.ref a :: rest)) rfl rfl (hb K.2.1 hd) _ ?_, E⟩
  rw [len_of S q3]; exact S2
theorem go_caload {a : Addr} {k : ClassId} {z j : Int32} {vs : List Value} {dv v : Value} (hd : decode bytes pc = .ok (.caload, 1)) (F : Arv Z h a k .char z vs dv) (hj : ¬ j < 0 ∧ j < z) (hv : vs.getD j.toNatClampNeg dv = v) (hp : pc + 1 = pc')
    (nx : Go p l e R s m args below meth c Z a0 EL own bytes maxL ret nm ws h cells slots pc' Ls (v :: rest) Q) : Go p l e R s m args below meth c Z a0 EL own bytes maxL ret nm ws h cells slots pc Ls (.int j :: .ref a :: rest) Q := fun K T P => by
  obtain ⟨u, S2, E⟩ := nx K T P
  obtain ⟨vm0, k0, locs, X, eT, hS, hk, hZ, hown, N, I, C, r⟩ := P
  obtain ⟨cl, A, q1, S, q3, H, G⟩ := F
  subst hp
  exact ⟨u, X.caload K.1 (j := j) (v := v) (by rw [eT]; exact A.1) (State.isArrayOf_alike hZ.alike A.2.1) A.2.2 (inb_of S hj) (H.at (inb_of S hj) hv) (g := mkF m pc Ls (.int j :: .ref a :: rest)) rfl rfl (hb K.2.1 hd) _ S2, E⟩
theorem go_baload {a : Addr} {k : ClassId} {z j : Int32} {vs : List Value} {dv v : Value} (hd : decode bytes pc = .ok (.baload, 1)) (F : Arv Z h a k .byte z vs dv) (hj : ¬ j < 0 ∧ j < z) (hv : vs.getD j.toNatClampNeg dv = v) (hp : pc + 1 = pc')
    (nx : Go p l e R s m args below meth c Z a0 EL own bytes maxL ret nm ws h cells slots pc' Ls (v :: rest) Q) : Go p l e R s m args below meth c Z a0 EL own bytes maxL ret nm ws h cells slots pc Ls (.int j :: .ref a :: rest) Q := fun K T P => by
  obtain ⟨u, S2, E⟩ := nx K T P
  obtain ⟨vm0, k0, locs, X, eT, hS, hk, hZ, hown, N, I, C, r⟩ := P
  obtain ⟨cl, A, q1, S, q3, H, G⟩ := F
  subst hp
  exact ⟨u, X.baloadBytes K.1 (j := j) (v := v) (by rw [eT]; exact A.1) (State.isArrayOf_alike hZ.alike A.2.1) A.2.2 (inb_of S hj) (H.at (inb_of S hj) hv) (g := mkF m pc Ls (.int j :: .ref a :: rest)) rfl rfl (hb K.2.1 hd) _ S2, E⟩
theorem go_aaload {a : Addr} {k : ClassId} {ty : FieldType} {z j : Int32} {vs : List Value} {dv v : Value} (hd : decode bytes pc = .ok (.aaload, 1)) (hty : ty.isReference = true) (F : Arv Z h a k ty z vs dv) (hj : ¬ j < 0 ∧ j < z) (hv : vs.getD j.toNatClampNeg dv = v) (hp : pc + 1 = pc')
    (nx : Go p l e R s m args below meth c Z a0 EL own bytes maxL ret nm ws h cells slots pc' Ls (v :: rest) Q) : Go p l e R s m args below meth c Z a0 EL own bytes maxL ret nm ws h cells slots pc Ls (.int j :: .ref a :: rest) Q := fun K T P => by
  obtain ⟨u, S2, E⟩ := nx K T P
  obtain ⟨vm0, k0, locs, X, eT, hS, hk, hZ, hown, N, I, C, r⟩ := P
  obtain ⟨cl, A, q1, S, q3, H, G⟩ := F
  subst hp
  exact ⟨u, X.aaload K.1 (j := j) (v := v) (by rw [eT]; exact A.1) (State.isArrayOf_alike hZ.alike A.2.1) hty A.2.2 (inb_of S hj) (H.at (inb_of S hj) hv) (g := mkF m pc Ls (.int j :: .ref a :: rest)) rfl rfl (hb K.2.1 hd) _ S2, E⟩
/-- a char stored: as the array keeps it -/
theorem go_castore {a : Addr} {k : ClassId} {z j x x' : Int32} {vs : List Value} {dv : Value} (i : Nat) (hd : decode bytes pc = .ok (.castore, 1)) (F : Arv Z h a k .char z vs dv) (hj : ¬ j < 0 ∧ j < z) (hi : j.toNatClampNeg = i) (hl : i < vs.length) (hx' : nar .char x = x') (ha : a ∈ ws) (hp : pc + 1 = pc')
    (nx : ∀ h', Wr h h' a j.toNatClampNeg (.int x') → Arv Z h' a k .char z (vs.set i (.int x')) dv → Go p l e R s m args below meth c Z a0 EL own bytes maxL ret nm ws h' cells slots pc' Ls rest Q) : Go p l e R s m args below meth c Z a0 EL own bytes maxL ret nm ws h cells slots pc Ls (.int x :: .int j :: .ref a :: rest) Q := fun K T P => by
  obtain ⟨vm0, k0, locs, X, eT, hS, hk, hZ, hown, N, I, C, r⟩ := P
  obtain ⟨cl, A, q1, S, q3, H, G⟩ := F
  obtain ⟨T', h', X', e', W, stp⟩ := stC X K.1 hZ eT A (inb_of S hj) (g := mkF m pc Ls (.int x :: .int j :: .ref a :: rest)) rfl rfl (hb K.2.1 hd)
  subst hp hx'
  obtain ⟨u, S2, E⟩ := nx h' W (Arv.set A q1 S q3 H G (fits_nar_char _) W i hi hl) K T' ⟨vm0, k0, _, X', e', hS, by rw [W.size]; exact hk, hZ, hown, Fr.snoc X' N (I.2.2 a ha).1, I.wr W ha, C.trans (CHr.wr W (I.2.2 a ha).2.2 I.1), r⟩
  exact ⟨u, stp _ S2, E⟩
theorem go_bastore {a : Addr} {k : ClassId} {z j x x' : Int32} {vs : List Value} {dv : Value} (i : Nat) (hd : decode bytes pc = .ok (.bastore, 1)) (F : Arv Z h a k .byte z vs dv) (hj : ¬ j < 0 ∧ j < z) (hi : j.toNatClampNeg = i) (hl : i < vs.length) (hx' : x.toInt8.toInt32 = x') (ha : a ∈ ws) (hp : pc + 1 = pc')
    (nx : ∀ h', Wr h h' a j.toNatClampNeg (.int x') → Arv Z h' a k .byte z (vs.set i (.int x')) dv → Go p l e R s m args below meth c Z a0 EL own bytes maxL ret nm ws h' cells slots pc' Ls rest Q) : Go p l e R s m args below meth c Z a0 EL own bytes maxL ret nm ws h cells slots pc Ls (.int x :: .int j :: .ref a :: rest) Q := fun K T P => by
  obtain ⟨vm0, k0, locs, X, eT, hS, hk, hZ, hown, N, I, C, r⟩ := P
  obtain ⟨cl, A, q1, S, q3, H, G⟩ := F
  obtain ⟨T', h', X', e', W, stp⟩ := stB X K.1 hZ eT A (inb_of S hj) (g := mkF m pc Ls (.int x :: .int j :: .ref a :: rest)) rfl rfl (hb K.2.1 hd)
  subst hp hx'
  obtain ⟨u, S2, E⟩ := nx h' W (Arv.set A q1 S q3 H G (fits_nar_byte _) W i hi hl) K T' ⟨vm0, k0, _, X', e', hS, by rw [W.size]; exact hk, hZ, hown, Fr.snoc X' N (I.2.2 a ha).1, I.wr W ha, C.trans (CHr.wr W (I.2.2 a ha).2.2 I.1), r⟩
  exact ⟨u, stp _ S2, E⟩
theorem go_aastore {a : Addr} {k : ClassId} {ty : FieldType} {z j : Int32} {v : Value} {vs : List Value} {dv : Value} (i : Nat) (hd : decode bytes pc = .ok (.aastore, 1)) (hty : ty.isReference = true) (F : Arv Z h a k ty z vs dv) (hf : fits ty v = true) (hS' : Sto Z h a v) (hj : ¬ j < 0 ∧ j < z) (hi : j.toNatClampNeg = i) (hl : i < vs.length) (ha : a ∈ ws) (hp : pc + 1 = pc')
    (nx : ∀ h', Wr h h' a j.toNatClampNeg v → Arv Z h' a k ty z (vs.set i v) dv → Go p l e R s m args below meth c Z a0 EL own bytes maxL ret nm ws h' cells slots pc' Ls rest Q) : Go p l e R s m args below meth c Z a0 EL own bytes maxL ret nm ws h cells slots pc Ls (v :: .int j :: .ref a :: rest) Q := fun K T P => by
  obtain ⟨vm0, k0, locs, X, eT, hS, hk, hZ, hown, N, I, C, r⟩ := P
  obtain ⟨cl, A, q1, S, q3, H, G⟩ := F
  obtain ⟨T', h', X', e', W, stp⟩ := stR X K.1 hZ eT A (inb_of S hj) hty hS' (g := mkF m pc Ls (v :: .int j :: .ref a :: rest)) rfl rfl (hb K.2.1 hd)
  subst hp
  obtain ⟨u, S2, E⟩ := nx h' W (Arv.set A q1 S q3 H G hf W i hi hl) K T' ⟨vm0, k0, _, X', e', hS, by rw [W.size]; exact hk, hZ, hown, Fr.snoc X' N (I.2.2 a ha).1, I.wr W ha, C.trans (CHr.wr W (I.2.2 a ha).2.2 I.1), r⟩
  exact ⟨u, stp _ S2, E⟩
/-! ## casts -/
theorem go_checkcast {K0 : String} {idx : Nat} {a : Addr} (hd : decode bytes pc = .ok (.checkcast idx, 3)) (w : (Cond.classLink own idx K0).before a0 Z = true) (F : Ins Z h a K0 true) (hp : pc + 3 = pc')
    (nx : Go p l e R s m args below meth c Z a0 EL own bytes maxL ret nm ws h cells slots pc' Ls (.ref a :: rest) Q) : Go p l e R s m args below meth c Z a0 EL own bytes maxL ret nm ws h cells slots pc Ls (.ref a :: rest) Q := fun K T P => by
  obtain ⟨vm0, k0, locs, X, eT, hS, hk, hZ, hown, N, I, C, r⟩ := P
  obtain ⟨T', X', e', stp⟩ := castY X K.1 hZ hown w eT F (g := mkF m pc Ls (.ref a :: rest)) rfl rfl (hb K.2.1 hd)
  subst hp
  obtain ⟨u, S2, E⟩ := nx K T' ⟨vm0, k0, locs, X', e', hS, hk, hZ, hown, N, I, C, r⟩
  exact ⟨u, stp _ S2, E⟩
theorem go_instYes {K0 : String} {idx : Nat} {a : Addr} (hd : decode bytes pc = .ok (.instanceof idx, 3)) (w : (Cond.classLink own idx K0).before a0 Z = true) (F : Ins Z h a K0 true) (hp : pc + 3 = pc')
    (nx : Go p l e R s m args below meth c Z a0 EL own bytes maxL ret nm ws h cells slots pc' Ls (.int 1 :: rest) Q) : Go p l e R s m args below meth c Z a0 EL own bytes maxL ret nm ws h cells slots pc Ls (.ref a :: rest) Q := fun K T P => by
  obtain ⟨vm0, k0, locs, X, eT, hS, hk, hZ, hown, N, I, C, r⟩ := P
  obtain ⟨T', X', e', stp⟩ := instY X K.1 hZ hown w eT F (g := mkF m pc Ls (.ref a :: rest)) rfl rfl (hb K.2.1 hd)
  subst hp
  obtain ⟨u, S2, E⟩ := nx K T' ⟨vm0, k0, locs, X', e', hS, hk, hZ, hown, N, I, C, r⟩
  exact ⟨u, stp _ S2, E⟩
theorem go_instNo {K0 C0 : String} {idx : Nat} {a : Addr} (hd : decode bytes pc = .ok (.instanceof idx, 3)) (w : (Cond.classLink own idx K0).before a0 Z = true) (E0 : Exa Z h a C0) (F : ∃ c t, Z.vm.findClass C0 = some c ∧ Z.vm.findClass K0 = some t ∧ Z.vm.assignable c t = false) (hp : pc + 3 = pc')
    (nx : Go p l e R s m args below meth c Z a0 EL own bytes maxL ret nm ws h cells slots pc' Ls (.int 0 :: rest) Q) : Go p l e R s m args below meth c Z a0 EL own bytes maxL ret nm ws h cells slots pc Ls (.ref a :: rest) Q := fun K T P => by
  obtain ⟨vm0, k0, locs, X, eT, hS, hk, hZ, hown, N, I, C, r⟩ := P
  obtain ⟨T', X', e', stp⟩ := instNo X K.1 hZ hown w eT E0 F (g := mkF m pc Ls (.ref a :: rest)) rfl rfl (hb K.2.1 hd)
  subst hp
  obtain ⟨u, S2, E⟩ := nx K T' ⟨vm0, k0, locs, X', e', hS, hk, hZ, hown, N, I, C, r⟩
  exact ⟨u, stp _ S2, E⟩
/-! ## String constants -/
theorem go_ldcO {text : String} {idx n : Nat} (hd : decode bytes pc = .ok (.ldc idx, 2)) (w : (Cond.stringLink own idx text).before a0 Z = true) (wS : ∀ a ∈ Bundle.stringAtoms, a.before a0 Z = true) (hn : 4 * text.toList.length ≤ n) (hbig : n ≤ 536870912) (hc : cells + 2 ≤ R.cells) (hl : slots + (n + 4) ≤ R.slots) (hp : pc + 2 = pc')
    (nx : ∀ h' a, Ext h h' → Go p l e R s m args below meth c Z a0 EL own bytes maxL ret nm ws h' (cells + 2) (slots + (n + 4)) pc' Ls (.ref a :: st) Q) : Go p l e R s m args below meth c Z a0 EL own bytes maxL ret nm ws h cells slots pc Ls st Q := fun K T P => by
  obtain ⟨vm0, k0, locs, X, eT, hS, hk, hZ, hown, N, I, C, r⟩ := P
  obtain ⟨a, T', h', k1, X', e', E', hS', hk', hZ', hown', C', -, stp⟩ := ldcOH X K.1 hZ hown w wS eT hS hk K.2.2.2.2.2.2 I.1 (g := mkF m pc Ls st) rfl (hb K.2.1 hd) hn hbig hc hl
  subst hp
  obtain ⟨u, S2, E⟩ := nx h' a E' K T' ⟨T'.vm, k1, locs, X', e', hS', hk', hZ', hown', N, I.ld C' E', C.trans C', hc, hl⟩
  exact ⟨u, stp _ S2, E⟩
theorem go_ldcR {text : String} {idx n : Nat} {vs : List Value} {z : Int32} (hd : decode bytes pc = .ok (.ldc idx, 2)) (w : (Cond.stringLink own idx text).before a0 Z = true) (wS : ∀ a ∈ Bundle.stringAtoms, a.before a0 Z = true) (hm : (own, idx) ∈ EL)
    (ht : (∀ c ∈ text.toList, c.toNat < 256) ∧ text.toList.map (fun c => Value.int (Jvm.Lit.byteI c.toNat.toUInt16)) = vs) (hz : ¬ z < 0) (hzl : z.toNatClampNeg = vs.length) (hn : 4 * text.toList.length ≤ n) (hbig : n ≤ 536870912) (hc : cells + 2 ≤ R.cells) (hl : slots + (n + 4) ≤ R.slots) (hp : pc + 2 = pc')
    (nx : ∀ h' a b k, Ext h h' → Exa Z h' a "java/lang/String" → Fld Z h' a "java/lang/String" "coder" "B" (.int 0) → Fld Z h' a "java/lang/String" "value" "[B" (.ref b) → Arv Z h' b k .byte z vs (.int 0) → (∀ x ∈ ws, x ≠ a ∧ x ≠ b) →
      Go p l e R s m args below meth c Z a0 EL own bytes maxL ret nm ws h' (cells + 2) (slots + (n + 4)) pc' Ls (.ref a :: st) Q) : Go p l e R s m args below meth c Z a0 EL own bytes maxL ret nm ws h cells slots pc Ls st Q := fun K T P => by
  obtain ⟨vm0, k0, locs, X, eT, hS, hk, hZ, hown, N, I, C, r⟩ := P
  obtain ⟨a, T', h', k1, b, k, X', e', E', hS', hk', hZ', hown', A1, A2, A3, A4, -, -, C', -, hne, stp⟩ := ldcCH X K.1 hZ hown w wS eT hS hk K.2.2.2.2.2.2 hm I.1 ht hz hzl (g := mkF m pc Ls st) rfl (hb K.2.1 hd) hn hbig hc hl
  subst hp
  have I' := I.ld C' E'
  obtain ⟨u, S2, E⟩ := nx h' a b k E' A1 A2 A3 A4 (fun x hx => hne x (I'.2.2 x hx).2.2) K T' ⟨T'.vm, k1, locs, X', e', hS', hk', hZ', hown', N, I', C.trans C', hc, hl⟩
  exact ⟨u, stp _ S2, E⟩
theorem go_ldcI {idx : Nat} {z : Int32} (hd : decode bytes pc = .ok (.ldc idx, 2)) (w : (Cond.constant own idx z).before a0 Z = true) (hp : pc + 2 = pc')
    (nx : Go p l e R s m args below meth c Z a0 EL own bytes maxL ret nm ws h cells slots pc' Ls (.int z :: st) Q) : Go p l e R s m args below meth c Z a0 EL own bytes maxL ret nm ws h cells slots pc Ls st Q := fun K T P => by
  obtain ⟨u, S2, E⟩ := nx K T P
  obtain ⟨vm0, k0, locs, X, eT, hS, hk, hZ, hown, N, I, C, r⟩ := P
  subst hp
  exact ⟨u, X.ldcInt K.1 hown (mv (s := s.setVm vm0) hZ w) (g := mkF m pc Ls st) rfl (hb K.2.1 hd) _ S2, E⟩
/-! ## calls -/
theorem go_init {idx W : Nat} {a : Addr} (hd : decode bytes pc = .ok (.invokespecial idx, 3)) (w1 : (Cond.methodLink own idx Lib.objectInit).before a0 Z = true) (w2 : (Cond.instanceMethod Lib.objectInit).before a0 Z = true) (w3 : (Cond.code Lib.objectInit ⟨#[0xb1]⟩ 1 none).before a0 Z = true) (hsz : Ls.size = maxL) (hf : 1 ≤ R.frames)
    (hW : (rest.map fun v => v.category).sum ≤ W) (hl : W + 12 ≤ R.locals) (hp : pc + 3 = pc') (nx : Go p l e R s m args below meth c Z a0 EL own bytes maxL ret nm ws h cells slots pc' Ls rest Q) : Go p l e R s m args below meth c Z a0 EL own bytes maxL ret nm ws h cells slots pc Ls (.ref a :: rest) Q := fun K T P => by
  obtain ⟨vm0, k0, locs, X, eT, hS, hk, hZ, hown, N, I, C, r⟩ := P
  obtain ⟨T', X', e', stp⟩ := initO X K.1 hZ hown w1 w2 w3 eT (g := mkF m pc Ls (.ref a :: rest)) rfl (hsz.trans K.2.2.1.symm) rfl (hb K.2.1 hd) hf (W := W) (by show 2 * 0 + _ ≤ _; omega) hl
  subst hp
  obtain ⟨u, S2, E⟩ := nx K T' ⟨vm0, k0, locs, X', e', hS, hk, hZ, hown, N, I, C, r⟩
  exact ⟨u, stp _ S2, E⟩
/-- what comes behind a call's return -/
theorem go_after {vm0 : Vm} {k0 : Nat} {locs : List Loc} {T : State} {B : Pt} {v : Option Value} {rm : Room} (K : Cst p meth c Z a0 EL bytes maxL ret nm) (eT : T.heap = h) (hS : s.Since vm0 k0) (hk : k0 ≤ h.size) (hZ : Z.Warmed39 vm0) (hown : vm0.findClass own = some m.cls) (N : Fr Z.heap.size locs) (C : CHr Z EL s.vm s.heap vm0 h)
    (hc : cells + rm.cells ≤ R.cells) (hl : slots + rm.slots ≤ R.slots)
    (X' : Stand p l e R ((s.setVm vm0).setVm B.U.vm) m args below meth c B.U B.locs B.cells B.slots) (h2 : (s.setVm vm0).Since B.U.vm B.U.heap.size) (hgr : T.heap.size ≤ B.U.heap.size)
    (hp : ∃ (L : List Loc) (ws' : List Addr), Q v B.U.heap ws' ∧ Fr Z.heap.size L ∧ B.locs = locs ++ L ∧ B.cells = cells + rm.cells ∧ B.slots = slots + rm.slots ∧ CHr Z EL vm0 h B.U.vm B.U.heap ∧ Inv Z EL (ws' ++ ws) B.U.vm B.U.heap) {st0 : State} (hst : Steps p.tables e below st0 (B.U.setTop (mkF m pc' Ls st')))
    (nx : ∀ h' ws', Q v h' ws' → h.size ≤ h'.size → Go p l e R s m args below meth c Z a0 EL own bytes maxL ret nm (ws' ++ ws) h' (cells + rm.cells) (slots + rm.slots) pc' Ls st' Q') : ∃ u, Steps p.tables e below st0 u ∧ Done s below R Z EL Q' u := by
  obtain ⟨L, ws', q, N', e1, e2, e3, C', I'⟩ := hp
  have hgr' : h.size ≤ B.U.heap.size := by rw [← eT]; exact hgr
  rw [e1, e2, e3] at X'
  obtain ⟨u, S2, E⟩ := nx B.U.heap ws' q hgr' K B.U ⟨B.U.vm, B.U.heap.size, _, X', rfl, hS.trans h2 (Nat.le_trans hk hgr'), Nat.le_refl _, State.Warmed39.trans (t := s.setVm vm0) hZ h2.1, (h2.1.alike.findClass _ _).trans hown, N.app N', I', C.trans C', hc, hl⟩
  exact ⟨u, hst.trans S2, E⟩
theorem go_static {idx W : Nat} {y : MethodName} {bY : ByteArray} {mY : Nat} {rY : Option FieldType} {rm : Room} {as' : Array Value} {ws0 : List Addr} {argsL : List Value} (hd : decode bytes pc = .ok (.invokestatic idx, 3)) (hM : Con l Z EL y bY mY rY [] rm as' h ws0 Q) (hs : ∀ x ∈ ws0, x ∈ ws)
    (w1 : (Cond.methodLink own idx y).before a0 Z = true) (w2 : (Cond.static y).before a0 Z = true) (w3 : (Cond.initialized y.cls).before a0 Z = true) (w4 : (Cond.code y bY mY rY).before a0 Z = true) (hy : y.cls ≠ "java/lang/invoke/MethodHandle" ∧ y.cls ≠ "java/lang/invoke/VarHandle")
    (hlen : ∀ sig, parseMethodDescriptor y.desc = some sig → argsL.length = sig.parameters.length) (has : argsL.toArray = as') (hst : st = argsL.reverse ++ rest) (hsz : Ls.size = maxL) (hW : (rest.map fun v => v.category).sum ≤ W) (hf : rm.frames + 1 ≤ R.frames) (hlo : W + (mY + 11) + rm.locals ≤ R.locals) (hc : cells + rm.cells ≤ R.cells) (hl : slots + rm.slots ≤ R.slots) (hp : pc + 3 = pc')
    (nx : ∀ v h' ws', Q v h' ws' → h.size ≤ h'.size → Go p l e R s m args below meth c Z a0 EL own bytes maxL ret nm (ws' ++ ws) h' (cells + rm.cells) (slots + rm.slots) pc' Ls (v.toList ++ rest) Q') :
    Go p l e R s m args below meth c Z a0 EL own bytes maxL ret nm ws h cells slots pc Ls st Q' := fun K T P => by
  obtain ⟨vm0, k0, locs, X, eT, hS, hk, hZ, hown, N, I, C, r⟩ := P
  subst hst hp
  obtain ⟨v, vm₁, B, hW1, X', h2, hgr, hpost, hsteps⟩ := callSS X K.1 hown (mvT (s := s.setVm vm0) hZ w1) (mvT (s := s.setVm vm0) hZ w2) (mvT (s := s.setVm vm0) hZ w3) (mvT (s := s.setVm vm0) hZ w4) hy (backC (W := W) hM hZ w4 w3 hf hlo K.2.2.2.2.2.2 I hs) (g := mkF m pc Ls (argsL.reverse ++ rest)) rfl (hsz.trans K.2.2.1.symm) hlen rfl (by show 2 * 0 + _ ≤ _; omega) (hb K.2.1 hd) (fun _ _ => ⟨has, eT, hc, hl⟩)
  exact go_after K eT hS hk hZ hown N C hc hl X' h2 hgr hpost hsteps (nx v)
theorem go_special {idx W : Nat} {y : MethodName} {bY : ByteArray} {mY : Nat} {rm : Room} {as' : Array Value} {ws0 : List Addr} {argsL : List Value} {a : Addr} (hd : decode bytes pc = .ok (.invokespecial idx, 3)) (hM : Con l Z EL y bY mY none [] rm as' h ws0 Q) (hs : ∀ x ∈ ws0, x ∈ ws) (hy1 : y.name = "<init>")
    (w1 : (Cond.methodLink own idx y).before a0 Z = true) (w2 : (Cond.instanceMethod y).before a0 Z = true) (w3 : (Cond.initialized y.cls).before a0 Z = true) (w4 : (Cond.code y bY mY none).before a0 Z = true) (hy : y.cls ≠ "java/lang/invoke/MethodHandle" ∧ y.cls ≠ "java/lang/invoke/VarHandle")
    (hlen : ∀ sig, parseMethodDescriptor y.desc = some sig → argsL.length = sig.parameters.length) (has : (Value.ref a :: argsL).toArray = as') (hst : st = argsL.reverse ++ .ref a :: rest) (hsz : Ls.size = maxL) (hW : (rest.map fun v => v.category).sum ≤ W) (hf : rm.frames + 1 ≤ R.frames) (hlo : W + (mY + 11) + rm.locals ≤ R.locals) (hc : cells + rm.cells ≤ R.cells) (hl : slots + rm.slots ≤ R.slots) (hp : pc + 3 = pc')
    (nx : ∀ v h' ws', Q v h' ws' → h.size ≤ h'.size → Go p l e R s m args below meth c Z a0 EL own bytes maxL ret nm (ws' ++ ws) h' (cells + rm.cells) (slots + rm.slots) pc' Ls (v.toList ++ rest) Q') :
    Go p l e R s m args below meth c Z a0 EL own bytes maxL ret nm ws h cells slots pc Ls st Q' := fun K T P => by
  obtain ⟨vm0, k0, locs, X, eT, hS, hk, hZ, hown, N, I, C, r⟩ := P
  subst hst hp
  obtain ⟨v, vm₁, B, hW1, X', h2, hgr, hpost, hsteps⟩ := X.specialBackS K.1 hy1 hown (mvT (s := s.setVm vm0) hZ w1) (mvT (s := s.setVm vm0) hZ w2) (mvT (s := s.setVm vm0) hZ w4) hy (backC (W := W) hM hZ w4 w3 hf hlo K.2.2.2.2.2.2 I hs) (g := mkF m pc Ls (argsL.reverse ++ .ref a :: rest)) rfl (hsz.trans K.2.2.1.symm) (Steps.refl _) hlen rfl (by show 2 * 0 + _ ≤ _; omega) (hb K.2.1 hd) (fun _ _ => ⟨has, eT, hc, hl⟩)
  exact go_after K eT hS hk hZ hown N C hc hl X' h2 hgr hpost hsteps (nx v)
theorem go_virtual {idx W : Nat} {y z : MethodName} {C0 : String} {bY : ByteArray} {mY : Nat} {rY : Option FieldType} {rm : Room} {as' : Array Value} {ws0 : List Addr} {argsL : List Value} {a : Addr} (hd : decode bytes pc = .ok (.invokevirtual idx, 3)) (hM : Con l Z EL z bY mY rY [] rm as' h ws0 Q) (hs : ∀ x ∈ ws0, x ∈ ws) (E0 : Exa Z h a C0)
    (w1 : (Cond.methodLink own idx y).before a0 Z = true) (w2 : (Cond.declares y).before a0 Z = true) (w5 : (Cond.selects C0 y z).before a0 Z = true) (hnf : ∀ s' : State, Z.Warmed39 s'.vm → NotFace s' y) (w6 : (Cond.instanceMethod z).before a0 Z = true) (w3 : (Cond.initialized z.cls).before a0 Z = true) (w4 : (Cond.code z bY mY rY).before a0 Z = true) (hy : y.cls ≠ "java/lang/invoke/MethodHandle" ∧ y.cls ≠ "java/lang/invoke/VarHandle")
    (hlen : ∀ sig, parseMethodDescriptor y.desc = some sig → argsL.length = sig.parameters.length) (has : (Value.ref a :: argsL).toArray = as') (hst : st = argsL.reverse ++ .ref a :: rest) (hsz : Ls.size = maxL) (hW : (rest.map fun v => v.category).sum ≤ W) (hf : rm.frames + 1 ≤ R.frames) (hlo : W + (mY + 11) + rm.locals ≤ R.locals) (hc : cells + rm.cells ≤ R.cells) (hl : slots + rm.slots ≤ R.slots) (hp : pc + 3 = pc')
    (nx : ∀ v h' ws', Q v h' ws' → h.size ≤ h'.size → Go p l e R s m args below meth c Z a0 EL own bytes maxL ret nm (ws' ++ ws) h' (cells + rm.cells) (slots + rm.slots) pc' Ls (v.toList ++ rest) Q') :
    Go p l e R s m args below meth c Z a0 EL own bytes maxL ret nm ws h cells slots pc Ls st Q' := fun K T P => by
  obtain ⟨vm0, k0, locs, X, eT, hS, hk, hZ, hown, N, I, C, r⟩ := P
  subst hst hp
  obtain ⟨cB, kB, i1, i2, i3⟩ := isOf (s := s.setVm vm0) hZ eT E0
  obtain ⟨v, vm₁, B, hW1, X', h2, hgr, hpost, hsteps⟩ := X.virtualBackS K.1 hown (mvT (s := s.setVm vm0) hZ w1) (mvT (s := s.setVm vm0) hZ w2) (hnf (s.setVm vm0) hZ) (mvT (s := s.setVm vm0) hZ w5) (mvT (s := s.setVm vm0) hZ w6) hy (backC (W := W) hM hZ w4 w3 hf hlo K.2.2.2.2.2.2 I hs) i1 i3 (g := mkF m pc Ls (argsL.reverse ++ .ref a :: rest)) rfl (hsz.trans K.2.2.1.symm) (Steps.refl _) hlen rfl (by show 2 * 0 + _ ≤ _; omega) (hb K.2.1 hd) (fun _ _ => ⟨has, eT, hc, hl⟩)
  exact go_after K eT hS hk hZ hown N C hc hl X' h2 hgr hpost hsteps (nx v)
theorem nf_sel {y : MethodName} {C0 : String} (w : (Cond.selects C0 y y).before a0 Z = true) : ∀ s' : State, Z.Warmed39 s'.vm → NotFace s' y := fun s' hZ => notFace_of_selects (args := #[]) (mvT hZ w)
end Rules
end Jvm.Own
namespace Jvm.Own
open Sem ClassFile Op Lib Bundle Jvm.Stand Jvm.Free Jvm.LawKit Jvm.RoadKit
section Rules2
variable {p : Program} {l : Launch} {e : Env} {R : Room} {s : State} {m : MethodId} {args : Array Value} {below : List Frame} {meth : Method} {c : Code} {Z : State} {a0 : Array Value} {EL : List (String × Nat)} {own : String} {bytes : ByteArray} {maxL : Nat} {ret : Option FieldType} {nm : String}
  {ws : List Addr} {h : Heap} {cells slots : Nat} {pc pc' : Nat} {Ls Ls' : Array Slot} {st st' rest : List Value} {Q Q' : Option Value → Heap → List Addr → Prop}
theorem g_iload {k : Nat} {v : Int32} (hd : decode bytes pc = .ok (.iload k, 2)) (hp : pc + 2 = pc') (hl : Ls[k]? = some (.val (.int v))) (n : Go p l e R s m args below meth c Z a0 EL own bytes maxL ret nm ws h cells slots pc' Ls (.int v :: st) Q) : Go p l e R s m args below meth c Z a0 EL own bytes maxL ret nm ws h cells slots pc Ls st Q := by
  subst hp; exact go_step (fun hx q _ A _ k => XS.iload A hx rfl (hb q hd) hl k) n
theorem g_iloadN {k : Fin 4} {v : Int32} (hd : decode bytes pc = .ok (.iload_n k, 1)) (hp : pc + 1 = pc') (hl : Ls[k.val]? = some (.val (.int v))) (n : Go p l e R s m args below meth c Z a0 EL own bytes maxL ret nm ws h cells slots pc' Ls (.int v :: st) Q) : Go p l e R s m args below meth c Z a0 EL own bytes maxL ret nm ws h cells slots pc Ls st Q := by
  subst hp; exact go_step (fun hx q _ A _ k => XS.iloadN A hx rfl (hb q hd) hl k) n
theorem g_lload {k : Nat} {v : Int64} (hd : decode bytes pc = .ok (.lload k, 2)) (hp : pc + 2 = pc') (hl : Ls[k]? = some (.val (.long v))) (n : Go p l e R s m args below meth c Z a0 EL own bytes maxL ret nm ws h cells slots pc' Ls (.long v :: st) Q) : Go p l e R s m args below meth c Z a0 EL own bytes maxL ret nm ws h cells slots pc Ls st Q := by
  subst hp; exact go_step (fun hx q _ A _ k => XS.lload A hx rfl (hb q hd) hl k) n
theorem g_lloadN {k : Fin 4} {v : Int64} (hd : decode bytes pc = .ok (.lload_n k, 1)) (hp : pc + 1 = pc') (hl : Ls[k.val]? = some (.val (.long v))) (n : Go p l e R s m args below meth c Z a0 EL own bytes maxL ret nm ws h cells slots pc' Ls (.long v :: st) Q) : Go p l e R s m args below meth c Z a0 EL own bytes maxL ret nm ws h cells slots pc Ls st Q := by
  subst hp; exact go_step (fun hx q _ A _ k => XS.lloadN A hx rfl (hb q hd) hl k) n
theorem g_aload {k : Nat} {v : Value} (hd : decode bytes pc = .ok (.aload k, 2)) (hp : pc + 2 = pc') (hl : Ls[k]? = some (.val v)) (hv : v.isRef = true) (n : Go p l e R s m args below meth c Z a0 EL own bytes maxL ret nm ws h cells slots pc' Ls (v :: st) Q) : Go p l e R s m args below meth c Z a0 EL own bytes maxL ret nm ws h cells slots pc Ls st Q := by
  subst hp; exact go_step (fun hx q _ A _ k => XS.aload A hx rfl (hb q hd) hl hv k) n
theorem g_aloadN {k : Fin 4} {v : Value} (hd : decode bytes pc = .ok (.aload_n k, 1)) (hp : pc + 1 = pc') (hl : Ls[k.val]? = some (.val v)) (hv : v.isRef = true) (n : Go p l e R s m args below meth c Z a0 EL own bytes maxL ret nm ws h cells slots pc' Ls (v :: st) Q) : Go p l e R s m args below meth c Z a0 EL own bytes maxL ret nm ws h cells slots pc Ls st Q := by
  subst hp; exact go_step (fun hx q _ A _ k => XS.aloadN A hx rfl (hb q hd) hl hv k) n
theorem g_iconst {i : Int} {z : Int32} (hd : decode bytes pc = .ok (.iconst i, 1)) (hp : pc + 1 = pc') (hz : Int32.ofInt i = z) (n : Go p l e R s m args below meth c Z a0 EL own bytes maxL ret nm ws h cells slots pc' Ls (.int z :: st) Q) : Go p l e R s m args below meth c Z a0 EL own bytes maxL ret nm ws h cells slots pc Ls st Q := by
  subst hp hz; exact go_step (fun hx q _ A _ k => XS.iconst A hx rfl (hb q hd) k) n
theorem g_bipush {i : Int} {z : Int32} (hd : decode bytes pc = .ok (.bipush i, 2)) (hp : pc + 2 = pc') (hz : (Int8.ofInt i).toInt32 = z) (n : Go p l e R s m args below meth c Z a0 EL own bytes maxL ret nm ws h cells slots pc' Ls (.int z :: st) Q) : Go p l e R s m args below meth c Z a0 EL own bytes maxL ret nm ws h cells slots pc Ls st Q := by
  subst hp hz; exact go_step (fun hx q _ A _ k => XS.bipush A hx rfl (hb q hd) k) n
theorem g_sipush {i : Int} {z : Int32} (hd : decode bytes pc = .ok (.sipush i, 3)) (hp : pc + 3 = pc') (hz : (Int16.ofInt i).toInt32 = z) (n : Go p l e R s m args below meth c Z a0 EL own bytes maxL ret nm ws h cells slots pc' Ls (.int z :: st) Q) : Go p l e R s m args below meth c Z a0 EL own bytes maxL ret nm ws h cells slots pc Ls st Q := by
  subst hp hz; exact go_step (fun hx q _ A _ k => XS.sipush A hx rfl (hb q hd) k) n
theorem g_aconstNull  (hd : decode bytes pc = .ok (.aconst_null, 1)) (hp : pc + 1 = pc') (n : Go p l e R s m args below meth c Z a0 EL own bytes maxL ret nm ws h cells slots pc' Ls (.null :: st) Q) : Go p l e R s m args below meth c Z a0 EL own bytes maxL ret nm ws h cells slots pc Ls st Q := by
  subst hp; exact go_step (fun hx q _ A _ k => XS.aconstNull A hx rfl (hb q hd) k) n
theorem g_lconst {i : Fin 2} {z : Int64} (hd : decode bytes pc = .ok (.lconst i, 1)) (hp : pc + 1 = pc') (hz : Int64.ofNat i = z) (n : Go p l e R s m args below meth c Z a0 EL own bytes maxL ret nm ws h cells slots pc' Ls (.long z :: st) Q) : Go p l e R s m args below meth c Z a0 EL own bytes maxL ret nm ws h cells slots pc Ls st Q := by
  subst hp hz; exact go_step (fun hx q _ A _ k => XS.lconst A hx rfl (hb q hd) k) n
theorem g_istore {k : Nat} {x : Int32} (hd : decode bytes pc = .ok (.istore k, 2)) (hp : pc + 2 = pc') (hl : storeLocals Ls k (.int x) = some Ls') (n : Go p l e R s m args below meth c Z a0 EL own bytes maxL ret nm ws h cells slots pc' Ls' rest Q) : Go p l e R s m args below meth c Z a0 EL own bytes maxL ret nm ws h cells slots pc Ls (.int x :: rest) Q := by
  subst hp; exact go_step (fun hx q _ A _ k => XS.istore A hx rfl (hb q hd) rfl hl k) n
theorem g_istoreN {k : Fin 4} {x : Int32} (hd : decode bytes pc = .ok (.istore_n k, 1)) (hp : pc + 1 = pc') (hl : storeLocals Ls k.val (.int x) = some Ls') (n : Go p l e R s m args below meth c Z a0 EL own bytes maxL ret nm ws h cells slots pc' Ls' rest Q) : Go p l e R s m args below meth c Z a0 EL own bytes maxL ret nm ws h cells slots pc Ls (.int x :: rest) Q := by
  subst hp; exact go_step (fun hx q _ A _ k => XS.istoreN A hx rfl (hb q hd) rfl hl k) n
theorem g_lstore {k : Nat} {x : Int64} (hd : decode bytes pc = .ok (.lstore k, 2)) (hp : pc + 2 = pc') (hl : storeLocals Ls k (.long x) = some Ls') (n : Go p l e R s m args below meth c Z a0 EL own bytes maxL ret nm ws h cells slots pc' Ls' rest Q) : Go p l e R s m args below meth c Z a0 EL own bytes maxL ret nm ws h cells slots pc Ls (.long x :: rest) Q := by
  subst hp; exact go_step (fun hx q _ A _ k => XS.lstore A hx rfl (hb q hd) rfl hl k) n
theorem g_lstoreN {k : Fin 4} {x : Int64} (hd : decode bytes pc = .ok (.lstore_n k, 1)) (hp : pc + 1 = pc') (hl : storeLocals Ls k.val (.long x) = some Ls') (n : Go p l e R s m args below meth c Z a0 EL own bytes maxL ret nm ws h cells slots pc' Ls' rest Q) : Go p l e R s m args below meth c Z a0 EL own bytes maxL ret nm ws h cells slots pc Ls (.long x :: rest) Q := by
  subst hp; exact go_step (fun hx q _ A _ k => XS.lstoreN A hx rfl (hb q hd) rfl hl k) n
theorem g_astore {k : Nat} {x : Value} (hd : decode bytes pc = .ok (.astore k, 2)) (hp : pc + 2 = pc') (hv : x.isRef = true) (hl : storeLocals Ls k x = some Ls') (n : Go p l e R s m args below meth c Z a0 EL own bytes maxL ret nm ws h cells slots pc' Ls' rest Q) : Go p l e R s m args below meth c Z a0 EL own bytes maxL ret nm ws h cells slots pc Ls (x :: rest) Q := by
  subst hp; exact go_step (fun hx q _ A _ k => XS.astore A hx rfl (hb q hd) rfl hv hl k) n
theorem g_astoreN {k : Fin 4} {x : Value} (hd : decode bytes pc = .ok (.astore_n k, 1)) (hp : pc + 1 = pc') (hv : x.isRef = true) (hl : storeLocals Ls k.val x = some Ls') (n : Go p l e R s m args below meth c Z a0 EL own bytes maxL ret nm ws h cells slots pc' Ls' rest Q) : Go p l e R s m args below meth c Z a0 EL own bytes maxL ret nm ws h cells slots pc Ls (x :: rest) Q := by
  subst hp; exact go_step (fun hx q _ A _ k => XS.astoreN A hx rfl (hb q hd) rfl hv hl k) n
theorem g_iinc {k : Nat} {cst : Int} {x : Int32} (hd : decode bytes pc = .ok (.iinc k cst, 3)) (hp : pc + 3 = pc') (hl : Ls[k]? = some (.val (.int x))) (hl' : storeLocals Ls k (.int (x + Int32.ofInt cst)) = some Ls') (n : Go p l e R s m args below meth c Z a0 EL own bytes maxL ret nm ws h cells slots pc' Ls' st Q) : Go p l e R s m args below meth c Z a0 EL own bytes maxL ret nm ws h cells slots pc Ls st Q := by
  subst hp; exact go_step (fun hx q _ A _ k => XS.iinc A hx rfl (hb q hd) hl hl' k) n
theorem g_iadd {x y : Int32} (hd : decode bytes pc = .ok (.iadd, 1)) (hp : pc + 1 = pc') (n : Go p l e R s m args below meth c Z a0 EL own bytes maxL ret nm ws h cells slots pc' Ls (.int (x + y) :: rest) Q) : Go p l e R s m args below meth c Z a0 EL own bytes maxL ret nm ws h cells slots pc Ls (.int y :: .int x :: rest) Q := by
  subst hp; exact go_step (fun hx q _ A _ k => XS.iadd A hx rfl (hb q hd) rfl k) n
theorem g_isub {x y : Int32} (hd : decode bytes pc = .ok (.isub, 1)) (hp : pc + 1 = pc') (n : Go p l e R s m args below meth c Z a0 EL own bytes maxL ret nm ws h cells slots pc' Ls (.int (x - y) :: rest) Q) : Go p l e R s m args below meth c Z a0 EL own bytes maxL ret nm ws h cells slots pc Ls (.int y :: .int x :: rest) Q := by
  subst hp; exact go_step (fun hx q _ A _ k => XS.isub A hx rfl (hb q hd) rfl k) n
theorem g_imul {x y : Int32} (hd : decode bytes pc = .ok (.imul, 1)) (hp : pc + 1 = pc') (n : Go p l e R s m args below meth c Z a0 EL own bytes maxL ret nm ws h cells slots pc' Ls (.int (x * y) :: rest) Q) : Go p l e R s m args below meth c Z a0 EL own bytes maxL ret nm ws h cells slots pc Ls (.int y :: .int x :: rest) Q := by
  subst hp; exact go_step (fun hx q _ A _ k => XS.imul A hx rfl (hb q hd) rfl k) n
theorem g_iand {x y : Int32} (hd : decode bytes pc = .ok (.iand, 1)) (hp : pc + 1 = pc') (n : Go p l e R s m args below meth c Z a0 EL own bytes maxL ret nm ws h cells slots pc' Ls (.int (x &&& y) :: rest) Q) : Go p l e R s m args below meth c Z a0 EL own bytes maxL ret nm ws h cells slots pc Ls (.int y :: .int x :: rest) Q := by
  subst hp; exact go_step (fun hx q _ A _ k => XS.iand A hx rfl (hb q hd) rfl k) n
theorem g_ior {x y : Int32} (hd : decode bytes pc = .ok (.ior, 1)) (hp : pc + 1 = pc') (n : Go p l e R s m args below meth c Z a0 EL own bytes maxL ret nm ws h cells slots pc' Ls (.int (x ||| y) :: rest) Q) : Go p l e R s m args below meth c Z a0 EL own bytes maxL ret nm ws h cells slots pc Ls (.int y :: .int x :: rest) Q := by
  subst hp; exact go_step (fun hx q _ A _ k => XS.ior A hx rfl (hb q hd) rfl k) n
theorem g_ixor {x y : Int32} (hd : decode bytes pc = .ok (.ixor, 1)) (hp : pc + 1 = pc') (n : Go p l e R s m args below meth c Z a0 EL own bytes maxL ret nm ws h cells slots pc' Ls (.int (x ^^^ y) :: rest) Q) : Go p l e R s m args below meth c Z a0 EL own bytes maxL ret nm ws h cells slots pc Ls (.int y :: .int x :: rest) Q := by
  subst hp; exact go_step (fun hx q _ A _ k => XS.ixor A hx rfl (hb q hd) rfl k) n
theorem g_ishl {x y : Int32} (hd : decode bytes pc = .ok (.ishl, 1)) (hp : pc + 1 = pc') (n : Go p l e R s m args below meth c Z a0 EL own bytes maxL ret nm ws h cells slots pc' Ls (.int (x <<< (y &&& 31)) :: rest) Q) : Go p l e R s m args below meth c Z a0 EL own bytes maxL ret nm ws h cells slots pc Ls (.int y :: .int x :: rest) Q := by
  subst hp; exact go_step (fun hx q _ A _ k => XS.ishl A hx rfl (hb q hd) rfl k) n
theorem g_ishr {x y : Int32} (hd : decode bytes pc = .ok (.ishr, 1)) (hp : pc + 1 = pc') (n : Go p l e R s m args below meth c Z a0 EL own bytes maxL ret nm ws h cells slots pc' Ls (.int (x >>> (y &&& 31)) :: rest) Q) : Go p l e R s m args below meth c Z a0 EL own bytes maxL ret nm ws h cells slots pc Ls (.int y :: .int x :: rest) Q := by
  subst hp; exact go_step (fun hx q _ A _ k => XS.ishr A hx rfl (hb q hd) rfl k) n
theorem g_iushr {x y : Int32} (hd : decode bytes pc = .ok (.iushr, 1)) (hp : pc + 1 = pc') (n : Go p l e R s m args below meth c Z a0 EL own bytes maxL ret nm ws h cells slots pc' Ls (.int ((x.toUInt32 >>> (y &&& 31).toUInt32).toInt32) :: rest) Q) : Go p l e R s m args below meth c Z a0 EL own bytes maxL ret nm ws h cells slots pc Ls (.int y :: .int x :: rest) Q := by
  subst hp; exact go_step (fun hx q _ A _ k => XS.iushr A hx rfl (hb q hd) rfl k) n
theorem g_ineg {x : Int32} (hd : decode bytes pc = .ok (.ineg, 1)) (hp : pc + 1 = pc') (n : Go p l e R s m args below meth c Z a0 EL own bytes maxL ret nm ws h cells slots pc' Ls (.int (-x) :: rest) Q) : Go p l e R s m args below meth c Z a0 EL own bytes maxL ret nm ws h cells slots pc Ls (.int x :: rest) Q := by
  subst hp; exact go_step (fun hx q _ A _ k => XS.ineg A hx rfl (hb q hd) rfl k) n
theorem g_irem {x y : Int32} (hd : decode bytes pc = .ok (.irem, 1)) (hp : pc + 1 = pc') (hy : y ≠ 0) (n : Go p l e R s m args below meth c Z a0 EL own bytes maxL ret nm ws h cells slots pc' Ls (.int (x % y) :: rest) Q) : Go p l e R s m args below meth c Z a0 EL own bytes maxL ret nm ws h cells slots pc Ls (.int y :: .int x :: rest) Q := by
  subst hp; exact go_step (fun hx q _ A _ k => XS.irem A hx rfl (hb q hd) rfl hy (by rw [irem_eq_mod]; exact k)) n
theorem g_i2b {x : Int32} (hd : decode bytes pc = .ok (.i2b, 1)) (hp : pc + 1 = pc') (n : Go p l e R s m args below meth c Z a0 EL own bytes maxL ret nm ws h cells slots pc' Ls (.int (x.toInt8.toInt32) :: rest) Q) : Go p l e R s m args below meth c Z a0 EL own bytes maxL ret nm ws h cells slots pc Ls (.int x :: rest) Q := by
  subst hp; exact go_step (fun hx q _ A _ k => XS.i2b A hx rfl (hb q hd) rfl k) n
theorem g_i2c {x : Int32} (hd : decode bytes pc = .ok (.i2c, 1)) (hp : pc + 1 = pc') (n : Go p l e R s m args below meth c Z a0 EL own bytes maxL ret nm ws h cells slots pc' Ls (.int (x.toUInt32.toUInt16.toUInt32.toInt32) :: rest) Q) : Go p l e R s m args below meth c Z a0 EL own bytes maxL ret nm ws h cells slots pc Ls (.int x :: rest) Q := by
  subst hp; exact go_step (fun hx q _ A _ k => XS.i2c A hx rfl (hb q hd) rfl k) n
theorem g_i2l {x : Int32} (hd : decode bytes pc = .ok (.i2l, 1)) (hp : pc + 1 = pc') (n : Go p l e R s m args below meth c Z a0 EL own bytes maxL ret nm ws h cells slots pc' Ls (.long (x.toInt64) :: rest) Q) : Go p l e R s m args below meth c Z a0 EL own bytes maxL ret nm ws h cells slots pc Ls (.int x :: rest) Q := by
  subst hp; exact go_step (fun hx q _ A _ k => XS.i2l A hx rfl (hb q hd) rfl k) n
theorem g_l2i {x : Int64} (hd : decode bytes pc = .ok (.l2i, 1)) (hp : pc + 1 = pc') (n : Go p l e R s m args below meth c Z a0 EL own bytes maxL ret nm ws h cells slots pc' Ls (.int (x.toInt32) :: rest) Q) : Go p l e R s m args below meth c Z a0 EL own bytes maxL ret nm ws h cells slots pc Ls (.long x :: rest) Q := by
  subst hp; exact go_step (fun hx q _ A _ k => XS.l2i A hx rfl (hb q hd) rfl k) n
theorem g_ladd {x y : Int64} (hd : decode bytes pc = .ok (.ladd, 1)) (hp : pc + 1 = pc') (n : Go p l e R s m args below meth c Z a0 EL own bytes maxL ret nm ws h cells slots pc' Ls (.long (x + y) :: rest) Q) : Go p l e R s m args below meth c Z a0 EL own bytes maxL ret nm ws h cells slots pc Ls (.long y :: .long x :: rest) Q := by
  subst hp; exact go_step (fun hx q _ A _ k => XS.ladd A hx rfl (hb q hd) rfl k) n
theorem g_lsub {x y : Int64} (hd : decode bytes pc = .ok (.lsub, 1)) (hp : pc + 1 = pc') (n : Go p l e R s m args below meth c Z a0 EL own bytes maxL ret nm ws h cells slots pc' Ls (.long (x - y) :: rest) Q) : Go p l e R s m args below meth c Z a0 EL own bytes maxL ret nm ws h cells slots pc Ls (.long y :: .long x :: rest) Q := by
  subst hp; exact go_step (fun hx q _ A _ k => XS.lsub A hx rfl (hb q hd) rfl k) n
theorem g_land {x y : Int64} (hd : decode bytes pc = .ok (.land, 1)) (hp : pc + 1 = pc') (n : Go p l e R s m args below meth c Z a0 EL own bytes maxL ret nm ws h cells slots pc' Ls (.long (x &&& y) :: rest) Q) : Go p l e R s m args below meth c Z a0 EL own bytes maxL ret nm ws h cells slots pc Ls (.long y :: .long x :: rest) Q := by
  subst hp; exact go_step (fun hx q _ A _ k => XS.land A hx rfl (hb q hd) rfl k) n
theorem g_lor {x y : Int64} (hd : decode bytes pc = .ok (.lor, 1)) (hp : pc + 1 = pc') (n : Go p l e R s m args below meth c Z a0 EL own bytes maxL ret nm ws h cells slots pc' Ls (.long (x ||| y) :: rest) Q) : Go p l e R s m args below meth c Z a0 EL own bytes maxL ret nm ws h cells slots pc Ls (.long y :: .long x :: rest) Q := by
  subst hp; exact go_step (fun hx q _ A _ k => XS.lor A hx rfl (hb q hd) rfl k) n
theorem g_lushr {x : Int64} {y : Int32} (hd : decode bytes pc = .ok (.lushr, 1)) (hp : pc + 1 = pc') (n : Go p l e R s m args below meth c Z a0 EL own bytes maxL ret nm ws h cells slots pc' Ls (.long ((x.toUInt64 >>> (y &&& 0x3f).toInt64.toUInt64).toInt64) :: rest) Q) : Go p l e R s m args below meth c Z a0 EL own bytes maxL ret nm ws h cells slots pc Ls (.int y :: .long x :: rest) Q := by
  subst hp; exact go_step (fun hx q _ A _ k => XS.lushr A hx rfl (hb q hd) rfl k) n
theorem g_lcmp {x y : Int64} (hd : decode bytes pc = .ok (.lcmp, 1)) (hp : pc + 1 = pc') (n : Go p l e R s m args below meth c Z a0 EL own bytes maxL ret nm ws h cells slots pc' Ls (.int (if x > y then 1 else if x = y then 0 else -1) :: rest) Q) : Go p l e R s m args below meth c Z a0 EL own bytes maxL ret nm ws h cells slots pc Ls (.long y :: .long x :: rest) Q := by
  subst hp; exact go_step (fun hx q _ A _ k => XS.lcmp A hx rfl (hb q hd) rfl k) n
theorem g_pop {x : Value} (hd : decode bytes pc = .ok (.pop, 1)) (hp : pc + 1 = pc') (hc : x.category = 1) (n : Go p l e R s m args below meth c Z a0 EL own bytes maxL ret nm ws h cells slots pc' Ls rest Q) : Go p l e R s m args below meth c Z a0 EL own bytes maxL ret nm ws h cells slots pc Ls (x :: rest) Q := by
  subst hp; exact go_step (fun hx q _ A _ k => XS.pop A hx rfl (hb q hd) rfl hc k) n
theorem g_dup {x : Value} (hd : decode bytes pc = .ok (.dup, 1)) (hp : pc + 1 = pc') (hc : x.category = 1) (n : Go p l e R s m args below meth c Z a0 EL own bytes maxL ret nm ws h cells slots pc' Ls (x :: x :: rest) Q) : Go p l e R s m args below meth c Z a0 EL own bytes maxL ret nm ws h cells slots pc Ls (x :: rest) Q := by
  subst hp; exact go_step (fun hx q _ A _ k => XS.dup A hx rfl (hb q hd) rfl hc k) n
theorem g_dup2 {x y : Value} (hd : decode bytes pc = .ok (.dup2, 1)) (hp : pc + 1 = pc') (hc : x.category = 1) (hc' : y.category = 1) (n : Go p l e R s m args below meth c Z a0 EL own bytes maxL ret nm ws h cells slots pc' Ls (x :: y :: x :: y :: rest) Q) : Go p l e R s m args below meth c Z a0 EL own bytes maxL ret nm ws h cells slots pc Ls (x :: y :: rest) Q := by
  subst hp; exact go_step (fun hx q _ A _ k => XT.dup2 A hx rfl (hb q hd) rfl hc hc' k) n
theorem g_dupX1 {x y : Value} (hd : decode bytes pc = .ok (.dup_x1, 1)) (hp : pc + 1 = pc') (hc : x.category = 1) (hc' : y.category = 1) (n : Go p l e R s m args below meth c Z a0 EL own bytes maxL ret nm ws h cells slots pc' Ls (x :: y :: x :: rest) Q) : Go p l e R s m args below meth c Z a0 EL own bytes maxL ret nm ws h cells slots pc Ls (x :: y :: rest) Q := by
  subst hp; exact go_step (fun hx q _ A _ k => XS.dupX1 A hx rfl (hb q hd) rfl hc hc' k) n
theorem g_goto {o : Int} (hd : decode bytes pc = .ok (.goto o, 3)) (ho : 0 ≤ (pc : Int) + o) (hp : ((pc : Int) + o).toNat = pc') (n : Go p l e R s m args below meth c Z a0 EL own bytes maxL ret nm ws h cells slots pc' Ls st Q) : Go p l e R s m args below meth c Z a0 EL own bytes maxL ret nm ws h cells slots pc Ls st Q :=
  go_step (fun hx q _ A _ k => XS.goto A hx rfl rfl (hb q hd)  ho hp k) n
theorem g_ifYes {cd : ClassFile.Cond} {x : Int32} {o : Int} (hd : decode bytes pc = .ok (.ifCond cd o, 3)) (hc : if_icmp.holds cd x 0 = true) (ho : 0 ≤ (pc : Int) + o) (hp : ((pc : Int) + o).toNat = pc') (n : Go p l e R s m args below meth c Z a0 EL own bytes maxL ret nm ws h cells slots pc' Ls rest Q) : Go p l e R s m args below meth c Z a0 EL own bytes maxL ret nm ws h cells slots pc Ls (.int x :: rest) Q :=
  go_step (fun hx q _ A _ k => XS.ifYes A hx rfl rfl (hb q hd) rfl ((if0 _ _).trans hc) ho hp k) n
theorem g_ifNo {cd : ClassFile.Cond} {x : Int32} {o : Int} (hd : decode bytes pc = .ok (.ifCond cd o, 3)) (hp : pc + 3 = pc') (hc : if_icmp.holds cd x 0 = false) (n : Go p l e R s m args below meth c Z a0 EL own bytes maxL ret nm ws h cells slots pc' Ls rest Q) : Go p l e R s m args below meth c Z a0 EL own bytes maxL ret nm ws h cells slots pc Ls (.int x :: rest) Q := by
  subst hp; exact go_step (fun hx q _ A _ k => XS.ifNo A hx rfl (hb q hd) rfl ((if0 _ _).trans hc) k) n
theorem g_icmpYes {cd : ClassFile.Cond} {x y : Int32} {o : Int} (hd : decode bytes pc = .ok (.if_icmp cd o, 3)) (hc : if_icmp.holds cd x y = true) (ho : 0 ≤ (pc : Int) + o) (hp : ((pc : Int) + o).toNat = pc') (n : Go p l e R s m args below meth c Z a0 EL own bytes maxL ret nm ws h cells slots pc' Ls rest Q) : Go p l e R s m args below meth c Z a0 EL own bytes maxL ret nm ws h cells slots pc Ls (.int y :: .int x :: rest) Q :=
  go_step (fun hx q _ A _ k => XS.icmpYes A hx rfl rfl (hb q hd) rfl hc ho hp k) n
theorem g_icmpNo {cd : ClassFile.Cond} {x y : Int32} {o : Int} (hd : decode bytes pc = .ok (.if_icmp cd o, 3)) (hp : pc + 3 = pc') (hc : if_icmp.holds cd x y = false) (n : Go p l e R s m args below meth c Z a0 EL own bytes maxL ret nm ws h cells slots pc' Ls rest Q) : Go p l e R s m args below meth c Z a0 EL own bytes maxL ret nm ws h cells slots pc Ls (.int y :: .int x :: rest) Q := by
  subst hp; exact go_step (fun hx q _ A _ k => XS.icmpNo A hx rfl (hb q hd) rfl hc k) n
theorem g_ifnullYes {o : Int} (hd : decode bytes pc = .ok (.ifnull o, 3)) (ho : 0 ≤ (pc : Int) + o) (hp : ((pc : Int) + o).toNat = pc') (n : Go p l e R s m args below meth c Z a0 EL own bytes maxL ret nm ws h cells slots pc' Ls rest Q) : Go p l e R s m args below meth c Z a0 EL own bytes maxL ret nm ws h cells slots pc Ls (.null :: rest) Q :=
  go_step (fun hx q _ A _ k => XS.ifnullYes A hx rfl rfl (hb q hd) rfl ho hp k) n
theorem g_ifnullNo {o : Int} {a : Addr} (hd : decode bytes pc = .ok (.ifnull o, 3)) (hp : pc + 3 = pc') (n : Go p l e R s m args below meth c Z a0 EL own bytes maxL ret nm ws h cells slots pc' Ls rest Q) : Go p l e R s m args below meth c Z a0 EL own bytes maxL ret nm ws h cells slots pc Ls (.ref a :: rest) Q := by
  subst hp; exact go_step (fun hx q _ A _ k => XS.ifnullNo A hx rfl (hb q hd) rfl k) n
theorem g_ifnonnullYes {o : Int} {a : Addr} (hd : decode bytes pc = .ok (.ifnonnull o, 3)) (ho : 0 ≤ (pc : Int) + o) (hp : ((pc : Int) + o).toNat = pc') (n : Go p l e R s m args below meth c Z a0 EL own bytes maxL ret nm ws h cells slots pc' Ls rest Q) : Go p l e R s m args below meth c Z a0 EL own bytes maxL ret nm ws h cells slots pc Ls (.ref a :: rest) Q :=
  go_step (fun hx q _ A _ k => XS.ifnonnullYes A hx rfl rfl (hb q hd) rfl ho hp k) n
theorem g_ifnonnullNo {o : Int} (hd : decode bytes pc = .ok (.ifnonnull o, 3)) (hp : pc + 3 = pc') (n : Go p l e R s m args below meth c Z a0 EL own bytes maxL ret nm ws h cells slots pc' Ls rest Q) : Go p l e R s m args below meth c Z a0 EL own bytes maxL ret nm ws h cells slots pc Ls (.null :: rest) Q := by
  subst hp; exact go_step (fun hx q _ A _ k => XS.ifnonnullNo A hx rfl (hb q hd) rfl k) n
theorem g_acmp {cd : ClassFile.ACond} {x y : Value} {o : Int} {same : Bool} (hd : decode bytes pc = .ok (.if_acmp cd o, 3)) (hx' : x.isRef = true) (hy' : y.isRef = true) (hq : decide (x = y) = same) (ho : 0 ≤ (pc : Int) + o) (hp : pc' = if acV cd same = true then ((pc : Int) + o).toNat else pc + 3) (n : Go p l e R s m args below meth c Z a0 EL own bytes maxL ret nm ws h cells slots pc' Ls rest Q) : Go p l e R s m args below meth c Z a0 EL own bytes maxL ret nm ws h cells slots pc Ls (y :: x :: rest) Q := fun K T P => by
  obtain ⟨u, S, E⟩ := n K T P
  obtain ⟨vm0, k0, locs, X, -⟩ := P
  exact ⟨u, acmp X K.1 (g := mkF m pc Ls (y :: x :: rest)) rfl hx' hy' rfl (hb K.2.1 hd) rfl hq ho hp S, E⟩
end Rules2
end Jvm.Own
namespace Jvm.Own
open Sem ClassFile Op Lib Bundle Jvm.Stand Jvm.Free Jvm.LawKit Jvm.RoadKit
/-! ## counting in ints -/
theorem o_int {i : Nat} (hi : i < 2147483648) : (Int32.ofNat i).toInt = (i : Int) := toInt_of rfl hi
theorem o_lt {i n : Nat} (hi : i < 2147483648) (hn : n < 2147483648) : Int32.ofNat i < Int32.ofNat n ↔ i < n := by
  rw [Int32.lt_iff_toInt_lt, o_int hi, o_int hn]; omega
theorem o_nn {i : Nat} (hi : i < 2147483648) : ¬ Int32.ofNat i < 0 := by
  rw [Int32.lt_iff_toInt_lt, o_int hi]; show ¬ ((i : Int) < 0); omega
theorem o_cl {i : Nat} (hi : i < 2147483648) : (Int32.ofNat i).toNatClampNeg = i := clamp_of rfl hi
theorem o_inc (i : Nat) : Int32.ofNat i + (1 : Int32) = Int32.ofNat (i + 1) := (inc_ofNat i).symm
theorem o_eq {i n : Nat} (hi : i < 2147483648) (hn : n < 2147483648) : Int32.ofNat i = Int32.ofNat n ↔ i = n := by
  constructor
  · intro q; have := congrArg Int32.toInt q; rw [o_int hi, o_int hn] at this; omega
  · intro q; rw [q]
/-! ## arrays by their values within the length -/
theorem Arv_congr {Z : State} {h : Heap} {a : Addr} {k : ClassId} {ty : FieldType} {z : Int32} {vs vs' : List Value} {dv : Value} (F : Arv Z h a k ty z vs dv) (q : ∀ i, i < z.toNatClampNeg → vs'.getD i dv = vs.getD i dv) : Arv Z h a k ty z vs' dv := by
  obtain ⟨c, A, r1, r2, r3, H, G⟩ := F
  exact ⟨c, A, r1, r2, r3, fun i hi => by rw [q i (by rw [← r2]; exact hi)]; exact H i hi, fun i hi => by rw [q i (by rw [← r2]; exact hi)]; exact G i hi⟩
theorem Arv_nn {Z : State} {h : Heap} {a : Addr} {k : ClassId} {ty : FieldType} {z : Int32} {vs : List Value} {dv : Value} (F : Arv Z h a k ty z vs dv) : ¬ z < 0 := by obtain ⟨c, A, r1, r2, r3, H, G⟩ := F; exact r3
theorem getD_set_eq {vs : List Value} {i : Nat} {v d : Value} (hi : i < vs.length) : (vs.set i v).getD i d = v := by simp [List.getD, hi]
theorem getD_set_ne {vs : List Value} {i j : Nat} {v d : Value} (hne : j ≠ i) : (vs.set i v).getD j d = vs.getD j d := by
  simp only [List.getD]; rw [List.getElem?_set_ne (Ne.symm hne)]
theorem Keep_of_ext {h h' : Heap} (E : Ext h h') : Keep h h' [] := (Keep.refl h []).ext E
theorem Ext_of_keep {h h' : Heap} (K : Keep h h' []) : Ext h h' := ⟨K.1, fun x c q => K.2.1 x c q nin0⟩
theorem Keep_mono {h h' : Heap} {ws ws' : List Addr} (K : Keep h h' ws) (q : ∀ x ∈ ws, x ∈ ws') : Keep h h' ws' := ⟨K.1, fun x c r s => K.2.1 x c r fun z => s (q x z), K.2.2⟩
/-- bytes as signed -/
def by8 (c : Int32) : Value := .int c.toInt8.toInt32
theorem fits_by8 (c : Int32) : fits .byte (by8 c) = true := fits_nar_byte c
end Jvm.Own
namespace Jvm.Own
open Sem ClassFile Op Lib Bundle Jvm.Stand Jvm.Free Jvm.LawKit Jvm.RoadKit
theorem i2b2 (x : Int32) : x.toInt8.toInt32.toInt8.toInt32 = x.toInt8.toInt32 := by simp
theorem map_getD (cs : List Int32) (j : Nat) : (cs.map Value.int).getD j (.int 0) = .int (cs.getD j 0) := by
  simp only [List.getD, List.getElem?_map]; cases cs[j]? <;> rfl
theorem map8_getD (cs : List Int32) (j : Nat) : (cs.map by8).getD j (.int 0) = by8 (cs.getD j 0) := by
  simp only [List.getD, List.getElem?_map]; cases cs[j]? <;> rfl
theorem getD_lat {cs : List Int32} (h : ∀ c ∈ cs, ¬ (255 : Int32) < c) (j : Nat) : ¬ (255 : Int32) < cs.getD j 0 := by
  by_cases hj : j < cs.length
  · simp only [List.getD, List.getElem?_eq_getElem hj, Option.getD_some]; exact h _ (List.getElem_mem hj)
  · simp only [List.getD, List.getElem?_eq_none (Nat.le_of_not_lt hj), Option.getD_none]; decide
end Jvm.Own
namespace Jvm.Own
open Sem ClassFile Op Lib Bundle Jvm.Stand Jvm.Free Jvm.LawKit Jvm.RoadKit
theorem fld_eq {args : Array Value} {s : State} {t : Term} {C n d : String} {k : Int32} {x : Addr} (ht : t.eval args s none [] s = some (.ref x)) (h : (Cond.eq (Term.field t C n d) (Term.int k)).value args s none s [] = some true) : s.fieldOf? x C n d = some (.int k) := by
  have q := Cond.eq_int (Cond.before_iff.mpr h) rfl
  simpa [Term.eval, ht] using q
theorem Inv_start0 {s : State} : Inv s [] [] s.vm s.heap := ⟨(fun p hp => nomatch hp), ⟨Nat.le_refl _, fun _ _ q => q⟩, all0⟩
theorem lat255 (x : Int32) : ¬ (255 : Int32) < (x &&& 255).toUInt32.toUInt16.toUInt32.toInt32 := by
  rw [i2c_mask]
  have h := c_and x 255 (by decide)
  rw [Int32.lt_iff_toInt_lt]; exact fun q => absurd q (Int.not_lt.mpr h.2)
theorem all1 {P : Int32 → Prop} {x : Int32} {L : List Int32} (q : P x) (r : ∀ y ∈ L, P y) : ∀ y ∈ x :: L, P y := fun y z => (List.mem_cons.mp z).elim (fun u => u ▸ q) (r y)
theorem allN {P : Int32 → Prop} : ∀ y ∈ ([] : List Int32), P y := fun _ q => nomatch q
theorem nar_i2c (x : Int32) : nar .char (x.toUInt32.toUInt16.toUInt32.toInt32) = x.toUInt32.toUInt16.toUInt32.toInt32 := by
  apply Int32.toInt_inj.mp
  have a := c_i2c x
  have b := c_i2c (x.toUInt32.toUInt16.toUInt32.toInt32)
  show (x.toUInt32.toUInt16.toUInt32.toInt32.toUInt32.toUInt16.toUInt32.toInt32).toInt = _
  omega
end Jvm.Own
namespace Jvm.Own
open Sem ClassFile Op Lib Bundle Jvm.Stand Jvm.Free Jvm.LawKit Jvm.RoadKit
/-! ## Strings of one byte a char -/
/-- the object a is a String, one byte a char, that spells cs; its array is b -/
def LatB (Z : State) (h : Heap) (a b : Addr) (cs : List Int32) : Prop :=
  Exa Z h a "java/lang/String" ∧ Fld Z h a "java/lang/String" "coder" "B" (.int 0) ∧ Fld Z h a "java/lang/String" "value" "[B" (.ref b) ∧ ∃ k, Arv Z h b k .byte (Int32.ofNat cs.length) (cs.map by8) (.int 0)
section LatFacts
variable {Z : State} {h h' : Heap} {a b x : Addr} {cs ds : List Int32} {ws : List Addr} {sl : Nat} {v : Value}
theorem LatB.ext (F : LatB Z h a b cs) (E : Ext h h') : LatB Z h' a b cs := ⟨F.1.ext E, F.2.1.ext E, F.2.2.1.ext E, by obtain ⟨k, A⟩ := F.2.2.2; exact ⟨k, A.ext E⟩⟩
theorem LatB.keep (F : LatB Z h a b cs) (K : Keep h h' ws) (q : a ∉ ws) (r : b ∉ ws) : LatB Z h' a b cs := ⟨F.1.keep K, F.2.1.keep K q, F.2.2.1.keep K q, by obtain ⟨k, A⟩ := F.2.2.2; exact ⟨k, A.keep K r⟩⟩
theorem LatB.other (F : LatB Z h a b cs) (W : Wr h h' x sl v) (q : a ≠ x) (r : b ≠ x) : LatB Z h' a b cs := ⟨Exa.wr W F.1, Fld.other W F.2.1 (Or.inl q), Fld.other W F.2.2.1 (Or.inl q), by obtain ⟨k, A⟩ := F.2.2.2; exact ⟨k, A.other W r⟩⟩
theorem LatB.lt (F : LatB Z h a b cs) : a < h.size := F.1.lt
theorem LatB.blt (F : LatB Z h a b cs) : b < h.size := by obtain ⟨k, A⟩ := F.2.2.2; exact A.lt
theorem LatB.mk {k : ClassId} {z : Int32} {vs : List Value} (E : Exa Z h a "java/lang/String") (C : Fld Z h a "java/lang/String" "coder" "B" (.int 0)) (V : Fld Z h a "java/lang/String" "value" "[B" (.ref b)) (A : Arv Z h b k .byte z vs (.int 0)) (hz : z = Int32.ofNat cs.length) (hv : vs = cs.map by8) : LatB Z h a b cs := ⟨E, C, V, k, by subst hz hv; exact A⟩
end LatFacts
theorem shr0 (x : Int32) : x >>> ((0 : Int32) &&& 31) = x := by
  apply Int32.toInt_inj.mp
  rw [c_ishr x 0 0 (by decide)]; omega
/-- a char up to 255, kept as a byte and read back -/
theorem by8_back {c : Int32} (h0 : ¬ c < 0) (h1 : ¬ (255 : Int32) < c) : (c.toInt8.toInt32 &&& 255) = c := by
  apply Int32.toInt_inj.mp
  have q := c_i2b c
  have m := c_mask c.toInt8.toInt32 255 8 (by decide) (by decide)
  rw [m]
  simp only [Int32.lt_iff_toInt_lt, Int32.reduceToInt] at h0 h1
  have : ((2 : Nat) ^ 8 : Nat) = 256 := rfl
  omega
theorem by8_char {c : Int32} (h0 : ¬ c < 0) (h1 : ¬ (255 : Int32) < c) : (c.toInt8.toInt32 &&& 255).toUInt32.toUInt16.toUInt32.toInt32 = c := by rw [i2c_mask, by8_back h0 h1]
theorem by8_inj {c d : Int32} (h0 : ¬ c < 0) (h1 : ¬ (255 : Int32) < c) (g0 : ¬ d < 0) (g1 : ¬ (255 : Int32) < d) (h : c.toInt8.toInt32 = d.toInt8.toInt32) : c = d := by
  rw [← by8_back h0 h1, ← by8_back g0 g1, h]
/-- each of them lies from 0 to 255 -/
def Byt (cs : List Int32) : Prop := ∀ c ∈ cs, ¬ c < 0 ∧ ¬ (255 : Int32) < c
theorem Byt.nil : Byt [] := fun _ q => nomatch q
theorem Byt.cons {c : Int32} {cs : List Int32} (q : ¬ c < 0 ∧ ¬ (255 : Int32) < c) (r : Byt cs) : Byt (c :: cs) := fun y z => (List.mem_cons.mp z).elim (fun u => u ▸ q) (r y)
theorem Byt.at {cs : List Int32} (B : Byt cs) (j : Nat) : ¬ cs.getD j 0 < 0 ∧ ¬ (255 : Int32) < cs.getD j 0 := by
  by_cases hj : j < cs.length
  · simp only [List.getD, List.getElem?_eq_getElem hj, Option.getD_some]; exact B _ (List.getElem_mem hj)
  · simp only [List.getD, List.getElem?_eq_none (Nat.le_of_not_lt hj), Option.getD_none]; decide
theorem Byt.lat {cs : List Int32} (B : Byt cs) : ∀ c ∈ cs, ¬ (255 : Int32) < c := fun c q => (B c q).2
theorem byt255 (x : Int32) : ¬ (x &&& 255).toUInt32.toUInt16.toUInt32.toInt32 < 0 ∧ ¬ (255 : Int32) < (x &&& 255).toUInt32.toUInt16.toUInt32.toInt32 := by
  refine ⟨?_, lat255 x⟩
  rw [i2c_mask]
  have h := c_and x 255 (by decide)
  rw [Int32.lt_iff_toInt_lt]; exact fun q => absurd q (Int.not_lt.mpr h.1)
theorem list_ext_getD {cs ds : List Int32} (hl : cs.length = ds.length) (h : ∀ i, i < cs.length → cs.getD i 0 = ds.getD i 0) : cs = ds := by
  apply List.ext_getElem hl
  intro i h1 h2
  have q := h i h1
  simpa [List.getD, List.getElem?_eq_getElem h1, List.getElem?_eq_getElem h2] using q
end Jvm.Own
namespace Jvm.Own
open Sem ClassFile Op Lib Bundle Jvm.Stand Jvm.Free Jvm.LawKit Jvm.RoadKit
theorem nar_byt {c : Int32} (h : ¬ c < 0 ∧ ¬ (255 : Int32) < c) : nar .char c = c := by
  have q := by8_char h.1 h.2
  show c.toUInt32.toUInt16.toUInt32.toInt32 = c
  rw [by8_back h.1 h.2] at q; exact q
end Jvm.Own
namespace Jvm.Own
open Sem ClassFile Op Lib Bundle Jvm.Stand Jvm.Free Jvm.LawKit Jvm.RoadKit
/-- r is where ch stands first in cs, or -1 -/
def Ix (cs : List Int32) (ch r : Int32) : Prop := (∃ j, j < cs.length ∧ r = Int32.ofNat j ∧ cs.getD j 0 = ch ∧ ∀ i, i < j → ¬ cs.getD i 0 = ch) ∨ (r = -1 ∧ ∀ i, i < cs.length → ¬ cs.getD i 0 = ch)
end Jvm.Own
namespace Jvm.Own
open Sem ClassFile Op Lib Bundle Jvm.Stand Jvm.Free Jvm.LawKit Jvm.RoadKit
/-! ## Strings of two bytes a char -/
def hi8 (c : Int32) : Value := by8 (c >>> ((8 : Int32) &&& 31))
def u16b : List Int32 → List Value
  | [] => []
  | c :: cs => by8 c :: hi8 c :: u16b cs
theorem u16b_length : ∀ cs : List Int32, (u16b cs).length = 2 * cs.length
  | [] => rfl
  | c :: cs => by simp [u16b, u16b_length cs]; omega
theorem u16b_lo : ∀ (cs : List Int32) (j : Nat), (u16b cs).getD (2 * j) (.int 0) = by8 (cs.getD j 0)
  | [], j => by simp [u16b, List.getD]; rfl
  | c :: cs, 0 => rfl
  | c :: cs, j + 1 => by
    rw [show 2 * (j + 1) = 2 * j + 1 + 1 by omega]
    exact u16b_lo cs j
theorem u16b_hi : ∀ (cs : List Int32) (j : Nat), (u16b cs).getD (2 * j + 1) (.int 0) = hi8 (cs.getD j 0)
  | [], j => by simp [u16b, List.getD]; rfl
  | c :: cs, 0 => rfl
  | c :: cs, j + 1 => by
    rw [show 2 * (j + 1) + 1 = 2 * j + 1 + 1 + 1 by omega]
    exact u16b_hi cs j
def UtfB (Z : State) (h : Heap) (a b : Addr) (cs : List Int32) : Prop :=
  Exa Z h a "java/lang/String" ∧ Fld Z h a "java/lang/String" "coder" "B" (.int 1) ∧ Fld Z h a "java/lang/String" "value" "[B" (.ref b) ∧ ∃ k, Arv Z h b k .byte (Int32.ofNat (2 * cs.length)) (u16b cs) (.int 0)
section UtfFacts
variable {Z : State} {h h' : Heap} {a b x : Addr} {cs ds : List Int32} {ws : List Addr} {sl : Nat} {v : Value}
theorem UtfB.ext (F : UtfB Z h a b cs) (E : Ext h h') : UtfB Z h' a b cs := ⟨F.1.ext E, F.2.1.ext E, F.2.2.1.ext E, by obtain ⟨k, A⟩ := F.2.2.2; exact ⟨k, A.ext E⟩⟩
theorem UtfB.keep (F : UtfB Z h a b cs) (K : Keep h h' ws) (q : a ∉ ws) (r : b ∉ ws) : UtfB Z h' a b cs := ⟨F.1.keep K, F.2.1.keep K q, F.2.2.1.keep K q, by obtain ⟨k, A⟩ := F.2.2.2; exact ⟨k, A.keep K r⟩⟩
theorem UtfB.other (F : UtfB Z h a b cs) (W : Wr h h' x sl v) (q : a ≠ x) (r : b ≠ x) : UtfB Z h' a b cs := ⟨Exa.wr W F.1, Fld.other W F.2.1 (Or.inl q), Fld.other W F.2.2.1 (Or.inl q), by obtain ⟨k, A⟩ := F.2.2.2; exact ⟨k, A.other W r⟩⟩
theorem UtfB.lt (F : UtfB Z h a b cs) : a < h.size := F.1.lt
theorem UtfB.blt (F : UtfB Z h a b cs) : b < h.size := by obtain ⟨k, A⟩ := F.2.2.2; exact A.lt
end UtfFacts
def U16 (cs : List Int32) : Prop := ∀ c ∈ cs, ¬ c < 0 ∧ ¬ (65535 : Int32) < c
theorem U16.nil : U16 [] := fun _ q => nomatch q
theorem U16.cons {c : Int32} {cs : List Int32} (q : ¬ c < 0 ∧ ¬ (65535 : Int32) < c) (r : U16 cs) : U16 (c :: cs) := fun y z => (List.mem_cons.mp z).elim (fun u => u ▸ q) (r y)
theorem U16.at {cs : List Int32} (B : U16 cs) (j : Nat) : ¬ cs.getD j 0 < 0 ∧ ¬ (65535 : Int32) < cs.getD j 0 := by
  by_cases hj : j < cs.length
  · simp only [List.getD, List.getElem?_eq_getElem hj, Option.getD_some]; exact B _ (List.getElem_mem hj)
  · simp only [List.getD, List.getElem?_eq_none (Nat.le_of_not_lt hj), Option.getD_none]; decide
theorem u16_i2c (x : Int32) : ¬ x.toUInt32.toUInt16.toUInt32.toInt32 < 0 ∧ ¬ (65535 : Int32) < x.toUInt32.toUInt16.toUInt32.toInt32 := by
  have q := c_i2c x
  simp only [Int32.lt_iff_toInt_lt, Int32.reduceToInt]; omega
theorem nar_u16 {c : Int32} (h : ¬ c < 0 ∧ ¬ (65535 : Int32) < c) : nar .char c = c := by
  apply Int32.toInt_inj.mp
  have q := c_i2c c
  show c.toUInt32.toUInt16.toUInt32.toInt32.toInt = c.toInt
  simp only [Int32.lt_iff_toInt_lt, Int32.reduceToInt] at h; omega
theorem join16 {c : Int32} (h0 : ¬ c < 0) (h1 : ¬ (65535 : Int32) < c) :
    (((c.toInt8.toInt32 &&& 255) <<< ((0 : Int32) &&& 31)) ||| (((c >>> ((8 : Int32) &&& 31)).toInt8.toInt32 &&& 255) <<< ((8 : Int32) &&& 31))).toUInt32.toUInt16.toUInt32.toInt32 = c := by
  apply Int32.toInt_inj.mp
  have a1 := c_mask c.toInt8.toInt32 255 8 (by decide) (by decide)
  have a2 := c_i2b c
  have s1 := c_ishl (c.toInt8.toInt32 &&& 255) 0 0 (by decide)
  have b1 := c_ishr c 8 8 (by decide)
  have b2 := c_i2b (c >>> ((8 : Int32) &&& 31))
  have b3 := c_mask (c >>> ((8 : Int32) &&& 31)).toInt8.toInt32 255 8 (by decide) (by decide)
  have s2 := c_ishl ((c >>> ((8 : Int32) &&& 31)).toInt8.toInt32 &&& 255) 8 8 (by decide)
  have r1 := rng32 ((c.toInt8.toInt32 &&& 255) <<< ((0 : Int32) &&& 31))
  have r2 := rng32 (((c >>> ((8 : Int32) &&& 31)).toInt8.toInt32 &&& 255) <<< ((8 : Int32) &&& 31))
  have o := c_or' ((c.toInt8.toInt32 &&& 255) <<< ((0 : Int32) &&& 31)) (((c >>> ((8 : Int32) &&& 31)).toInt8.toInt32 &&& 255) <<< ((8 : Int32) &&& 31)) 8 (by decide) 256 rfl
  have r3 := rng32 (((c.toInt8.toInt32 &&& 255) <<< ((0 : Int32) &&& 31)) ||| (((c >>> ((8 : Int32) &&& 31)).toInt8.toInt32 &&& 255) <<< ((8 : Int32) &&& 31)))
  have i := c_i2c (((c.toInt8.toInt32 &&& 255) <<< ((0 : Int32) &&& 31)) ||| (((c >>> ((8 : Int32) &&& 31)).toInt8.toInt32 &&& 255) <<< ((8 : Int32) &&& 31)))
  simp only [Int32.lt_iff_toInt_lt, Int32.reduceToInt] at h0 h1
  have e8 : ((2 : Nat) ^ 8 : Nat) = 256 := rfl
  have e0 : ((2 : Nat) ^ 0 : Nat) = 1 := rfl
  rw [e8] at *
  rw [e0] at s1
  omega
theorem shl1 {n : Nat} (h : n < 1073741824) : Int32.ofNat n <<< ((1 : Int32) &&& 31) = Int32.ofNat (2 * n) := by
  apply Int32.toInt_inj.mp
  have q := c_ishl (Int32.ofNat n) 1 1 (by decide)
  have r := rng32 (Int32.ofNat n <<< ((1 : Int32) &&& 31))
  rw [o_int (by omega)] at q
  rw [o_int (by omega)]
  have e1 : ((2 : Nat) ^ 1 : Nat) = 2 := rfl
  rw [e1] at q; omega
theorem shr1 {n : Nat} (h : n < 1073741824) : Int32.ofNat (2 * n) >>> ((1 : Int32) &&& 31) = Int32.ofNat n := by
  apply Int32.toInt_inj.mp
  have q := c_ishr (Int32.ofNat (2 * n)) 1 1 (by decide)
  rw [o_int (by omega)] at q
  rw [o_int (by omega), q]
  have e1 : ((2 : Nat) ^ 1 : Nat) = 2 := rfl
  rw [e1]; omega
/-- a char, as a String of chars up to 255 has it, is one of the wider kind -/
theorem Byt.u16 {cs : List Int32} (B : Byt cs) : U16 cs := fun c q => ⟨(B c q).1, fun z => (B c q).2 (by simp only [Int32.lt_iff_toInt_lt, Int32.reduceToInt] at *; omega)⟩
end Jvm.Own
namespace Jvm.Own
open Sem ClassFile Op Lib Bundle Jvm.Stand Jvm.Free Jvm.LawKit Jvm.RoadKit
theorem coder1 {n : Nat} (h0 : 0 < n) (h : n ≤ 4000) : (((Int32.ofNat n - Int32.ofNat (2 * n)).toUInt32 >>> (((31 : Int32) &&& 31)).toUInt32).toInt32).toInt8.toInt32 = 1 := by
  apply Int32.toInt_inj.mp
  have a := c_isub (Int32.ofNat n) (Int32.ofNat (2 * n))
  have r := rng32 (Int32.ofNat n - Int32.ofNat (2 * n))
  have s := c_iushr (Int32.ofNat n - Int32.ofNat (2 * n)) 31 31 (by decide) (by decide)
  have b := c_i2b (((Int32.ofNat n - Int32.ofNat (2 * n)).toUInt32 >>> (((31 : Int32) &&& 31)).toUInt32).toInt32)
  rw [o_int (by omega), o_int (by omega)] at a
  have e : ((2 : Nat) ^ 31 : Nat) = 2147483648 := rfl
  rw [e] at s
  rw [show (1 : Int32).toInt = 1 from rfl]
  omega
/-- a String that spells cs, of either kind -/
def StrB (Z : State) (h : Heap) (a b : Addr) (cs : List Int32) : Prop := (Byt cs ∧ LatB Z h a b cs) ∨ (¬ (∀ i, i < cs.length → ¬ (255 : Int32) < cs.getD i 0) ∧ UtfB Z h a b cs)
theorem StrB.ext {Z : State} {h h' : Heap} {a b : Addr} {cs : List Int32} (F : StrB Z h a b cs) (E : Ext h h') : StrB Z h' a b cs := F.imp (fun q => ⟨q.1, q.2.ext E⟩) (fun q => ⟨q.1, q.2.ext E⟩)
theorem StrB.keep {Z : State} {h h' : Heap} {a b : Addr} {cs : List Int32} {ws : List Addr} (F : StrB Z h a b cs) (K : Keep h h' ws) (q : a ∉ ws) (r : b ∉ ws) : StrB Z h' a b cs := F.imp (fun z => ⟨z.1, z.2.keep K q r⟩) (fun z => ⟨z.1, z.2.keep K q r⟩)
theorem StrB.other {Z : State} {h h' : Heap} {a b x : Addr} {cs : List Int32} {sl : Nat} {v : Value} (F : StrB Z h a b cs) (W : Wr h h' x sl v) (q : a ≠ x) (r : b ≠ x) : StrB Z h' a b cs := F.imp (fun z => ⟨z.1, z.2.other W q r⟩) (fun z => ⟨z.1, z.2.other W q r⟩)
theorem StrB.lt {Z : State} {h : Heap} {a b : Addr} {cs : List Int32} (F : StrB Z h a b cs) : a < h.size := F.elim (fun q => q.2.lt) (fun q => q.2.lt)
theorem StrB.blt {Z : State} {h : Heap} {a b : Addr} {cs : List Int32} (F : StrB Z h a b cs) : b < h.size := F.elim (fun q => q.2.blt) (fun q => q.2.blt)
theorem StrB.exa {Z : State} {h : Heap} {a b : Addr} {cs : List Int32} (F : StrB Z h a b cs) : Exa Z h a "java/lang/String" := F.elim (fun q => q.2.1) (fun q => q.2.1)
theorem lat_of {cs : List Int32} (h : ∀ i, i < cs.length → ¬ (255 : Int32) < cs.getD i 0) : ∀ c ∈ cs, ¬ (255 : Int32) < c := fun c hc => by
  obtain ⟨i, hi, rfl⟩ := List.mem_iff_getElem.mp hc
  have q := h i hi
  simpa [List.getD, List.getElem?_eq_getElem hi] using q
theorem U16.byt {cs : List Int32} (B : U16 cs) (h : ∀ i, i < cs.length → ¬ (255 : Int32) < cs.getD i 0) : Byt cs := fun c hc => ⟨(B c hc).1, lat_of h c hc⟩
end Jvm.Own
namespace Jvm.Own
theorem lt65536 {c : Int32} (h : ¬ (255 : Int32) < c) : c < 65536 := by
  simp only [Int32.lt_iff_toInt_lt, Int32.reduceToInt] at *; omega
end Jvm.Own
namespace Jvm.Own
open Sem ClassFile Op Lib Bundle Jvm.Stand Jvm.Free Jvm.LawKit Jvm.RoadKit
/-! ## more calls: through an interface, private, over a nest-mate's entry, natives; switches; class constants -/
section Rules3
variable {p : Program} {l : Launch} {e : Env} {R : Room} {s : State} {m : MethodId} {args : Array Value} {below : List Frame} {meth : Method} {c : Code} {Z : State} {a0 : Array Value} {EL : List (String × Nat)} {own : String} {bytes : ByteArray} {maxL : Nat} {ret : Option FieldType} {nm : String}
  {ws : List Addr} {h : Heap} {cells slots : Nat} {pc pc' : Nat} {Ls Ls' : Array Slot} {st st' rest : List Value} {Q Q' : Option Value → Heap → List Addr → Prop}
theorem go_interface {idx cnt W : Nat} {y z : MethodName} {C0 : String} {bY : ByteArray} {mY : Nat} {rY : Option FieldType} {rm : Room} {as' : Array Value} {ws0 : List Addr} {argsL : List Value} {a : Addr} (hd : decode bytes pc = .ok (.invokeinterface idx cnt, 5)) (hM : Con l Z EL z bY mY rY [] rm as' h ws0 Q) (hs : ∀ x ∈ ws0, x ∈ ws) (E0 : Exa Z h a C0)
    (w1 : (Cond.methodLink own idx y).before a0 Z = true) (w2 : (Cond.declares y).before a0 Z = true) (w7 : (Cond.interfaceMethod y.cls y.cls y.name y.desc).before a0 Z = true) (k7 : ((Cond.interfaceMethod y.cls y.cls y.name y.desc).onTables && (Cond.interfaceMethod y.cls y.cls y.name y.desc).keepsFace) = true) (w5 : (Cond.selects C0 y z).before a0 Z = true) (w6 : (Cond.instanceMethod z).before a0 Z = true) (w8 : (Cond.publicMethod z).before a0 Z = true) (w9 : (Cond.unhidden C0 y.name y.desc).before a0 Z = true) (w10 : (Cond.castable C0 y.cls).before a0 Z = true) (w3 : (Cond.initialized z.cls).before a0 Z = true) (w4 : (Cond.code z bY mY rY).before a0 Z = true) (hy : y.cls ≠ "java/lang/invoke/MethodHandle" ∧ y.cls ≠ "java/lang/invoke/VarHandle")
    (hlen : ∀ sig, parseMethodDescriptor y.desc = some sig → argsL.length = sig.parameters.length) (has : (Value.ref a :: argsL).toArray = as') (hst : st = argsL.reverse ++ .ref a :: rest) (hsz : Ls.size = maxL) (hW : (rest.map fun v => v.category).sum ≤ W) (hf : rm.frames + 1 ≤ R.frames) (hlo : W + (mY + 11) + rm.locals ≤ R.locals) (hc : cells + rm.cells ≤ R.cells) (hl : slots + rm.slots ≤ R.slots) (hp : pc + 5 = pc')
    (nx : ∀ v h' ws', Q v h' ws' → h.size ≤ h'.size → Go p l e R s m args below meth c Z a0 EL own bytes maxL ret nm (ws' ++ ws) h' (cells + rm.cells) (slots + rm.slots) pc' Ls (v.toList ++ rest) Q') :
    Go p l e R s m args below meth c Z a0 EL own bytes maxL ret nm ws h cells slots pc Ls st Q' := fun K T P => by
  obtain ⟨vm0, k0, locs, X, eT, hS, hk, hZ, hown, N, I, C, r⟩ := P
  subst hst hp
  obtain ⟨cB, kB, i1, i2, i3⟩ := isOf (s := s.setVm vm0) hZ eT E0
  obtain ⟨v, vm₁, B, hW1, X', h2, hgr, hpost, hsteps⟩ := X.interfaceBackS K.1 hown (mvT (s := s.setVm vm0) hZ w1) (mvT (s := s.setVm vm0) hZ w2) (mvT (s := s.setVm vm0) hZ w7 k7) (mvT (s := s.setVm vm0) hZ w5) (mvT (s := s.setVm vm0) hZ w6) (mvT (s := s.setVm vm0) hZ w8) (mvT (s := s.setVm vm0) hZ w9) (mvT (s := s.setVm vm0) hZ w10) hy (backC (W := W) hM hZ w4 w3 hf hlo K.2.2.2.2.2.2 I hs) i1 i2 i3 (g := mkF m pc Ls (argsL.reverse ++ .ref a :: rest)) rfl (hsz.trans K.2.2.1.symm) (Steps.refl _) hlen rfl (by show 2 * 0 + _ ≤ _; omega) (hb K.2.1 hd) (fun _ _ => ⟨has, eT, hc, hl⟩)
  exact go_after K eT hS hk hZ hown N C hc hl X' h2 hgr hpost hsteps (nx v)
theorem go_private {idx W : Nat} {y : MethodName} {C0 : String} {bY : ByteArray} {mY : Nat} {rY : Option FieldType} {rm : Room} {as' : Array Value} {ws0 : List Addr} {argsL : List Value} {a : Addr} (hd : decode bytes pc = .ok (.invokevirtual idx, 3)) (hM : Con l Z EL y bY mY rY [] rm as' h ws0 Q) (hs : ∀ x ∈ ws0, x ∈ ws) (E0 : Exa Z h a C0)
    (w1 : (Cond.methodLink own idx y).before a0 Z = true) (w6 : (Cond.instanceMethod y).before a0 Z = true) (w5 : (Cond.selects y.cls y y).before a0 Z = true) (w7 : (Cond.privateMethod y).before a0 Z = true) (w3 : (Cond.initialized y.cls).before a0 Z = true) (w4 : (Cond.code y bY mY rY).before a0 Z = true) (hy : y.cls ≠ "java/lang/invoke/MethodHandle" ∧ y.cls ≠ "java/lang/invoke/VarHandle")
    (hlen : ∀ sig, parseMethodDescriptor y.desc = some sig → argsL.length = sig.parameters.length) (has : (Value.ref a :: argsL).toArray = as') (hst : st = argsL.reverse ++ .ref a :: rest) (hsz : Ls.size = maxL) (hW : (rest.map fun v => v.category).sum ≤ W) (hf : rm.frames + 1 ≤ R.frames) (hlo : W + (mY + 11) + rm.locals ≤ R.locals) (hc : cells + rm.cells ≤ R.cells) (hl : slots + rm.slots ≤ R.slots) (hp : pc + 3 = pc')
    (nx : ∀ v h' ws', Q v h' ws' → h.size ≤ h'.size → Go p l e R s m args below meth c Z a0 EL own bytes maxL ret nm (ws' ++ ws) h' (cells + rm.cells) (slots + rm.slots) pc' Ls (v.toList ++ rest) Q') :
    Go p l e R s m args below meth c Z a0 EL own bytes maxL ret nm ws h cells slots pc Ls st Q' := fun K T P => by
  obtain ⟨vm0, k0, locs, X, eT, hS, hk, hZ, hown, N, I, C, r⟩ := P
  subst hst hp
  obtain ⟨cell, hcell, hobj⟩ := E0.cell
  have hpr : (s.setVm vm0).PrivateAt y := Cond.privateMethod_at (mvP (args := #[]) (s := s.setVm vm0) hZ w7)
  obtain ⟨v, vm₁, B, hW1, X', h2, hgr, hpost, hsteps⟩ := X.privateBackS K.1 hown (mvT (s := s.setVm vm0) hZ w1) (mvT (s := s.setVm vm0) hZ w6) (mvT (s := s.setVm vm0) hZ w5) hpr (mvT (s := s.setVm vm0) hZ w4) hy (backC (W := W) hM hZ w4 w3 hf hlo K.2.2.2.2.2.2 I hs) (g := mkF m pc Ls (argsL.reverse ++ .ref a :: rest)) rfl (hsz.trans K.2.2.1.symm) (Steps.refl _) (a := a) (cell := cell) (by rw [eT]; exact hcell) hobj hlen rfl (by show 2 * 0 + _ ≤ _; omega) (hb K.2.1 hd) (fun _ _ => ⟨has, eT, hc, hl⟩)
  exact go_after K eT hS hk hZ hown N C hc hl X' h2 hgr hpost hsteps (nx v)
theorem go_specialN {idx W : Nat} {host : String} {y : MethodName} {bY : ByteArray} {mY : Nat} {rm : Room} {as' : Array Value} {ws0 : List Addr} {argsL : List Value} {a : Addr} (hd : decode bytes pc = .ok (.invokespecial idx, 3)) (hM : Con l Z EL y bY mY none [] rm as' h ws0 Q) (hs : ∀ x ∈ ws0, x ∈ ws) (hy1 : y.name = "<init>")
    (w1 : (Cond.methodLinkNest own idx y host).before a0 Z = true) (w2 : (Cond.instanceMethod y).before a0 Z = true) (w3 : (Cond.initialized y.cls).before a0 Z = true) (w4 : (Cond.code y bY mY none).before a0 Z = true) (hy : y.cls ≠ "java/lang/invoke/MethodHandle" ∧ y.cls ≠ "java/lang/invoke/VarHandle")
    (hlen : ∀ sig, parseMethodDescriptor y.desc = some sig → argsL.length = sig.parameters.length) (has : (Value.ref a :: argsL).toArray = as') (hst : st = argsL.reverse ++ .ref a :: rest) (hsz : Ls.size = maxL) (hW : (rest.map fun v => v.category).sum ≤ W) (hf : rm.frames + 1 ≤ R.frames) (hlo : W + (mY + 11) + rm.locals ≤ R.locals) (hc : cells + rm.cells ≤ R.cells) (hl : slots + rm.slots ≤ R.slots) (hp : pc + 3 = pc')
    (nx : ∀ v h' ws', Q v h' ws' → h.size ≤ h'.size → Go p l e R s m args below meth c Z a0 EL own bytes maxL ret nm (ws' ++ ws) h' (cells + rm.cells) (slots + rm.slots) pc' Ls (v.toList ++ rest) Q') :
    Go p l e R s m args below meth c Z a0 EL own bytes maxL ret nm ws h cells slots pc Ls st Q' := fun K T P => by
  obtain ⟨vm0, k0, locs, X, eT, hS, hk, hZ, hown, N, I, C, r⟩ := P
  subst hst hp
  have w1' : (Cond.methodLinkNest own idx y host).before args (s.setVm vm0) = true := (Cond.methodLinkNest_wide (s := Z) (vm' := vm0) hZ w1 :)
  obtain ⟨v, vm₁, B, hW1, X', h2, hgr, hpost, hsteps⟩ := X.specialBackNestS K.1 hy1 hown w1' (mvT (s := s.setVm vm0) hZ w2) (mvT (s := s.setVm vm0) hZ w4) hy (backC (W := W) hM hZ w4 w3 hf hlo K.2.2.2.2.2.2 I hs) (g := mkF m pc Ls (argsL.reverse ++ .ref a :: rest)) rfl (hsz.trans K.2.2.1.symm) (Steps.refl _) hlen rfl (by show 2 * 0 + _ ≤ _; omega) (hb K.2.1 hd) (fun _ _ => ⟨has, eT, hc, hl⟩)
  exact go_after K eT hS hk hZ hown N C hc hl X' h2 hgr hpost hsteps (nx v)
/-- System.arraycopy into a new array -/
theorem go_arraycopy {idx W : Nat} {a b : Addr} {k k' : ClassId} {ty ty' : FieldType} {z z' sp dp nn : Int32} {vs vd us : List Value} {dv dd : Value} (hd : decode bytes pc = .ok (.invokestatic idx, 3)) (w1 : (Cond.methodLink own idx Jvm.Stand.acN).before a0 Z = true) (w2 : (Cond.native Jvm.Stand.acN).before a0 Z = true) (w3 : (Cond.static Jvm.Stand.acN).before a0 Z = true) (w4 : (Cond.initialized "java/lang/System").before a0 Z = true)
    (A : Arv Z h a k ty z vs dv) (B : Arv Z h b k' ty' z' vd dd) (hty : (ty = ty' ∧ refKind ty = false) ∨ (refKind ty = true ∧ refKind ty' = true ∧ StoL Z h b us)) (h1 : ¬ sp < 0) (h2 : ¬ dp < 0) (h3 : ¬ nn < 0) (h4 : sp.toNatClampNeg + nn.toNatClampNeg ≤ z.toNatClampNeg) (h5 : dp.toNatClampNeg + nn.toNatClampNeg ≤ z'.toNatClampNeg)
    (hus : us = (List.range nn.toNatClampNeg).map fun i => vs.getD (sp.toNatClampNeg + i) dv) (hl : dp.toNatClampNeg + nn.toNatClampNeg ≤ vd.length) (hb' : b ∈ ws) (hsz : Ls.size = maxL) (hf : 1 ≤ R.frames) (hW : (rest.map fun v => v.category).sum ≤ W) (hlo : W + (nativeFrameWords "java/lang/System" "arraycopy" 5 + 11) ≤ R.locals) (hp : pc + 3 = pc')
    (nx : ∀ h', Keep h h' [b] → Arv Z h' b k' ty' z' (vd.take dp.toNatClampNeg ++ us ++ vd.drop (dp.toNatClampNeg + nn.toNatClampNeg)) dd → Go p l e R s m args below meth c Z a0 EL own bytes maxL ret nm ws h' cells slots pc' Ls rest Q) :
    Go p l e R s m args below meth c Z a0 EL own bytes maxL ret nm ws h cells slots pc Ls (.int nn :: .int dp :: .ref b :: .int sp :: .ref a :: rest) Q := fun K T P => by
  obtain ⟨vm0, k0, locs, X, eT, hS, hk, hZ, hown, N, I, C, r⟩ := P
  obtain ⟨T', h', L, X', e', N', K', A', stp⟩ := cpA X K.1 hZ hown w1 w2 w3 w4 eT A B hty h1 h2 h3 h4 h5 hus hl N (I.2.2 b hb').1 (g := mkF m pc Ls (.int nn :: .int dp :: .ref b :: .int sp :: .ref a :: rest)) rfl (hsz.trans K.2.2.1.symm) rfl (hb K.2.1 hd) hf (W := W) (by show 2 * 0 + _ ≤ _; omega) hlo
  subst hp
  have S1 : ∀ x ∈ [b], x ∈ ws := allS hb' all0
  obtain ⟨u, S2, E⟩ := nx h' K' A' K T' ⟨vm0, k0, L, X', e', hS, Nat.le_trans hk K'.1, hZ, hown, N', I.keep K' S1, C.trans (CHr.keep K' (fun x hx => (I.2.2 x (S1 x hx)).2.2) I.1), r⟩
  exact ⟨u, stp _ S2, E⟩
theorem go_getClass {idx W : Nat} {a mr : Addr} {C0 : String} (hd : decode bytes pc = .ok (.invokevirtual idx, 3)) (w1 : (Cond.methodLink own idx ⟨"java/lang/Object", "getClass", "()Ljava/lang/Class;"⟩).before a0 Z = true) (w2 : (Cond.declares ⟨"java/lang/Object", "getClass", "()Ljava/lang/Class;"⟩).before a0 Z = true) (w3 : (Cond.noSuperclass "java/lang/Object").before a0 Z = true) (w4 : (Cond.selects C0 ⟨"java/lang/Object", "getClass", "()Ljava/lang/Class;"⟩ ⟨"java/lang/Object", "getClass", "()Ljava/lang/Class;"⟩).before a0 Z = true)
    (w5 : (Cond.instanceMethod ⟨"java/lang/Object", "getClass", "()Ljava/lang/Class;"⟩).before a0 Z = true) (w6 : (Cond.native ⟨"java/lang/Object", "getClass", "()Ljava/lang/Class;"⟩).before a0 Z = true) (E0 : Exa Z h a C0) (M : Mir Z C0 mr) (hsz : Ls.size = maxL) (hf : 1 ≤ R.frames) (hW : (rest.map fun v => v.category).sum ≤ W) (hlo : W + (nativeFrameWords "java/lang/Object" "getClass" 1 + 11) ≤ R.locals) (hp : pc + 3 = pc')
    (nx : Go p l e R s m args below meth c Z a0 EL own bytes maxL ret nm ws h cells slots pc' Ls (.ref mr :: rest) Q) : Go p l e R s m args below meth c Z a0 EL own bytes maxL ret nm ws h cells slots pc Ls (.ref a :: rest) Q := fun K T P => by
  obtain ⟨vm0, k0, locs, X, eT, hS, hk, hZ, hown, N, I, C, r⟩ := P
  obtain ⟨T', X', e', stp⟩ := gcls X K.1 hZ hown w1 w2 w3 w4 w5 w6 eT E0 M (g := mkF m pc Ls (.ref a :: rest)) rfl (hsz.trans K.2.2.1.symm) rfl (hb K.2.1 hd) hf (W := W) (by show 2 * 0 + _ ≤ _; omega) hlo
  subst hp
  obtain ⟨u, S2, E⟩ := nx K T' ⟨vm0, k0, locs, X', e', hS, hk, hZ, hown, N, I, C, r⟩
  exact ⟨u, stp _ S2, E⟩
theorem go_ldcClass {idx : Nat} {C0 : String} {mr : Addr} (hd : decode bytes pc = .ok (.ldc idx, 2)) (w : (Cond.classLink own idx C0).before a0 Z = true) (M : Mir Z C0 mr) (hp : pc + 2 = pc')
    (nx : Go p l e R s m args below meth c Z a0 EL own bytes maxL ret nm ws h cells slots pc' Ls (.ref mr :: st) Q) : Go p l e R s m args below meth c Z a0 EL own bytes maxL ret nm ws h cells slots pc Ls st Q := fun K T P => by
  obtain ⟨vm0, k0, locs, X, eT, hS, hk, hZ, hown, N, I, C, r⟩ := P
  obtain ⟨cc, kc, m1, m2, m3, -⟩ := M
  obtain ⟨k', q, ek⟩ := hZ.alike.2.2 _ _ m2
  have hev : (Term.mirror C0).eval args (s.setVm vm0) none [] (s.setVm vm0) = some (.ref mr) := by
    have f1 : vm0.findClass C0 = some cc := by rw [hZ.alike.findClass]; exact m1
    have f2 : vm0.classes[cc]? = some k' := q
    have f0 : (s.setVm vm0).vm = vm0 := rfl
    have f3 : k'.mirror = some mr := by rw [ek]; exact m3
    simp [Term.eval, f0, f1, f2, f3]
  obtain ⟨vm', X', stp⟩ := X.ldcMirror K.1 hown (mvT (s := s.setVm vm0) hZ w) hev (g := mkF m pc Ls st) rfl (hb K.2.1 hd)
  subst hp
  obtain ⟨u, S2, E⟩ := nx K (T.setVm vm') ⟨vm0, k0, locs, X', eT, hS, hk, hZ, hown, N, I, C, r⟩
  exact ⟨u, stp _ S2, E⟩
theorem g_tswIn {dflt low high o : Int} {offs : Array Int} {len : Nat} {i : Int32} (hd : decode bytes pc = .ok (.tableswitch dflt low high offs, len)) (hin : ¬ (i.toInt < low ∨ i.toInt > high)) (hoff : offs[(i.toInt - low).toNat]? = some o) (ho : 0 ≤ (pc : Int) + o) (hp : ((pc : Int) + o).toNat = pc')
    (n : Go p l e R s m args below meth c Z a0 EL own bytes maxL ret nm ws h cells slots pc' Ls rest Q) : Go p l e R s m args below meth c Z a0 EL own bytes maxL ret nm ws h cells slots pc Ls (.int i :: rest) Q :=
  go_step (fun hx q _ A _ k => XS.tswIn A hx rfl rfl (hb q hd) rfl hin hoff ho hp k) n
theorem g_tswOut {dflt low high : Int} {offs : Array Int} {len : Nat} {i : Int32} (hd : decode bytes pc = .ok (.tableswitch dflt low high offs, len)) (hout : i.toInt < low ∨ i.toInt > high) (ho : 0 ≤ (pc : Int) + dflt) (hp : ((pc : Int) + dflt).toNat = pc')
    (n : Go p l e R s m args below meth c Z a0 EL own bytes maxL ret nm ws h cells slots pc' Ls rest Q) : Go p l e R s m args below meth c Z a0 EL own bytes maxL ret nm ws h cells slots pc Ls (.int i :: rest) Q :=
  go_step (fun hx q _ A _ k => XS.tswOut A hx rfl rfl (hb q hd) rfl hout ho hp k) n
theorem g_lswHit {dflt a off : Int} {prs : Array (Int × Int)} {len : Nat} {i : Int32} (hd : decode bytes pc = .ok (.lookupswitch dflt prs, len)) (hsorted : (prs.toList.zip (prs.toList.drop 1)).all (fun (a, next) => a.1 < next.1) = true) (hfind : prs.find? (·.1 == i.toInt) = some (a, off)) (ho : 0 ≤ (pc : Int) + off) (hp : ((pc : Int) + off).toNat = pc')
    (n : Go p l e R s m args below meth c Z a0 EL own bytes maxL ret nm ws h cells slots pc' Ls rest Q) : Go p l e R s m args below meth c Z a0 EL own bytes maxL ret nm ws h cells slots pc Ls (.int i :: rest) Q := fun K T P => by
  obtain ⟨u, S2, E⟩ := n K T P
  obtain ⟨vm0, k0, locs, X, -⟩ := P
  subst hp
  exact ⟨u, X.lookupswitchHit K.1 (g := mkF m pc Ls (.int i :: rest)) rfl rfl (hb K.2.1 hd) hsorted hfind ho _ S2, E⟩
theorem g_lswMiss {dflt : Int} {prs : Array (Int × Int)} {len : Nat} {i : Int32} (hd : decode bytes pc = .ok (.lookupswitch dflt prs, len)) (hsorted : (prs.toList.zip (prs.toList.drop 1)).all (fun (a, next) => a.1 < next.1) = true) (hfind : prs.find? (·.1 == i.toInt) = none) (ho : 0 ≤ (pc : Int) + dflt) (hp : ((pc : Int) + dflt).toNat = pc')
    (n : Go p l e R s m args below meth c Z a0 EL own bytes maxL ret nm ws h cells slots pc' Ls rest Q) : Go p l e R s m args below meth c Z a0 EL own bytes maxL ret nm ws h cells slots pc Ls (.int i :: rest) Q := fun K T P => by
  obtain ⟨u, S2, E⟩ := n K T P
  obtain ⟨vm0, k0, locs, X, -⟩ := P
  subst hp
  exact ⟨u, X.lookupswitchMiss K.1 (g := mkF m pc Ls (.int i :: rest)) rfl rfl (hb K.2.1 hd) hsorted hfind ho _ S2, E⟩
end Rules3
end Jvm.Own
namespace Jvm.Own
open Sem ClassFile Op Lib Bundle Jvm.Stand Jvm.Free Jvm.LawKit Jvm.RoadKit
/-! ## calls to a superclass's method; an array's clone -/
section Rules4
variable {p : Program} {l : Launch} {e : Env} {R : Room} {s : State} {m : MethodId} {args : Array Value} {below : List Frame} {meth : Method} {c : Code} {Z : State} {a0 : Array Value} {EL : List (String × Nat)} {own : String} {bytes : ByteArray} {maxL : Nat} {ret : Option FieldType} {nm : String}
  {ws : List Addr} {h : Heap} {cells slots : Nat} {pc pc' : Nat} {Ls Ls' : Array Slot} {st st' rest : List Value} {Q Q' : Option Value → Heap → List Addr → Prop}
theorem go_super {idx W : Nat} {y : MethodName} {K0 : String} {bY : ByteArray} {mY : Nat} {rY : Option FieldType} {rm : Room} {as' : Array Value} {ws0 : List Addr} {argsL : List Value} {a : Addr} (hd : decode bytes pc = .ok (.invokespecial idx, 3)) (hM : Con l Z EL y bY mY rY [] rm as' h ws0 Q) (hs : ∀ x ∈ ws0, x ∈ ws) (F : Ins Z h a K0 true)
    (w1 : (Cond.methodLink own idx y).before a0 Z = true) (w2 : (Cond.sameMethod y.cls y.cls y.name y.desc).before a0 Z = true) (w6 : (Cond.instanceMethod y).before a0 Z = true) (w7 : (Cond.superclass own y.cls).before a0 Z = true) (w3 : (Cond.initialized y.cls).before a0 Z = true) (w4 : (Cond.code y bY mY rY).before a0 Z = true) (hn : y.name ≠ "<init>")
    (hlen : ∀ sig, parseMethodDescriptor y.desc = some sig → argsL.length = sig.parameters.length) (has : (Value.ref a :: argsL).toArray = as') (hst : st = argsL.reverse ++ .ref a :: rest) (hsz : Ls.size = maxL) (hW : (rest.map fun v => v.category).sum ≤ W) (hf : rm.frames + 1 ≤ R.frames) (hlo : W + (mY + 11) + rm.locals ≤ R.locals) (hc : cells + rm.cells ≤ R.cells) (hl : slots + rm.slots ≤ R.slots) (hp : pc + 3 = pc')
    (nx : ∀ v h' ws', Q v h' ws' → h.size ≤ h'.size → Go p l e R s m args below meth c Z a0 EL own bytes maxL ret nm (ws' ++ ws) h' (cells + rm.cells) (slots + rm.slots) pc' Ls (v.toList ++ rest) Q') :
    Go p l e R s m args below meth c Z a0 EL own bytes maxL ret nm ws h cells slots pc Ls st Q' := fun K T P => by
  obtain ⟨vm0, k0, locs, X, eT, hS, hk, hZ, hown, N, I, C, r⟩ := P
  subst hst hp
  obtain ⟨v, vm₁, B, hW1, X', h2, hgr, hpost, hsteps⟩ := superBackS X K.1 hZ hown w1 w2 w6 w7 hn (backC (W := W) hM hZ w4 w3 hf hlo K.2.2.2.2.2.2 I hs) eT F (g := mkF m pc Ls (argsL.reverse ++ .ref a :: rest)) rfl (hsz.trans K.2.2.1.symm) w4 hlen rfl (by show 2 * 0 + _ ≤ _; omega) (hb K.2.1 hd) (fun _ _ => ⟨has, eT, hc, hl⟩)
  exact go_after K eT hS hk hZ hown N C hc hl X' h2 hgr hpost hsteps (nx v)
theorem go_up {idx W : Nat} {x z : MethodName} {C0 owner : String} {bY : ByteArray} {mY : Nat} {rY : Option FieldType} {rm : Room} {as' : Array Value} {ws0 : List Addr} {argsL : List Value} {a : Addr} (hd : decode bytes pc = .ok (.invokevirtual idx, 3)) (hM : Con l Z EL z bY mY rY [] rm as' h ws0 Q) (hs : ∀ x ∈ ws0, x ∈ ws) (E0 : Exa Z h a C0)
    (w1 : (Cond.methodLink own idx x).before a0 Z = true) (w2 : (Cond.sameMethod x.cls owner x.name x.desc).before a0 Z = true) (w7 : (Cond.declares ⟨owner, x.name, x.desc⟩).before a0 Z = true) (hy : owner ≠ "java/lang/invoke/MethodHandle" ∧ owner ≠ "java/lang/invoke/VarHandle") (w5 : (Cond.selects C0 x z).before a0 Z = true) (w6 : (Cond.instanceMethod z).before a0 Z = true) (w3 : (Cond.initialized z.cls).before a0 Z = true) (w4 : (Cond.code z bY mY rY).before a0 Z = true)
    (hlen : ∀ sig, parseMethodDescriptor x.desc = some sig → argsL.length = sig.parameters.length) (has : (Value.ref a :: argsL).toArray = as') (hst : st = argsL.reverse ++ .ref a :: rest) (hsz : Ls.size = maxL) (hW : (rest.map fun v => v.category).sum ≤ W) (hf : rm.frames + 1 ≤ R.frames) (hlo : W + (mY + 11) + rm.locals ≤ R.locals) (hc : cells + rm.cells ≤ R.cells) (hl : slots + rm.slots ≤ R.slots) (hp : pc + 3 = pc')
    (nx : ∀ v h' ws', Q v h' ws' → h.size ≤ h'.size → Go p l e R s m args below meth c Z a0 EL own bytes maxL ret nm (ws' ++ ws) h' (cells + rm.cells) (slots + rm.slots) pc' Ls (v.toList ++ rest) Q') :
    Go p l e R s m args below meth c Z a0 EL own bytes maxL ret nm ws h cells slots pc Ls st Q' := fun K T P => by
  obtain ⟨vm0, k0, locs, X, eT, hS, hk, hZ, hown, N, I, C, r⟩ := P
  subst hst hp
  obtain ⟨cB, kB, i1, i2, i3⟩ := isOf (s := s.setVm vm0) hZ eT E0
  obtain ⟨v, vm₁, B, hW1, X', h2, hgr, hpost, hsteps⟩ := X.virtualBackUpS K.1 hown (mvT (s := s.setVm vm0) hZ w1) (mvT (s := s.setVm vm0) hZ w2) (mvT (s := s.setVm vm0) hZ w7) hy (mvT (s := s.setVm vm0) hZ w5) (mvT (s := s.setVm vm0) hZ w6) (backC (W := W) hM hZ w4 w3 hf hlo K.2.2.2.2.2.2 I hs) i1 i3 (g := mkF m pc Ls (argsL.reverse ++ .ref a :: rest)) rfl (hsz.trans K.2.2.1.symm) (Steps.refl _) hlen rfl (by show 2 * 0 + _ ≤ _; omega) (hb K.2.1 hd) (fun _ _ => ⟨has, eT, hc, hl⟩)
  exact go_after K eT hS hk hZ hown N C hc hl X' h2 hgr hpost hsteps (nx v)
theorem go_clone {idx W cap : Nat} {ad : String} {a : Addr} {k : ClassId} {ty : FieldType} {z : Int32} {vs : List Value} {dv : Value} (hd : decode bytes pc = .ok (.invokevirtual idx, 3))
    (w1 : (Cond.methodLink own idx ⟨ad, "clone", "()Ljava/lang/Object;"⟩).before a0 Z = true) (w2 : (Cond.sameMethod ad "java/lang/Object" "clone" "()Ljava/lang/Object;").before a0 Z = true) (w3 : (Cond.native ⟨"java/lang/Object", "clone", "()Ljava/lang/Object;"⟩).before a0 Z = true)
    (w4 : (Cond.instanceMethod ⟨"java/lang/Object", "clone", "()Ljava/lang/Object;"⟩).before a0 Z = true) (w5 : (Cond.selects ad ⟨ad, "clone", "()Ljava/lang/Object;"⟩ ⟨"java/lang/Object", "clone", "()Ljava/lang/Object;"⟩).before a0 Z = true) (w6 : (Cond.castable ad "java/lang/Cloneable").before a0 Z = true)
    (F : Arv Z h a k ty z vs dv) (E0 : Exa Z h a ad) (hsz : Ls.size = maxL) (hf : 1 ≤ R.frames) (hW : (rest.map fun v => v.category).sum ≤ W) (hlo : W + 14 ≤ R.locals) (hcap : z.toNatClampNeg ≤ cap) (hc : cells + 1 ≤ R.cells) (hl : slots + cap ≤ R.slots) (hp : pc + 3 = pc')
    (nx : ∀ h' b, b = h.size → Ext h h' → Arv Z h' b k ty z vs dv → Exa Z h' b ad → Go p l e R s m args below meth c Z a0 EL own bytes maxL ret nm (b :: ws) h' (cells + 1) (slots + cap) pc' Ls (.ref b :: rest) Q) : Go p l e R s m args below meth c Z a0 EL own bytes maxL ret nm ws h cells slots pc Ls (.ref a :: rest) Q := fun K T P => by
  obtain ⟨vm0, k0, locs, X, eT, hS, hk, hZ, hown, N, I, C, r⟩ := P
  obtain ⟨T', h', X', e', E', A', D, stp⟩ := cloneH X K.1 hZ hown w1 w2 w3 w4 w5 w6 eT F.arh E0 (g := mkF m pc Ls (.ref a :: rest)) rfl (hsz.trans K.2.2.1.symm) rfl (hb K.2.1 hd) hf (W := W) (by show 2 * 0 + _ ≤ _; omega) hlo hcap hc hl
  subst hp
  obtain ⟨u, S2, E⟩ := nx h' h.size rfl E' A' D K T' ⟨vm0, k0, locs, X', e', hS, Nat.le_trans hk E'.1, hZ, hown, N, I.new E' rfl D.lt, C.trans (CHr.ext E' I.1), hc, hl⟩
  exact ⟨u, stp _ S2, E⟩
theorem go_ldc2 {idx : Nat} {z : Int64} (hd : decode bytes pc = .ok (.ldc2_w idx, 3)) (w : (Cond.constantLong own idx z).before a0 Z = true) (hp : pc + 3 = pc')
    (nx : Go p l e R s m args below meth c Z a0 EL own bytes maxL ret nm ws h cells slots pc' Ls (.long z :: st) Q) : Go p l e R s m args below meth c Z a0 EL own bytes maxL ret nm ws h cells slots pc Ls st Q := fun K T P => by
  obtain ⟨u, S2, E⟩ := nx K T P
  obtain ⟨vm0, k0, locs, X, eT, hS, hk, hZ, hown, N, I, C, r⟩ := P
  subst hp
  exact ⟨u, X.ldc2Long K.1 hown (mv (s := s.setVm vm0) hZ w) (g := mkF m pc Ls st) rfl (hb K.2.1 hd) _ S2, E⟩
theorem go_instNull {idx : Nat} (hd : decode bytes pc = .ok (.instanceof idx, 3)) (hp : pc + 3 = pc')
    (nx : Go p l e R s m args below meth c Z a0 EL own bytes maxL ret nm ws h cells slots pc' Ls (.int 0 :: rest) Q) : Go p l e R s m args below meth c Z a0 EL own bytes maxL ret nm ws h cells slots pc Ls (.null :: rest) Q := fun K T P => by
  obtain ⟨u, S2, E⟩ := nx K T P
  obtain ⟨vm0, k0, locs, X, eT, hS, hk, hZ, hown, N, I, C, r⟩ := P
  subst hp
  exact ⟨u, X.instanceofNull K.1 (g := mkF m pc Ls (.null :: rest)) rfl rfl (hb K.2.1 hd) _ S2, E⟩
theorem go_castNull {idx : Nat} (hd : decode bytes pc = .ok (.checkcast idx, 3)) (hp : pc + 3 = pc')
    (nx : Go p l e R s m args below meth c Z a0 EL own bytes maxL ret nm ws h cells slots pc' Ls (.null :: rest) Q) : Go p l e R s m args below meth c Z a0 EL own bytes maxL ret nm ws h cells slots pc Ls (.null :: rest) Q := fun K T P => by
  obtain ⟨u, S2, E⟩ := nx K T P
  obtain ⟨vm0, k0, locs, X, eT, hS, hk, hZ, hown, N, I, C, r⟩ := P
  subst hp
  exact ⟨u, X.checkcastNull K.1 (g := mkF m pc Ls (.null :: rest)) rfl rfl (hb K.2.1 hd) _ S2, E⟩
end Rules4
end Jvm.Own
namespace Jvm.Own
open Sem ClassFile Op Lib Bundle Jvm.Stand Jvm.Free Jvm.LawKit Jvm.RoadKit
/-! ## what the sheet says of the start: arrays and Strings -/
theorem eq_ref {args : Array Value} {s : State} {a b : Term} {x : Addr} (hb : b.eval args s none [] s = some (.ref x)) (h : (Cond.eq a b).value args s none s [] = some true) : a.eval args s none [] s = some (.ref x) := by
  cases ha : a.eval args s none [] s with
  | none => simp [Cond.value, ha, hb] at h
  | some v => cases v <;> simp_all [Cond.value]
theorem el_int {args : Array Value} {s : State} {t : Term} {k : Int32} (h : (Cond.eq t (Term.int k)).value args s none s [] = some true) : t.eval args s none [] s = some (.int k) := Cond.eq_int (Cond.before_iff.mpr h) rfl
def Els (t : Term) (args : Array Value) (s : State) : Nat → List Value → Prop
  | _, [] => True
  | i, v :: r => (Term.elem t (Term.int (Int32.ofNat i))).eval args s none [] s = some v ∧ Els t args s (i + 1) r
theorem Els.at {t : Term} {args : Array Value} {s : State} {dv : Value} : ∀ (vs : List Value) (i : Nat), Els t args s i vs → ∀ j, j < vs.length → (Term.elem t (Term.int (Int32.ofNat (i + j)))).eval args s none [] s = some (vs.getD j dv)
  | [], _, _, _, q => nomatch q
  | _ :: _, _, H, 0, _ => H.1
  | _ :: r, i, H, j + 1, q => by
    have := Els.at (dv := dv) r (i + 1) H.2 j (Nat.lt_of_succ_lt_succ q)
    rw [Nat.add_right_comm] at this; exact this
theorem arv_start {args : Array Value} {s : State} {t : Term} {ty : FieldType} {x : Addr} {n : Int32} {vs : List Value} {dv : Value} (ht : t.eval args s none [] s = some (.ref x)) (ha : (Cond.arrayOf t ty).value args s none s [] = some true) (hl : (Cond.eq (Term.length t) (Term.int n)).value args s none s [] = some true)
    (hz : ¬ n < 0) (hn : n.toNatClampNeg = vs.length) (hN : vs.length ≤ 4000) (H : Els t args s 0 vs) (hf : ∀ v ∈ vs, fits ty v = true) : ∃ k, Arv s s.heap x k ty n vs dv := by
  obtain ⟨c, A⟩ := Arr.start ht ha
  have e := el_int hl
  have hA := Arr.fin (State.Warmed39.refl s).alike A
  have q : c.slots.size < 2 ^ 31 := by
    by_cases q : c.slots.size < 2 ^ 31
    · exact q
    · simp [Term.eval, ht, hA, q] at e
  have e2 := len_f ht hA q
  have e3 : c.slots.size.toInt32 = n := by rw [e2] at e; exact Value.int.inj (Option.some.inj e)
  have S : c.slots.size = n.toNatClampNeg := by rw [← e3]; simp only [Int32.toNatClampNeg, len_toInt q]; rfl
  have L : ∀ j, j < c.slots.size → j < vs.length := fun j hj => by rw [← hn, ← S]; exact hj
  have Hs : Has c vs dv := fun j hj => by
    have r := Els.at (dv := dv) vs 0 H j (L j hj)
    rw [Nat.zero_add] at r
    have z := (elem_in r ht rfl A.1).2
    rw [o_cl (by have := L j hj; omega)] at z; exact z
  refine ⟨c.cls, c, A, rfl, S, hz, Hs, fun i hi => ?_⟩
  have hi' := L i hi
  rw [List.getD, List.getElem?_eq_getElem hi', Option.getD_some]; exact hf _ (List.getElem_mem hi')
theorem lat_start {args : Array Value} {s : State} {t : Term} {a : Addr} {n : Int32} {cs : List Int32} {vs : List Value} (ht : t.eval args s none [] s = some (.ref a)) (X : (Cond.exactly t "java/lang/String").value args s none s [] = some true) (hc : (Cond.eq (Term.field t "java/lang/String" "coder" "B") (Term.int 0)).value args s none s [] = some true)
    (hA : (Cond.arrayOf (Term.field t "java/lang/String" "value" "[B") .byte).value args s none s [] = some true) (hL : (Cond.eq (Term.length (Term.field t "java/lang/String" "value" "[B")) (Term.int n)).value args s none s [] = some true)
    (hv : vs = cs.map by8) (H : Els (Term.field t "java/lang/String" "value" "[B") args s 0 vs) (hcs : n = Int32.ofNat cs.length) (hN : cs.length ≤ 4000) : ∃ b, LatB s s.heap a b cs := by
  obtain ⟨b, hb⟩ := arr_v hA
  have hb' := (fld_at ht).symm.trans hb
  obtain ⟨k, A⟩ := arv_start (dv := .int 0) hb hA hL (by rw [hcs]; exact o_nn (by omega)) (by rw [hcs, o_cl (by omega), hv, List.length_map]) (by rw [hv, List.length_map]; exact hN) H (fun v q => by rw [hv] at q; obtain ⟨c, -, rfl⟩ := List.mem_map.mp q; exact fits_by8 c)
  exact ⟨b, LatB.mk (Exa.start ht X) (Fld.start (fld_eq ht hc)) (Fld.start hb') A hcs hv⟩
theorem LatB.same {Z : State} {h : Heap} {a b b' : Addr} {cs ds : List Int32} (F : LatB Z h a b cs) (G : LatB Z h a b' ds) (hB : Byt cs) (hD : Byt ds) (hN : cs.length ≤ 4000) (hM : ds.length ≤ 4000) : cs = ds := by
  obtain ⟨-, -, F3, k1, A1⟩ := F
  obtain ⟨-, -, G3, k2, A2⟩ := G
  have e : (Value.ref b) = .ref b' := Decidable.byContradiction fun q => Fld.ne F3 G3 q rfl
  have e' : b = b' := Value.ref.inj e
  subst e'
  obtain ⟨c1, a1, -, s1, -, H1, -⟩ := A1
  obtain ⟨c2, a2, -, s2, -, H2, -⟩ := A2
  cases a1.1.symm.trans a2.1
  rw [o_cl (by omega)] at s1 s2
  refine list_ext_getD (s1.symm.trans s2) fun i hi => ?_
  have q := (H1 i (by omega)).symm.trans (H2 i (by omega))
  rw [map8_getD, map8_getD] at q
  exact by8_inj (hB.at i).1 (hB.at i).2 (hD.at i).1 (hD.at i).2 (Value.int.inj (Option.some.inj q))
theorem Byt.set {cs : List Int32} {c : Int32} (B : Byt cs) (q : ¬ c < 0 ∧ ¬ (255 : Int32) < c) (j : Nat) : Byt (cs.set j c) := fun y hy => by
  rcases List.mem_or_eq_of_mem_set hy with r | r
  · exact B y r
  · rw [r]; exact q
theorem Byt.rep (n : Nat) : Byt (List.replicate n (0 : Int32)) := fun y hy => by
  rw [(List.mem_replicate.mp hy).2]; exact ⟨by decide, by decide⟩
theorem bytL (x : Int64) : ¬ (x &&& (255 : Int64)).toInt32.toUInt32.toUInt16.toUInt32.toInt32 < 0 ∧ ¬ (255 : Int32) < (x &&& (255 : Int64)).toInt32.toUInt32.toUInt16.toUInt32.toInt32 := by
  have a := c_maskL x 255 8 (by decide) (by decide)
  have b := c_l2i (x &&& 255)
  have c := c_i2c (x &&& (255 : Int64)).toInt32
  have r := rng32 (x &&& (255 : Int64)).toInt32
  have e8 : ((2 : Nat) ^ 8 : Nat) = 256 := rfl
  rw [e8] at a
  simp only [Int32.lt_iff_toInt_lt, Int32.reduceToInt]; omega
/-- a number below n -/
theorem rem_nat (x : Int32) (m : Int32) {n : Nat} (hm : m.toInt = (n : Int)) (h0 : 0 < n) (h1 : n < 2147483648) : ∃ j, j < n ∧ (x &&& (2147483647 : Int32)) % m = Int32.ofNat j := by
  have h := c_and x 2147483647 (by decide)
  have q := (c_iremV (x &&& 2147483647) m).1 h.1 (by omega)
  refine ⟨((x &&& (2147483647 : Int32)) % m).toInt.toNat, ?_, ?_⟩
  · omega
  · apply Int32.toInt_inj.mp; rw [o_int (by omega)]; omega
end Jvm.Own
namespace Jvm.Pilot.@@N@@
open Jvm Jvm.ClassFile Sem Op Lib Jvm.Free Jvm.Stand Jvm.LawKit Jvm.RoadKit Bundle Jvm.Own Jvm.Pilot.@@N@@.Jvm.D
theorem w0 {Z : State} {a0 : Array Value} (hw : ∀ d ∈ tables_1, d.before a0 Z = true) : ((Jvm.Cond.methodLink "com/example/sundew/sundew/HolderResourcePinLaw" (16 : Nat) ({ cls := "com/example/sundew/sundew/HolderResourcePinLaw", name := "drawn", desc := "(II)Ljava/lang/String;" } : Jvm.MethodName))).before a0 Z = true := hw _ (List.mem_of_getElem? (i := 0) rfl)
theorem w1 {Z : State} {a0 : Array Value} (hw : ∀ d ∈ tables_1, d.before a0 Z = true) : ((Jvm.Cond.static ({ cls := "com/example/sundew/sundew/HolderResourcePinLaw", name := "drawn", desc := "(II)Ljava/lang/String;" } : Jvm.MethodName))).before a0 Z = true := hw _ (List.mem_of_getElem? (i := 1) rfl)
theorem w2 {Z : State} {a0 : Array Value} (hw : ∀ d ∈ tables_1, d.before a0 Z = true) : ((Jvm.Cond.initialized "com/example/sundew/sundew/HolderResourcePinLaw")).before a0 Z = true := hw _ (List.mem_of_getElem? (i := 2) rfl)
theorem w3 {Z : State} {a0 : Array Value} (hw : ∀ d ∈ tables_1, d.before a0 Z = true) : ((Jvm.Cond.code ({ cls := "com/example/sundew/sundew/HolderResourcePinLaw", name := "drawn", desc := "(II)Ljava/lang/String;" } : Jvm.MethodName) method_2_code (3 : Nat) (Option.some (Jvm.ClassFile.FieldType.object "java/lang/String")))).before a0 Z = true := hw _ (List.mem_of_getElem? (i := 3) rfl)
theorem w4 {Z : State} {a0 : Array Value} (hw : ∀ d ∈ tables_1, d.before a0 Z = true) : ((Jvm.Cond.arrayClass Jvm.ClassFile.FieldType.char)).before a0 Z = true := hw _ (List.mem_of_getElem? (i := 4) rfl)
theorem w5 {Z : State} {a0 : Array Value} (hw : ∀ d ∈ tables_1, d.before a0 Z = true) : ((Jvm.Cond.methodLink "com/example/sundew/sundew/HolderResourcePinLaw" (12 : Nat) ({ cls := "java/lang/String", name := "valueOf", desc := "(C)Ljava/lang/String;" } : Jvm.MethodName))).before a0 Z = true := hw _ (List.mem_of_getElem? (i := 5) rfl)
theorem w6 {Z : State} {a0 : Array Value} (hw : ∀ d ∈ tables_1, d.before a0 Z = true) : ((Jvm.Cond.static ({ cls := "java/lang/String", name := "valueOf", desc := "(C)Ljava/lang/String;" } : Jvm.MethodName))).before a0 Z = true := hw _ (List.mem_of_getElem? (i := 6) rfl)
theorem w7 {Z : State} {a0 : Array Value} (hw : ∀ d ∈ tables_1, d.before a0 Z = true) : ((Jvm.Cond.initialized "java/lang/String")).before a0 Z = true := hw _ (List.mem_of_getElem? (i := 7) rfl)
theorem w8 {Z : State} {a0 : Array Value} (hw : ∀ d ∈ tables_1, d.before a0 Z = true) : ((Jvm.Cond.code ({ cls := "java/lang/String", name := "valueOf", desc := "(C)Ljava/lang/String;" } : Jvm.MethodName) jdk_42_method_139_code (1 : Nat) (Option.some (Jvm.ClassFile.FieldType.object "java/lang/String")))).before a0 Z = true := hw _ (List.mem_of_getElem? (i := 8) rfl)
theorem w9 {Z : State} {a0 : Array Value} (hw : ∀ d ∈ tables_1, d.before a0 Z = true) : ((Jvm.Cond.fieldLink "java/lang/String" (38 : Nat) "java/lang/String" "COMPACT_STRINGS" "Z")).before a0 Z = true := hw _ (List.mem_of_getElem? (i := 9) rfl)
theorem w10 {Z : State} {a0 : Array Value} (hw : ∀ d ∈ tables_1, d.before a0 Z = true) : ((Jvm.Cond.methodLink "java/lang/String" (1015 : Nat) ({ cls := "java/lang/StringLatin1", name := "canEncode", desc := "(C)Z" } : Jvm.MethodName))).before a0 Z = true := hw _ (List.mem_of_getElem? (i := 10) rfl)
theorem w11 {Z : State} {a0 : Array Value} (hw : ∀ d ∈ tables_1, d.before a0 Z = true) : ((Jvm.Cond.static ({ cls := "java/lang/StringLatin1", name := "canEncode", desc := "(C)Z" } : Jvm.MethodName))).before a0 Z = true := hw _ (List.mem_of_getElem? (i := 11) rfl)
theorem w12 {Z : State} {a0 : Array Value} (hw : ∀ d ∈ tables_1, d.before a0 Z = true) : ((Jvm.Cond.initialized "java/lang/StringLatin1")).before a0 Z = true := hw _ (List.mem_of_getElem? (i := 12) rfl)
theorem w13 {Z : State} {a0 : Array Value} (hw : ∀ d ∈ tables_1, d.before a0 Z = true) : ((Jvm.Cond.code ({ cls := "java/lang/StringLatin1", name := "canEncode", desc := "(C)Z" } : Jvm.MethodName) jdk_43_method_3_code (1 : Nat) (Option.some Jvm.ClassFile.FieldType.boolean))).before a0 Z = true := hw _ (List.mem_of_getElem? (i := 13) rfl)
theorem w14 {Z : State} {a0 : Array Value} (hw : ∀ d ∈ tables_1, d.before a0 Z = true) : ((Jvm.Cond.classLink "java/lang/String" (10 : Nat) "java/lang/String")).before a0 Z = true := hw _ (List.mem_of_getElem? (i := 14) rfl)
theorem w15 {Z : State} {a0 : Array Value} (hw : ∀ d ∈ tables_1, d.before a0 Z = true) : ((Jvm.Cond.instantiable "java/lang/String" (4 : Nat))).before a0 Z = true := hw _ (List.mem_of_getElem? (i := 15) rfl)
theorem w16 {Z : State} {a0 : Array Value} (hw : ∀ d ∈ tables_1, d.before a0 Z = true) : ((Jvm.Cond.methodLink "java/lang/String" (1018 : Nat) ({ cls := "java/lang/StringLatin1", name := "toBytes", desc := "(C)[B" } : Jvm.MethodName))).before a0 Z = true := hw _ (List.mem_of_getElem? (i := 16) rfl)
theorem w17 {Z : State} {a0 : Array Value} (hw : ∀ d ∈ tables_1, d.before a0 Z = true) : ((Jvm.Cond.static ({ cls := "java/lang/StringLatin1", name := "toBytes", desc := "(C)[B" } : Jvm.MethodName))).before a0 Z = true := hw _ (List.mem_of_getElem? (i := 17) rfl)
theorem w18 {Z : State} {a0 : Array Value} (hw : ∀ d ∈ tables_1, d.before a0 Z = true) : ((Jvm.Cond.code ({ cls := "java/lang/StringLatin1", name := "toBytes", desc := "(C)[B" } : Jvm.MethodName) jdk_43_method_46_code (1 : Nat) (Option.some (Jvm.ClassFile.FieldType.array Jvm.ClassFile.FieldType.byte)))).before a0 Z = true := hw _ (List.mem_of_getElem? (i := 18) rfl)
theorem w19 {Z : State} {a0 : Array Value} (hw : ∀ d ∈ tables_1, d.before a0 Z = true) : ((Jvm.Cond.arrayClass Jvm.ClassFile.FieldType.byte)).before a0 Z = true := hw _ (List.mem_of_getElem? (i := 19) rfl)
theorem w20 {Z : State} {a0 : Array Value} (hw : ∀ d ∈ tables_1, d.before a0 Z = true) : ((Jvm.Cond.methodLink "java/lang/String" (209 : Nat) ({ cls := "java/lang/String", name := "<init>", desc := "([BB)V" } : Jvm.MethodName))).before a0 Z = true := hw _ (List.mem_of_getElem? (i := 20) rfl)
theorem w21 {Z : State} {a0 : Array Value} (hw : ∀ d ∈ tables_1, d.before a0 Z = true) : ((Jvm.Cond.instanceMethod ({ cls := "java/lang/String", name := "<init>", desc := "([BB)V" } : Jvm.MethodName))).before a0 Z = true := hw _ (List.mem_of_getElem? (i := 21) rfl)
theorem w23 {Z : State} {a0 : Array Value} (hw : ∀ d ∈ tables_1, d.before a0 Z = true) : ((Jvm.Cond.code ({ cls := "java/lang/String", name := "<init>", desc := "([BB)V" } : Jvm.MethodName) jdk_42_method_151_code (3 : Nat) (Option.none : Option Jvm.ClassFile.FieldType))).before a0 Z = true := hw _ (List.mem_of_getElem? (i := 23) rfl)
theorem w24 {Z : State} {a0 : Array Value} (hw : ∀ d ∈ tables_1, d.before a0 Z = true) : ((Jvm.Cond.methodLink "java/lang/String" (1 : Nat) ({ cls := "java/lang/Object", name := "<init>", desc := "()V" } : Jvm.MethodName))).before a0 Z = true := hw _ (List.mem_of_getElem? (i := 24) rfl)
theorem w25 {Z : State} {a0 : Array Value} (hw : ∀ d ∈ tables_1, d.before a0 Z = true) : ((Jvm.Cond.instanceMethod ({ cls := "java/lang/Object", name := "<init>", desc := "()V" } : Jvm.MethodName))).before a0 Z = true := hw _ (List.mem_of_getElem? (i := 25) rfl)
theorem w26 {Z : State} {a0 : Array Value} (hw : ∀ d ∈ tables_1, d.before a0 Z = true) : ((Jvm.Cond.code ({ cls := "java/lang/Object", name := "<init>", desc := "()V" } : Jvm.MethodName) object_method_1_code (1 : Nat) (Option.none : Option Jvm.ClassFile.FieldType))).before a0 Z = true := hw _ (List.mem_of_getElem? (i := 26) rfl)
theorem w27 {Z : State} {a0 : Array Value} (hw : ∀ d ∈ tables_1, d.before a0 Z = true) : ((Jvm.Cond.fieldLink "java/lang/String" (9 : Nat) "java/lang/String" "value" "[B")).before a0 Z = true := hw _ (List.mem_of_getElem? (i := 27) rfl)
theorem w28 {Z : State} {a0 : Array Value} (hw : ∀ d ∈ tables_1, d.before a0 Z = true) : ((Jvm.Cond.laysFinal "java/lang/String" "java/lang/String" "value" "[B")).before a0 Z = true := hw _ (List.mem_of_getElem? (i := 28) rfl)
theorem w29 {Z : State} {a0 : Array Value} (hw : ∀ d ∈ tables_1, d.before a0 Z = true) : ((Jvm.Cond.fieldLink "java/lang/String" (15 : Nat) "java/lang/String" "coder" "B")).before a0 Z = true := hw _ (List.mem_of_getElem? (i := 29) rfl)
theorem w30 {Z : State} {a0 : Array Value} (hw : ∀ d ∈ tables_1, d.before a0 Z = true) : ((Jvm.Cond.laysFinal "java/lang/String" "java/lang/String" "coder" "B")).before a0 Z = true := hw _ (List.mem_of_getElem? (i := 30) rfl)
theorem w31 {Z : State} {a0 : Array Value} (hw : ∀ d ∈ tables_1, d.before a0 Z = true) : ((Jvm.Cond.classLink "com/example/sundew/sundew/HolderResourcePinLaw" (7 : Nat) "java/lang/String")).before a0 Z = true := hw _ (List.mem_of_getElem? (i := 31) rfl)
theorem w32 {Z : State} {a0 : Array Value} (hw : ∀ d ∈ tables_1, d.before a0 Z = true) : ((Jvm.Cond.methodLink "com/example/sundew/sundew/HolderResourcePinLaw" (9 : Nat) ({ cls := "java/lang/String", name := "<init>", desc := "([C)V" } : Jvm.MethodName))).before a0 Z = true := hw _ (List.mem_of_getElem? (i := 32) rfl)
theorem w33 {Z : State} {a0 : Array Value} (hw : ∀ d ∈ tables_1, d.before a0 Z = true) : ((Jvm.Cond.instanceMethod ({ cls := "java/lang/String", name := "<init>", desc := "([C)V" } : Jvm.MethodName))).before a0 Z = true := hw _ (List.mem_of_getElem? (i := 33) rfl)
theorem w34 {Z : State} {a0 : Array Value} (hw : ∀ d ∈ tables_1, d.before a0 Z = true) : ((Jvm.Cond.code ({ cls := "java/lang/String", name := "<init>", desc := "([C)V" } : Jvm.MethodName) jdk_42_method_3_code (2 : Nat) (Option.none : Option Jvm.ClassFile.FieldType))).before a0 Z = true := hw _ (List.mem_of_getElem? (i := 34) rfl)
theorem w35 {Z : State} {a0 : Array Value} (hw : ∀ d ∈ tables_1, d.before a0 Z = true) : ((Jvm.Cond.methodLink "java/lang/String" (27 : Nat) ({ cls := "java/lang/String", name := "<init>", desc := "([CIILjava/lang/Void;)V" } : Jvm.MethodName))).before a0 Z = true := hw _ (List.mem_of_getElem? (i := 35) rfl)
theorem w36 {Z : State} {a0 : Array Value} (hw : ∀ d ∈ tables_1, d.before a0 Z = true) : ((Jvm.Cond.instanceMethod ({ cls := "java/lang/String", name := "<init>", desc := "([CIILjava/lang/Void;)V" } : Jvm.MethodName))).before a0 Z = true := hw _ (List.mem_of_getElem? (i := 36) rfl)
theorem w37 {Z : State} {a0 : Array Value} (hw : ∀ d ∈ tables_1, d.before a0 Z = true) : ((Jvm.Cond.code ({ cls := "java/lang/String", name := "<init>", desc := "([CIILjava/lang/Void;)V" } : Jvm.MethodName) jdk_42_method_149_code (6 : Nat) (Option.none : Option Jvm.ClassFile.FieldType))).before a0 Z = true := hw _ (List.mem_of_getElem? (i := 37) rfl)
theorem w38 {Z : State} {a0 : Array Value} (hw : ∀ d ∈ tables_1, d.before a0 Z = true) : ((Jvm.Cond.methodLink "java/lang/String" (177 : Nat) ({ cls := "java/lang/StringUTF16", name := "compress", desc := "([CII)[B" } : Jvm.MethodName))).before a0 Z = true := hw _ (List.mem_of_getElem? (i := 38) rfl)
theorem w39 {Z : State} {a0 : Array Value} (hw : ∀ d ∈ tables_1, d.before a0 Z = true) : ((Jvm.Cond.static ({ cls := "java/lang/StringUTF16", name := "compress", desc := "([CII)[B" } : Jvm.MethodName))).before a0 Z = true := hw _ (List.mem_of_getElem? (i := 39) rfl)
theorem w40 {Z : State} {a0 : Array Value} (hw : ∀ d ∈ tables_1, d.before a0 Z = true) : ((Jvm.Cond.initialized "java/lang/StringUTF16")).before a0 Z = true := hw _ (List.mem_of_getElem? (i := 40) rfl)
theorem w41 {Z : State} {a0 : Array Value} (hw : ∀ d ∈ tables_1, d.before a0 Z = true) : ((Jvm.Cond.code ({ cls := "java/lang/StringUTF16", name := "compress", desc := "([CII)[B" } : Jvm.MethodName) jdk_52_method_16_code (6 : Nat) (Option.some (Jvm.ClassFile.FieldType.array Jvm.ClassFile.FieldType.byte)))).before a0 Z = true := hw _ (List.mem_of_getElem? (i := 41) rfl)
theorem w42 {Z : State} {a0 : Array Value} (hw : ∀ d ∈ tables_1, d.before a0 Z = true) : ((Jvm.Cond.methodLink "java/lang/StringUTF16" (115 : Nat) ({ cls := "java/lang/StringUTF16", name := "compress", desc := "([CI[BII)I" } : Jvm.MethodName))).before a0 Z = true := hw _ (List.mem_of_getElem? (i := 42) rfl)
theorem w43 {Z : State} {a0 : Array Value} (hw : ∀ d ∈ tables_1, d.before a0 Z = true) : ((Jvm.Cond.static ({ cls := "java/lang/StringUTF16", name := "compress", desc := "([CI[BII)I" } : Jvm.MethodName))).before a0 Z = true := hw _ (List.mem_of_getElem? (i := 43) rfl)
theorem w44 {Z : State} {a0 : Array Value} (hw : ∀ d ∈ tables_1, d.before a0 Z = true) : ((Jvm.Cond.code ({ cls := "java/lang/StringUTF16", name := "compress", desc := "([CI[BII)I" } : Jvm.MethodName) jdk_52_method_21_code (7 : Nat) (Option.some Jvm.ClassFile.FieldType.int))).before a0 Z = true := hw _ (List.mem_of_getElem? (i := 44) rfl)
theorem w45 {Z : State} {a0 : Array Value} (hw : ∀ d ∈ tables_1, d.before a0 Z = true) : ((Jvm.Cond.methodLink "java/lang/String" (47 : Nat) ({ cls := "java/lang/StringUTF16", name := "coderFromArrayLen", desc := "([BI)B" } : Jvm.MethodName))).before a0 Z = true := hw _ (List.mem_of_getElem? (i := 45) rfl)
theorem w46 {Z : State} {a0 : Array Value} (hw : ∀ d ∈ tables_1, d.before a0 Z = true) : ((Jvm.Cond.static ({ cls := "java/lang/StringUTF16", name := "coderFromArrayLen", desc := "([BI)B" } : Jvm.MethodName))).before a0 Z = true := hw _ (List.mem_of_getElem? (i := 46) rfl)
theorem w47 {Z : State} {a0 : Array Value} (hw : ∀ d ∈ tables_1, d.before a0 Z = true) : ((Jvm.Cond.code ({ cls := "java/lang/StringUTF16", name := "coderFromArrayLen", desc := "([BI)B" } : Jvm.MethodName) jdk_52_method_15_code (2 : Nat) (Option.some Jvm.ClassFile.FieldType.byte))).before a0 Z = true := hw _ (List.mem_of_getElem? (i := 47) rfl)
theorem w48 {Z : State} {a0 : Array Value} (hw : ∀ d ∈ tables_1, d.before a0 Z = true) : ((Jvm.Cond.classLink "com/example/sundew/sundew/HolderResourcePinLaw" (22 : Nat) "com/example/sundew/sundew/EntityRef")).before a0 Z = true := hw _ (List.mem_of_getElem? (i := 48) rfl)
theorem w49 {Z : State} {a0 : Array Value} (hw : ∀ d ∈ tables_1, d.before a0 Z = true) : ((Jvm.Cond.instantiable "com/example/sundew/sundew/EntityRef" (2 : Nat))).before a0 Z = true := hw _ (List.mem_of_getElem? (i := 49) rfl)
theorem w50 {Z : State} {a0 : Array Value} (hw : ∀ d ∈ tables_1, d.before a0 Z = true) : ((Jvm.Cond.initialized "com/example/sundew/sundew/EntityRef")).before a0 Z = true := hw _ (List.mem_of_getElem? (i := 50) rfl)
theorem w51 {Z : State} {a0 : Array Value} (hw : ∀ d ∈ tables_1, d.before a0 Z = true) : ((Jvm.Cond.methodLink "com/example/sundew/sundew/HolderResourcePinLaw" (24 : Nat) ({ cls := "com/example/sundew/sundew/EntityRef", name := "<init>", desc := "(Ljava/lang/String;Ljava/lang/String;)V" } : Jvm.MethodName))).before a0 Z = true := hw _ (List.mem_of_getElem? (i := 51) rfl)
theorem w52 {Z : State} {a0 : Array Value} (hw : ∀ d ∈ tables_1, d.before a0 Z = true) : ((Jvm.Cond.instanceMethod ({ cls := "com/example/sundew/sundew/EntityRef", name := "<init>", desc := "(Ljava/lang/String;Ljava/lang/String;)V" } : Jvm.MethodName))).before a0 Z = true := hw _ (List.mem_of_getElem? (i := 52) rfl)
theorem w53 {Z : State} {a0 : Array Value} (hw : ∀ d ∈ tables_1, d.before a0 Z = true) : ((Jvm.Cond.code ({ cls := "com/example/sundew/sundew/EntityRef", name := "<init>", desc := "(Ljava/lang/String;Ljava/lang/String;)V" } : Jvm.MethodName) prog_9_method_1_code (3 : Nat) (Option.none : Option Jvm.ClassFile.FieldType))).before a0 Z = true := hw _ (List.mem_of_getElem? (i := 53) rfl)
theorem w54 {Z : State} {a0 : Array Value} (hw : ∀ d ∈ tables_1, d.before a0 Z = true) : ((Jvm.Cond.methodLink "com/example/sundew/sundew/EntityRef" (1 : Nat) ({ cls := "java/lang/Record", name := "<init>", desc := "()V" } : Jvm.MethodName))).before a0 Z = true := hw _ (List.mem_of_getElem? (i := 54) rfl)
theorem w55 {Z : State} {a0 : Array Value} (hw : ∀ d ∈ tables_1, d.before a0 Z = true) : ((Jvm.Cond.instanceMethod ({ cls := "java/lang/Record", name := "<init>", desc := "()V" } : Jvm.MethodName))).before a0 Z = true := hw _ (List.mem_of_getElem? (i := 55) rfl)
theorem w57 {Z : State} {a0 : Array Value} (hw : ∀ d ∈ tables_1, d.before a0 Z = true) : ((Jvm.Cond.initialized "java/lang/Record")).before a0 Z = true := hw _ (List.mem_of_getElem? (i := 57) rfl)
theorem w58 {Z : State} {a0 : Array Value} (hw : ∀ d ∈ tables_1, d.before a0 Z = true) : ((Jvm.Cond.code ({ cls := "java/lang/Record", name := "<init>", desc := "()V" } : Jvm.MethodName) jdk_30_method_1_code (1 : Nat) (Option.none : Option Jvm.ClassFile.FieldType))).before a0 Z = true := hw _ (List.mem_of_getElem? (i := 58) rfl)
theorem w59 {Z : State} {a0 : Array Value} (hw : ∀ d ∈ tables_1, d.before a0 Z = true) : ((Jvm.Cond.methodLink "java/lang/Record" (1 : Nat) ({ cls := "java/lang/Object", name := "<init>", desc := "()V" } : Jvm.MethodName))).before a0 Z = true := hw _ (List.mem_of_getElem? (i := 59) rfl)
theorem w60 {Z : State} {a0 : Array Value} (hw : ∀ d ∈ tables_1, d.before a0 Z = true) : ((Jvm.Cond.stringLink "com/example/sundew/sundew/EntityRef" (7 : Nat) "type")).before a0 Z = true := hw _ (List.mem_of_getElem? (i := 60) rfl)
theorem w63 {Z : State} {a0 : Array Value} (hw : ∀ d ∈ tables_1, d.before a0 Z = true) : ((Jvm.Cond.methodLink "com/example/sundew/sundew/EntityRef" (9 : Nat) ({ cls := "java/util/Objects", name := "requireNonNull", desc := "(Ljava/lang/Object;Ljava/lang/String;)Ljava/lang/Object;" } : Jvm.MethodName))).before a0 Z = true := hw _ (List.mem_of_getElem? (i := 63) rfl)
theorem w64 {Z : State} {a0 : Array Value} (hw : ∀ d ∈ tables_1, d.before a0 Z = true) : ((Jvm.Cond.static ({ cls := "java/util/Objects", name := "requireNonNull", desc := "(Ljava/lang/Object;Ljava/lang/String;)Ljava/lang/Object;" } : Jvm.MethodName))).before a0 Z = true := hw _ (List.mem_of_getElem? (i := 64) rfl)
theorem w65 {Z : State} {a0 : Array Value} (hw : ∀ d ∈ tables_1, d.before a0 Z = true) : ((Jvm.Cond.initialized "java/util/Objects")).before a0 Z = true := hw _ (List.mem_of_getElem? (i := 65) rfl)
theorem w66 {Z : State} {a0 : Array Value} (hw : ∀ d ∈ tables_1, d.before a0 Z = true) : ((Jvm.Cond.code ({ cls := "java/util/Objects", name := "requireNonNull", desc := "(Ljava/lang/Object;Ljava/lang/String;)Ljava/lang/Object;" } : Jvm.MethodName) jdk_31_method_11_code (2 : Nat) (Option.some (Jvm.ClassFile.FieldType.object "java/lang/Object")))).before a0 Z = true := hw _ (List.mem_of_getElem? (i := 66) rfl)
theorem w67 {Z : State} {a0 : Array Value} (hw : ∀ d ∈ tables_1, d.before a0 Z = true) : ((Jvm.Cond.stringLink "com/example/sundew/sundew/EntityRef" (15 : Nat) "id")).before a0 Z = true := hw _ (List.mem_of_getElem? (i := 67) rfl)
theorem w68 {Z : State} {a0 : Array Value} (hw : ∀ d ∈ tables_1, d.before a0 Z = true) : ((Jvm.Cond.fieldLink "com/example/sundew/sundew/EntityRef" (17 : Nat) "com/example/sundew/sundew/EntityRef" "type" "Ljava/lang/String;")).before a0 Z = true := hw _ (List.mem_of_getElem? (i := 68) rfl)
theorem w69 {Z : State} {a0 : Array Value} (hw : ∀ d ∈ tables_1, d.before a0 Z = true) : ((Jvm.Cond.laysFinal "com/example/sundew/sundew/EntityRef" "com/example/sundew/sundew/EntityRef" "type" "Ljava/lang/String;")).before a0 Z = true := hw _ (List.mem_of_getElem? (i := 69) rfl)
theorem w70 {Z : State} {a0 : Array Value} (hw : ∀ d ∈ tables_1, d.before a0 Z = true) : ((Jvm.Cond.fieldLink "com/example/sundew/sundew/EntityRef" (22 : Nat) "com/example/sundew/sundew/EntityRef" "id" "Ljava/lang/String;")).before a0 Z = true := hw _ (List.mem_of_getElem? (i := 70) rfl)
theorem w71 {Z : State} {a0 : Array Value} (hw : ∀ d ∈ tables_1, d.before a0 Z = true) : ((Jvm.Cond.laysFinal "com/example/sundew/sundew/EntityRef" "com/example/sundew/sundew/EntityRef" "id" "Ljava/lang/String;")).before a0 Z = true := hw _ (List.mem_of_getElem? (i := 71) rfl)
theorem w72 {Z : State} {a0 : Array Value} (hw : ∀ d ∈ tables_1, d.before a0 Z = true) : ((Jvm.Cond.methodLink "com/example/sundew/sundew/HolderResourcePinLaw" (27 : Nat) ({ cls := "com/example/sundew/sundew/Holder", name := "resource", desc := "(Lcom/example/sundew/sundew/EntityRef;)Lcom/example/sundew/sundew/Holder;" } : Jvm.MethodName))).before a0 Z = true := hw _ (List.mem_of_getElem? (i := 72) rfl)
theorem w73 {Z : State} {a0 : Array Value} (hw : ∀ d ∈ tables_1, d.before a0 Z = true) : ((Jvm.Cond.static ({ cls := "com/example/sundew/sundew/Holder", name := "resource", desc := "(Lcom/example/sundew/sundew/EntityRef;)Lcom/example/sundew/sundew/Holder;" } : Jvm.MethodName))).before a0 Z = true := hw _ (List.mem_of_getElem? (i := 73) rfl)
theorem w74 {Z : State} {a0 : Array Value} (hw : ∀ d ∈ tables_1, d.before a0 Z = true) : ((Jvm.Cond.initialized "com/example/sundew/sundew/Holder")).before a0 Z = true := hw _ (List.mem_of_getElem? (i := 74) rfl)
theorem w75 {Z : State} {a0 : Array Value} (hw : ∀ d ∈ tables_1, d.before a0 Z = true) : ((Jvm.Cond.code ({ cls := "com/example/sundew/sundew/Holder", name := "resource", desc := "(Lcom/example/sundew/sundew/EntityRef;)Lcom/example/sundew/sundew/Holder;" } : Jvm.MethodName) prog_10_method_3_code (1 : Nat) (Option.some (Jvm.ClassFile.FieldType.object "com/example/sundew/sundew/Holder")))).before a0 Z = true := hw _ (List.mem_of_getElem? (i := 75) rfl)
theorem w76 {Z : State} {a0 : Array Value} (hw : ∀ d ∈ tables_1, d.before a0 Z = true) : ((Jvm.Cond.classLink "com/example/sundew/sundew/Holder" (29 : Nat) "com/example/sundew/sundew/Holder")).before a0 Z = true := hw _ (List.mem_of_getElem? (i := 76) rfl)
theorem w77 {Z : State} {a0 : Array Value} (hw : ∀ d ∈ tables_1, d.before a0 Z = true) : ((Jvm.Cond.instantiable "com/example/sundew/sundew/Holder" (2 : Nat))).before a0 Z = true := hw _ (List.mem_of_getElem? (i := 77) rfl)
theorem w78 {Z : State} {a0 : Array Value} (hw : ∀ d ∈ tables_1, d.before a0 Z = true) : ((Jvm.Cond.fieldLink "com/example/sundew/sundew/Holder" (45 : Nat) "com/example/sundew/sundew/Holder$Kind" "RESOURCE" "Lcom/example/sundew/sundew/Holder$Kind;")).before a0 Z = true := hw _ (List.mem_of_getElem? (i := 78) rfl)
theorem w79 {Z : State} {a0 : Array Value} (hw : ∀ d ∈ tables_1, d.before a0 Z = true) : ((Jvm.Cond.initialized "com/example/sundew/sundew/Holder$Kind")).before a0 Z = true := hw _ (List.mem_of_getElem? (i := 79) rfl)
theorem w80 {Z : State} {a0 : Array Value} (hw : ∀ d ∈ tables_1, d.before a0 Z = true) : ((Jvm.Cond.laysStatic "com/example/sundew/sundew/Holder$Kind" "RESOURCE" "Lcom/example/sundew/sundew/Holder$Kind;")).before a0 Z = true := hw _ (List.mem_of_getElem? (i := 80) rfl)
theorem w81 {Z : State} {a0 : Array Value} (hw : ∀ d ∈ tables_1, d.before a0 Z = true) : ((Jvm.Cond.stringLink "com/example/sundew/sundew/Holder" (39 : Nat) "entity")).before a0 Z = true := hw _ (List.mem_of_getElem? (i := 81) rfl)
theorem w82 {Z : State} {a0 : Array Value} (hw : ∀ d ∈ tables_1, d.before a0 Z = true) : ((Jvm.Cond.methodLink "com/example/sundew/sundew/Holder" (9 : Nat) ({ cls := "java/util/Objects", name := "requireNonNull", desc := "(Ljava/lang/Object;Ljava/lang/String;)Ljava/lang/Object;" } : Jvm.MethodName))).before a0 Z = true := hw _ (List.mem_of_getElem? (i := 82) rfl)
theorem w83 {Z : State} {a0 : Array Value} (hw : ∀ d ∈ tables_1, d.before a0 Z = true) : ((Jvm.Cond.classLink "com/example/sundew/sundew/Holder" (40 : Nat) "com/example/sundew/sundew/EntityRef")).before a0 Z = true := hw _ (List.mem_of_getElem? (i := 83) rfl)
theorem w85 {Z : State} {a0 : Array Value} (hw : ∀ d ∈ tables_1, d.before a0 Z = true) : ((Jvm.Cond.methodLink "com/example/sundew/sundew/Holder" (42 : Nat) ({ cls := "com/example/sundew/sundew/Holder", name := "<init>", desc := "(Lcom/example/sundew/sundew/Holder$Kind;Lcom/example/sundew/sundew/EntityRef;)V" } : Jvm.MethodName))).before a0 Z = true := hw _ (List.mem_of_getElem? (i := 85) rfl)
theorem w86 {Z : State} {a0 : Array Value} (hw : ∀ d ∈ tables_1, d.before a0 Z = true) : ((Jvm.Cond.instanceMethod ({ cls := "com/example/sundew/sundew/Holder", name := "<init>", desc := "(Lcom/example/sundew/sundew/Holder$Kind;Lcom/example/sundew/sundew/EntityRef;)V" } : Jvm.MethodName))).before a0 Z = true := hw _ (List.mem_of_getElem? (i := 86) rfl)
theorem w87 {Z : State} {a0 : Array Value} (hw : ∀ d ∈ tables_1, d.before a0 Z = true) : ((Jvm.Cond.code ({ cls := "com/example/sundew/sundew/Holder", name := "<init>", desc := "(Lcom/example/sundew/sundew/Holder$Kind;Lcom/example/sundew/sundew/EntityRef;)V" } : Jvm.MethodName) prog_10_method_1_code (3 : Nat) (Option.none : Option Jvm.ClassFile.FieldType))).before a0 Z = true := hw _ (List.mem_of_getElem? (i := 87) rfl)
theorem w88 {Z : State} {a0 : Array Value} (hw : ∀ d ∈ tables_1, d.before a0 Z = true) : ((Jvm.Cond.methodLink "com/example/sundew/sundew/Holder" (1 : Nat) ({ cls := "java/lang/Record", name := "<init>", desc := "()V" } : Jvm.MethodName))).before a0 Z = true := hw _ (List.mem_of_getElem? (i := 88) rfl)
theorem w89 {Z : State} {a0 : Array Value} (hw : ∀ d ∈ tables_1, d.before a0 Z = true) : ((Jvm.Cond.stringLink "com/example/sundew/sundew/Holder" (7 : Nat) "kind")).before a0 Z = true := hw _ (List.mem_of_getElem? (i := 89) rfl)
theorem w90 {Z : State} {a0 : Array Value} (hw : ∀ d ∈ tables_1, d.before a0 Z = true) : ((Jvm.Cond.fieldLink "com/example/sundew/sundew/Holder" (15 : Nat) "com/example/sundew/sundew/Holder$Kind" "ENV" "Lcom/example/sundew/sundew/Holder$Kind;")).before a0 Z = true := hw _ (List.mem_of_getElem? (i := 90) rfl)
theorem w91 {Z : State} {a0 : Array Value} (hw : ∀ d ∈ tables_1, d.before a0 Z = true) : ((Jvm.Cond.laysStatic "com/example/sundew/sundew/Holder$Kind" "ENV" "Lcom/example/sundew/sundew/Holder$Kind;")).before a0 Z = true := hw _ (List.mem_of_getElem? (i := 91) rfl)
theorem w92 {Z : State} {a0 : Array Value} (hw : ∀ d ∈ tables_1, d.before a0 Z = true) : ((Jvm.Cond.fieldLink "com/example/sundew/sundew/Holder" (28 : Nat) "com/example/sundew/sundew/Holder" "kind" "Lcom/example/sundew/sundew/Holder$Kind;")).before a0 Z = true := hw _ (List.mem_of_getElem? (i := 92) rfl)
theorem w93 {Z : State} {a0 : Array Value} (hw : ∀ d ∈ tables_1, d.before a0 Z = true) : ((Jvm.Cond.laysFinal "com/example/sundew/sundew/Holder" "com/example/sundew/sundew/Holder" "kind" "Lcom/example/sundew/sundew/Holder$Kind;")).before a0 Z = true := hw _ (List.mem_of_getElem? (i := 93) rfl)
theorem w94 {Z : State} {a0 : Array Value} (hw : ∀ d ∈ tables_1, d.before a0 Z = true) : ((Jvm.Cond.fieldLink "com/example/sundew/sundew/Holder" (32 : Nat) "com/example/sundew/sundew/Holder" "entity" "Lcom/example/sundew/sundew/EntityRef;")).before a0 Z = true := hw _ (List.mem_of_getElem? (i := 94) rfl)
theorem w95 {Z : State} {a0 : Array Value} (hw : ∀ d ∈ tables_1, d.before a0 Z = true) : ((Jvm.Cond.laysFinal "com/example/sundew/sundew/Holder" "com/example/sundew/sundew/Holder" "entity" "Lcom/example/sundew/sundew/EntityRef;")).before a0 Z = true := hw _ (List.mem_of_getElem? (i := 95) rfl)
theorem w96 {Z : State} {a0 : Array Value} (hw : ∀ d ∈ tables_1, d.before a0 Z = true) : ((Jvm.Cond.methodLink "com/example/sundew/sundew/HolderResourcePinLaw" (33 : Nat) ({ cls := "com/example/sundew/sundew/Holder", name := "kind", desc := "()Lcom/example/sundew/sundew/Holder$Kind;" } : Jvm.MethodName))).before a0 Z = true := hw _ (List.mem_of_getElem? (i := 96) rfl)
theorem w97 {Z : State} {a0 : Array Value} (hw : ∀ d ∈ tables_1, d.before a0 Z = true) : ((Jvm.Cond.declares ({ cls := "com/example/sundew/sundew/Holder", name := "kind", desc := "()Lcom/example/sundew/sundew/Holder$Kind;" } : Jvm.MethodName))).before a0 Z = true := hw _ (List.mem_of_getElem? (i := 97) rfl)
theorem w98 {Z : State} {a0 : Array Value} (hw : ∀ d ∈ tables_1, d.before a0 Z = true) : ((Jvm.Cond.instanceMethod ({ cls := "com/example/sundew/sundew/Holder", name := "kind", desc := "()Lcom/example/sundew/sundew/Holder$Kind;" } : Jvm.MethodName))).before a0 Z = true := hw _ (List.mem_of_getElem? (i := 98) rfl)
theorem w99 {Z : State} {a0 : Array Value} (hw : ∀ d ∈ tables_1, d.before a0 Z = true) : ((Jvm.Cond.selects "com/example/sundew/sundew/Holder" ({ cls := "com/example/sundew/sundew/Holder", name := "kind", desc := "()Lcom/example/sundew/sundew/Holder$Kind;" } : Jvm.MethodName) ({ cls := "com/example/sundew/sundew/Holder", name := "kind", desc := "()Lcom/example/sundew/sundew/Holder$Kind;" } : Jvm.MethodName))).before a0 Z = true := hw _ (List.mem_of_getElem? (i := 99) rfl)
theorem w100 {Z : State} {a0 : Array Value} (hw : ∀ d ∈ tables_1, d.before a0 Z = true) : ((Jvm.Cond.code ({ cls := "com/example/sundew/sundew/Holder", name := "kind", desc := "()Lcom/example/sundew/sundew/Holder$Kind;" } : Jvm.MethodName) prog_10_method_7_code (1 : Nat) (Option.some (Jvm.ClassFile.FieldType.object "com/example/sundew/sundew/Holder$Kind")))).before a0 Z = true := hw _ (List.mem_of_getElem? (i := 100) rfl)
theorem w101 {Z : State} {a0 : Array Value} (hw : ∀ d ∈ tables_1, d.before a0 Z = true) : ((Jvm.Cond.fieldLink "com/example/sundew/sundew/HolderResourcePinLaw" (37 : Nat) "com/example/sundew/sundew/Holder$Kind" "RESOURCE" "Lcom/example/sundew/sundew/Holder$Kind;")).before a0 Z = true := hw _ (List.mem_of_getElem? (i := 101) rfl)
theorem w102 {Z : State} {a0 : Array Value} (hw : ∀ d ∈ tables_1, d.before a0 Z = true) : ((Jvm.Cond.methodLink "com/example/sundew/sundew/HolderResourcePinLaw" (43 : Nat) ({ cls := "com/example/sundew/sundew/Holder", name := "entity", desc := "()Lcom/example/sundew/sundew/EntityRef;" } : Jvm.MethodName))).before a0 Z = true := hw _ (List.mem_of_getElem? (i := 102) rfl)
theorem w103 {Z : State} {a0 : Array Value} (hw : ∀ d ∈ tables_1, d.before a0 Z = true) : ((Jvm.Cond.declares ({ cls := "com/example/sundew/sundew/Holder", name := "entity", desc := "()Lcom/example/sundew/sundew/EntityRef;" } : Jvm.MethodName))).before a0 Z = true := hw _ (List.mem_of_getElem? (i := 103) rfl)
theorem w104 {Z : State} {a0 : Array Value} (hw : ∀ d ∈ tables_1, d.before a0 Z = true) : ((Jvm.Cond.instanceMethod ({ cls := "com/example/sundew/sundew/Holder", name := "entity", desc := "()Lcom/example/sundew/sundew/EntityRef;" } : Jvm.MethodName))).before a0 Z = true := hw _ (List.mem_of_getElem? (i := 104) rfl)
theorem w105 {Z : State} {a0 : Array Value} (hw : ∀ d ∈ tables_1, d.before a0 Z = true) : ((Jvm.Cond.selects "com/example/sundew/sundew/Holder" ({ cls := "com/example/sundew/sundew/Holder", name := "entity", desc := "()Lcom/example/sundew/sundew/EntityRef;" } : Jvm.MethodName) ({ cls := "com/example/sundew/sundew/Holder", name := "entity", desc := "()Lcom/example/sundew/sundew/EntityRef;" } : Jvm.MethodName))).before a0 Z = true := hw _ (List.mem_of_getElem? (i := 105) rfl)
theorem w106 {Z : State} {a0 : Array Value} (hw : ∀ d ∈ tables_1, d.before a0 Z = true) : ((Jvm.Cond.code ({ cls := "com/example/sundew/sundew/Holder", name := "entity", desc := "()Lcom/example/sundew/sundew/EntityRef;" } : Jvm.MethodName) prog_10_method_8_code (1 : Nat) (Option.some (Jvm.ClassFile.FieldType.object "com/example/sundew/sundew/EntityRef")))).before a0 Z = true := hw _ (List.mem_of_getElem? (i := 106) rfl)
theorem w107 {Z : State} {a0 : Array Value} (hw : ∀ d ∈ tables_1, d.before a0 Z = true) : ((Jvm.Cond.fieldLink "com/example/sundew/sundew/HolderResourcePinLaw" (47 : Nat) "com/example/sundew/sundew/Holder" "ENV" "Lcom/example/sundew/sundew/Holder;")).before a0 Z = true := hw _ (List.mem_of_getElem? (i := 107) rfl)
theorem w108 {Z : State} {a0 : Array Value} (hw : ∀ d ∈ tables_1, d.before a0 Z = true) : ((Jvm.Cond.laysStatic "com/example/sundew/sundew/Holder" "ENV" "Lcom/example/sundew/sundew/Holder;")).before a0 Z = true := hw _ (List.mem_of_getElem? (i := 108) rfl)
theorem d_jdk_30_m1_0 : decode jdk_30_method_1_code 0 = .ok (.aload_n 0, 1) := by decide +kernel
theorem d_jdk_30_m1_1 : decode jdk_30_method_1_code 1 = .ok (.invokespecial 1, 3) := by decide +kernel
theorem d_jdk_30_m1_4 : decode jdk_30_method_1_code 4 = .ok (.return_, 1) := by decide +kernel
theorem pn0 : plainName "java/lang/Record" = true := by first | (simp [plainName, overriddenIn]; done) | decide +kernel
theorem d_jdk_31_m11_0 : decode jdk_31_method_11_code 0 = .ok (.aload_n 0, 1) := by decide +kernel
theorem d_jdk_31_m11_1 : decode jdk_31_method_11_code 1 = .ok (.ifnonnull 12, 3) := by decide +kernel
theorem d_jdk_31_m11_13 : decode jdk_31_method_11_code 13 = .ok (.aload_n 0, 1) := by decide +kernel
theorem d_jdk_31_m11_14 : decode jdk_31_method_11_code 14 = .ok (.areturn, 1) := by decide +kernel
theorem pn1 : plainName "java/util/Objects" = true := by first | (simp [plainName, overriddenIn]; done) | decide +kernel
theorem d_jdk_43_m3_0 : decode jdk_43_method_3_code 0 = .ok (.iload_n 0, 1) := by decide +kernel
theorem d_jdk_43_m3_1 : decode jdk_43_method_3_code 1 = .ok (.sipush 255, 3) := by decide +kernel
theorem d_jdk_43_m3_4 : decode jdk_43_method_3_code 4 = .ok (.if_icmp .gt 7, 3) := by decide +kernel
theorem d_jdk_43_m3_7 : decode jdk_43_method_3_code 7 = .ok (.iconst 1, 1) := by decide +kernel
theorem d_jdk_43_m3_8 : decode jdk_43_method_3_code 8 = .ok (.goto 4, 3) := by decide +kernel
theorem d_jdk_43_m3_12 : decode jdk_43_method_3_code 12 = .ok (.ireturn, 1) := by decide +kernel
theorem pn2 : plainName "java/lang/StringLatin1" = true := by first | (simp [plainName, overriddenIn]; done) | decide +kernel
theorem d_jdk_42_m151_0 : decode jdk_42_method_151_code 0 = .ok (.aload_n 0, 1) := by decide +kernel
theorem d_jdk_42_m151_1 : decode jdk_42_method_151_code 1 = .ok (.invokespecial 1, 3) := by decide +kernel
theorem d_jdk_42_m151_4 : decode jdk_42_method_151_code 4 = .ok (.aload_n 0, 1) := by decide +kernel
theorem d_jdk_42_m151_5 : decode jdk_42_method_151_code 5 = .ok (.aload_n 1, 1) := by decide +kernel
theorem d_jdk_42_m151_6 : decode jdk_42_method_151_code 6 = .ok (.putfield 9, 3) := by decide +kernel
theorem d_jdk_42_m151_9 : decode jdk_42_method_151_code 9 = .ok (.aload_n 0, 1) := by decide +kernel
theorem d_jdk_42_m151_10 : decode jdk_42_method_151_code 10 = .ok (.iload_n 2, 1) := by decide +kernel
theorem d_jdk_42_m151_11 : decode jdk_42_method_151_code 11 = .ok (.putfield 15, 3) := by decide +kernel
theorem d_jdk_42_m151_14 : decode jdk_42_method_151_code 14 = .ok (.return_, 1) := by decide +kernel
theorem pn3 : plainName "java/lang/String" = true := by first | (simp [plainName, overriddenIn]; done) | decide +kernel
theorem d_jdk_43_m46_0 : decode jdk_43_method_46_code 0 = .ok (.iconst 1, 1) := by decide +kernel
theorem d_jdk_43_m46_1 : decode jdk_43_method_46_code 1 = .ok (.newarray .byte, 2) := by decide +kernel
theorem d_jdk_43_m46_3 : decode jdk_43_method_46_code 3 = .ok (.dup, 1) := by decide +kernel
theorem d_jdk_43_m46_4 : decode jdk_43_method_46_code 4 = .ok (.iconst 0, 1) := by decide +kernel
theorem d_jdk_43_m46_5 : decode jdk_43_method_46_code 5 = .ok (.iload_n 0, 1) := by decide +kernel
theorem d_jdk_43_m46_6 : decode jdk_43_method_46_code 6 = .ok (.i2b, 1) := by decide +kernel
theorem d_jdk_43_m46_7 : decode jdk_43_method_46_code 7 = .ok (.bastore, 1) := by decide +kernel
theorem d_jdk_43_m46_8 : decode jdk_43_method_46_code 8 = .ok (.areturn, 1) := by decide +kernel
theorem d_jdk_42_m139_0 : decode jdk_42_method_139_code 0 = .ok (.getstatic 38, 3) := by decide +kernel
theorem d_jdk_42_m139_3 : decode jdk_42_method_139_code 3 = .ok (.ifCond .eq 23, 3) := by decide +kernel
theorem d_jdk_42_m139_6 : decode jdk_42_method_139_code 6 = .ok (.iload_n 0, 1) := by decide +kernel
theorem d_jdk_42_m139_7 : decode jdk_42_method_139_code 7 = .ok (.invokestatic 1015, 3) := by decide +kernel
theorem pd0 : parseMethodDescriptor "(C)Z" = some ⟨[.char], some .boolean⟩ := by decide +kernel
theorem d_jdk_42_m139_10 : decode jdk_42_method_139_code 10 = .ok (.ifCond .eq 16, 3) := by decide +kernel
theorem d_jdk_42_m139_13 : decode jdk_42_method_139_code 13 = .ok (.new 10, 3) := by decide +kernel
theorem d_jdk_42_m139_16 : decode jdk_42_method_139_code 16 = .ok (.dup, 1) := by decide +kernel
theorem d_jdk_42_m139_17 : decode jdk_42_method_139_code 17 = .ok (.iload_n 0, 1) := by decide +kernel
theorem d_jdk_42_m139_18 : decode jdk_42_method_139_code 18 = .ok (.invokestatic 1018, 3) := by decide +kernel
theorem pd1 : parseMethodDescriptor "(C)[B" = some ⟨[.char], some (.array .byte)⟩ := by decide +kernel
theorem d_jdk_42_m139_21 : decode jdk_42_method_139_code 21 = .ok (.iconst 0, 1) := by decide +kernel
theorem d_jdk_42_m139_22 : decode jdk_42_method_139_code 22 = .ok (.invokespecial 209, 3) := by decide +kernel
theorem pd2 : parseMethodDescriptor "([BB)V" = some ⟨[(.array .byte), .byte], none⟩ := by decide +kernel
theorem d_jdk_42_m139_25 : decode jdk_42_method_139_code 25 = .ok (.areturn, 1) := by decide +kernel
theorem d_jdk_52_m21_3 : decode jdk_52_method_21_code 3 = .ok (.iload 5, 2) := by decide +kernel
theorem d_jdk_52_m21_5 : decode jdk_52_method_21_code 5 = .ok (.iload 4, 2) := by decide +kernel
theorem d_jdk_52_m21_7 : decode jdk_52_method_21_code 7 = .ok (.if_icmp .ge 37, 3) := by decide +kernel
theorem d_jdk_52_m21_44 : decode jdk_52_method_21_code 44 = .ok (.iload 4, 2) := by decide +kernel
theorem d_jdk_52_m21_46 : decode jdk_52_method_21_code 46 = .ok (.ireturn, 1) := by decide +kernel
theorem d_jdk_52_m21_10 : decode jdk_52_method_21_code 10 = .ok (.aload_n 0, 1) := by decide +kernel
theorem d_jdk_52_m21_11 : decode jdk_52_method_21_code 11 = .ok (.iload_n 1, 1) := by decide +kernel
theorem d_jdk_52_m21_12 : decode jdk_52_method_21_code 12 = .ok (.caload, 1) := by decide +kernel
theorem d_jdk_52_m21_13 : decode jdk_52_method_21_code 13 = .ok (.istore 6, 2) := by decide +kernel
theorem d_jdk_52_m21_15 : decode jdk_52_method_21_code 15 = .ok (.iload 6, 2) := by decide +kernel
theorem d_jdk_52_m21_17 : decode jdk_52_method_21_code 17 = .ok (.sipush 255, 3) := by decide +kernel
theorem d_jdk_52_m21_20 : decode jdk_52_method_21_code 20 = .ok (.if_icmp .le 6, 3) := by decide +kernel
theorem d_jdk_52_m21_23 : decode jdk_52_method_21_code 23 = .ok (.iload 5, 2) := by decide +kernel
theorem d_jdk_52_m21_25 : decode jdk_52_method_21_code 25 = .ok (.ireturn, 1) := by decide +kernel
theorem d_jdk_52_m21_26 : decode jdk_52_method_21_code 26 = .ok (.aload_n 2, 1) := by decide +kernel
theorem d_jdk_52_m21_27 : decode jdk_52_method_21_code 27 = .ok (.iload_n 3, 1) := by decide +kernel
theorem d_jdk_52_m21_28 : decode jdk_52_method_21_code 28 = .ok (.iload 6, 2) := by decide +kernel
theorem d_jdk_52_m21_30 : decode jdk_52_method_21_code 30 = .ok (.i2b, 1) := by decide +kernel
theorem d_jdk_52_m21_31 : decode jdk_52_method_21_code 31 = .ok (.bastore, 1) := by decide +kernel
theorem d_jdk_52_m21_32 : decode jdk_52_method_21_code 32 = .ok (.iinc 1 1, 3) := by decide +kernel
theorem d_jdk_52_m21_35 : decode jdk_52_method_21_code 35 = .ok (.iinc 3 1, 3) := by decide +kernel
theorem d_jdk_52_m21_38 : decode jdk_52_method_21_code 38 = .ok (.iinc 5 1, 3) := by decide +kernel
theorem d_jdk_52_m21_41 : decode jdk_52_method_21_code 41 = .ok (.goto (-38), 3) := by decide +kernel
theorem d_jdk_52_m21_0 : decode jdk_52_method_21_code 0 = .ok (.iconst 0, 1) := by decide +kernel
theorem d_jdk_52_m21_1 : decode jdk_52_method_21_code 1 = .ok (.istore 5, 2) := by decide +kernel
theorem pn4 : plainName "java/lang/StringUTF16" = true := by first | (simp [plainName, overriddenIn]; done) | decide +kernel
theorem d_jdk_52_m16_0 : decode jdk_52_method_16_code 0 = .ok (.iload_n 2, 1) := by decide +kernel
theorem d_jdk_52_m16_1 : decode jdk_52_method_16_code 1 = .ok (.newarray .byte, 2) := by decide +kernel
theorem d_jdk_52_m16_3 : decode jdk_52_method_16_code 3 = .ok (.astore_n 3, 1) := by decide +kernel
theorem d_jdk_52_m16_4 : decode jdk_52_method_16_code 4 = .ok (.aload_n 0, 1) := by decide +kernel
theorem d_jdk_52_m16_5 : decode jdk_52_method_16_code 5 = .ok (.iload_n 1, 1) := by decide +kernel
theorem d_jdk_52_m16_6 : decode jdk_52_method_16_code 6 = .ok (.aload_n 3, 1) := by decide +kernel
theorem d_jdk_52_m16_7 : decode jdk_52_method_16_code 7 = .ok (.iconst 0, 1) := by decide +kernel
theorem d_jdk_52_m16_8 : decode jdk_52_method_16_code 8 = .ok (.iload_n 2, 1) := by decide +kernel
theorem d_jdk_52_m16_9 : decode jdk_52_method_16_code 9 = .ok (.invokestatic 115, 3) := by decide +kernel
theorem pd3 : parseMethodDescriptor "([CI[BII)I" = some ⟨[(.array .char), .int, (.array .byte), .int, .int], some .int⟩ := by decide +kernel
theorem d_jdk_52_m16_12 : decode jdk_52_method_16_code 12 = .ok (.istore 4, 2) := by decide +kernel
theorem d_jdk_52_m16_14 : decode jdk_52_method_16_code 14 = .ok (.iload 4, 2) := by decide +kernel
theorem d_jdk_52_m16_16 : decode jdk_52_method_16_code 16 = .ok (.iload_n 2, 1) := by decide +kernel
theorem d_jdk_52_m16_17 : decode jdk_52_method_16_code 17 = .ok (.if_icmp .eq 40, 3) := by decide +kernel
theorem d_jdk_52_m16_57 : decode jdk_52_method_16_code 57 = .ok (.aload_n 3, 1) := by decide +kernel
theorem d_jdk_52_m16_58 : decode jdk_52_method_16_code 58 = .ok (.areturn, 1) := by decide +kernel
theorem d_jdk_52_m15_0 : decode jdk_52_method_15_code 0 = .ok (.iload_n 1, 1) := by decide +kernel
theorem d_jdk_52_m15_1 : decode jdk_52_method_15_code 1 = .ok (.aload_n 0, 1) := by decide +kernel
theorem d_jdk_52_m15_2 : decode jdk_52_method_15_code 2 = .ok (.arraylength, 1) := by decide +kernel
theorem d_jdk_52_m15_3 : decode jdk_52_method_15_code 3 = .ok (.isub, 1) := by decide +kernel
theorem d_jdk_52_m15_4 : decode jdk_52_method_15_code 4 = .ok (.bipush 31, 2) := by decide +kernel
theorem d_jdk_52_m15_6 : decode jdk_52_method_15_code 6 = .ok (.iushr, 1) := by decide +kernel
theorem d_jdk_52_m15_7 : decode jdk_52_method_15_code 7 = .ok (.i2b, 1) := by decide +kernel
theorem d_jdk_52_m15_8 : decode jdk_52_method_15_code 8 = .ok (.ireturn, 1) := by decide +kernel
theorem d_jdk_42_m149_0 : decode jdk_42_method_149_code 0 = .ok (.aload_n 0, 1) := by decide +kernel
theorem d_jdk_42_m149_1 : decode jdk_42_method_149_code 1 = .ok (.invokespecial 1, 3) := by decide +kernel
theorem d_jdk_42_m149_4 : decode jdk_42_method_149_code 4 = .ok (.iload_n 3, 1) := by decide +kernel
theorem d_jdk_42_m149_5 : decode jdk_42_method_149_code 5 = .ok (.ifCond .ne 22, 3) := by decide +kernel
theorem d_jdk_42_m149_27 : decode jdk_42_method_149_code 27 = .ok (.getstatic 38, 3) := by decide +kernel
theorem d_jdk_42_m149_30 : decode jdk_42_method_149_code 30 = .ok (.ifCond .eq 28, 3) := by decide +kernel
theorem d_jdk_42_m149_33 : decode jdk_42_method_149_code 33 = .ok (.aload_n 1, 1) := by decide +kernel
theorem d_jdk_42_m149_34 : decode jdk_42_method_149_code 34 = .ok (.iload_n 2, 1) := by decide +kernel
theorem d_jdk_42_m149_35 : decode jdk_42_method_149_code 35 = .ok (.iload_n 3, 1) := by decide +kernel
theorem d_jdk_42_m149_36 : decode jdk_42_method_149_code 36 = .ok (.invokestatic 177, 3) := by decide +kernel
theorem pd4 : parseMethodDescriptor "([CII)[B" = some ⟨[(.array .char), .int, .int], some (.array .byte)⟩ := by decide +kernel
theorem d_jdk_42_m149_39 : decode jdk_42_method_149_code 39 = .ok (.astore 5, 2) := by decide +kernel
theorem d_jdk_42_m149_41 : decode jdk_42_method_149_code 41 = .ok (.aload_n 0, 1) := by decide +kernel
theorem d_jdk_42_m149_42 : decode jdk_42_method_149_code 42 = .ok (.aload 5, 2) := by decide +kernel
theorem d_jdk_42_m149_44 : decode jdk_42_method_149_code 44 = .ok (.iload_n 3, 1) := by decide +kernel
theorem d_jdk_42_m149_45 : decode jdk_42_method_149_code 45 = .ok (.invokestatic 47, 3) := by decide +kernel
theorem pd5 : parseMethodDescriptor "([BI)B" = some ⟨[(.array .byte), .int], some .byte⟩ := by decide +kernel
theorem d_jdk_42_m149_48 : decode jdk_42_method_149_code 48 = .ok (.putfield 15, 3) := by decide +kernel
theorem d_jdk_42_m149_51 : decode jdk_42_method_149_code 51 = .ok (.aload_n 0, 1) := by decide +kernel
theorem d_jdk_42_m149_52 : decode jdk_42_method_149_code 52 = .ok (.aload 5, 2) := by decide +kernel
theorem d_jdk_42_m149_54 : decode jdk_42_method_149_code 54 = .ok (.putfield 9, 3) := by decide +kernel
theorem d_jdk_42_m149_57 : decode jdk_42_method_149_code 57 = .ok (.return_, 1) := by decide +kernel
theorem d_jdk_42_m3_0 : decode jdk_42_method_3_code 0 = .ok (.aload_n 0, 1) := by decide +kernel
theorem d_jdk_42_m3_1 : decode jdk_42_method_3_code 1 = .ok (.aload_n 1, 1) := by decide +kernel
theorem d_jdk_42_m3_2 : decode jdk_42_method_3_code 2 = .ok (.iconst 0, 1) := by decide +kernel
theorem d_jdk_42_m3_3 : decode jdk_42_method_3_code 3 = .ok (.aload_n 1, 1) := by decide +kernel
theorem d_jdk_42_m3_4 : decode jdk_42_method_3_code 4 = .ok (.arraylength, 1) := by decide +kernel
theorem d_jdk_42_m3_5 : decode jdk_42_method_3_code 5 = .ok (.aconst_null, 1) := by decide +kernel
theorem d_jdk_42_m3_6 : decode jdk_42_method_3_code 6 = .ok (.invokespecial 27, 3) := by decide +kernel
theorem pd6 : parseMethodDescriptor "([CIILjava/lang/Void;)V" = some ⟨[(.array .char), .int, .int, (.object "java/lang/Void")], none⟩ := by decide +kernel
theorem d_jdk_42_m3_9 : decode jdk_42_method_3_code 9 = .ok (.return_, 1) := by decide +kernel
theorem d_m2_0 : decode method_2_code 0 = .ok (.iconst 2, 1) := by decide +kernel
theorem d_m2_1 : decode method_2_code 1 = .ok (.newarray .char, 2) := by decide +kernel
theorem d_m2_3 : decode method_2_code 3 = .ok (.dup, 1) := by decide +kernel
theorem d_m2_4 : decode method_2_code 4 = .ok (.iconst 0, 1) := by decide +kernel
theorem d_m2_5 : decode method_2_code 5 = .ok (.iload_n 0, 1) := by decide +kernel
theorem d_m2_6 : decode method_2_code 6 = .ok (.sipush 255, 3) := by decide +kernel
theorem d_m2_9 : decode method_2_code 9 = .ok (.iand, 1) := by decide +kernel
theorem d_m2_10 : decode method_2_code 10 = .ok (.i2c, 1) := by decide +kernel
theorem d_m2_11 : decode method_2_code 11 = .ok (.castore, 1) := by decide +kernel
theorem d_m2_12 : decode method_2_code 12 = .ok (.dup, 1) := by decide +kernel
theorem d_m2_13 : decode method_2_code 13 = .ok (.iconst 1, 1) := by decide +kernel
theorem d_m2_14 : decode method_2_code 14 = .ok (.iload_n 0, 1) := by decide +kernel
theorem d_m2_15 : decode method_2_code 15 = .ok (.bipush 8, 2) := by decide +kernel
theorem d_m2_17 : decode method_2_code 17 = .ok (.iushr, 1) := by decide +kernel
theorem d_m2_18 : decode method_2_code 18 = .ok (.sipush 255, 3) := by decide +kernel
theorem d_m2_21 : decode method_2_code 21 = .ok (.iand, 1) := by decide +kernel
theorem d_m2_22 : decode method_2_code 22 = .ok (.i2c, 1) := by decide +kernel
theorem d_m2_23 : decode method_2_code 23 = .ok (.castore, 1) := by decide +kernel
theorem d_m2_24 : decode method_2_code 24 = .ok (.astore_n 2, 1) := by decide +kernel
theorem d_m2_25 : decode method_2_code 25 = .ok (.iload_n 1, 1) := by decide +kernel
theorem d_m2_26 : decode method_2_code 26 = .ok (.iconst 1, 1) := by decide +kernel
theorem d_m2_27 : decode method_2_code 27 = .ok (.iand, 1) := by decide +kernel
theorem d_m2_28 : decode method_2_code 28 = .ok (.ifCond .eq 12, 3) := by decide +kernel
theorem d_m2_40 : decode method_2_code 40 = .ok (.aload_n 2, 1) := by decide +kernel
theorem d_m2_41 : decode method_2_code 41 = .ok (.iconst 0, 1) := by decide +kernel
theorem d_m2_42 : decode method_2_code 42 = .ok (.caload, 1) := by decide +kernel
theorem d_m2_43 : decode method_2_code 43 = .ok (.invokestatic 12, 3) := by decide +kernel
theorem pd7 : parseMethodDescriptor "(C)Ljava/lang/String;" = some ⟨[.char], some (.object "java/lang/String")⟩ := by decide +kernel
theorem d_m2_46 : decode method_2_code 46 = .ok (.areturn, 1) := by decide +kernel
theorem d_m2_31 : decode method_2_code 31 = .ok (.new 7, 3) := by decide +kernel
theorem d_m2_34 : decode method_2_code 34 = .ok (.dup, 1) := by decide +kernel
theorem d_m2_35 : decode method_2_code 35 = .ok (.aload_n 2, 1) := by decide +kernel
theorem d_m2_36 : decode method_2_code 36 = .ok (.invokespecial 9, 3) := by decide +kernel
theorem pd8 : parseMethodDescriptor "([C)V" = some ⟨[(.array .char)], none⟩ := by decide +kernel
theorem d_m2_39 : decode method_2_code 39 = .ok (.areturn, 1) := by decide +kernel
theorem pn5 : plainName "com/example/sundew/sundew/HolderResourcePinLaw" = true := by first | (simp [plainName, overriddenIn]; done) | decide +kernel
theorem d_prog_9_m1_0 : decode prog_9_method_1_code 0 = .ok (.aload_n 0, 1) := by decide +kernel
theorem d_prog_9_m1_1 : decode prog_9_method_1_code 1 = .ok (.invokespecial 1, 3) := by decide +kernel
theorem pd9 : parseMethodDescriptor "()V" = some ⟨[], none⟩ := by decide +kernel
theorem d_prog_9_m1_4 : decode prog_9_method_1_code 4 = .ok (.aload_n 1, 1) := by decide +kernel
theorem d_prog_9_m1_5 : decode prog_9_method_1_code 5 = .ok (.ldc 7, 2) := by decide +kernel
theorem d_prog_9_m1_7 : decode prog_9_method_1_code 7 = .ok (.invokestatic 9, 3) := by decide +kernel
theorem pd10 : parseMethodDescriptor "(Ljava/lang/Object;Ljava/lang/String;)Ljava/lang/Object;" = some ⟨[(.object "java/lang/Object"), (.object "java/lang/String")], some (.object "java/lang/Object")⟩ := by decide +kernel
theorem d_prog_9_m1_10 : decode prog_9_method_1_code 10 = .ok (.pop, 1) := by decide +kernel
theorem d_prog_9_m1_11 : decode prog_9_method_1_code 11 = .ok (.aload_n 2, 1) := by decide +kernel
theorem d_prog_9_m1_12 : decode prog_9_method_1_code 12 = .ok (.ldc 15, 2) := by decide +kernel
theorem d_prog_9_m1_14 : decode prog_9_method_1_code 14 = .ok (.invokestatic 9, 3) := by decide +kernel
theorem d_prog_9_m1_17 : decode prog_9_method_1_code 17 = .ok (.pop, 1) := by decide +kernel
theorem d_prog_9_m1_18 : decode prog_9_method_1_code 18 = .ok (.aload_n 0, 1) := by decide +kernel
theorem d_prog_9_m1_19 : decode prog_9_method_1_code 19 = .ok (.aload_n 1, 1) := by decide +kernel
theorem d_prog_9_m1_20 : decode prog_9_method_1_code 20 = .ok (.putfield 17, 3) := by decide +kernel
theorem d_prog_9_m1_23 : decode prog_9_method_1_code 23 = .ok (.aload_n 0, 1) := by decide +kernel
theorem d_prog_9_m1_24 : decode prog_9_method_1_code 24 = .ok (.aload_n 2, 1) := by decide +kernel
theorem d_prog_9_m1_25 : decode prog_9_method_1_code 25 = .ok (.putfield 22, 3) := by decide +kernel
theorem d_prog_9_m1_28 : decode prog_9_method_1_code 28 = .ok (.return_, 1) := by decide +kernel
theorem pn6 : plainName "com/example/sundew/sundew/EntityRef" = true := by first | (simp [plainName, overriddenIn]; done) | decide +kernel
theorem d_prog_10_m1_0 : decode prog_10_method_1_code 0 = .ok (.aload_n 0, 1) := by decide +kernel
theorem d_prog_10_m1_1 : decode prog_10_method_1_code 1 = .ok (.invokespecial 1, 3) := by decide +kernel
theorem d_prog_10_m1_4 : decode prog_10_method_1_code 4 = .ok (.aload_n 1, 1) := by decide +kernel
theorem d_prog_10_m1_5 : decode prog_10_method_1_code 5 = .ok (.ldc 7, 2) := by decide +kernel
theorem d_prog_10_m1_7 : decode prog_10_method_1_code 7 = .ok (.invokestatic 9, 3) := by decide +kernel
theorem d_prog_10_m1_10 : decode prog_10_method_1_code 10 = .ok (.pop, 1) := by decide +kernel
theorem d_prog_10_m1_11 : decode prog_10_method_1_code 11 = .ok (.aload_n 1, 1) := by decide +kernel
theorem d_prog_10_m1_12 : decode prog_10_method_1_code 12 = .ok (.getstatic 15, 3) := by decide +kernel
theorem d_prog_10_m1_15 : decode prog_10_method_1_code 15 = .ok (.if_acmp .ne 7, 3) := by decide +kernel
theorem d_prog_10_m1_22 : decode prog_10_method_1_code 22 = .ok (.iconst 0, 1) := by decide +kernel
theorem d_prog_10_m1_23 : decode prog_10_method_1_code 23 = .ok (.aload_n 2, 1) := by decide +kernel
theorem d_prog_10_m1_24 : decode prog_10_method_1_code 24 = .ok (.ifnonnull 7, 3) := by decide +kernel
theorem d_prog_10_m1_31 : decode prog_10_method_1_code 31 = .ok (.iconst 0, 1) := by decide +kernel
theorem d_prog_10_m1_32 : decode prog_10_method_1_code 32 = .ok (.if_icmp .eq 13, 3) := by decide +kernel
theorem d_prog_10_m1_45 : decode prog_10_method_1_code 45 = .ok (.aload_n 0, 1) := by decide +kernel
theorem d_prog_10_m1_46 : decode prog_10_method_1_code 46 = .ok (.aload_n 1, 1) := by decide +kernel
theorem d_prog_10_m1_47 : decode prog_10_method_1_code 47 = .ok (.putfield 28, 3) := by decide +kernel
theorem d_prog_10_m1_50 : decode prog_10_method_1_code 50 = .ok (.aload_n 0, 1) := by decide +kernel
theorem d_prog_10_m1_51 : decode prog_10_method_1_code 51 = .ok (.aload_n 2, 1) := by decide +kernel
theorem d_prog_10_m1_52 : decode prog_10_method_1_code 52 = .ok (.putfield 32, 3) := by decide +kernel
theorem d_prog_10_m1_55 : decode prog_10_method_1_code 55 = .ok (.return_, 1) := by decide +kernel
theorem pn7 : plainName "com/example/sundew/sundew/Holder" = true := by first | (simp [plainName, overriddenIn]; done) | decide +kernel
theorem d_prog_10_m3_0 : decode prog_10_method_3_code 0 = .ok (.new 29, 3) := by decide +kernel
theorem d_prog_10_m3_3 : decode prog_10_method_3_code 3 = .ok (.dup, 1) := by decide +kernel
theorem d_prog_10_m3_4 : decode prog_10_method_3_code 4 = .ok (.getstatic 45, 3) := by decide +kernel
theorem d_prog_10_m3_7 : decode prog_10_method_3_code 7 = .ok (.aload_n 0, 1) := by decide +kernel
theorem d_prog_10_m3_8 : decode prog_10_method_3_code 8 = .ok (.ldc 39, 2) := by decide +kernel
theorem d_prog_10_m3_10 : decode prog_10_method_3_code 10 = .ok (.invokestatic 9, 3) := by decide +kernel
theorem d_prog_10_m3_13 : decode prog_10_method_3_code 13 = .ok (.checkcast 40, 3) := by decide +kernel
theorem d_prog_10_m3_16 : decode prog_10_method_3_code 16 = .ok (.invokespecial 42, 3) := by decide +kernel
theorem pd11 : parseMethodDescriptor "(Lcom/example/sundew/sundew/Holder$Kind;Lcom/example/sundew/sundew/EntityRef;)V" = some ⟨[(.object "com/example/sundew/sundew/Holder$Kind"), (.object "com/example/sundew/sundew/EntityRef")], none⟩ := by decide +kernel
theorem d_prog_10_m3_19 : decode prog_10_method_3_code 19 = .ok (.areturn, 1) := by decide +kernel
theorem d_prog_10_m7_0 : decode prog_10_method_7_code 0 = .ok (.aload_n 0, 1) := by decide +kernel
theorem d_prog_10_m7_1 : decode prog_10_method_7_code 1 = .ok (.getfield 28, 3) := by decide +kernel
theorem d_prog_10_m7_4 : decode prog_10_method_7_code 4 = .ok (.areturn, 1) := by decide +kernel
theorem d_prog_10_m8_0 : decode prog_10_method_8_code 0 = .ok (.aload_n 0, 1) := by decide +kernel
theorem d_prog_10_m8_1 : decode prog_10_method_8_code 1 = .ok (.getfield 32, 3) := by decide +kernel
theorem d_prog_10_m8_4 : decode prog_10_method_8_code 4 = .ok (.areturn, 1) := by decide +kernel
theorem pd12 : parseMethodDescriptor "(II)Ljava/lang/String;" = some ⟨[.int, .int], some (.object "java/lang/String")⟩ := by decide +kernel
theorem pd13 : parseMethodDescriptor "(Ljava/lang/String;Ljava/lang/String;)V" = some ⟨[(.object "java/lang/String"), (.object "java/lang/String")], none⟩ := by decide +kernel
theorem pd14 : parseMethodDescriptor "(Lcom/example/sundew/sundew/EntityRef;)Lcom/example/sundew/sundew/Holder;" = some ⟨[(.object "com/example/sundew/sundew/EntityRef")], some (.object "com/example/sundew/sundew/Holder")⟩ := by decide +kernel
theorem pd15 : parseMethodDescriptor "()Lcom/example/sundew/sundew/Holder$Kind;" = some ⟨[], some (.object "com/example/sundew/sundew/Holder$Kind")⟩ := by decide +kernel
theorem pd16 : parseMethodDescriptor "()Lcom/example/sundew/sundew/EntityRef;" = some ⟨[], some (.object "com/example/sundew/sundew/EntityRef")⟩ := by decide +kernel
def EL : List (String × Nat) := []
theorem eW {Z : State} {a0 : Array Value} (hw : ∀ d ∈ tables_1, d.before a0 Z = true) : EW Z a0 EL := EW.nil
theorem sA {Z : State} {a0 : Array Value} (hw : ∀ d ∈ tables_1, d.before a0 Z = true) : ∀ a ∈ Bundle.stringAtoms, a.before a0 Z = true := fun a ha => hw a ((by decide +kernel : ∀ a ∈ Bundle.stringAtoms, a ∈ tables_1) a ha)
set_option maxRecDepth 65536 in
set_option maxHeartbeats 40000000 in
theorem rm_record {l : Launch} {Z : State} {a0 : Array Value} (hw : ∀ d ∈ tables_1, d.before a0 Z = true) (a : Addr) (h0 : Heap) :
    Con l Z EL ⟨"java/lang/Record", "<init>", "()V"⟩ jdk_30_method_1_code 1 none [] { frames := 1, cells := 0, slots := 0, locals := 12 } #[(.ref a)] h0 [] (fun v h ws => v = none ∧ h0 = h ∧ ws = []) := by
  refine con_of (a0 := a0) (Ls := #[.val (.ref a)]) (plainFor_of_name pn0) (eW hw) (fun m => by first | (simp [entryFrame, mkF, argsToLocals, Value.category]; done) | rfl) ?_
  intro p e s m below meth c
  refine g_aloadN d_jdk_30_m1_0 (pc' := 1) rfl rfl rfl ?_
  refine go_init d_jdk_30_m1_1 (w59 hw) (w25 hw) (w26 hw) rfl (by decide) (W := 0) (Nat.le_of_ble_eq_true rfl) (by decide) (pc' := 4) rfl ?_
  exact go_return d_jdk_30_m1_4 rfl (ws' := []) (fun _ q => q) ⟨rfl, rfl, rfl⟩
set_option maxRecDepth 65536 in
set_option maxHeartbeats 40000000 in
theorem rm_require2 {l : Launch} {Z : State} {a0 : Array Value} (hw : ∀ d ∈ tables_1, d.before a0 Z = true) (a b : Addr) (h0 : Heap) :
    Con l Z EL ⟨"java/util/Objects", "requireNonNull", "(Ljava/lang/Object;Ljava/lang/String;)Ljava/lang/Object;"⟩ jdk_31_method_11_code 2 (some (.object "java/lang/Object")) [] { frames := 0, cells := 0, slots := 0, locals := 0 } #[(.ref a), (.ref b)] h0 [] (fun v h ws => v = some (.ref a) ∧ h0 = h ∧ ws = []) := by
  refine con_of (a0 := a0) (Ls := #[.val (.ref a), .val (.ref b)]) (plainFor_of_name pn1) (eW hw) (fun m => by first | (simp [entryFrame, mkF, argsToLocals, Value.category]; done) | rfl) ?_
  intro p e s m below meth c
  refine g_aloadN d_jdk_31_m11_0 (pc' := 1) rfl rfl rfl ?_
  refine g_ifnonnullYes d_jdk_31_m11_1 (pc' := 13) (by decide) (by decide) ?_
  refine g_aloadN d_jdk_31_m11_13 (pc' := 14) rfl rfl rfl ?_
  exact go_areturn d_jdk_31_m11_14 rfl rfl rfl (ws' := []) (fun _ q => q) ⟨rfl, rfl, rfl⟩
set_option maxRecDepth 65536 in
set_option maxHeartbeats 40000000 in
theorem rm_canEncode {l : Launch} {Z : State} {a0 : Array Value} (hw : ∀ d ∈ tables_1, d.before a0 Z = true) (x : Int32) (h0 : Heap) (hq : ¬ (255 : Int32) < x) :
    Con l Z EL ⟨"java/lang/StringLatin1", "canEncode", "(C)Z"⟩ jdk_43_method_3_code 1 (some .boolean) [] { frames := 0, cells := 0, slots := 0, locals := 0 } #[(.int x)] h0 [] (fun v h ws => v = some (.int (1 : Int32)) ∧ h0 = h ∧ ws = []) := by
  refine con_of (a0 := a0) (Ls := #[.val (.int x)]) (plainFor_of_name pn2) (eW hw) (fun m => by first | (simp [entryFrame, mkF, argsToLocals, Value.category]; done) | rfl) ?_
  intro p e s m below meth c
  refine g_iloadN d_jdk_43_m3_0 (pc' := 1) rfl rfl ?_
  refine g_sipush d_jdk_43_m3_1 (pc' := 4) rfl (z := 255) rfl ?_
  refine g_icmpNo d_jdk_43_m3_4 (pc' := 7) rfl (flt hq).2.2.1 ?_
  refine g_iconst d_jdk_43_m3_7 (pc' := 8) rfl (z := 1) rfl ?_
  refine g_goto d_jdk_43_m3_8 (pc' := 12) (by decide) (by decide) ?_
  exact go_ireturn d_jdk_43_m3_12 rfl (Or.inr (Or.inl rfl)) rfl (ws' := []) (fun _ q => q) ⟨rfl, rfl, rfl⟩
set_option maxRecDepth 65536 in
set_option maxHeartbeats 40000000 in
theorem rm_initBB {l : Launch} {Z : State} {a0 : Array Value} (hw : ∀ d ∈ tables_1, d.before a0 Z = true) (a b : Addr) (x : Int32) (o1 o2 : Value) (h0 : Heap) (hn : narrow .byte (.int x) = .int x) (hf : fits .byte (.int x) = true) (E : Exa Z h0 a "java/lang/String") (Fv : Fld Z h0 a "java/lang/String" "value" "[B" o1) (Fc : Fld Z h0 a "java/lang/String" "coder" "B" o2) :
    Con l Z EL ⟨"java/lang/String", "<init>", "([BB)V"⟩ jdk_42_method_151_code 3 none [] { frames := 1, cells := 0, slots := 0, locals := 12 } #[(.ref a), (.ref b), (.int x)] h0 [a] (fun v h ws => v = none ∧ ws = [] ∧ Keep h0 h [a] ∧ Fld Z h a "java/lang/String" "value" "[B" (.ref b) ∧ Fld Z h a "java/lang/String" "coder" "B" (.int x)) := by
  refine con_of (a0 := a0) (Ls := #[.val (.ref a), .val (.ref b), .val (.int x)]) (plainFor_of_name pn3) (eW hw) (fun m => by first | (simp [entryFrame, mkF, argsToLocals, Value.category]; done) | rfl) ?_
  intro p e s m below meth c
  refine g_aloadN d_jdk_42_m151_0 (pc' := 1) rfl rfl rfl ?_
  refine go_init d_jdk_42_m151_1 (w24 hw) (w25 hw) (w26 hw) rfl (by decide) (W := 0) (Nat.le_of_ble_eq_true rfl) (by decide) (pc' := 4) rfl ?_
  refine g_aloadN d_jdk_42_m151_4 (pc' := 5) rfl rfl rfl ?_
  refine g_aloadN d_jdk_42_m151_5 (pc' := 6) rfl rfl rfl ?_
  refine go_putfield d_jdk_42_m151_6 (w27 hw) Via.refl Fv E (Or.inr ⟨(w28 hw), rfl, rfl⟩) (w15 hw) (ty := (.array .byte)) (by decide) (v' := (.ref b)) rfl rfl (List.mem_of_getElem? (i := 0) rfl) (pc' := 9) rfl ?_
  intro h1 W2
  have F3 := Fld.same W2 Fv
  refine g_aloadN d_jdk_42_m151_9 (pc' := 10) rfl rfl rfl ?_
  refine g_iloadN d_jdk_42_m151_10 (pc' := 11) rfl rfl ?_
  have f4 := (Fld.other W2 Fc (Or.inr (slot_ne (Or.inr (w30 hw)) (Or.inr (w28 hw)) (by decide) (t := .byte) (t' := (.array .byte)) (by decide) (by decide))))
  refine go_putfield d_jdk_42_m151_11 (w29 hw) Via.refl f4 (Exa.wr W2 E) (Or.inr ⟨(w30 hw), rfl, rfl⟩) (w15 hw) (ty := .byte) (by decide) (v' := (.int x)) hn hf (List.mem_of_getElem? (i := 0) rfl) (pc' := 14) rfl ?_
  intro h5 W6
  have F7 := Fld.same W6 f4
  have K8 : Keep h0 h1 [a] := ((Keep.refl h0 [a]).wr W2 (Or.inl (List.mem_of_getElem? (i := 0) rfl)))
  have K9 : Keep h0 h5 [a] := (K8.wr W6 (Or.inl (List.mem_of_getElem? (i := 0) rfl)))
  have f10 := (Fld.other W6 F3 (Or.inr (slot_ne (Or.inr (w28 hw)) (Or.inr (w30 hw)) (by decide) (t := (.array .byte)) (t' := .byte) (by decide) (by decide))))
  exact go_return d_jdk_42_m151_14 rfl (ws' := []) all0 ⟨rfl, rfl, K9, f10, F7⟩
set_option maxRecDepth 65536 in
set_option maxHeartbeats 40000000 in
theorem rm_toBytes1 {l : Launch} {Z : State} {a0 : Array Value} (hw : ∀ d ∈ tables_1, d.before a0 Z = true) (x : Int32) (h0 : Heap) :
    Con l Z EL ⟨"java/lang/StringLatin1", "toBytes", "(C)[B"⟩ jdk_43_method_46_code 1 (some (.array .byte)) [] { frames := 0, cells := 1, slots := 1, locals := 0 } #[(.int x)] h0 [] (fun v h ws => ∃ b k, v = some (.ref b) ∧ ws = [b] ∧ h0.size ≤ b ∧ Keep h0 h [] ∧ Arv Z h b k .byte 1 [by8 x] (.int 0)) := by
  refine con_of (a0 := a0) (Ls := #[.val (.int x)]) (plainFor_of_name pn2) (eW hw) (fun m => by first | (simp [entryFrame, mkF, argsToLocals, Value.category]; done) | rfl) ?_
  intro p e s m below meth c
  refine g_iconst d_jdk_43_m46_0 (pc' := 1) rfl (z := 1) rfl ?_
  refine go_newarray d_jdk_43_m46_1 (w19 hw) (by decide) (cap := 1) (by decide) (by decide) (by decide) (by decide) (ad := "[B") rfl (pc' := 3) rfl ?_
  intro h11 a12 k13 g14 E15 A16 X17
  have A18 : Arv Z h11 a12 k13 .byte (1 : Int32) [.int 0] (.int 0) := Arv.pad A16 (pad_rep [] (.int 0) 1)
  refine g_dup d_jdk_43_m46_3 (pc' := 4) rfl rfl ?_
  refine g_iconst d_jdk_43_m46_4 (pc' := 5) rfl (z := 0) rfl ?_
  refine g_iloadN d_jdk_43_m46_5 (pc' := 6) rfl rfl ?_
  refine g_i2b d_jdk_43_m46_6 (pc' := 7) rfl ?_
  refine go_bastore 0 d_jdk_43_m46_7 A18 ⟨by decide, by decide⟩ rfl (Nat.le_of_ble_eq_true rfl) (x' := x.toInt8.toInt32) (i2b2 x) (List.mem_of_getElem? (i := 0) rfl) (pc' := 8) rfl ?_
  intro h19 W20 A21
  have K22 : Keep h0 h11 [] := ((Keep.refl h0 []).ext E15)
  have K23 : Keep h0 h19 [] := (K22.wr W20 (Or.inr (Nat.le_of_eq g14.symm)))
  exact go_areturn d_jdk_43_m46_8 rfl rfl rfl (ws' := [a12]) (fun _ q => q) ⟨_, _, rfl, rfl, (Nat.le_of_eq g14.symm), K23, A21⟩
set_option maxRecDepth 65536 in
set_option maxHeartbeats 40000000 in
theorem rm_valueOfC {l : Launch} {Z : State} {a0 : Array Value} (hw : ∀ d ∈ tables_1, d.before a0 Z = true) (x : Int32) (co : Int32) (h0 : Heap) (hq : ¬ x < 0 ∧ ¬ (255 : Int32) < x) (Sc : Sta Z Z.heap "java/lang/String" "COMPACT_STRINGS" "Z" (.int co)) (hco : ¬ co = 0) :
    Con l Z EL ⟨"java/lang/String", "valueOf", "(C)Ljava/lang/String;"⟩ jdk_42_method_139_code 1 (some (.object "java/lang/String")) [] { frames := 2, cells := 2, slots := 5, locals := 27 } #[(.int x)] h0 [] (fun v h ws => ∃ a b, v = some (.ref a) ∧ ws = [] ∧ h0.size ≤ a ∧ h0.size ≤ b ∧ Keep h0 h [] ∧ LatB Z h a b [x]) := by
  refine con_of (a0 := a0) (Ls := #[.val (.int x)]) (plainFor_of_name pn3) (eW hw) (fun m => by first | (simp [entryFrame, mkF, argsToLocals, Value.category]; done) | rfl) ?_
  intro p e s m below meth c
  refine go_getstatic d_jdk_42_m139_0 (w9 hw) Via.refl Sc (pc' := 3) rfl ?_
  refine g_ifNo d_jdk_42_m139_3 (pc' := 6) rfl (feq hco).1 ?_
  refine g_iloadN d_jdk_42_m139_6 (pc' := 7) rfl rfl ?_
  refine go_static d_jdk_42_m139_7 (rm_canEncode hw x h0 hq.2) (fun _ q => q) (w10 hw) (w11 hw) (w12 hw) (w13 hw) (by decide) (argsL := [(.int x)]) (rest := []) (lenOf pd0 rfl) rfl rfl rfl (W := 0) (Nat.le_of_ble_eq_true rfl) (by decide) (by decide) (by decide) (by decide) (pc' := 10) rfl ?_
  rintro _ _ _ ⟨rfl, rfl, rfl⟩ z24
  show Go _ _ _ _ _ _ _ _ _ _ _ _ _ _ _ _ _ _ _ _ _ _ _ _ [(.int (1 : Int32))] _
  refine g_ifNo d_jdk_42_m139_10 (pc' := 13) rfl (feq (by decide : ¬ ((1 : Int32) = (0 : Int32)))).1 ?_
  refine go_new d_jdk_42_m139_13 (w14 hw) (w15 hw) (w7 hw) (by decide) (by decide) (pc' := 16) rfl ?_
  intro h25 a26 g27 E28 A29 D30
  have F31 : Fld Z h25 a26 "java/lang/String" "value" "[B" .null := D30 (Or.inr (w28 hw)) (ty := (.array .byte)) (by decide)
  have F32 : Fld Z h25 a26 "java/lang/String" "coder" "B" (.int (0 : Int32)) := D30 (Or.inr (w30 hw)) (ty := .byte) (by decide)
  refine g_dup d_jdk_42_m139_16 (pc' := 17) rfl rfl ?_
  refine g_iloadN d_jdk_42_m139_17 (pc' := 18) rfl rfl ?_
  refine go_static d_jdk_42_m139_18 (rm_toBytes1 hw x h25) all0 (w16 hw) (w17 hw) (w12 hw) (w18 hw) (by decide) (argsL := [(.int x)]) (rest := [(.ref a26), (.ref a26)]) (lenOf pd1 rfl) rfl rfl rfl (W := 2) (Nat.le_of_ble_eq_true rfl) (by decide) (by decide) (by decide) (by decide) (pc' := 21) rfl ?_
  rintro _ h33 _ ⟨b34, k35, rfl, rfl, B36, K37, A38⟩ z39
  show Go _ _ _ _ _ _ _ _ _ _ _ _ _ _ _ _ _ _ _ _ _ _ _ _ [(.ref b34), (.ref a26), (.ref a26)] _
  refine g_iconst d_jdk_42_m139_21 (pc' := 22) rfl (z := 0) rfl ?_
  refine go_special d_jdk_42_m139_22 (rm_initBB hw a26 b34 (0 : Int32) _ _ h33 rfl rfl (A29.keep K37) (F31.keep K37 nin0) (F32.keep K37 nin0)) (allS (List.mem_of_getElem? (i := 1) rfl) all0) rfl (w20 hw) (w21 hw) (w7 hw) (w23 hw) (by decide) (argsL := [(.ref b34), (.int (0 : Int32))]) (rest := [(.ref a26)]) (lenOf pd2 rfl) rfl rfl rfl (W := 1) (Nat.le_of_ble_eq_true rfl) (by decide) (by decide) (by decide) (by decide) (pc' := 25) rfl ?_
  rintro _ h40 _ ⟨rfl, rfl, K41, F42, G43⟩ z44
  show Go _ _ _ _ _ _ _ _ _ _ _ _ _ _ _ _ _ _ _ _ _ _ _ _ [(.ref a26)] _
  have ne45 : b34 ≠ a26 := Ne.symm (Nat.ne_of_lt (Nat.lt_of_lt_of_le A29.lt B36))
  have K46 : Keep h0 h25 [] := ((Keep.refl h0 []).ext E28)
  have K47 : Keep h0 h33 [] := (K46.trans K37 all0)
  have K48 : Keep h0 h40 [] := (K47.trans K41 (allS (Or.inr (Nat.le_of_eq g27.symm)) all0))
  exact go_areturn d_jdk_42_m139_25 rfl rfl rfl (ws' := []) all0 ⟨_, _, rfl, rfl, (Nat.le_of_eq g27.symm), (Nat.le_trans (K46).1 B36), K48, LatB.mk ((A29.keep K37).keep K41) G43 F42 (A38.keep K41 (ninS ne45 nin0)) rfl rfl⟩
set_option maxRecDepth 65536 in
set_option maxHeartbeats 40000000 in
theorem lp_compress {l : Launch} {Z : State} {a0 : Array Value} (hw : ∀ d ∈ tables_1, d.before a0 Z = true) {p : Program} {e : Env} {R : Room} {s : State} {m : MethodId} {args : Array Value} {below : List Frame} {meth : Method} {c : Code} (cs : List Int32) (hN : cs.length ≤ 4000) (a b : Addr) (k kb : ClassId) (hne : a ≠ b) (h0 : Heap) :
    ∀ (d j : Nat), j + d = cs.length → ∀ (hh : Heap) (vs : List Value) (s6 : Slot), One s6 → (∀ i, i < j → ¬ (255 : Int32) < cs.getD i 0) → vs.length = cs.length → (∀ i, i < j → vs.getD i (.int 0) = by8 (cs.getD i 0)) →
      Arv Z hh a k .char (Int32.ofNat cs.length) (cs.map Value.int) (.int 0) → Arv Z hh b kb .byte (Int32.ofNat cs.length) vs (.int 0) → Keep h0 hh [b] →
      Go p l e R s m args below meth c Z a0 EL "java/lang/StringUTF16" jdk_52_method_21_code 7 (some .int) "compress" [b] hh 0 0 3 #[.val (.ref a), .val (.int (Int32.ofNat j)), .val (.ref b), .val (.int (Int32.ofNat j)), .val (.int (Int32.ofNat cs.length)), .val (.int (Int32.ofNat j)), s6] [] (fun v h ws => ∃ (r : Nat) (vs : List Value), v = some (.int (Int32.ofNat r)) ∧ ws = [] ∧ r ≤ cs.length ∧ (r < cs.length → (255 : Int32) < cs.getD r 0) ∧ (∀ i, i < r → ¬ (255 : Int32) < cs.getD i 0) ∧ vs.length = cs.length ∧ (∀ i, i < r → vs.getD i (.int 0) = by8 (cs.getD i 0)) ∧ Keep h0 h [b] ∧ Arv Z h b kb .byte (Int32.ofNat cs.length) vs (.int 0)) := by
  intro d; induction d with
  | zero =>
    intro j hd hh vs s6 h6 hlo hvl hby Aa Ab K
    have hj31 : j < 2147483648 := by omega
    have hN31 : cs.length < 2147483648 := by omega
    refine g_iload d_jdk_52_m21_3 (pc' := 5) rfl rfl ?_
    refine g_iload d_jdk_52_m21_5 (pc' := 7) rfl rfl ?_
    refine g_icmpYes d_jdk_52_m21_7 (pc' := 44) (flt (fun q => by have := (o_lt hj31 hN31).mp q; omega)).2.1 (by decide) (by decide) ?_
    refine g_iload d_jdk_52_m21_44 (pc' := 46) rfl rfl ?_
    exact go_ireturn d_jdk_52_m21_46 rfl (Or.inl rfl) rfl (ws' := []) all0 ⟨cs.length, vs, rfl, rfl, Nat.le_refl _, fun q => absurd q (Nat.lt_irrefl _), fun i hi => hlo i (by omega), hvl, fun i hi => hby i (by omega), K, Ab⟩
  | succ d ih =>
    intro j hd hh vs s6 h6 hlo hvl hby Aa Ab K
    have hj31 : j < 2147483648 := by omega
    have hN31 : cs.length < 2147483648 := by omega
    refine g_iload d_jdk_52_m21_3 (pc' := 5) rfl rfl ?_
    refine g_iload d_jdk_52_m21_5 (pc' := 7) rfl rfl ?_
    refine g_icmpNo d_jdk_52_m21_7 (pc' := 10) rfl (tlt ((o_lt hj31 hN31).mpr (by omega))).2.1 ?_
    refine g_aloadN d_jdk_52_m21_10 (pc' := 11) rfl rfl rfl ?_
    refine g_iloadN d_jdk_52_m21_11 (pc' := 12) rfl rfl ?_
    refine go_caload d_jdk_52_m21_12 Aa (v := (.int (cs.getD j 0))) ⟨o_nn hj31, (o_lt hj31 hN31).mpr (by omega)⟩ (by rw [o_cl hj31]; exact map_getD cs j) (pc' := 13) rfl ?_
    refine g_istore d_jdk_52_m21_13 (pc' := 15) (Ls' := #[.val (.ref a), .val (.int (Int32.ofNat j)), .val (.ref b), .val (.int (Int32.ofNat j)), .val (.int (Int32.ofNat cs.length)), .val (.int (Int32.ofNat j)), .val (.int (cs.getD j 0))]) rfl (XS.store1 rfl h6 rfl) ?_
    refine g_iload d_jdk_52_m21_15 (pc' := 17) rfl rfl ?_
    refine g_sipush d_jdk_52_m21_17 (pc' := 20) rfl (z := 255) rfl ?_
    by_cases hc : (255 : Int32) < (cs.getD j 0)
    · -- hc holds
      refine g_icmpNo d_jdk_52_m21_20 (pc' := 23) rfl (tlt hc).2.2.2 ?_
      refine g_iload d_jdk_52_m21_23 (pc' := 25) rfl rfl ?_
      exact go_ireturn d_jdk_52_m21_25 rfl (Or.inl rfl) rfl (ws' := []) all0 ⟨j, vs, rfl, rfl, by omega, fun _ => hc, hlo, hvl, hby, K, Ab⟩
    · -- hc does not hold
      refine g_icmpYes d_jdk_52_m21_20 (pc' := 26) (flt hc).2.2.2 (by decide) (by decide) ?_
      refine g_aloadN d_jdk_52_m21_26 (pc' := 27) rfl rfl rfl ?_
      refine g_iloadN d_jdk_52_m21_27 (pc' := 28) rfl rfl ?_
      refine g_iload d_jdk_52_m21_28 (pc' := 30) rfl rfl ?_
      refine g_i2b d_jdk_52_m21_30 (pc' := 31) rfl ?_
      refine go_bastore j d_jdk_52_m21_31 Ab ⟨o_nn hj31, (o_lt hj31 hN31).mpr (by omega)⟩ (o_cl hj31) (by omega) (x' := (cs.getD j 0).toInt8.toInt32) (i2b2 _) (List.mem_of_getElem? (i := 0) rfl) (pc' := 32) rfl ?_
      intro h49 W50 A51
      refine g_iinc d_jdk_52_m21_32 (pc' := 35) (Ls' := #[.val (.ref a), .val (.int ((Int32.ofNat j) + (1 : Int32))), .val (.ref b), .val (.int (Int32.ofNat j)), .val (.int (Int32.ofNat cs.length)), .val (.int (Int32.ofNat j)), .val (.int (cs.getD j 0))]) rfl rfl rfl ?_
      refine g_iinc d_jdk_52_m21_35 (pc' := 38) (Ls' := #[.val (.ref a), .val (.int ((Int32.ofNat j) + (1 : Int32))), .val (.ref b), .val (.int ((Int32.ofNat j) + (1 : Int32))), .val (.int (Int32.ofNat cs.length)), .val (.int (Int32.ofNat j)), .val (.int (cs.getD j 0))]) rfl rfl rfl ?_
      refine g_iinc d_jdk_52_m21_38 (pc' := 41) (Ls' := #[.val (.ref a), .val (.int ((Int32.ofNat j) + (1 : Int32))), .val (.ref b), .val (.int ((Int32.ofNat j) + (1 : Int32))), .val (.int (Int32.ofNat cs.length)), .val (.int ((Int32.ofNat j) + (1 : Int32))), .val (.int (cs.getD j 0))]) rfl rfl rfl ?_
      refine g_goto d_jdk_52_m21_41 (pc' := 3) (by decide) (by decide) ?_
      rw [o_inc j]
      refine ih (j + 1) (by omega) _ _ _ (One.val rfl) (fun i hi => ?_) (by rw [List.length_set]; exact hvl) (fun i hi => ?_) (Aa.other W50 hne) A51 (K.wr W50 (Or.inl (List.mem_of_getElem? (i := 0) rfl)))
      · rcases Nat.lt_succ_iff_lt_or_eq.mp hi with q | q
        · exact hlo i q
        · rw [q]; exact hc
      · rcases Nat.lt_succ_iff_lt_or_eq.mp hi with q | q
        · rw [getD_set_ne (by omega)]; exact hby i q
        · rw [q, getD_set_eq (by omega)]; rfl
set_option maxRecDepth 65536 in
set_option maxHeartbeats 40000000 in
theorem rm_compressI {l : Launch} {Z : State} {a0 : Array Value} (hw : ∀ d ∈ tables_1, d.before a0 Z = true) (cs : List Int32) (a b : Addr) (k kb : ClassId) (vs : List Value) (h0 : Heap) (hN : cs.length ≤ 4000) (hne : a ≠ b) (hvl : vs.length = cs.length) (Aa : Arv Z h0 a k .char (Int32.ofNat cs.length) (cs.map Value.int) (.int 0)) (Ab : Arv Z h0 b kb .byte (Int32.ofNat cs.length) vs (.int 0)) :
    Con l Z EL ⟨"java/lang/StringUTF16", "compress", "([CI[BII)I"⟩ jdk_52_method_21_code 7 (some .int) [] { frames := 0, cells := 0, slots := 0, locals := 0 } #[(.ref a), (.int (0 : Int32)), (.ref b), (.int (0 : Int32)), (.int (Int32.ofNat cs.length))] h0 [b] (fun v h ws => ∃ (r : Nat) (vs : List Value), v = some (.int (Int32.ofNat r)) ∧ ws = [] ∧ r ≤ cs.length ∧ (r < cs.length → (255 : Int32) < cs.getD r 0) ∧ (∀ i, i < r → ¬ (255 : Int32) < cs.getD i 0) ∧ vs.length = cs.length ∧ (∀ i, i < r → vs.getD i (.int 0) = by8 (cs.getD i 0)) ∧ Keep h0 h [b] ∧ Arv Z h b kb .byte (Int32.ofNat cs.length) vs (.int 0)) := by
  refine con_of (a0 := a0) (Ls := #[.val (.ref a), .val (.int (0 : Int32)), .val (.ref b), .val (.int (0 : Int32)), .val (.int (Int32.ofNat cs.length)), .unset, .unset]) (plainFor_of_name pn4) (eW hw) (fun m => by first | (simp [entryFrame, mkF, argsToLocals, Value.category]; done) | rfl) ?_
  intro p e s m below meth c
  refine g_iconst d_jdk_52_m21_0 (pc' := 1) rfl (z := 0) rfl ?_
  refine g_istore d_jdk_52_m21_1 (pc' := 3) (Ls' := #[.val (.ref a), .val (.int (0 : Int32)), .val (.ref b), .val (.int (0 : Int32)), .val (.int (Int32.ofNat cs.length)), .val (.int (0 : Int32)), .unset]) rfl rfl ?_
  exact lp_compress hw cs hN a b k kb hne h0 cs.length 0 (by omega) h0 vs .unset One.u (fun i hi => absurd hi (Nat.not_lt_zero _)) hvl (fun i hi => absurd hi (Nat.not_lt_zero _)) Aa Ab (Keep.refl _ _)
set_option maxRecDepth 65536 in
set_option maxHeartbeats 40000000 in
theorem rm_compressLat {l : Launch} {Z : State} {a0 : Array Value} (hw : ∀ d ∈ tables_1, d.before a0 Z = true) (cs : List Int32) (a : Addr) (k : ClassId) (h0 : Heap) (hN : cs.length ≤ 16) (hlat : ∀ c ∈ cs, ¬ (255 : Int32) < c) (Aa : Arv Z h0 a k .char (Int32.ofNat cs.length) (cs.map Value.int) (.int 0)) :
    Con l Z EL ⟨"java/lang/StringUTF16", "compress", "([CII)[B"⟩ jdk_52_method_16_code 6 (some (.array .byte)) [] { frames := 1, cells := 1, slots := 16, locals := 18 } #[(.ref a), (.int (0 : Int32)), (.int (Int32.ofNat cs.length))] h0 [] (fun v h ws => ∃ b kb, v = some (.ref b) ∧ ws = [b] ∧ h0.size ≤ b ∧ Keep h0 h [] ∧ Arv Z h b kb .byte (Int32.ofNat cs.length) (cs.map by8) (.int 0)) := by
  refine con_of (a0 := a0) (Ls := #[.val (.ref a), .val (.int (0 : Int32)), .val (.int (Int32.ofNat cs.length)), .unset, .unset, .unset]) (plainFor_of_name pn4) (eW hw) (fun m => by first | (simp [entryFrame, mkF, argsToLocals, Value.category]; done) | rfl) ?_
  intro p e s m below meth c
  refine g_iloadN d_jdk_52_m16_0 (pc' := 1) rfl rfl ?_
  refine go_newarray d_jdk_52_m16_1 (w19 hw) (o_nn (by omega)) (cap := 16) (by rw [o_cl (by omega)]; exact hN) (by decide) (by decide) (by decide) (ad := "[B") rfl (pc' := 3) rfl ?_
  intro h52 a53 k54 g55 E56 A57 X58
  have A59 := Arv.pad A57 (pad_rep [] (.int 0) cs.length)
  refine g_astoreN d_jdk_52_m16_3 (pc' := 4) (Ls' := #[.val (.ref a), .val (.int (0 : Int32)), .val (.int (Int32.ofNat cs.length)), .val (.ref a53), .unset, .unset]) rfl rfl rfl ?_
  refine g_aloadN d_jdk_52_m16_4 (pc' := 5) rfl rfl rfl ?_
  refine g_iloadN d_jdk_52_m16_5 (pc' := 6) rfl rfl ?_
  refine g_aloadN d_jdk_52_m16_6 (pc' := 7) rfl rfl rfl ?_
  refine g_iconst d_jdk_52_m16_7 (pc' := 8) rfl (z := 0) rfl ?_
  refine g_iloadN d_jdk_52_m16_8 (pc' := 9) rfl rfl ?_
  have ne60 : a ≠ a53 := Nat.ne_of_lt (Nat.lt_of_lt_of_le Aa.lt (Nat.le_of_eq g55.symm))
  refine go_static d_jdk_52_m16_9 (rm_compressI hw cs a a53 k _ _ h52 (by omega) ne60 (by rw [List.length_append, List.length_replicate]; simp) (Aa.ext E56) A59) (fun _ q => q) (w42 hw) (w43 hw) (w40 hw) (w44 hw) (by decide) (argsL := [(.ref a), (.int (0 : Int32)), (.ref a53), (.int (0 : Int32)), (.int (Int32.ofNat cs.length))]) (rest := []) (lenOf pd3 rfl) rfl rfl rfl (W := 0) (Nat.le_of_ble_eq_true rfl) (by decide) (by decide) (by decide) (by decide) (pc' := 12) rfl ?_
  rintro _ h61 _ ⟨r, vs, rfl, rfl, hr, hr2, hr3, hvl, hby, K, Ab⟩ hsz
  have er : r = cs.length := by rcases Nat.lt_or_ge r cs.length with q | q; exact absurd (hr2 q) (getD_lat hlat r); omega
  subst er
  show Go _ _ _ _ _ _ _ _ _ _ _ _ _ _ _ _ _ _ _ _ _ _ _ _ [(.int (Int32.ofNat cs.length))] _
  refine g_istore d_jdk_52_m16_12 (pc' := 14) (Ls' := #[.val (.ref a), .val (.int (0 : Int32)), .val (.int (Int32.ofNat cs.length)), .val (.ref a53), .val (.int (Int32.ofNat cs.length)), .unset]) rfl rfl ?_
  refine g_iload d_jdk_52_m16_14 (pc' := 16) rfl rfl ?_
  refine g_iloadN d_jdk_52_m16_16 (pc' := 17) rfl rfl ?_
  refine g_icmpYes d_jdk_52_m16_17 (pc' := 57) (teq rfl).1 (by decide) (by decide) ?_
  refine g_aloadN d_jdk_52_m16_57 (pc' := 58) rfl rfl rfl ?_
  have K1 := (Keep_of_ext E56).trans K (allS (Or.inr (Nat.le_of_eq g55.symm)) all0)
  have A1 := Arv_congr (vs' := cs.map by8) Ab (fun i hi => by rw [map8_getD]; exact (hby i (by rw [o_cl (by omega)] at hi; exact hi)).symm)
  exact go_areturn d_jdk_52_m16_58 rfl rfl rfl (ws' := [a53]) (fun _ q => q) ⟨_, _, rfl, rfl, (Nat.le_of_eq g55.symm), K1, A1⟩
set_option maxRecDepth 65536 in
set_option maxHeartbeats 40000000 in
theorem rm_coderLat {l : Launch} {Z : State} {a0 : Array Value} (hw : ∀ d ∈ tables_1, d.before a0 Z = true) (b : Addr) (kb : ClassId) (z : Int32) (vs : List Value) (h0 : Heap) (Ab : Arv Z h0 b kb .byte z vs (.int 0)) :
    Con l Z EL ⟨"java/lang/StringUTF16", "coderFromArrayLen", "([BI)B"⟩ jdk_52_method_15_code 2 (some .byte) [] { frames := 0, cells := 0, slots := 0, locals := 0 } #[(.ref b), (.int z)] h0 [] (fun v h ws => v = some (.int 0) ∧ h0 = h ∧ ws = []) := by
  refine con_of (a0 := a0) (Ls := #[.val (.ref b), .val (.int z)]) (plainFor_of_name pn4) (eW hw) (fun m => by first | (simp [entryFrame, mkF, argsToLocals, Value.category]; done) | rfl) ?_
  intro p e s m below meth c
  refine g_iloadN d_jdk_52_m15_0 (pc' := 1) rfl rfl ?_
  refine g_aloadN d_jdk_52_m15_1 (pc' := 2) rfl rfl rfl ?_
  refine go_arraylength d_jdk_52_m15_2 Ab (pc' := 3) rfl ?_
  refine g_isub d_jdk_52_m15_3 (pc' := 4) rfl ?_
  refine g_bipush d_jdk_52_m15_4 (pc' := 6) rfl (z := 31) rfl ?_
  refine g_iushr d_jdk_52_m15_6 (pc' := 7) rfl ?_
  refine g_i2b d_jdk_52_m15_7 (pc' := 8) rfl ?_
  rw [show ((((((z - z)).toUInt32 >>> (((31 : Int32) &&& 31)).toUInt32).toInt32)).toInt8.toInt32) = (0 : Int32) from by rw [Int32.sub_self]; rfl]
  exact go_ireturn d_jdk_52_m15_8 rfl (Or.inr (Or.inr (Or.inl rfl))) rfl (ws' := []) (fun _ q => q) ⟨rfl, rfl, rfl⟩
set_option maxRecDepth 65536 in
set_option maxHeartbeats 40000000 in
theorem rm_initCV {l : Launch} {Z : State} {a0 : Array Value} (hw : ∀ d ∈ tables_1, d.before a0 Z = true) (cs : List Int32) (a ca : Addr) (k : ClassId) (o1 o2 : Value) (co : Int32) (W : List Addr) (h0 : Heap) (hN : cs.length ≤ 16) (hpos : 0 < cs.length) (hlat : ∀ c ∈ cs, ¬ (255 : Int32) < c) (E : Exa Z h0 a "java/lang/String") (Fv : Fld Z h0 a "java/lang/String" "value" "[B" o1) (Fc : Fld Z h0 a "java/lang/String" "coder" "B" o2) (Aa : Arv Z h0 ca k .char (Int32.ofNat cs.length) (cs.map Value.int) (.int 0)) (Sc : Sta Z Z.heap "java/lang/String" "COMPACT_STRINGS" "Z" (.int co)) (hco : ¬ co = 0) :
    Con l Z EL ⟨"java/lang/String", "<init>", "([CIILjava/lang/Void;)V"⟩ jdk_42_method_149_code 6 none [] { frames := 2, cells := 1, slots := 16, locals := 35 } #[(.ref a), (.ref ca), (.int (0 : Int32)), (.int (Int32.ofNat cs.length)), .null] h0 (a :: W) (fun v h ws => v = none ∧ ∃ b, ws = [] ∧ Keep h0 h [a] ∧ LatB Z h a b cs ∧ (∀ x ∈ a :: W, x ≠ b)) := by
  refine con_of (a0 := a0) (Ls := #[.val (.ref a), .val (.ref ca), .val (.int (0 : Int32)), .val (.int (Int32.ofNat cs.length)), .val .null, .unset]) (plainFor_of_name pn3) (eW hw) (fun m => by first | (simp [entryFrame, mkF, argsToLocals, Value.category]; done) | rfl) ?_
  intro p e s m below meth c
  refine go_safe (fun hsf => ?_)
  refine g_aloadN d_jdk_42_m149_0 (pc' := 1) rfl rfl rfl ?_
  refine go_init d_jdk_42_m149_1 (w24 hw) (w25 hw) (w26 hw) rfl (by decide) (W := 0) (Nat.le_of_ble_eq_true rfl) (by decide) (pc' := 4) rfl ?_
  refine g_iloadN d_jdk_42_m149_4 (pc' := 5) rfl rfl ?_
  refine g_ifYes d_jdk_42_m149_5 (pc' := 27) (feq (fun q => by have := (o_eq (by omega) (by omega)).mp (q.trans (show (0 : Int32) = Int32.ofNat 0 from rfl)); omega)).2 (by decide) (by decide) ?_
  refine go_getstatic d_jdk_42_m149_27 (w9 hw) Via.refl Sc (pc' := 30) rfl ?_
  refine g_ifNo d_jdk_42_m149_30 (pc' := 33) rfl (feq hco).1 ?_
  refine g_aloadN d_jdk_42_m149_33 (pc' := 34) rfl rfl rfl ?_
  refine g_iloadN d_jdk_42_m149_34 (pc' := 35) rfl rfl ?_
  refine g_iloadN d_jdk_42_m149_35 (pc' := 36) rfl rfl ?_
  refine go_static d_jdk_42_m149_36 (rm_compressLat hw cs ca k h0 hN hlat Aa) all0 (w38 hw) (w39 hw) (w40 hw) (w41 hw) (by decide) (argsL := [(.ref ca), (.int (0 : Int32)), (.int (Int32.ofNat cs.length))]) (rest := []) (lenOf pd4 rfl) rfl rfl rfl (W := 0) (Nat.le_of_ble_eq_true rfl) (by decide) (by decide) (by decide) (by decide) (pc' := 39) rfl ?_
  rintro _ h62 _ ⟨b, kb, rfl, rfl, hb0, Kc, Ab⟩ hsz
  show Go _ _ _ _ _ _ _ _ _ _ _ _ _ _ _ _ _ _ _ _ _ _ _ _ [(.ref b)] _
  refine g_astore d_jdk_42_m149_39 (pc' := 41) (Ls' := #[.val (.ref a), .val (.ref ca), .val (.int (0 : Int32)), .val (.int (Int32.ofNat cs.length)), .val .null, .val (.ref b)]) rfl rfl rfl ?_
  refine g_aloadN d_jdk_42_m149_41 (pc' := 42) rfl rfl rfl ?_
  refine g_aload d_jdk_42_m149_42 (pc' := 44) rfl rfl rfl ?_
  refine g_iloadN d_jdk_42_m149_44 (pc' := 45) rfl rfl ?_
  refine go_static d_jdk_42_m149_45 (rm_coderLat hw b _ (Int32.ofNat cs.length) _ h62 Ab) all0 (w45 hw) (w46 hw) (w40 hw) (w47 hw) (by decide) (argsL := [(.ref b), (.int (Int32.ofNat cs.length))]) (rest := [(.ref a)]) (lenOf pd5 rfl) rfl rfl rfl (W := 1) (Nat.le_of_ble_eq_true rfl) (by decide) (by decide) (by decide) (by decide) (pc' := 48) rfl ?_
  rintro _ _ _ ⟨rfl, rfl, rfl⟩ z63
  show Go _ _ _ _ _ _ _ _ _ _ _ _ _ _ _ _ _ _ _ _ _ _ _ _ [(.int (0 : Int32)), (.ref a)] _
  refine go_putfield d_jdk_42_m149_48 (w29 hw) Via.refl (Fc.keep Kc nin0) (E.keep Kc) (Or.inr ⟨(w30 hw), rfl, rfl⟩) (w15 hw) (ty := .byte) (by decide) (v' := (.int (0 : Int32))) rfl rfl (List.mem_of_getElem? (i := 1) rfl) (pc' := 51) rfl ?_
  intro h64 W65
  have F66 := Fld.same W65 (Fc.keep Kc nin0)
  refine g_aloadN d_jdk_42_m149_51 (pc' := 52) rfl rfl rfl ?_
  refine g_aload d_jdk_42_m149_52 (pc' := 54) rfl rfl rfl ?_
  have f67 := (Fld.other W65 (Fv.keep Kc nin0) (Or.inr (slot_ne (Or.inr (w28 hw)) (Or.inr (w30 hw)) (by decide) (t := (.array .byte)) (t' := .byte) (by decide) (by decide))))
  refine go_putfield d_jdk_42_m149_54 (w27 hw) Via.refl f67 (Exa.wr W65 (E.keep Kc)) (Or.inr ⟨(w28 hw), rfl, rfl⟩) (w15 hw) (ty := (.array .byte)) (by decide) (v' := (.ref b)) rfl rfl (List.mem_of_getElem? (i := 1) rfl) (pc' := 57) rfl ?_
  intro h68 W69
  have F70 := Fld.same W69 f67
  have K71 : Keep h0 h62 [a] := ((Keep.refl h0 [a]).trans Kc all0)
  have K72 : Keep h0 h64 [a] := (K71.wr W65 (Or.inl (List.mem_of_getElem? (i := 0) rfl)))
  have K73 : Keep h0 h68 [a] := (K72.wr W69 (Or.inl (List.mem_of_getElem? (i := 0) rfl)))
  have f74 := (Fld.other W69 F66 (Or.inr (slot_ne (Or.inr (w30 hw)) (Or.inr (w28 hw)) (by decide) (t := .byte) (t' := (.array .byte)) (by decide) (by decide))))
  have ne75 : b ≠ a := Ne.symm (Nat.ne_of_lt (Nat.lt_of_lt_of_le E.lt hb0))
  exact go_return d_jdk_42_m149_57 rfl (ws' := []) all0 ⟨rfl, b, rfl, K73, LatB.mk (Exa.wr W69 (Exa.wr W65 (E.keep Kc))) f74 F70 ((Ab.other W65 ne75).other W69 ne75) rfl rfl, fun x hx => Nat.ne_of_lt (Nat.lt_of_lt_of_le (hsf x hx).2 hb0)⟩
set_option maxRecDepth 65536 in
set_option maxHeartbeats 40000000 in
theorem rm_initC {l : Launch} {Z : State} {a0 : Array Value} (hw : ∀ d ∈ tables_1, d.before a0 Z = true) (cs : List Int32) (a ca : Addr) (k : ClassId) (o1 o2 : Value) (co : Int32) (W : List Addr) (h0 : Heap) (hN : cs.length ≤ 16) (hpos : 0 < cs.length) (hlat : ∀ c ∈ cs, ¬ (255 : Int32) < c) (E : Exa Z h0 a "java/lang/String") (Fv : Fld Z h0 a "java/lang/String" "value" "[B" o1) (Fc : Fld Z h0 a "java/lang/String" "coder" "B" o2) (Aa : Arv Z h0 ca k .char (Int32.ofNat cs.length) (cs.map Value.int) (.int 0)) (Sc : Sta Z Z.heap "java/lang/String" "COMPACT_STRINGS" "Z" (.int co)) (hco : ¬ co = 0) :
    Con l Z EL ⟨"java/lang/String", "<init>", "([C)V"⟩ jdk_42_method_3_code 2 none [] { frames := 3, cells := 1, slots := 16, locals := 52 } #[(.ref a), (.ref ca)] h0 (a :: W) (fun v h ws => v = none ∧ ∃ b, ws = [] ∧ Keep h0 h [a] ∧ LatB Z h a b cs ∧ (∀ x ∈ a :: W, x ≠ b)) := by
  refine con_of (a0 := a0) (Ls := #[.val (.ref a), .val (.ref ca)]) (plainFor_of_name pn3) (eW hw) (fun m => by first | (simp [entryFrame, mkF, argsToLocals, Value.category]; done) | rfl) ?_
  intro p e s m below meth c
  refine g_aloadN d_jdk_42_m3_0 (pc' := 1) rfl rfl rfl ?_
  refine g_aloadN d_jdk_42_m3_1 (pc' := 2) rfl rfl rfl ?_
  refine g_iconst d_jdk_42_m3_2 (pc' := 3) rfl (z := 0) rfl ?_
  refine g_aloadN d_jdk_42_m3_3 (pc' := 4) rfl rfl rfl ?_
  refine go_arraylength d_jdk_42_m3_4 Aa (pc' := 5) rfl ?_
  refine g_aconstNull d_jdk_42_m3_5 (pc' := 6) rfl ?_
  refine go_special d_jdk_42_m3_6 (rm_initCV hw cs a ca k _ _ co W h0 hN hpos hlat E Fv Fc Aa Sc hco) (fun _ q => q) rfl (w35 hw) (w36 hw) (w7 hw) (w37 hw) (by decide) (argsL := [(.ref ca), (.int (0 : Int32)), (.int (Int32.ofNat cs.length)), .null]) (rest := []) (lenOf pd6 rfl) rfl rfl rfl (W := 0) (Nat.le_of_ble_eq_true rfl) (by decide) (by decide) (by decide) (by decide) (pc' := 9) rfl ?_
  rintro _ h76 _ ⟨rfl, b, rfl, K, L, hnb⟩ hsz
  show Go _ _ _ _ _ _ _ _ _ _ _ _ _ _ _ _ _ _ _ _ _ _ _ _ [] _
  exact go_return d_jdk_42_m3_9 rfl (ws' := []) all0 ⟨rfl, b, rfl, K, L, hnb⟩
set_option maxRecDepth 65536 in
set_option maxHeartbeats 40000000 in
theorem rm_drawn {l : Launch} {Z : State} {a0 : Array Value} (hw : ∀ d ∈ tables_1, d.before a0 Z = true) (x f co : Int32) (h0 : Heap) (Sc : Sta Z Z.heap "java/lang/String" "COMPACT_STRINGS" "Z" (.int co)) (hco : ¬ co = 0) :
    Con l Z EL ⟨"com/example/sundew/sundew/HolderResourcePinLaw", "drawn", "(II)Ljava/lang/String;"⟩ method_2_code 3 (some (.object "java/lang/String")) [] { frames := 4, cells := 3, slots := 22, locals := 66 } #[(.int x), (.int f)] h0 [] (fun v h ws => ∃ a, v = some (.ref a) ∧ ws = [] ∧ h0.size ≤ a ∧ Keep h0 h [] ∧ Exa Z h a "java/lang/String") := by
  refine con_of (a0 := a0) (Ls := #[.val (.int x), .val (.int f), .unset]) (plainFor_of_name pn5) (eW hw) (fun m => by first | (simp [entryFrame, mkF, argsToLocals, Value.category]; done) | rfl) ?_
  intro p e s m below meth c
  refine g_iconst d_m2_0 (pc' := 1) rfl (z := 2) rfl ?_
  refine go_newarray d_m2_1 (w4 hw) (by decide) (cap := 2) (by decide) (by decide) (by decide) (by decide) (ad := "[C") rfl (pc' := 3) rfl ?_
  intro h77 a78 k79 g80 E81 A82 X83
  have A84 : Arv Z h77 a78 k79 .char (2 : Int32) [.int 0, .int 0] (.int 0) := Arv.pad A82 (pad_rep [] (.int 0) 2)
  refine g_dup d_m2_3 (pc' := 4) rfl rfl ?_
  refine g_iconst d_m2_4 (pc' := 5) rfl (z := 0) rfl ?_
  refine g_iloadN d_m2_5 (pc' := 6) rfl rfl ?_
  refine g_sipush d_m2_6 (pc' := 9) rfl (z := 255) rfl ?_
  refine g_iand d_m2_9 (pc' := 10) rfl ?_
  refine g_i2c d_m2_10 (pc' := 11) rfl ?_
  refine go_castore 0 d_m2_11 A84 ⟨by decide, by decide⟩ rfl (Nat.le_of_ble_eq_true rfl) (x' := (((x &&& (255 : Int32))).toUInt32.toUInt16.toUInt32.toInt32)) (nar_i2c _) (List.mem_of_getElem? (i := 0) rfl) (pc' := 12) rfl ?_
  intro h85 W86 A87
  refine g_dup d_m2_12 (pc' := 13) rfl rfl ?_
  refine g_iconst d_m2_13 (pc' := 14) rfl (z := 1) rfl ?_
  refine g_iloadN d_m2_14 (pc' := 15) rfl rfl ?_
  refine g_bipush d_m2_15 (pc' := 17) rfl (z := 8) rfl ?_
  refine g_iushr d_m2_17 (pc' := 18) rfl ?_
  refine g_sipush d_m2_18 (pc' := 21) rfl (z := 255) rfl ?_
  refine g_iand d_m2_21 (pc' := 22) rfl ?_
  refine g_i2c d_m2_22 (pc' := 23) rfl ?_
  refine go_castore 1 d_m2_23 A87 ⟨by decide, by decide⟩ rfl (Nat.le_of_ble_eq_true rfl) (x' := ((((((x).toUInt32 >>> (((8 : Int32) &&& 31)).toUInt32).toInt32) &&& (255 : Int32))).toUInt32.toUInt16.toUInt32.toInt32)) (nar_i2c _) (List.mem_of_getElem? (i := 0) rfl) (pc' := 24) rfl ?_
  intro h88 W89 A90
  refine g_astoreN d_m2_24 (pc' := 25) (Ls' := #[.val (.int x), .val (.int f), .val (.ref a78)]) rfl rfl rfl ?_
  refine g_iloadN d_m2_25 (pc' := 26) rfl rfl ?_
  refine g_iconst d_m2_26 (pc' := 27) rfl (z := 1) rfl ?_
  refine g_iand d_m2_27 (pc' := 28) rfl ?_
  by_cases h28 : (f &&& (1 : Int32)) = (0 : Int32)
  · -- h28 holds
    refine g_ifYes d_m2_28 (pc' := 40) (teq h28).1 (by decide) (by decide) ?_
    refine g_aloadN d_m2_40 (pc' := 41) rfl rfl rfl ?_
    refine g_iconst d_m2_41 (pc' := 42) rfl (z := 0) rfl ?_
    refine go_caload d_m2_42 A90 (v := (.int (((x &&& (255 : Int32))).toUInt32.toUInt16.toUInt32.toInt32))) ⟨by decide, by decide⟩ rfl (pc' := 43) rfl ?_
    refine go_static d_m2_43 (rm_valueOfC hw (((x &&& (255 : Int32))).toUInt32.toUInt16.toUInt32.toInt32) co h88 (byt255 _) Sc hco) all0 (w5 hw) (w6 hw) (w7 hw) (w8 hw) (by decide) (argsL := [(.int (((x &&& (255 : Int32))).toUInt32.toUInt16.toUInt32.toInt32))]) (rest := []) (lenOf pd7 rfl) rfl rfl rfl (W := 0) (Nat.le_of_ble_eq_true rfl) (by decide) (by decide) (by decide) (by decide) (pc' := 46) rfl ?_
    rintro _ h91 _ ⟨a92, b93, rfl, rfl, B94, B95, K96, L97⟩ z98
    show Go _ _ _ _ _ _ _ _ _ _ _ _ _ _ _ _ _ _ _ _ _ _ _ _ [(.ref a92)] _
    have K99 : Keep h0 h77 [] := ((Keep.refl h0 []).ext E81)
    have K100 : Keep h0 h85 [] := (K99.wr W86 (Or.inr (Nat.le_of_eq g80.symm)))
    have K101 : Keep h0 h88 [] := (K100.wr W89 (Or.inr (Nat.le_of_eq g80.symm)))
    have K102 : Keep h0 h91 [] := (K101.trans K96 all0)
    exact go_areturn d_m2_46 rfl rfl rfl (ws' := []) all0 ⟨_, rfl, rfl, (Nat.le_trans (K101).1 B94), K102, L97.1⟩
  · -- h28 does not hold
    refine g_ifNo d_m2_28 (pc' := 31) rfl (feq h28).1 ?_
    refine go_new d_m2_31 (w31 hw) (w15 hw) (w7 hw) (by decide) (by decide) (pc' := 34) rfl ?_
    intro h103 a104 g105 E106 A107 D108
    have F109 : Fld Z h103 a104 "java/lang/String" "value" "[B" .null := D108 (Or.inr (w28 hw)) (ty := (.array .byte)) (by decide)
    have F110 : Fld Z h103 a104 "java/lang/String" "coder" "B" (.int (0 : Int32)) := D108 (Or.inr (w30 hw)) (ty := .byte) (by decide)
    refine g_dup d_m2_34 (pc' := 35) rfl rfl ?_
    refine g_aloadN d_m2_35 (pc' := 36) rfl rfl rfl ?_
    refine go_special d_m2_36 (rm_initC hw [(((x &&& (255 : Int32))).toUInt32.toUInt16.toUInt32.toInt32), ((((((x).toUInt32 >>> (((8 : Int32) &&& 31)).toUInt32).toInt32) &&& (255 : Int32))).toUInt32.toUInt16.toUInt32.toInt32)] a104 a78 _ _ _ co [a78] h103 (Nat.le_of_ble_eq_true rfl) (Nat.le_of_ble_eq_true rfl) (Byt.lat (Byt.cons (byt255 _) (Byt.cons (byt255 _) Byt.nil))) A107 F109 F110 (A90.ext E106) Sc hco) (fun _ q => q) rfl (w32 hw) (w33 hw) (w7 hw) (w34 hw) (by decide) (argsL := [(.ref a78)]) (rest := [(.ref a104)]) (lenOf pd8 rfl) rfl rfl rfl (W := 1) (Nat.le_of_ble_eq_true rfl) (by decide) (by decide) (by decide) (by decide) (pc' := 39) rfl ?_
    rintro _ h111 _ ⟨rfl, b112, rfl, K113, L114, N115⟩ z116
    show Go _ _ _ _ _ _ _ _ _ _ _ _ _ _ _ _ _ _ _ _ _ _ _ _ [(.ref a104)] _
    have K117 : Keep h0 h77 [] := ((Keep.refl h0 []).ext E81)
    have K118 : Keep h0 h85 [] := (K117.wr W86 (Or.inr (Nat.le_of_eq g80.symm)))
    have K119 : Keep h0 h88 [] := (K118.wr W89 (Or.inr (Nat.le_of_eq g80.symm)))
    have K120 : Keep h0 h103 [] := (K119.ext E106)
    have K121 : Keep h0 h111 [] := (K120.trans K113 (allS (Or.inr (Nat.le_trans (K119).1 (Nat.le_of_eq g105.symm))) all0))
    exact go_areturn d_m2_39 rfl rfl rfl (ws' := []) all0 ⟨_, rfl, rfl, (Nat.le_trans (K119).1 (Nat.le_of_eq g105.symm)), K121, (A107.keep K113)⟩
set_option maxRecDepth 65536 in
set_option maxHeartbeats 40000000 in
theorem rm_ref {l : Launch} {Z : State} {a0 : Array Value} (hw : ∀ d ∈ tables_1, d.before a0 Z = true) (a b c0 : Addr) (o1 o2 : Value) (h0 : Heap) (E : Exa Z h0 a "com/example/sundew/sundew/EntityRef") (F1 : Fld Z h0 a "com/example/sundew/sundew/EntityRef" "type" "Ljava/lang/String;" o1) (F2 : Fld Z h0 a "com/example/sundew/sundew/EntityRef" "id" "Ljava/lang/String;" o2) :
    Con l Z EL ⟨"com/example/sundew/sundew/EntityRef", "<init>", "(Ljava/lang/String;Ljava/lang/String;)V"⟩ prog_9_method_1_code 3 none [] { frames := 2, cells := 4, slots := 32, locals := 24 } #[(.ref a), (.ref b), (.ref c0)] h0 [a] (fun v h ws => v = none ∧ ws = [] ∧ Keep h0 h [a]) := by
  refine con_of (a0 := a0) (Ls := #[.val (.ref a), .val (.ref b), .val (.ref c0)]) (plainFor_of_name pn6) (eW hw) (fun m => by first | (simp [entryFrame, mkF, argsToLocals, Value.category]; done) | rfl) ?_
  intro p e s m below meth c
  refine g_aloadN d_prog_9_m1_0 (pc' := 1) rfl rfl rfl ?_
  refine go_special d_prog_9_m1_1 (rm_record hw a h0) all0 rfl (w54 hw) (w55 hw) (w57 hw) (w58 hw) (by decide) (argsL := []) (rest := []) (lenOf pd9 rfl) rfl rfl rfl (W := 0) (Nat.le_of_ble_eq_true rfl) (by decide) (by decide) (by decide) (by decide) (pc' := 4) rfl ?_
  rintro _ _ _ ⟨rfl, rfl, rfl⟩ z122
  show Go _ _ _ _ _ _ _ _ _ _ _ _ _ _ _ _ _ _ _ _ _ _ _ _ [] _
  refine g_aloadN d_prog_9_m1_4 (pc' := 5) rfl rfl rfl ?_
  refine go_ldcO d_prog_9_m1_5 (w60 hw) (sA hw) (n := 16) (by decide) (by decide) (by decide) (by decide) (pc' := 7) rfl ?_
  intro h123 a124 E125
  refine go_static d_prog_9_m1_7 (rm_require2 hw b a124 h123) all0 (w63 hw) (w64 hw) (w65 hw) (w66 hw) (by decide) (argsL := [(.ref b), (.ref a124)]) (rest := []) (lenOf pd10 rfl) rfl rfl rfl (W := 0) (Nat.le_of_ble_eq_true rfl) (by decide) (by decide) (by decide) (by decide) (pc' := 10) rfl ?_
  rintro _ _ _ ⟨rfl, rfl, rfl⟩ z126
  show Go _ _ _ _ _ _ _ _ _ _ _ _ _ _ _ _ _ _ _ _ _ _ _ _ [(.ref b)] _
  refine g_pop d_prog_9_m1_10 (pc' := 11) rfl rfl ?_
  refine g_aloadN d_prog_9_m1_11 (pc' := 12) rfl rfl rfl ?_
  refine go_ldcO d_prog_9_m1_12 (w67 hw) (sA hw) (n := 8) (by decide) (by decide) (by decide) (by decide) (pc' := 14) rfl ?_
  intro h127 a128 E129
  refine go_static d_prog_9_m1_14 (rm_require2 hw c0 a128 h127) all0 (w63 hw) (w64 hw) (w65 hw) (w66 hw) (by decide) (argsL := [(.ref c0), (.ref a128)]) (rest := []) (lenOf pd10 rfl) rfl rfl rfl (W := 0) (Nat.le_of_ble_eq_true rfl) (by decide) (by decide) (by decide) (by decide) (pc' := 17) rfl ?_
  rintro _ _ _ ⟨rfl, rfl, rfl⟩ z130
  show Go _ _ _ _ _ _ _ _ _ _ _ _ _ _ _ _ _ _ _ _ _ _ _ _ [(.ref c0)] _
  refine g_pop d_prog_9_m1_17 (pc' := 18) rfl rfl ?_
  refine g_aloadN d_prog_9_m1_18 (pc' := 19) rfl rfl rfl ?_
  refine g_aloadN d_prog_9_m1_19 (pc' := 20) rfl rfl rfl ?_
  refine go_putfield d_prog_9_m1_20 (w68 hw) Via.refl ((F1.ext E125).ext E129) ((E.ext E125).ext E129) (Or.inr ⟨(w69 hw), rfl, rfl⟩) (w49 hw) (ty := (.object "java/lang/String")) (by decide) (v' := (.ref b)) rfl rfl (List.mem_of_getElem? (i := 0) rfl) (pc' := 23) rfl ?_
  intro h131 W132
  have F133 := Fld.same W132 ((F1.ext E125).ext E129)
  refine g_aloadN d_prog_9_m1_23 (pc' := 24) rfl rfl rfl ?_
  refine g_aloadN d_prog_9_m1_24 (pc' := 25) rfl rfl rfl ?_
  have f134 := (Fld.other W132 ((F2.ext E125).ext E129) (Or.inr (slot_ne (Or.inr (w71 hw)) (Or.inr (w69 hw)) (by decide) (t := (.object "java/lang/String")) (t' := (.object "java/lang/String")) (by decide) (by decide))))
  refine go_putfield d_prog_9_m1_25 (w70 hw) Via.refl f134 (Exa.wr W132 ((E.ext E125).ext E129)) (Or.inr ⟨(w71 hw), rfl, rfl⟩) (w49 hw) (ty := (.object "java/lang/String")) (by decide) (v' := (.ref c0)) rfl rfl (List.mem_of_getElem? (i := 0) rfl) (pc' := 28) rfl ?_
  intro h135 W136
  have F137 := Fld.same W136 f134
  have K138 : Keep h0 h123 [a] := ((Keep.refl h0 [a]).ext E125)
  have K139 : Keep h0 h127 [a] := (K138.ext E129)
  have K140 : Keep h0 h131 [a] := (K139.wr W132 (Or.inl (List.mem_of_getElem? (i := 0) rfl)))
  have K141 : Keep h0 h135 [a] := (K140.wr W136 (Or.inl (List.mem_of_getElem? (i := 0) rfl)))
  exact go_return d_prog_9_m1_28 rfl (ws' := []) all0 ⟨rfl, rfl, K141⟩
set_option maxRecDepth 65536 in
set_option maxHeartbeats 40000000 in
theorem rm_holder {l : Launch} {Z : State} {a0 : Array Value} (hw : ∀ d ∈ tables_1, d.before a0 Z = true) (a rs en er : Addr) (o1 o2 : Value) (h0 : Heap) (E : Exa Z h0 a "com/example/sundew/sundew/Holder") (F1 : Fld Z h0 a "com/example/sundew/sundew/Holder" "kind" "Lcom/example/sundew/sundew/Holder$Kind;" o1) (F2 : Fld Z h0 a "com/example/sundew/sundew/Holder" "entity" "Lcom/example/sundew/sundew/EntityRef;" o2) (Se : Sta Z Z.heap "com/example/sundew/sundew/Holder$Kind" "ENV" "Lcom/example/sundew/sundew/Holder$Kind;" (.ref en)) (hne : rs ≠ en) :
    Con l Z EL ⟨"com/example/sundew/sundew/Holder", "<init>", "(Lcom/example/sundew/sundew/Holder$Kind;Lcom/example/sundew/sundew/EntityRef;)V"⟩ prog_10_method_1_code 3 none [] { frames := 2, cells := 2, slots := 20, locals := 24 } #[(.ref a), (.ref rs), (.ref er)] h0 [a] (fun v h ws => v = none ∧ ws = [] ∧ Keep h0 h [a] ∧ Fld Z h a "com/example/sundew/sundew/Holder" "kind" "Lcom/example/sundew/sundew/Holder$Kind;" (.ref rs) ∧ Fld Z h a "com/example/sundew/sundew/Holder" "entity" "Lcom/example/sundew/sundew/EntityRef;" (.ref er)) := by
  refine con_of (a0 := a0) (Ls := #[.val (.ref a), .val (.ref rs), .val (.ref er)]) (plainFor_of_name pn7) (eW hw) (fun m => by first | (simp [entryFrame, mkF, argsToLocals, Value.category]; done) | rfl) ?_
  intro p e s m below meth c
  refine g_aloadN d_prog_10_m1_0 (pc' := 1) rfl rfl rfl ?_
  refine go_special d_prog_10_m1_1 (rm_record hw a h0) all0 rfl (w88 hw) (w55 hw) (w57 hw) (w58 hw) (by decide) (argsL := []) (rest := []) (lenOf pd9 rfl) rfl rfl rfl (W := 0) (Nat.le_of_ble_eq_true rfl) (by decide) (by decide) (by decide) (by decide) (pc' := 4) rfl ?_
  rintro _ _ _ ⟨rfl, rfl, rfl⟩ z142
  show Go _ _ _ _ _ _ _ _ _ _ _ _ _ _ _ _ _ _ _ _ _ _ _ _ [] _
  refine g_aloadN d_prog_10_m1_4 (pc' := 5) rfl rfl rfl ?_
  refine go_ldcO d_prog_10_m1_5 (w89 hw) (sA hw) (n := 16) (by decide) (by decide) (by decide) (by decide) (pc' := 7) rfl ?_
  intro h143 a144 E145
  refine go_static d_prog_10_m1_7 (rm_require2 hw rs a144 h143) all0 (w82 hw) (w64 hw) (w65 hw) (w66 hw) (by decide) (argsL := [(.ref rs), (.ref a144)]) (rest := []) (lenOf pd10 rfl) rfl rfl rfl (W := 0) (Nat.le_of_ble_eq_true rfl) (by decide) (by decide) (by decide) (by decide) (pc' := 10) rfl ?_
  rintro _ _ _ ⟨rfl, rfl, rfl⟩ z146
  show Go _ _ _ _ _ _ _ _ _ _ _ _ _ _ _ _ _ _ _ _ _ _ _ _ [(.ref rs)] _
  refine g_pop d_prog_10_m1_10 (pc' := 11) rfl rfl ?_
  refine g_aloadN d_prog_10_m1_11 (pc' := 12) rfl rfl rfl ?_
  refine go_getstatic d_prog_10_m1_12 (w90 hw) Via.refl Se (pc' := 15) rfl ?_
  refine g_acmp d_prog_10_m1_15 rfl rfl (same := false) (decide_eq_false (fun q => hne (Value.ref.inj q))) (by decide) (pc' := 22) rfl ?_
  refine g_iconst d_prog_10_m1_22 (pc' := 23) rfl (z := 0) rfl ?_
  refine g_aloadN d_prog_10_m1_23 (pc' := 24) rfl rfl rfl ?_
  refine g_ifnonnullYes d_prog_10_m1_24 (pc' := 31) (by decide) (by decide) ?_
  refine g_iconst d_prog_10_m1_31 (pc' := 32) rfl (z := 0) rfl ?_
  refine g_icmpYes d_prog_10_m1_32 (pc' := 45) (teq (by decide : (0 : Int32) = (0 : Int32))).1 (by decide) (by decide) ?_
  refine g_aloadN d_prog_10_m1_45 (pc' := 46) rfl rfl rfl ?_
  refine g_aloadN d_prog_10_m1_46 (pc' := 47) rfl rfl rfl ?_
  refine go_putfield d_prog_10_m1_47 (w92 hw) Via.refl (F1.ext E145) (E.ext E145) (Or.inr ⟨(w93 hw), rfl, rfl⟩) (w77 hw) (ty := (.object "com/example/sundew/sundew/Holder$Kind")) (by decide) (v' := (.ref rs)) rfl rfl (List.mem_of_getElem? (i := 0) rfl) (pc' := 50) rfl ?_
  intro h147 W148
  have F149 := Fld.same W148 (F1.ext E145)
  refine g_aloadN d_prog_10_m1_50 (pc' := 51) rfl rfl rfl ?_
  refine g_aloadN d_prog_10_m1_51 (pc' := 52) rfl rfl rfl ?_
  have f150 := (Fld.other W148 (F2.ext E145) (Or.inr (slot_ne (Or.inr (w95 hw)) (Or.inr (w93 hw)) (by decide) (t := (.object "com/example/sundew/sundew/EntityRef")) (t' := (.object "com/example/sundew/sundew/Holder$Kind")) (by decide) (by decide))))
  refine go_putfield d_prog_10_m1_52 (w94 hw) Via.refl f150 (Exa.wr W148 (E.ext E145)) (Or.inr ⟨(w95 hw), rfl, rfl⟩) (w77 hw) (ty := (.object "com/example/sundew/sundew/EntityRef")) (by decide) (v' := (.ref er)) rfl rfl (List.mem_of_getElem? (i := 0) rfl) (pc' := 55) rfl ?_
  intro h151 W152
  have F153 := Fld.same W152 f150
  have K154 : Keep h0 h143 [a] := ((Keep.refl h0 [a]).ext E145)
  have K155 : Keep h0 h147 [a] := (K154.wr W148 (Or.inl (List.mem_of_getElem? (i := 0) rfl)))
  have K156 : Keep h0 h151 [a] := (K155.wr W152 (Or.inl (List.mem_of_getElem? (i := 0) rfl)))
  have f157 := (Fld.other W152 F149 (Or.inr (slot_ne (Or.inr (w93 hw)) (Or.inr (w95 hw)) (by decide) (t := (.object "com/example/sundew/sundew/Holder$Kind")) (t' := (.object "com/example/sundew/sundew/EntityRef")) (by decide) (by decide))))
  exact go_return d_prog_10_m1_55 rfl (ws' := []) all0 ⟨rfl, rfl, K156, f157, F153⟩
set_option maxRecDepth 65536 in
set_option maxHeartbeats 40000000 in
theorem rm_resource {l : Launch} {Z : State} {a0 : Array Value} (hw : ∀ d ∈ tables_1, d.before a0 Z = true) (er rs en : Addr) (h0 : Heap) (Er : Exa Z h0 er "com/example/sundew/sundew/EntityRef") (Sr : Sta Z Z.heap "com/example/sundew/sundew/Holder$Kind" "RESOURCE" "Lcom/example/sundew/sundew/Holder$Kind;" (.ref rs)) (Se : Sta Z Z.heap "com/example/sundew/sundew/Holder$Kind" "ENV" "Lcom/example/sundew/sundew/Holder$Kind;" (.ref en)) (hne : rs ≠ en) :
    Con l Z EL ⟨"com/example/sundew/sundew/Holder", "resource", "(Lcom/example/sundew/sundew/EntityRef;)Lcom/example/sundew/sundew/Holder;"⟩ prog_10_method_3_code 1 (some (.object "com/example/sundew/sundew/Holder")) [] { frames := 3, cells := 5, slots := 50, locals := 39 } #[(.ref er)] h0 [] (fun v h ws => ∃ a, v = some (.ref a) ∧ ws = [] ∧ h0.size ≤ a ∧ Keep h0 h [] ∧ Exa Z h a "com/example/sundew/sundew/Holder" ∧ Fld Z h a "com/example/sundew/sundew/Holder" "kind" "Lcom/example/sundew/sundew/Holder$Kind;" (.ref rs) ∧ Fld Z h a "com/example/sundew/sundew/Holder" "entity" "Lcom/example/sundew/sundew/EntityRef;" (.ref er)) := by
  refine con_of (a0 := a0) (Ls := #[.val (.ref er)]) (plainFor_of_name pn7) (eW hw) (fun m => by first | (simp [entryFrame, mkF, argsToLocals, Value.category]; done) | rfl) ?_
  intro p e s m below meth c
  refine go_new d_prog_10_m3_0 (w76 hw) (w77 hw) (w74 hw) (by decide) (by decide) (pc' := 3) rfl ?_
  intro h158 a159 g160 E161 A162 D163
  have F164 : Fld Z h158 a159 "com/example/sundew/sundew/Holder" "kind" "Lcom/example/sundew/sundew/Holder$Kind;" .null := D163 (Or.inr (w93 hw)) (ty := (.object "com/example/sundew/sundew/Holder$Kind")) (by decide)
  have F165 : Fld Z h158 a159 "com/example/sundew/sundew/Holder" "entity" "Lcom/example/sundew/sundew/EntityRef;" .null := D163 (Or.inr (w95 hw)) (ty := (.object "com/example/sundew/sundew/EntityRef")) (by decide)
  refine g_dup d_prog_10_m3_3 (pc' := 4) rfl rfl ?_
  refine go_getstatic d_prog_10_m3_4 (w78 hw) Via.refl Sr (pc' := 7) rfl ?_
  refine g_aloadN d_prog_10_m3_7 (pc' := 8) rfl rfl rfl ?_
  refine go_ldcO d_prog_10_m3_8 (w81 hw) (sA hw) (n := 24) (by decide) (by decide) (by decide) (by decide) (pc' := 10) rfl ?_
  intro h166 a167 E168
  refine go_static d_prog_10_m3_10 (rm_require2 hw er a167 h166) all0 (w82 hw) (w64 hw) (w65 hw) (w66 hw) (by decide) (argsL := [(.ref er), (.ref a167)]) (rest := [(.ref rs), (.ref a159), (.ref a159)]) (lenOf pd10 rfl) rfl rfl rfl (W := 3) (Nat.le_of_ble_eq_true rfl) (by decide) (by decide) (by decide) (by decide) (pc' := 13) rfl ?_
  rintro _ _ _ ⟨rfl, rfl, rfl⟩ z169
  show Go _ _ _ _ _ _ _ _ _ _ _ _ _ _ _ _ _ _ _ _ _ _ _ _ [(.ref er), (.ref rs), (.ref a159), (.ref a159)] _
  refine go_checkcast d_prog_10_m3_13 (w83 hw) (Ins.self ((Er.ext E161).ext E168)) (pc' := 16) rfl ?_
  refine go_special d_prog_10_m3_16 (rm_holder hw a159 rs en er _ _ h166 (A162.ext E168) (F164.ext E168) (F165.ext E168) Se hne) (fun _ q => q) rfl (w85 hw) (w86 hw) (w74 hw) (w87 hw) (by decide) (argsL := [(.ref rs), (.ref er)]) (rest := [(.ref a159)]) (lenOf pd11 rfl) rfl rfl rfl (W := 1) (Nat.le_of_ble_eq_true rfl) (by decide) (by decide) (by decide) (by decide) (pc' := 19) rfl ?_
  rintro _ h170 _ ⟨rfl, rfl, K171, F172, G173⟩ z174
  show Go _ _ _ _ _ _ _ _ _ _ _ _ _ _ _ _ _ _ _ _ _ _ _ _ [(.ref a159)] _
  have K175 : Keep h0 h158 [] := ((Keep.refl h0 []).ext E161)
  have K176 : Keep h0 h166 [] := (K175.ext E168)
  have K177 : Keep h0 h170 [] := (K176.trans K171 (allS (Or.inr (Nat.le_of_eq g160.symm)) all0))
  exact go_areturn d_prog_10_m3_19 rfl rfl rfl (ws' := []) all0 ⟨_, rfl, rfl, (Nat.le_of_eq g160.symm), K177, ((A162.ext E168).keep K171), F172, G173⟩
set_option maxRecDepth 65536 in
set_option maxHeartbeats 40000000 in
theorem rm_kind {l : Launch} {Z : State} {a0 : Array Value} (hw : ∀ d ∈ tables_1, d.before a0 Z = true) (a x : Addr) (h0 : Heap) (F : Fld Z h0 a "com/example/sundew/sundew/Holder" "kind" "Lcom/example/sundew/sundew/Holder$Kind;" (.ref x)) :
    Con l Z EL ⟨"com/example/sundew/sundew/Holder", "kind", "()Lcom/example/sundew/sundew/Holder$Kind;"⟩ prog_10_method_7_code 1 (some (.object "com/example/sundew/sundew/Holder$Kind")) [] { frames := 0, cells := 0, slots := 0, locals := 0 } #[(.ref a)] h0 [] (fun v h ws => v = some (.ref x) ∧ h0 = h ∧ ws = []) := by
  refine con_of (a0 := a0) (Ls := #[.val (.ref a)]) (plainFor_of_name pn7) (eW hw) (fun m => by first | (simp [entryFrame, mkF, argsToLocals, Value.category]; done) | rfl) ?_
  intro p e s m below meth c
  refine g_aloadN d_prog_10_m7_0 (pc' := 1) rfl rfl rfl ?_
  refine go_getfield d_prog_10_m7_1 (host := "") (Or.inl (w92 hw)) Via.refl F (pc' := 4) rfl ?_
  exact go_areturn d_prog_10_m7_4 rfl rfl rfl (ws' := []) (fun _ q => q) ⟨rfl, rfl, rfl⟩
set_option maxRecDepth 65536 in
set_option maxHeartbeats 40000000 in
theorem rm_entity {l : Launch} {Z : State} {a0 : Array Value} (hw : ∀ d ∈ tables_1, d.before a0 Z = true) (a x : Addr) (h0 : Heap) (F : Fld Z h0 a "com/example/sundew/sundew/Holder" "entity" "Lcom/example/sundew/sundew/EntityRef;" (.ref x)) :
    Con l Z EL ⟨"com/example/sundew/sundew/Holder", "entity", "()Lcom/example/sundew/sundew/EntityRef;"⟩ prog_10_method_8_code 1 (some (.object "com/example/sundew/sundew/EntityRef")) [] { frames := 0, cells := 0, slots := 0, locals := 0 } #[(.ref a)] h0 [] (fun v h ws => v = some (.ref x) ∧ h0 = h ∧ ws = []) := by
  refine con_of (a0 := a0) (Ls := #[.val (.ref a)]) (plainFor_of_name pn7) (eW hw) (fun m => by first | (simp [entryFrame, mkF, argsToLocals, Value.category]; done) | rfl) ?_
  intro p e s m below meth c
  refine g_aloadN d_prog_10_m8_0 (pc' := 1) rfl rfl rfl ?_
  refine go_getfield d_prog_10_m8_1 (host := "") (Or.inl (w94 hw)) Via.refl F (pc' := 4) rfl ?_
  exact go_areturn d_prog_10_m8_4 rfl rfl rfl (ws' := []) (fun _ q => q) ⟨rfl, rfl, rfl⟩
set_option maxRecDepth 65536 in
set_option maxHeartbeats 40000000 in
theorem law_con {l : Launch} {Z : State} {a0 : Array Value} (hw : ∀ d ∈ tables_1, d.before a0 Z = true) (p1 p2 p3 co : Int32) (rs en eh : Addr) (h0 : Heap) (Sc : Sta Z Z.heap "java/lang/String" "COMPACT_STRINGS" "Z" (.int co)) (hco : ¬ co = 0) (Sr : Sta Z Z.heap "com/example/sundew/sundew/Holder$Kind" "RESOURCE" "Lcom/example/sundew/sundew/Holder$Kind;" (.ref rs)) (Se : Sta Z Z.heap "com/example/sundew/sundew/Holder$Kind" "ENV" "Lcom/example/sundew/sundew/Holder$Kind;" (.ref en)) (hne : rs ≠ en) (Sh : Sta Z Z.heap "com/example/sundew/sundew/Holder" "ENV" "Lcom/example/sundew/sundew/Holder;" (.ref eh)) (Xh : Exa Z Z.heap eh "com/example/sundew/sundew/Holder") :
    Con l Z EL ⟨"com/example/sundew/sundew/HolderResourcePinLaw", "law", "(III)Z"⟩ code 7 ret tables_1 room_1 #[(.int p1), (.int p2), (.int p3)] h0 [] (fun v h ws => v = some (.int 1)) := by
  refine con_of (a0 := a0) (Ls := #[.val (.int p1), .val (.int p2), .val (.int p3), .unset, .unset, .unset, .unset]) (plainFor_of_name pn5) (eW hw) (fun m => by first | (simp [entryFrame, mkF, argsToLocals, Value.category, maxLocals]; done) | rfl) ?_
  intro p e s m below meth c
  refine go_old (fun EZ => ?_)
  refine g_iloadN at_0 (pc' := 1) rfl rfl ?_
  refine g_iloadN at_1 (pc' := 2) rfl rfl ?_
  refine go_static at_2 (rm_drawn hw p1 p3 co h0 Sc hco) (fun _ q => q) (w0 hw) (w1 hw) (w2 hw) (w3 hw) (by decide) (argsL := [(.int p1), (.int p3)]) (rest := []) (lenOf pd12 rfl) rfl rfl rfl (W := 0) (Nat.le_of_ble_eq_true rfl) (by decide) (by decide) (by decide) (by decide) (pc' := 5) rfl ?_
  rintro _ h178 _ ⟨a179, rfl, rfl, B180, K181, X182⟩ z183
  show Go _ _ _ _ _ _ _ _ _ _ _ _ _ _ _ _ _ _ _ _ _ _ _ _ [(.ref a179)] _
  refine g_astoreN at_5 (pc' := 6) (Ls' := #[.val (.int p1), .val (.int p2), .val (.int p3), .val (.ref a179), .unset, .unset, .unset]) rfl rfl rfl ?_
  refine g_iloadN at_6 (pc' := 7) rfl rfl ?_
  refine g_iloadN at_7 (pc' := 8) rfl rfl ?_
  refine g_iconst at_8 (pc' := 9) rfl (z := 1) rfl ?_
  refine g_iushr at_9 (pc' := 10) rfl ?_
  refine go_static at_10 (rm_drawn hw p2 (((p3).toUInt32 >>> (((1 : Int32) &&& 31)).toUInt32).toInt32) co h178 Sc hco) (fun _ q => q) (w0 hw) (w1 hw) (w2 hw) (w3 hw) (by decide) (argsL := [(.int p2), (.int (((p3).toUInt32 >>> (((1 : Int32) &&& 31)).toUInt32).toInt32))]) (rest := []) (lenOf pd12 rfl) rfl rfl rfl (W := 0) (Nat.le_of_ble_eq_true rfl) (by decide) (by decide) (by decide) (by decide) (pc' := 13) rfl ?_
  rintro _ h184 _ ⟨a185, rfl, rfl, B186, K187, X188⟩ z189
  show Go _ _ _ _ _ _ _ _ _ _ _ _ _ _ _ _ _ _ _ _ _ _ _ _ [(.ref a185)] _
  refine g_astore at_13 (pc' := 15) (Ls' := #[.val (.int p1), .val (.int p2), .val (.int p3), .val (.ref a179), .val (.ref a185), .unset, .unset]) rfl rfl rfl ?_
  refine go_new at_15 (w48 hw) (w49 hw) (w50 hw) (by decide) (by decide) (pc' := 18) rfl ?_
  intro h190 a191 g192 E193 A194 D195
  have F196 : Fld Z h190 a191 "com/example/sundew/sundew/EntityRef" "type" "Ljava/lang/String;" .null := D195 (Or.inr (w69 hw)) (ty := (.object "java/lang/String")) (by decide)
  have F197 : Fld Z h190 a191 "com/example/sundew/sundew/EntityRef" "id" "Ljava/lang/String;" .null := D195 (Or.inr (w71 hw)) (ty := (.object "java/lang/String")) (by decide)
  refine g_dup at_18 (pc' := 19) rfl rfl ?_
  refine g_aloadN at_19 (pc' := 20) rfl rfl rfl ?_
  refine g_aload at_20 (pc' := 22) rfl rfl rfl ?_
  refine go_special at_22 (rm_ref hw a191 a179 a185 _ _ h190 A194 F196 F197) (fun _ q => q) rfl (w51 hw) (w52 hw) (w50 hw) (w53 hw) (by decide) (argsL := [(.ref a179), (.ref a185)]) (rest := [(.ref a191)]) (lenOf pd13 rfl) rfl rfl rfl (W := 1) (Nat.le_of_ble_eq_true rfl) (by decide) (by decide) (by decide) (by decide) (pc' := 25) rfl ?_
  rintro _ h198 _ ⟨rfl, rfl, K199⟩ z200
  show Go _ _ _ _ _ _ _ _ _ _ _ _ _ _ _ _ _ _ _ _ _ _ _ _ [(.ref a191)] _
  refine g_astore at_25 (pc' := 27) (Ls' := #[.val (.int p1), .val (.int p2), .val (.int p3), .val (.ref a179), .val (.ref a185), .val (.ref a191), .unset]) rfl rfl rfl ?_
  refine g_aload at_27 (pc' := 29) rfl rfl rfl ?_
  refine go_static at_29 (rm_resource hw a191 rs en h198 (A194.keep K199) Sr Se hne) all0 (w72 hw) (w73 hw) (w74 hw) (w75 hw) (by decide) (argsL := [(.ref a191)]) (rest := []) (lenOf pd14 rfl) rfl rfl rfl (W := 0) (Nat.le_of_ble_eq_true rfl) (by decide) (by decide) (by decide) (by decide) (pc' := 32) rfl ?_
  rintro _ h201 _ ⟨a202, rfl, rfl, B203, K204, X205, F206, G207⟩ z208
  show Go _ _ _ _ _ _ _ _ _ _ _ _ _ _ _ _ _ _ _ _ _ _ _ _ [(.ref a202)] _
  refine g_astore at_32 (pc' := 34) (Ls' := #[.val (.int p1), .val (.int p2), .val (.int p3), .val (.ref a179), .val (.ref a185), .val (.ref a191), .val (.ref a202)]) rfl rfl rfl ?_
  refine g_aload at_34 (pc' := 36) rfl rfl rfl ?_
  refine go_virtual at_36 (rm_kind hw a202 _ h201 F206) all0 X205 (w96 hw) (w97 hw) (w99 hw) (nf_sel (w99 hw)) (w98 hw) (w74 hw) (w100 hw) (by decide) (argsL := []) (rest := []) (lenOf pd15 rfl) rfl rfl rfl (W := 0) (Nat.le_of_ble_eq_true rfl) (by decide) (by decide) (by decide) (by decide) (pc' := 39) rfl ?_
  rintro _ _ _ ⟨rfl, rfl, rfl⟩ z209
  show Go _ _ _ _ _ _ _ _ _ _ _ _ _ _ _ _ _ _ _ _ _ _ _ _ [(.ref rs)] _
  refine go_getstatic at_39 (w101 hw) Via.refl Sr (pc' := 42) rfl ?_
  refine g_acmp at_42 rfl rfl (same := true) (decide_eq_true rfl) (by decide) (pc' := 45) rfl ?_
  refine g_aload at_45 (pc' := 47) rfl rfl rfl ?_
  refine go_virtual at_47 (rm_entity hw a202 _ h201 G207) all0 X205 (w102 hw) (w103 hw) (w105 hw) (nf_sel (w105 hw)) (w104 hw) (w74 hw) (w106 hw) (by decide) (argsL := []) (rest := []) (lenOf pd16 rfl) rfl rfl rfl (W := 0) (Nat.le_of_ble_eq_true rfl) (by decide) (by decide) (by decide) (by decide) (pc' := 50) rfl ?_
  rintro _ _ _ ⟨rfl, rfl, rfl⟩ z210
  show Go _ _ _ _ _ _ _ _ _ _ _ _ _ _ _ _ _ _ _ _ _ _ _ _ [(.ref a191)] _
  refine g_aload at_50 (pc' := 52) rfl rfl rfl ?_
  refine g_acmp at_52 rfl rfl (same := true) (decide_eq_true rfl) (by decide) (pc' := 55) rfl ?_
  refine g_aload at_55 (pc' := 57) rfl rfl rfl ?_
  refine go_getstatic at_57 (w107 hw) Via.refl Sh (pc' := 60) rfl ?_
  have ne211 : a202 ≠ eh := Ne.symm (Nat.ne_of_lt (Nat.lt_of_lt_of_le (((((Xh.ext EZ).keep K181).keep K187).ext E193).keep K199).lt B203))
  refine g_acmp at_60 rfl rfl (same := false) (decide_eq_false (fun q => ne211 (Value.ref.inj q))) (by decide) (pc' := 63) rfl ?_
  refine g_iconst at_63 (pc' := 64) rfl (z := 1) rfl ?_
  refine g_goto at_64 (pc' := 68) (by decide) (by decide) ?_
  exact go_ireturn at_68 rfl (Or.inr (Or.inl rfl)) rfl (ws' := []) all0 rfl
set_option maxRecDepth 65536 in
set_option maxHeartbeats 40000000 in
theorem comes_1 {Post : Tables → Env → Array Value → State → Outcome → State → Prop} (hpost : ∀ tb e args s v u, (limb_1_1.after args s (.returned v) u = true ∧ limb_1_2.after args s (.returned v) u = true ∧ True) → FramedW s (.returned v) u (Jvm.fieldLocs frame_1_writes args s ++ Jvm.arrayLocs frame_1_arrays args s ++ Jvm.staticLocs frame_1_statics s) 32 4224 → Post tb e args s (.returned v) u) :
    ArmFor flags0 classFile x code maxLocals ret World_1 tables_1 room_1 Calls_1 rest_1 Pre_1 Post := by
  intro l hfl _ _ p e ha hc hk s m args below hf hA hF happ hP
  obtain ⟨hcalls, hrest, hpre⟩ := hP
  obtain ⟨-, -, -, hnamed, -, -, -, hat⟩ := (Spec.applies_iff hf).mp happ
  obtain ⟨hg, hn⟩ := and_e (Cond.before_iff.mp (show (Jvm.Cond.and given_1 narrow_1).before args s = true from hpre))
  obtain ⟨hcnt, hg0⟩ := and_e hg
  obtain ⟨ga0, hg1⟩ := and_e hg0
  obtain ⟨ga1, hg2⟩ := and_e hg1
  have ga2 := hg2
  obtain ⟨w0, w1, w2, rfl⟩ : ∃ w0 w1 w2 : Value, args = #[w0, w1, w2] := by
    have hs : args.size = 3 := by simpa [Cond.value, given_1] using hcnt
    obtain ⟨L⟩ := args
    match L, hs with
    | [w0, w1, w2], _ => exact ⟨w0, w1, w2, rfl⟩
  have hw := fun d (hd : d ∈ tables_1) => atoms_spec (ws := Jvm.Cond.code x code maxLocals ret :: tables_1) hat d (List.mem_cons_of_mem _ hd)
  obtain ⟨hsets, hown0⟩ := atoms_of _ (rest_1_c_eq ▸ (show rest_1_c.before _ s = true from hrest))
  obtain ⟨i0, e0⟩ := is_v ga0
  obtain rfl : w0 = (.int i0) := Option.some.inj e0
  obtain ⟨i1, e1⟩ := is_v ga1
  obtain rfl : w1 = (.int i1) := Option.some.inj e1
  obtain ⟨i2, e2⟩ := is_v ga2
  obtain rfl : w2 = (.int i2) := Option.some.inj e2
  obtain ⟨co, eco⟩ := is_v (Cond.before_iff.mp (hsets _ (List.mem_of_getElem? (i := 1) rfl)))
  have Sc : Sta s s.heap "java/lang/String" "COMPACT_STRINGS" "Z" (.int co) := Sta.start eco (Or.inl (hsets _ (List.mem_of_getElem? (i := 0) rfl)))
  have hco : ¬ (co = (0 : Int32)) := gotF (Cond.eq_ints eco (Term.int_eval (0))) (not_v (Cond.before_iff.mp (hsets _ (List.mem_of_getElem? (i := 2) rfl))))
  obtain ⟨n0, nr0⟩ := and_e hn
  obtain ⟨n1, nr1⟩ := and_e nr0
  obtain ⟨n2, nr2⟩ := and_e nr1
  obtain ⟨n3, nr3⟩ := and_e nr2
  have n4 := nr3
  obtain ⟨ob0, oe0⟩ := exa_v n0
  have oS0 := Sta.start oe0 (Or.inr ⟨(w79 hw), (w80 hw)⟩)
  have oX0 := Exa.start oe0 n0
  obtain ⟨ob1, oe1⟩ := exa_v n1
  have oS1 := Sta.start oe1 (Or.inr ⟨(w79 hw), (w91 hw)⟩)
  have oX1 := Exa.start oe1 n1
  obtain ⟨ob4, oe4⟩ := exa_v n4
  have oS4 := Sta.start oe4 (Or.inr ⟨(w74 hw), (w108 hw)⟩)
  have oX4 := Exa.start oe4 n4
  have oF2 := Fld.start (fld_eq oe0 n2)
  have oF3 := Fld.start (fld_eq oe1 n3)
  have hne := Fld.ne oF2 oF3 (by decide)
  obtain ⟨n, o, g1, g2, g3, v, L, ws', rfl, rfl, N, -, -, W⟩ := (law_con hw i0 i1 i2 co ob0 ob1 ob4 s.heap Sc hco oS0 oS1 hne oS4 oX4) p e ha hc hk s m _ below hf ((Spec.applies_iff_loose hf).mp happ).1 ⟨rfl, State.Warmed39.refl s, rfl, Inv_start0⟩ trivial
  refine ⟨n, _, g1, g2, g3, hpost _ _ _ _ _ _ ⟨Cond.after_iff.mpr rfl, Cond.after_iff.mpr (eq_i res_at (Term.int_eval (1)) rfl), trivial⟩ ⟨W.1, W.2.1, W.2.2.1, (W.2.2.2.sift fun y hy => Or.inr (N y hy)).mono (by decide) (by decide)⟩⟩
theorem main_1_1 : Claimed_1_1 := comes_1 fun _ _ _ _ _ _ h hF => ⟨h.1, hF⟩
theorem main_1_2 : Claimed_1_2 := comes_1 fun _ _ _ _ _ _ h hF => ⟨h.2.1, hF⟩
end Jvm.Pilot.@@N@@
namespace Jvm.Pilot.@@N@@
open Jvm Jvm.ClassFile Sem Op Lib Jvm.Free Jvm.Stand Jvm.Pilot.@@N@@.Jvm.D
/-! MADE BY PROGRAM (witnessworld.py) out of the Statement's table words and the real class files: 25 classes; the members and pool entries that the words name. The judged class is class 1, her method 2. -/
namespace start1
open Jvm.ClassFile
def u (s : String) : CpInfo := .utf8 (stringToUtf16 s)
/-- a pool by its gaps: so many unusable entries, then the entry; so many at the end -/
def gap : Nat → List CpInfo → List CpInfo
  | 0, r => r
  | n + 1, r => .unusable :: gap n r
def poolList (es : List (Nat × CpInfo)) (last : Nat) : List CpInfo := es.foldr (fun e r => gap e.1 (e.2 :: r)) (gap last [])
def pool (es : List (Nat × CpInfo)) (last : Nat) : Array CpInfo := ⟨poolList es last⟩
def fileOf (pool : Array CpInfo) (this : Nat) (attrs : Array Attribute := #[]) (ms : Array MethodInfo := #[]) (fl : Nat := 33) (sup : Nat := 0) (ifs : Array Nat := #[]) (fds : Array FieldInfo := #[]) : ClassFile where
  minorVersion := 0
  majorVersion := 65
  constantPool := pool
  accessFlags := fl
  thisClass := this
  superClass := sup
  interfaces := ifs
  fields := fds
  methods := ms
  attributes := attrs
def plain (name : String) (sup : Option ClassId) : Class where
  name := name
  kind := .ordinary
  loader := none
  accessFlags := 33
  super := sup
  interfaces := #[]
  cf := none
  fields := #[]
  methods := #[]
  instanceTypes := #[]
  staticTypes := #[]
  resolved := #[]
  callSites := []
  init := .initialized
  statics := none
  mirror := none

def pool0 : Array CpInfo := pool [(5, u "<init>"), (0, u "()V"), (1, .class_ 10), (1, u "java/lang/Object")] 113

def k0c0 : Code := { maxStack := 0, maxLocals := 1, code := object_method_1_code, exceptionTable := #[], attributes := #[] }
def k0m0 : Method := { name := "<init>", desc := "()V", sig := { parameters := [], returnType := none }, accessFlags := 1, code := some k0c0 }
/-- java/lang/Object -/
def k0 : Class := { plain "java/lang/Object" none with
  accessFlags := 33
  interfaces := #[]
  cf := some (fileOf pool0 8 #[] #[{ accessFlags := 1, nameIndex := 5, descriptorIndex := 6, attributes := #[] }] 33 0 #[] #[])
  fields := #[]
  methods := #[k0m0]
  instanceTypes := #[]
  staticTypes := #[]
  resolved := Array.replicate 124 none
  statics := none }

def pool1 : Array CpInfo := pool [(2, .class_ 4), (1, u "java/lang/Object"), (0, u "<init>"), (0, u "()V"), (0, .class_ 8), (0, u "java/lang/String"), (0, .methodref 7 10), (0, .nameAndType 5 11), (0, u "([C)V"), (0, .methodref 7 13), (0, .nameAndType 14 15), (0, u "valueOf"), (0, u "(C)Ljava/lang/String;"), (0, .methodref 17 18), (0, .class_ 19), (0, .nameAndType 20 21), (0, u "com/example/sundew/sundew/HolderResourcePinLaw"), (0, u "drawn"), (0, u "(II)Ljava/lang/String;"), (0, .class_ 23), (0, u "com/example/sundew/sundew/EntityRef"), (0, .methodref 22 25), (0, .nameAndType 5 26), (0, u "(Ljava/lang/String;Ljava/lang/String;)V"), (0, .methodref 28 29), (0, .class_ 30), (0, .nameAndType 31 32), (0, u "com/example/sundew/sundew/Holder"), (0, u "resource"), (0, u "(Lcom/example/sundew/sundew/EntityRef;)Lcom/example/sundew/sundew/Holder;"), (0, .methodref 28 34), (0, .nameAndType 35 36), (0, u "kind"), (0, u "()Lcom/example/sundew/sundew/Holder$Kind;"), (0, .fieldref 38 39), (0, .class_ 40), (0, .nameAndType 41 42), (0, u "com/example/sundew/sundew/Holder$Kind"), (0, u "RESOURCE"), (0, u "Lcom/example/sundew/sundew/Holder$Kind;"), (0, .methodref 28 44), (0, .nameAndType 45 46), (0, u "entity"), (0, u "()Lcom/example/sundew/sundew/EntityRef;"), (0, .fieldref 28 48), (0, .nameAndType 49 50), (0, u "ENV"), (0, u "Lcom/example/sundew/sundew/Holder;"), (5, u "law"), (0, u "(III)Z")] 4

def k1m0 : Method := { name := "<init>", desc := "()V", sig := { parameters := [], returnType := none }, accessFlags := 2, code := none }
def k1c1 : Code := { maxStack := 5, maxLocals := 3, code := method_2_code, exceptionTable := #[], attributes := #[] }
def k1m1 : Method := { name := "drawn", desc := "(II)Ljava/lang/String;", sig := { parameters := [.int, .int], returnType := some (.object "java/lang/String") }, accessFlags := 10, code := some k1c1 }
def k1c2 : Code := { maxStack := 4, maxLocals := 7, code := code, exceptionTable := #[], attributes := #[] }
def k1m2 : Method := { name := "law", desc := "(III)Z", sig := { parameters := [.int, .int, .int], returnType := some .boolean }, accessFlags := 9, code := some k1c2 }
/-- com/example/sundew/sundew/HolderResourcePinLaw -/
def k1 : Class := { plain "com/example/sundew/sundew/HolderResourcePinLaw" (some 0) with
  accessFlags := 49
  interfaces := #[]
  cf := some (fileOf pool1 17 #[] #[{ accessFlags := 2, nameIndex := 5, descriptorIndex := 6, attributes := #[] }, { accessFlags := 10, nameIndex := 20, descriptorIndex := 21, attributes := #[] }, { accessFlags := 9, nameIndex := 56, descriptorIndex := 57, attributes := #[] }] 49 2 #[] #[])
  fields := #[]
  methods := #[k1m0, k1m1, k1m2]
  instanceTypes := #[]
  staticTypes := #[]
  resolved := Array.replicate 62 none
  statics := none }

def pool2 : Array CpInfo := pool [(1, .class_ 2), (0, u "java/io/Serializable"), (0, .class_ 4), (0, u "java/lang/Object")] 2

/-- java/io/Serializable -/
def k2 : Class := { plain "java/io/Serializable" (some 0) with
  accessFlags := 1537
  interfaces := #[]
  cf := some (fileOf pool2 1 #[] #[] 1537 3 #[] #[])
  fields := #[]
  methods := #[]
  instanceTypes := #[]
  staticTypes := #[]
  resolved := Array.replicate 7 none
  statics := none }

def pool3 : Array CpInfo := pool [(1, .class_ 2), (0, u "java/lang/Comparable"), (0, .class_ 4), (0, u "java/lang/Object")] 7

/-- java/lang/Comparable -/
def k3 : Class := { plain "java/lang/Comparable" (some 0) with
  accessFlags := 1537
  interfaces := #[]
  cf := some (fileOf pool3 1 #[] #[] 1537 3 #[] #[])
  fields := #[]
  methods := #[]
  instanceTypes := #[]
  staticTypes := #[]
  resolved := Array.replicate 12 none
  statics := none }

def pool4 : Array CpInfo := pool [(2, .class_ 4), (1, u "java/lang/CharSequence"), (42, .class_ 48), (0, u "java/lang/CharSequence$1CodePointIterator"), (10, .class_ 60), (0, u "java/lang/CharSequence$1CharIterator"), (5, .class_ 67), (0, u "java/lang/Object")] 63

/-- java/lang/CharSequence -/
def k4 : Class := { plain "java/lang/CharSequence" (some 0) with
  accessFlags := 1537
  interfaces := #[]
  cf := some (fileOf pool4 2 #[.nestMembers #[47, 59]] #[] 1537 66 #[] #[])
  fields := #[]
  methods := #[]
  instanceTypes := #[]
  staticTypes := #[]
  resolved := Array.replicate 131 none
  statics := none }

def pool5 : Array CpInfo := pool [(1, .class_ 2), (0, u "java/lang/constant/Constable"), (0, .class_ 4), (0, u "java/lang/Object")] 6

/-- java/lang/constant/Constable -/
def k5 : Class := { plain "java/lang/constant/Constable" (some 0) with
  accessFlags := 1537
  interfaces := #[]
  cf := some (fileOf pool5 1 #[] #[] 1537 3 #[] #[])
  fields := #[]
  methods := #[]
  instanceTypes := #[]
  staticTypes := #[]
  resolved := Array.replicate 11 none
  statics := none }

def pool6 : Array CpInfo := pool [(1, .class_ 2), (0, u "java/lang/constant/ConstantDesc"), (0, .class_ 4), (0, u "java/lang/Object")] 32

/-- java/lang/constant/ConstantDesc -/
def k6 : Class := { plain "java/lang/constant/ConstantDesc" (some 0) with
  accessFlags := 1537
  interfaces := #[]
  cf := some (fileOf pool6 1 #[] #[] 1537 3 #[] #[])
  fields := #[]
  methods := #[]
  instanceTypes := #[]
  staticTypes := #[]
  resolved := Array.replicate 37 none
  statics := none }

def pool7 : Array CpInfo := pool [(1, .methodref 2 3), (0, .class_ 4), (0, .nameAndType 5 6), (0, u "java/lang/Object"), (0, u "<init>"), (0, u "()V"), (2, .fieldref 10 11), (0, .class_ 12), (0, .nameAndType 13 14), (0, u "java/lang/String"), (0, u "value"), (0, u "[B"), (0, .fieldref 10 16), (0, .nameAndType 17 18), (0, u "coder"), (0, u "B"), (2, u "hash"), (0, u "I"), (2, u "hashIsZero"), (0, u "Z"), (0, .methodref 10 28), (0, .nameAndType 5 29), (0, u "([CIILjava/lang/Void;)V"), (8, .fieldref 10 39), (0, .nameAndType 40 26), (0, u "COMPACT_STRINGS"), (1, .class_ 44), (1, u "java/lang/StringUTF16"), (0, u "compress"), (1, .methodref 42 48), (0, .nameAndType 49 50), (0, u "coderFromArrayLen"), (0, u "([BI)B"), (2, u "toBytes"), (53, .class_ 109), (1, u "java/lang/StringLatin1"), (67, .methodref 42 178), (0, .nameAndType 45 179), (0, u "([CII)[B"), (29, .methodref 10 210), (0, .nameAndType 5 211), (0, u "([BB)V"), (157, u "(C)Z"), (205, .class_ 576), (0, u "java/lang/CharSequence"), (22, u "CASE_INSENSITIVE_ORDER"), (0, u "Ljava/util/Comparator;"), (181, u "valueOf"), (0, u "(C)Ljava/lang/String;"), (226, u "([C)V"), (4, .methodref 107 1016), (0, .nameAndType 1017 369), (0, u "canEncode"), (0, .methodref 107 1019), (0, .nameAndType 53 1020), (0, u "(C)[B"), (80, u "serialPersistentFields"), (0, u "[Ljava/io/ObjectStreamField;"), (0, .class_ 1104), (0, u "java/lang/String$CaseInsensitiveComparator"), (1, .class_ 1107), (0, u "java/io/Serializable"), (0, .class_ 1109), (0, u "java/lang/Comparable"), (0, .class_ 1111), (0, u "java/lang/constant/Constable"), (0, .class_ 1113), (0, u "java/lang/constant/ConstantDesc"), (2, u "serialVersionUID"), (0, u "J"), (3, u "REPL"), (0, u "C"), (2, u "LATIN1"), (1, u "UTF16")] 323

def k7m0 : Method := { name := "<init>", desc := "()V", sig := { parameters := [], returnType := none }, accessFlags := 1, code := none }
def k7c1 : Code := { maxStack := 5, maxLocals := 2, code := jdk_42_method_3_code, exceptionTable := #[], attributes := #[] }
def k7m1 : Method := { name := "<init>", desc := "([C)V", sig := { parameters := [(.array .char)], returnType := none }, accessFlags := 1, code := some k7c1 }
def k7c2 : Code := { maxStack := 4, maxLocals := 1, code := jdk_42_method_139_code, exceptionTable := #[], attributes := #[] }
def k7m2 : Method := { name := "valueOf", desc := "(C)Ljava/lang/String;", sig := { parameters := [.char], returnType := some (.object "java/lang/String") }, accessFlags := 9, code := some k7c2 }
def k7c3 : Code := { maxStack := 4, maxLocals := 6, code := jdk_42_method_149_code, exceptionTable := #[], attributes := #[] }
def k7m3 : Method := { name := "<init>", desc := "([CIILjava/lang/Void;)V", sig := { parameters := [(.array .char), .int, .int, (.object "java/lang/Void")], returnType := none }, accessFlags := 2, code := some k7c3 }
def k7c4 : Code := { maxStack := 2, maxLocals := 3, code := jdk_42_method_151_code, exceptionTable := #[], attributes := #[] }
def k7m4 : Method := { name := "<init>", desc := "([BB)V", sig := { parameters := [(.array .byte), .byte], returnType := none }, accessFlags := 0, code := some k7c4 }
/-- java/lang/String -/
def k7 : Class := { plain "java/lang/String" (some 0) with
  accessFlags := 49
  interfaces := #[2, 3, 4, 5, 6]
  cf := some (fileOf pool7 10 #[.nestMembers #[1103]] #[{ accessFlags := 1, nameIndex := 5, descriptorIndex := 6, attributes := #[] }, { accessFlags := 1, nameIndex := 5, descriptorIndex := 1010, attributes := #[] }, { accessFlags := 9, nameIndex := 782, descriptorIndex := 783, attributes := #[] }, { accessFlags := 2, nameIndex := 5, descriptorIndex := 29, attributes := #[] }, { accessFlags := 0, nameIndex := 5, descriptorIndex := 211, attributes := #[] }] 49 2 #[1106, 1108, 575, 1110, 1112] #[{ accessFlags := 18, nameIndex := 13, descriptorIndex := 14, attributes := #[] }, { accessFlags := 18, nameIndex := 17, descriptorIndex := 18, attributes := #[] }, { accessFlags := 2, nameIndex := 21, descriptorIndex := 22, attributes := #[] }, { accessFlags := 2, nameIndex := 25, descriptorIndex := 26, attributes := #[] }, { accessFlags := 26, nameIndex := 1116, descriptorIndex := 1117, attributes := #[] }, { accessFlags := 24, nameIndex := 40, descriptorIndex := 26, attributes := #[] }, { accessFlags := 26, nameIndex := 1101, descriptorIndex := 1102, attributes := #[] }, { accessFlags := 26, nameIndex := 1121, descriptorIndex := 1122, attributes := #[] }, { accessFlags := 25, nameIndex := 599, descriptorIndex := 600, attributes := #[] }, { accessFlags := 24, nameIndex := 1125, descriptorIndex := 18, attributes := #[] }, { accessFlags := 24, nameIndex := 1127, descriptorIndex := 18, attributes := #[] }])
  fields := #[{ name := "value", type := (.array .byte), accessFlags := 18, slot := 0, constantValue := 0 }, { name := "coder", type := .byte, accessFlags := 18, slot := 1, constantValue := 0 }, { name := "hash", type := .int, accessFlags := 2, slot := 2, constantValue := 0 }, { name := "hashIsZero", type := .boolean, accessFlags := 2, slot := 3, constantValue := 0 }, { name := "serialVersionUID", type := .long, accessFlags := 26, slot := 0, constantValue := 0 }, { name := "COMPACT_STRINGS", type := .boolean, accessFlags := 24, slot := 1, constantValue := 0 }, { name := "serialPersistentFields", type := (.array (.object "java/io/ObjectStreamField")), accessFlags := 26, slot := 2, constantValue := 0 }, { name := "REPL", type := .char, accessFlags := 26, slot := 3, constantValue := 0 }, { name := "CASE_INSENSITIVE_ORDER", type := (.object "java/util/Comparator"), accessFlags := 25, slot := 4, constantValue := 0 }, { name := "LATIN1", type := .byte, accessFlags := 24, slot := 5, constantValue := 0 }, { name := "UTF16", type := .byte, accessFlags := 24, slot := 6, constantValue := 0 }]
  methods := #[k7m0, k7m1, k7m2, k7m3, k7m4]
  instanceTypes := #[(.array .byte), .byte, .int, .boolean]
  staticTypes := #[.long, .boolean, (.array (.object "java/io/ObjectStreamField")), .char, (.object "java/util/Comparator"), .byte, .byte]
  resolved := Array.replicate 1451 none
  statics := some 0 }

def pool8 : Array CpInfo := pool [(4, .class_ 6), (1, u "java/lang/Object"), (0, u "<init>"), (0, u "()V"), (5, .class_ 16), (1, u "java/lang/StringLatin1"), (73, u "canEncode"), (14, u "(C)Z"), (15, u "$assertionsDisabled"), (0, u "Z"), (98, .class_ 223), (1, u "java/lang/StringLatin1$LinesSpliterator"), (156, u "toBytes"), (1, u "(C)[B"), (7, .class_ 391), (0, u "java/lang/StringLatin1$CharsSpliterator")] 3

def k8m0 : Method := { name := "<init>", desc := "()V", sig := { parameters := [], returnType := none }, accessFlags := 0, code := none }
def k8c1 : Code := { maxStack := 2, maxLocals := 1, code := jdk_43_method_3_code, exceptionTable := #[], attributes := #[] }
def k8m1 : Method := { name := "canEncode", desc := "(C)Z", sig := { parameters := [.char], returnType := some .boolean }, accessFlags := 9, code := some k8c1 }
def k8c2 : Code := { maxStack := 4, maxLocals := 1, code := jdk_43_method_46_code, exceptionTable := #[], attributes := #[] }
def k8m2 : Method := { name := "toBytes", desc := "(C)[B", sig := { parameters := [.char], returnType := some (.array .byte) }, accessFlags := 9, code := some k8c2 }
/-- java/lang/StringLatin1 -/
def k8 : Class := { plain "java/lang/StringLatin1" (some 0) with
  accessFlags := 48
  interfaces := #[]
  cf := some (fileOf pool8 14 #[.nestMembers #[390, 221]] #[{ accessFlags := 0, nameIndex := 7, descriptorIndex := 8, attributes := #[] }, { accessFlags := 9, nameIndex := 90, descriptorIndex := 105, attributes := #[] }, { accessFlags := 9, nameIndex := 380, descriptorIndex := 382, attributes := #[] }] 48 4 #[] #[{ accessFlags := 4120, nameIndex := 121, descriptorIndex := 122, attributes := #[] }])
  fields := #[{ name := "$assertionsDisabled", type := .boolean, accessFlags := 4120, slot := 0, constantValue := 0 }]
  methods := #[k8m0, k8m1, k8m2]
  instanceTypes := #[]
  staticTypes := #[.boolean]
  resolved := Array.replicate 395 none
  statics := none }

def pool9 : Array CpInfo := pool [(6, .class_ 8), (1, u "java/lang/Object"), (0, u "<init>"), (0, u "()V"), (1, .class_ 14), (1, u "java/lang/StringUTF16"), (31, u "$assertionsDisabled"), (0, u "Z"), (13, u "HI_BYTE_SHIFT"), (0, u "I"), (2, u "LO_BYTE_SHIFT"), (49, .methodref 12 116), (0, .nameAndType 117 118), (0, u "compress"), (0, u "([CI[BII)I"), (3, u "([CII)[B"), (138, u "coderFromArrayLen"), (0, u "([BI)B"), (106, .class_ 371), (1, u "java/lang/StringUTF16$LinesSpliterator"), (58, u "MAX_LENGTH"), (196, .class_ 628), (0, u "java/lang/StringUTF16$CodePointsSpliterator"), (0, .class_ 630), (0, u "java/lang/StringUTF16$CharsSpliterator")] 4

def k9m0 : Method := { name := "<init>", desc := "()V", sig := { parameters := [], returnType := none }, accessFlags := 0, code := none }
def k9c1 : Code := { maxStack := 2, maxLocals := 2, code := jdk_52_method_15_code, exceptionTable := #[], attributes := #[] }
def k9m1 : Method := { name := "coderFromArrayLen", desc := "([BI)B", sig := { parameters := [(.array .byte), .int], returnType := some .byte }, accessFlags := 8, code := some k9c1 }
def k9c2 : Code := { maxStack := 5, maxLocals := 6, code := jdk_52_method_16_code, exceptionTable := #[], attributes := #[] }
def k9m2 : Method := { name := "compress", desc := "([CII)[B", sig := { parameters := [(.array .char), .int, .int], returnType := some (.array .byte) }, accessFlags := 9, code := some k9c2 }
def k9c3 : Code := { maxStack := 3, maxLocals := 7, code := jdk_52_method_21_code, exceptionTable := #[], attributes := #[] }
def k9m3 : Method := { name := "compress", desc := "([CI[BII)I", sig := { parameters := [(.array .char), .int, (.array .byte), .int, .int], returnType := some .int }, accessFlags := 9, code := some k9c3 }
/-- java/lang/StringUTF16 -/
def k9 : Class := { plain "java/lang/StringUTF16" (some 0) with
  accessFlags := 48
  interfaces := #[]
  cf := some (fileOf pool9 12 #[.nestMembers #[627, 629, 369]] #[{ accessFlags := 0, nameIndex := 9, descriptorIndex := 10, attributes := #[] }, { accessFlags := 8, nameIndex := 261, descriptorIndex := 262, attributes := #[] }, { accessFlags := 9, nameIndex := 117, descriptorIndex := 122, attributes := #[] }, { accessFlags := 9, nameIndex := 117, descriptorIndex := 118, attributes := #[] }] 48 6 #[] #[{ accessFlags := 26, nameIndex := 61, descriptorIndex := 62, attributes := #[] }, { accessFlags := 26, nameIndex := 65, descriptorIndex := 62, attributes := #[] }, { accessFlags := 24, nameIndex := 430, descriptorIndex := 62, attributes := #[] }, { accessFlags := 4120, nameIndex := 46, descriptorIndex := 47, attributes := #[] }])
  fields := #[{ name := "HI_BYTE_SHIFT", type := .int, accessFlags := 26, slot := 0, constantValue := 0 }, { name := "LO_BYTE_SHIFT", type := .int, accessFlags := 26, slot := 1, constantValue := 0 }, { name := "MAX_LENGTH", type := .int, accessFlags := 24, slot := 2, constantValue := 0 }, { name := "$assertionsDisabled", type := .boolean, accessFlags := 4120, slot := 3, constantValue := 0 }]
  methods := #[k9m0, k9m1, k9m2, k9m3]
  instanceTypes := #[]
  staticTypes := #[.int, .int, .int, .boolean]
  resolved := Array.replicate 635 none
  statics := none }

def pool10 : Array CpInfo := pool [(1, .methodref 2 3), (0, .class_ 4), (0, .nameAndType 5 6), (0, u "java/lang/Object"), (0, u "<init>"), (0, u "()V"), (0, .class_ 8), (0, u "java/lang/Record")] 13

def k10c0 : Code := { maxStack := 1, maxLocals := 1, code := jdk_30_method_1_code, exceptionTable := #[], attributes := #[] }
def k10m0 : Method := { name := "<init>", desc := "()V", sig := { parameters := [], returnType := none }, accessFlags := 4, code := some k10c0 }
/-- java/lang/Record -/
def k10 : Class := { plain "java/lang/Record" (some 0) with
  accessFlags := 1057
  interfaces := #[]
  cf := some (fileOf pool10 7 #[] #[{ accessFlags := 4, nameIndex := 5, descriptorIndex := 6, attributes := #[] }] 1057 2 #[] #[])
  fields := #[]
  methods := #[k10m0]
  instanceTypes := #[]
  staticTypes := #[]
  resolved := Array.replicate 22 none
  statics := none }

def pool11 : Array CpInfo := pool [(1, .methodref 2 3), (0, .class_ 4), (0, .nameAndType 5 6), (0, u "java/lang/Record"), (0, u "<init>"), (0, u "()V"), (0, .string 8), (0, u "type"), (0, .methodref 10 11), (0, .class_ 12), (0, .nameAndType 13 14), (0, u "java/util/Objects"), (0, u "requireNonNull"), (0, u "(Ljava/lang/Object;Ljava/lang/String;)Ljava/lang/Object;"), (0, .string 16), (0, u "id"), (0, .fieldref 18 19), (0, .class_ 20), (0, .nameAndType 8 21), (0, u "com/example/sundew/sundew/EntityRef"), (0, u "Ljava/lang/String;"), (0, .fieldref 18 23), (0, .nameAndType 16 21), (28, u "(Ljava/lang/String;Ljava/lang/String;)V")] 51

def k11c0 : Code := { maxStack := 2, maxLocals := 3, code := prog_9_method_1_code, exceptionTable := #[], attributes := #[] }
def k11m0 : Method := { name := "<init>", desc := "(Ljava/lang/String;Ljava/lang/String;)V", sig := { parameters := [(.object "java/lang/String"), (.object "java/lang/String")], returnType := none }, accessFlags := 1, code := some k11c0 }
/-- com/example/sundew/sundew/EntityRef -/
def k11 : Class := { plain "com/example/sundew/sundew/EntityRef" (some 10) with
  accessFlags := 49
  interfaces := #[]
  cf := some (fileOf pool11 18 #[] #[{ accessFlags := 1, nameIndex := 5, descriptorIndex := 52, attributes := #[] }] 49 2 #[] #[{ accessFlags := 18, nameIndex := 8, descriptorIndex := 21, attributes := #[] }, { accessFlags := 18, nameIndex := 16, descriptorIndex := 21, attributes := #[] }])
  fields := #[{ name := "type", type := (.object "java/lang/String"), accessFlags := 18, slot := 0, constantValue := 0 }, { name := "id", type := (.object "java/lang/String"), accessFlags := 18, slot := 1, constantValue := 0 }]
  methods := #[k11m0]
  instanceTypes := #[(.object "java/lang/String"), (.object "java/lang/String")]
  staticTypes := #[]
  resolved := Array.replicate 104 none
  statics := none }

def pool12 : Array CpInfo := pool [(2, .class_ 4), (1, u "java/lang/Object"), (0, u "<init>"), (0, u "()V"), (35, .class_ 44), (1, u "java/util/Objects"), (0, u "requireNonNull"), (48, u "(Ljava/lang/Object;Ljava/lang/String;)Ljava/lang/Object;")] 89

def k12m0 : Method := { name := "<init>", desc := "()V", sig := { parameters := [], returnType := none }, accessFlags := 2, code := none }
def k12c1 : Code := { maxStack := 3, maxLocals := 2, code := jdk_31_method_11_code, exceptionTable := #[], attributes := #[] }
def k12m1 : Method := { name := "requireNonNull", desc := "(Ljava/lang/Object;Ljava/lang/String;)Ljava/lang/Object;", sig := { parameters := [(.object "java/lang/Object"), (.object "java/lang/String")], returnType := some (.object "java/lang/Object") }, accessFlags := 9, code := some k12c1 }
/-- java/util/Objects -/
def k12 : Class := { plain "java/util/Objects" (some 0) with
  accessFlags := 49
  interfaces := #[]
  cf := some (fileOf pool12 42 #[] #[{ accessFlags := 2, nameIndex := 5, descriptorIndex := 6, attributes := #[] }, { accessFlags := 9, nameIndex := 45, descriptorIndex := 94, attributes := #[] }] 49 2 #[] #[])
  fields := #[]
  methods := #[k12m0, k12m1]
  instanceTypes := #[]
  staticTypes := #[]
  resolved := Array.replicate 184 none
  statics := none }

def pool13 : Array CpInfo := pool [(1, .methodref 2 3), (0, .class_ 4), (0, .nameAndType 5 6), (0, u "java/lang/Record"), (0, u "<init>"), (0, u "()V"), (0, .string 8), (0, u "kind"), (0, .methodref 10 11), (0, .class_ 12), (0, .nameAndType 13 14), (0, u "java/util/Objects"), (0, u "requireNonNull"), (0, u "(Ljava/lang/Object;Ljava/lang/String;)Ljava/lang/Object;"), (0, .fieldref 16 17), (0, .class_ 18), (0, .nameAndType 19 20), (0, u "com/example/sundew/sundew/Holder$Kind"), (0, u "ENV"), (0, u "Lcom/example/sundew/sundew/Holder$Kind;"), (7, .fieldref 29 30), (0, .class_ 31), (0, .nameAndType 8 20), (0, u "com/example/sundew/sundew/Holder"), (0, .fieldref 29 33), (0, .nameAndType 34 35), (0, u "entity"), (0, u "Lcom/example/sundew/sundew/EntityRef;"), (3, .string 34), (0, .class_ 41), (0, u "com/example/sundew/sundew/EntityRef"), (0, .methodref 29 43), (0, .nameAndType 5 44), (0, u "(Lcom/example/sundew/sundew/Holder$Kind;Lcom/example/sundew/sundew/EntityRef;)V"), (0, .fieldref 16 46), (0, .nameAndType 47 20), (0, u "RESOURCE"), (14, u "Lcom/example/sundew/sundew/Holder;"), (5, u "(Lcom/example/sundew/sundew/EntityRef;)Lcom/example/sundew/sundew/Holder;"), (0, u "resource"), (3, u "()Lcom/example/sundew/sundew/Holder$Kind;"), (0, u "()Lcom/example/sundew/sundew/EntityRef;")] 24

def k13c0 : Code := { maxStack := 3, maxLocals := 3, code := prog_10_method_1_code, exceptionTable := #[], attributes := #[] }
def k13m0 : Method := { name := "<init>", desc := "(Lcom/example/sundew/sundew/Holder$Kind;Lcom/example/sundew/sundew/EntityRef;)V", sig := { parameters := [(.object "com/example/sundew/sundew/Holder$Kind"), (.object "com/example/sundew/sundew/EntityRef")], returnType := none }, accessFlags := 1, code := some k13c0 }
def k13c1 : Code := { maxStack := 5, maxLocals := 1, code := prog_10_method_3_code, exceptionTable := #[], attributes := #[] }
def k13m1 : Method := { name := "resource", desc := "(Lcom/example/sundew/sundew/EntityRef;)Lcom/example/sundew/sundew/Holder;", sig := { parameters := [(.object "com/example/sundew/sundew/EntityRef")], returnType := some (.object "com/example/sundew/sundew/Holder") }, accessFlags := 9, code := some k13c1 }
def k13c2 : Code := { maxStack := 1, maxLocals := 1, code := prog_10_method_7_code, exceptionTable := #[], attributes := #[] }
def k13m2 : Method := { name := "kind", desc := "()Lcom/example/sundew/sundew/Holder$Kind;", sig := { parameters := [], returnType := some (.object "com/example/sundew/sundew/Holder$Kind") }, accessFlags := 1, code := some k13c2 }
def k13c3 : Code := { maxStack := 1, maxLocals := 1, code := prog_10_method_8_code, exceptionTable := #[], attributes := #[] }
def k13m3 : Method := { name := "entity", desc := "()Lcom/example/sundew/sundew/EntityRef;", sig := { parameters := [], returnType := some (.object "com/example/sundew/sundew/EntityRef") }, accessFlags := 1, code := some k13c3 }
/-- com/example/sundew/sundew/Holder -/
def k13 : Class := { plain "com/example/sundew/sundew/Holder" (some 10) with
  accessFlags := 49
  interfaces := #[]
  cf := some (fileOf pool13 29 #[.nestMembers #[16]] #[{ accessFlags := 1, nameIndex := 5, descriptorIndex := 44, attributes := #[] }, { accessFlags := 9, nameIndex := 69, descriptorIndex := 68, attributes := #[] }, { accessFlags := 1, nameIndex := 8, descriptorIndex := 73, attributes := #[] }, { accessFlags := 1, nameIndex := 34, descriptorIndex := 74, attributes := #[] }] 49 2 #[] #[{ accessFlags := 18, nameIndex := 8, descriptorIndex := 20, attributes := #[] }, { accessFlags := 18, nameIndex := 34, descriptorIndex := 35, attributes := #[] }, { accessFlags := 25, nameIndex := 19, descriptorIndex := 62, attributes := #[] }])
  fields := #[{ name := "kind", type := (.object "com/example/sundew/sundew/Holder$Kind"), accessFlags := 18, slot := 0, constantValue := 0 }, { name := "entity", type := (.object "com/example/sundew/sundew/EntityRef"), accessFlags := 18, slot := 1, constantValue := 0 }, { name := "ENV", type := (.object "com/example/sundew/sundew/Holder"), accessFlags := 25, slot := 0, constantValue := 0 }]
  methods := #[k13m0, k13m1, k13m2, k13m3]
  instanceTypes := #[(.object "com/example/sundew/sundew/Holder$Kind"), (.object "com/example/sundew/sundew/EntityRef")]
  staticTypes := #[(.object "com/example/sundew/sundew/Holder")]
  resolved := Array.replicate 99 none
  statics := some 1 }

def pool14 : Array CpInfo := pool [(2, .class_ 4), (1, u "java/lang/Enum"), (0, u "name"), (0, u "Ljava/lang/String;"), (2, u "ordinal"), (0, u "I"), (1, .class_ 14), (1, u "java/lang/Object"), (4, u "hash"), (86, .class_ 108), (1, u "java/lang/Enum$EnumDesc"), (2, .class_ 112), (0, u "java/lang/constant/Constable"), (0, .class_ 114), (0, u "java/lang/Comparable"), (0, .class_ 116), (0, u "java/io/Serializable")] 87

/-- java/lang/Enum -/
def k14 : Class := { plain "java/lang/Enum" (some 0) with
  accessFlags := 1057
  interfaces := #[5, 3, 2]
  cf := some (fileOf pool14 2 #[.nestMembers #[106]] #[] 1057 12 #[111, 113, 115] #[{ accessFlags := 18, nameIndex := 5, descriptorIndex := 6, attributes := #[] }, { accessFlags := 18, nameIndex := 9, descriptorIndex := 10, attributes := #[] }, { accessFlags := 2, nameIndex := 19, descriptorIndex := 10, attributes := #[] }])
  fields := #[{ name := "name", type := (.object "java/lang/String"), accessFlags := 18, slot := 0, constantValue := 0 }, { name := "ordinal", type := .int, accessFlags := 18, slot := 1, constantValue := 0 }, { name := "hash", type := .int, accessFlags := 2, slot := 2, constantValue := 0 }]
  methods := #[]
  instanceTypes := #[(.object "java/lang/String"), .int, .int]
  staticTypes := #[]
  resolved := Array.replicate 204 none
  statics := none }

def pool15 : Array CpInfo := pool [(1, .class_ 2), (0, u "com/example/sundew/sundew/Holder$Kind"), (2, u "SUBJECT"), (0, u "Lcom/example/sundew/sundew/Holder$Kind;"), (2, u "RESOURCE"), (2, u "ENV"), (2, u "$VALUES"), (0, u "[Lcom/example/sundew/sundew/Holder$Kind;"), (6, .class_ 25), (1, u "java/lang/Enum"), (8, u "variable"), (0, u "Ljava/lang/String;"), (9, .class_ 46), (0, u "com/example/sundew/sundew/Holder")] 75

/-- com/example/sundew/sundew/Holder$Kind -/
def k15 : Class := { plain "com/example/sundew/sundew/Holder$Kind" (some 14) with
  accessFlags := 16433
  interfaces := #[]
  cf := some (fileOf pool15 1 #[.nestHost 45] #[] 16433 23 #[] #[{ accessFlags := 16409, nameIndex := 5, descriptorIndex := 6, attributes := #[] }, { accessFlags := 16409, nameIndex := 9, descriptorIndex := 6, attributes := #[] }, { accessFlags := 16409, nameIndex := 12, descriptorIndex := 6, attributes := #[] }, { accessFlags := 18, nameIndex := 34, descriptorIndex := 35, attributes := #[] }, { accessFlags := 4122, nameIndex := 15, descriptorIndex := 16, attributes := #[] }])
  fields := #[{ name := "SUBJECT", type := (.object "com/example/sundew/sundew/Holder$Kind"), accessFlags := 16409, slot := 0, constantValue := 0 }, { name := "RESOURCE", type := (.object "com/example/sundew/sundew/Holder$Kind"), accessFlags := 16409, slot := 1, constantValue := 0 }, { name := "ENV", type := (.object "com/example/sundew/sundew/Holder$Kind"), accessFlags := 16409, slot := 2, constantValue := 0 }, { name := "variable", type := (.object "java/lang/String"), accessFlags := 18, slot := 3, constantValue := 0 }, { name := "$VALUES", type := (.array (.object "com/example/sundew/sundew/Holder$Kind")), accessFlags := 4122, slot := 3, constantValue := 0 }]
  methods := #[]
  instanceTypes := #[(.object "java/lang/String"), .int, .int, (.object "java/lang/String")]
  staticTypes := #[(.object "com/example/sundew/sundew/Holder$Kind"), (.object "com/example/sundew/sundew/Holder$Kind"), (.object "com/example/sundew/sundew/Holder$Kind"), (.array (.object "com/example/sundew/sundew/Holder$Kind"))]
  resolved := Array.replicate 122 none
  statics := some 2 }

def pool16 : Array CpInfo := pool [(2, .class_ 4), (1, u "java/lang/Object"), (0, u "<init>"), (0, u "()V"), (17, .class_ 26), (1, u "jdk/internal/util/Preconditions"), (28, .class_ 56), (0, u "jdk/internal/util/Preconditions$4"), (57, .class_ 115), (0, u "jdk/internal/util/Preconditions$1"), (7, u "SIOOBE_FORMATTER"), (0, u "Ljava/util/function/BiFunction;"), (0, .class_ 126), (0, u "jdk/internal/util/Preconditions$2"), (3, u "AIOOBE_FORMATTER"), (0, .class_ 132), (0, u "jdk/internal/util/Preconditions$3"), (3, u "IOOBE_FORMATTER")] 57

def k16m0 : Method := { name := "<init>", desc := "()V", sig := { parameters := [], returnType := none }, accessFlags := 1, code := none }
/-- jdk/internal/util/Preconditions -/
def k16 : Class := { plain "jdk/internal/util/Preconditions" (some 0) with
  accessFlags := 33
  interfaces := #[]
  cf := some (fileOf pool16 24 #[.nestMembers #[55, 131, 125, 114]] #[{ accessFlags := 1, nameIndex := 5, descriptorIndex := 6, attributes := #[] }] 33 2 #[] #[{ accessFlags := 25, nameIndex := 123, descriptorIndex := 124, attributes := #[] }, { accessFlags := 25, nameIndex := 130, descriptorIndex := 124, attributes := #[] }, { accessFlags := 25, nameIndex := 136, descriptorIndex := 124, attributes := #[] }])
  fields := #[{ name := "SIOOBE_FORMATTER", type := (.object "java/util/function/BiFunction"), accessFlags := 25, slot := 0, constantValue := 0 }, { name := "AIOOBE_FORMATTER", type := (.object "java/util/function/BiFunction"), accessFlags := 25, slot := 1, constantValue := 0 }, { name := "IOOBE_FORMATTER", type := (.object "java/util/function/BiFunction"), accessFlags := 25, slot := 2, constantValue := 0 }]
  methods := #[k16m0]
  instanceTypes := #[]
  staticTypes := #[(.object "java/util/function/BiFunction"), (.object "java/util/function/BiFunction"), (.object "java/util/function/BiFunction")]
  resolved := Array.replicate 194 none
  statics := some 3 }

def pool17 : Array CpInfo := pool [(9, u "<init>"), (6, .class_ 18), (1, u "java/lang/Object"), (0, u "()V"), (1, .class_ 23), (1, u "jdk/internal/util/ArraysSupport"), (0, u "LOG2_ARRAY_LONG_INDEX_SCALE"), (0, u "I"), (2, u "U"), (0, u "Ljdk/internal/misc/Unsafe;"), (8, u "BIG_ENDIAN"), (0, u "Z"), (8, u "LOG2_BYTE_BIT_SIZE"), (4, u "LOG2_ARRAY_INT_INDEX_SCALE"), (54, u "JLA"), (0, u "Ljdk/internal/access/JavaLangAccess;"), (11, u "LOG2_ARRAY_BOOLEAN_INDEX_SCALE"), (9, u "LOG2_ARRAY_BYTE_INDEX_SCALE"), (5, u "LOG2_ARRAY_CHAR_INDEX_SCALE"), (5, u "LOG2_ARRAY_SHORT_INDEX_SCALE"), (18, u "LOG2_ARRAY_FLOAT_INDEX_SCALE"), (24, u "LOG2_ARRAY_DOUBLE_INDEX_SCALE"), (89, u "T_BOOLEAN"), (2, u "T_CHAR"), (1, u "T_FLOAT"), (1, u "T_DOUBLE"), (1, u "T_BYTE"), (1, u "T_SHORT"), (1, u "T_INT"), (1, u "T_LONG"), (1, u "SOFT_MAX_ARRAY_LENGTH")] 83

def k17m0 : Method := { name := "<init>", desc := "()V", sig := { parameters := [], returnType := none }, accessFlags := 2, code := none }
/-- jdk/internal/util/ArraysSupport -/
def k17 : Class := { plain "jdk/internal/util/ArraysSupport" (some 0) with
  accessFlags := 33
  interfaces := #[]
  cf := some (fileOf pool17 21 #[] #[{ accessFlags := 2, nameIndex := 9, descriptorIndex := 19, attributes := #[] }] 33 16 #[] #[{ accessFlags := 24, nameIndex := 28, descriptorIndex := 29, attributes := #[] }, { accessFlags := 26, nameIndex := 38, descriptorIndex := 39, attributes := #[] }, { accessFlags := 25, nameIndex := 121, descriptorIndex := 25, attributes := #[] }, { accessFlags := 25, nameIndex := 131, descriptorIndex := 25, attributes := #[] }, { accessFlags := 25, nameIndex := 137, descriptorIndex := 25, attributes := #[] }, { accessFlags := 25, nameIndex := 143, descriptorIndex := 25, attributes := #[] }, { accessFlags := 25, nameIndex := 53, descriptorIndex := 25, attributes := #[] }, { accessFlags := 25, nameIndex := 24, descriptorIndex := 25, attributes := #[] }, { accessFlags := 25, nameIndex := 162, descriptorIndex := 25, attributes := #[] }, { accessFlags := 25, nameIndex := 187, descriptorIndex := 25, attributes := #[] }, { accessFlags := 26, nameIndex := 48, descriptorIndex := 25, attributes := #[] }, { accessFlags := 25, nameIndex := 277, descriptorIndex := 25, attributes := #[] }, { accessFlags := 25, nameIndex := 280, descriptorIndex := 25, attributes := #[] }, { accessFlags := 25, nameIndex := 282, descriptorIndex := 25, attributes := #[] }, { accessFlags := 25, nameIndex := 284, descriptorIndex := 25, attributes := #[] }, { accessFlags := 25, nameIndex := 286, descriptorIndex := 25, attributes := #[] }, { accessFlags := 25, nameIndex := 288, descriptorIndex := 25, attributes := #[] }, { accessFlags := 25, nameIndex := 290, descriptorIndex := 25, attributes := #[] }, { accessFlags := 25, nameIndex := 292, descriptorIndex := 25, attributes := #[] }, { accessFlags := 26, nameIndex := 108, descriptorIndex := 109, attributes := #[] }, { accessFlags := 25, nameIndex := 294, descriptorIndex := 25, attributes := #[] }])
  fields := #[{ name := "U", type := (.object "jdk/internal/misc/Unsafe"), accessFlags := 24, slot := 0, constantValue := 0 }, { name := "BIG_ENDIAN", type := .boolean, accessFlags := 26, slot := 1, constantValue := 0 }, { name := "LOG2_ARRAY_BOOLEAN_INDEX_SCALE", type := .int, accessFlags := 25, slot := 2, constantValue := 0 }, { name := "LOG2_ARRAY_BYTE_INDEX_SCALE", type := .int, accessFlags := 25, slot := 3, constantValue := 0 }, { name := "LOG2_ARRAY_CHAR_INDEX_SCALE", type := .int, accessFlags := 25, slot := 4, constantValue := 0 }, { name := "LOG2_ARRAY_SHORT_INDEX_SCALE", type := .int, accessFlags := 25, slot := 5, constantValue := 0 }, { name := "LOG2_ARRAY_INT_INDEX_SCALE", type := .int, accessFlags := 25, slot := 6, constantValue := 0 }, { name := "LOG2_ARRAY_LONG_INDEX_SCALE", type := .int, accessFlags := 25, slot := 7, constantValue := 0 }, { name := "LOG2_ARRAY_FLOAT_INDEX_SCALE", type := .int, accessFlags := 25, slot := 8, constantValue := 0 }, { name := "LOG2_ARRAY_DOUBLE_INDEX_SCALE", type := .int, accessFlags := 25, slot := 9, constantValue := 0 }, { name := "LOG2_BYTE_BIT_SIZE", type := .int, accessFlags := 26, slot := 10, constantValue := 0 }, { name := "T_BOOLEAN", type := .int, accessFlags := 25, slot := 11, constantValue := 0 }, { name := "T_CHAR", type := .int, accessFlags := 25, slot := 12, constantValue := 0 }, { name := "T_FLOAT", type := .int, accessFlags := 25, slot := 13, constantValue := 0 }, { name := "T_DOUBLE", type := .int, accessFlags := 25, slot := 14, constantValue := 0 }, { name := "T_BYTE", type := .int, accessFlags := 25, slot := 15, constantValue := 0 }, { name := "T_SHORT", type := .int, accessFlags := 25, slot := 16, constantValue := 0 }, { name := "T_INT", type := .int, accessFlags := 25, slot := 17, constantValue := 0 }, { name := "T_LONG", type := .int, accessFlags := 25, slot := 18, constantValue := 0 }, { name := "JLA", type := (.object "jdk/internal/access/JavaLangAccess"), accessFlags := 26, slot := 19, constantValue := 0 }, { name := "SOFT_MAX_ARRAY_LENGTH", type := .int, accessFlags := 25, slot := 20, constantValue := 0 }]
  methods := #[k17m0]
  instanceTypes := #[]
  staticTypes := #[(.object "jdk/internal/misc/Unsafe"), .boolean, .int, .int, .int, .int, .int, .int, .int, .int, .int, .int, .int, .int, .int, .int, .int, .int, .int, (.object "jdk/internal/access/JavaLangAccess"), .int]
  resolved := Array.replicate 378 none
  statics := none }

def pool18 : Array CpInfo := pool [(1, u "java/lang/Cloneable"), (0, .class_ 1), (0, u "java/lang/Object"), (0, .class_ 3)] 3

/-- java/lang/Cloneable -/
def k18 : Class := { plain "java/lang/Cloneable" (some 0) with
  accessFlags := 1537
  interfaces := #[]
  cf := some (fileOf pool18 2 #[] #[] 1537 4 #[] #[])
  fields := #[]
  methods := #[]
  instanceTypes := #[]
  staticTypes := #[]
  resolved := Array.replicate 8 none
  statics := none }

/-- the primitive byte -/
def k19 : Class := { plain "byte" none with kind := .primitive 'B', accessFlags := 0x411 }
/-- [B -/
def k20 : Class := { plain "[B" (some 0) with kind := .array 19 .byte, interfaces := #[18, 2], accessFlags := 1041 }

/-- the primitive char -/
def k21 : Class := { plain "char" none with kind := .primitive 'C', accessFlags := 0x411 }
/-- [C -/
def k22 : Class := { plain "[C" (some 0) with kind := .array 21 .char, interfaces := #[18, 2], accessFlags := 1041 }

/-- the primitive int -/
def k23 : Class := { plain "int" none with kind := .primitive 'I', accessFlags := 0x411 }
/-- [I -/
def k24 : Class := { plain "[I" (some 0) with kind := .array 23 .int, interfaces := #[18, 2], accessFlags := 1041 }

def heap : Heap := #[{ cls := 7, slots := #[.long 0, .int 1, .null, .int 0, .null, .int 0, .int 0], vm := .statics 7 },
  { cls := 13, slots := #[.ref 6], vm := .statics 13 },
  { cls := 15, slots := #[.null, .ref 4, .ref 5, .null], vm := .statics 15 },
  { cls := 16, slots := #[.null, .null, .null], vm := .statics 16 },
  { cls := 15, slots := #[.null, .int 1, .int 0, .null], vm := .none },
  { cls := 15, slots := #[.null, .int 2, .int 0, .null], vm := .none },
  { cls := 13, slots := #[.null, .null], vm := .none }]
def classes : Array Class := #[k0, k1, k2, k3, k4, k5, k6, k7, k8, k9, k10, k11, k12, k13, k14, k15, k16, k17, k18, k19, k20, k21, k22, k23, k24]
def interned : List (Array UInt16 × Addr) := []
def slotsUsed : Nat := 25
def theMethod : MethodId := ⟨1, 2⟩
def args0 : Array Value := #[.int 5, .int 5, .int 5]
def aboutOver (below : List Frame) : State where
  vm := { classes := classes, interned := interned.toArray }
  heap := heap
  slotsUsed := slotsUsed
  threads := #[{ frames := .invoking theMethod args0 :: below }]
def below0 : List Frame := [.native { method := ⟨0, 0⟩, args := #[] }]
def about1 : State := aboutOver below0
def p0 : Program := .bare "" "" ""
def e0 : Env := launch0.env 0 0 0
theorem w_frames : about1.frames = Frame.invoking theMethod args0 :: below0 := rfl
set_option maxRecDepth 65536 in
theorem w_args : argsFit about1.vm theMethod args0 = true := by decide +kernel
set_option maxRecDepth 65536 in
theorem w_heap : heapFits about1 = true := by decide +kernel
set_option maxRecDepth 65536 in
theorem w_runnable : about1.curStatus? = some .runnable := by decide +kernel
set_option maxRecDepth 65536 in
theorem w_alone : about1.alone = true := by decide +kernel
set_option maxRecDepth 65536 in
theorem w_named : about1.methodNamed? x = some theMethod := by decide +kernel
set_option maxRecDepth 65536 in
theorem w_hears : about1.hears theMethod below0 = true := by decide +kernel
set_option maxRecDepth 65536 in
theorem w_ripe : about1.ripe theMethod args0 below0 = true := by decide +kernel
theorem w_running : about1.status = .running := rfl
set_option maxRecDepth 65536 in
theorem w_room : about1.hasRoom e0.platform room_1 = true :=
  launch0.hasRoom_least _ room_1 (by decide +kernel) (by decide +kernel) (by decide +kernel) (by decide +kernel) (by decide +kernel) (by decide +kernel)
theorem allAtoms_all (ts : List Jvm.Cond) (a : Array Jvm.Value) (st : Jvm.State) : (allAtoms ts).before a st = ts.all (fun c => c.before a st) := by
  induction ts with
  | nil => rfl
  | cons c t ih =>
    show (Jvm.Cond.and c (allAtoms t)).before a st = _
    rw [Jvm.Cond.before_and, ih, List.all_cons]
def words1 : List Jvm.Cond := Jvm.Cond.code x code maxLocals ret :: tables_1
/-- a 'code' word, met by the world's own term for the bytes: nothing is compared byte by byte -/
theorem code_word {y : MethodName} {bytes : ByteArray} {mx : Nat} {rt : Option FieldType} {a : Array Value} {s : State} {m : MethodId} {meth : Method} {c : Code} (h1 : s.methodNamed? y = some m) (h2 : s.vm.method? m = some meth) (h3 : meth.code = some c) (h4 : c.code = bytes)
    (h5 : (c.maxLocals == mx && c.exceptionTable.isEmpty && decide (c.maxStack ≤ mostOperands) && decide (meth.sig.returnType = rt) && !meth.locks && decide (parseMethodDescriptor y.desc = some meth.sig)) = true) : (Jvm.Cond.code y bytes mx rt).before a s = true := by
  simp only [Bool.and_eq_true, beq_iff_eq, Bool.not_eq_true', decide_eq_true_eq] at h5
  obtain ⟨⟨⟨⟨⟨g1, g2⟩, g3⟩, g4⟩, g5⟩, g6⟩ := h5
  simp [Cond.before, Cond.holds, Cond.value, h1, h2, h3, h4, g1, g2, g3, g4, g5, g6]
def isCode : Jvm.Cond → Bool
  | .code _ _ _ _ => true
  | _ => false
theorem all_split {L : List Jvm.Cond} {P : Jvm.Cond → Bool} (h1 : L.all (fun c => isCode c || P c) = true) (h2 : ∀ c ∈ L.filter isCode, P c = true) : L.all P = true := by
  refine List.all_eq_true.mpr fun c hc => ?_
  have h := List.all_eq_true.mp h1 c hc
  rcases Bool.eq_false_or_eq_true (isCode c) with hi | hi
  · exact h2 c (List.mem_filter.mpr ⟨hc, hi⟩)
  · simpa [hi] using h
set_option maxRecDepth 65536 in
theorem w_c0 : (Jvm.Cond.code x code maxLocals ret).before args0 about1 = true := code_word (m := ⟨1, 2⟩) (meth := k1m2) (c := k1c2) (by decide +kernel) rfl rfl rfl (by decide +kernel)
set_option maxRecDepth 65536 in
theorem w_c1 : (Jvm.Cond.code ({ cls := "com/example/sundew/sundew/HolderResourcePinLaw", name := "drawn", desc := "(II)Ljava/lang/String;" } : Jvm.MethodName) method_2_code (3 : Nat) (Option.some (Jvm.ClassFile.FieldType.object "java/lang/String"))).before args0 about1 = true := code_word (m := ⟨1, 1⟩) (meth := k1m1) (c := k1c1) (by decide +kernel) rfl rfl rfl (by decide +kernel)
set_option maxRecDepth 65536 in
theorem w_c2 : (Jvm.Cond.code ({ cls := "java/lang/String", name := "valueOf", desc := "(C)Ljava/lang/String;" } : Jvm.MethodName) jdk_42_method_139_code (1 : Nat) (Option.some (Jvm.ClassFile.FieldType.object "java/lang/String"))).before args0 about1 = true := code_word (m := ⟨7, 2⟩) (meth := k7m2) (c := k7c2) (by decide +kernel) rfl rfl rfl (by decide +kernel)
set_option maxRecDepth 65536 in
theorem w_c3 : (Jvm.Cond.code ({ cls := "java/lang/StringLatin1", name := "canEncode", desc := "(C)Z" } : Jvm.MethodName) jdk_43_method_3_code (1 : Nat) (Option.some Jvm.ClassFile.FieldType.boolean)).before args0 about1 = true := code_word (m := ⟨8, 1⟩) (meth := k8m1) (c := k8c1) (by decide +kernel) rfl rfl rfl (by decide +kernel)
set_option maxRecDepth 65536 in
theorem w_c4 : (Jvm.Cond.code ({ cls := "java/lang/StringLatin1", name := "toBytes", desc := "(C)[B" } : Jvm.MethodName) jdk_43_method_46_code (1 : Nat) (Option.some (Jvm.ClassFile.FieldType.array Jvm.ClassFile.FieldType.byte))).before args0 about1 = true := code_word (m := ⟨8, 2⟩) (meth := k8m2) (c := k8c2) (by decide +kernel) rfl rfl rfl (by decide +kernel)
set_option maxRecDepth 65536 in
theorem w_c5 : (Jvm.Cond.code ({ cls := "java/lang/String", name := "<init>", desc := "([BB)V" } : Jvm.MethodName) jdk_42_method_151_code (3 : Nat) (Option.none : Option Jvm.ClassFile.FieldType)).before args0 about1 = true := code_word (m := ⟨7, 4⟩) (meth := k7m4) (c := k7c4) (by decide +kernel) rfl rfl rfl (by decide +kernel)
set_option maxRecDepth 65536 in
theorem w_c6 : (Jvm.Cond.code ({ cls := "java/lang/Object", name := "<init>", desc := "()V" } : Jvm.MethodName) object_method_1_code (1 : Nat) (Option.none : Option Jvm.ClassFile.FieldType)).before args0 about1 = true := code_word (m := ⟨0, 0⟩) (meth := k0m0) (c := k0c0) (by decide +kernel) rfl rfl rfl (by decide +kernel)
set_option maxRecDepth 65536 in
theorem w_c7 : (Jvm.Cond.code ({ cls := "java/lang/String", name := "<init>", desc := "([C)V" } : Jvm.MethodName) jdk_42_method_3_code (2 : Nat) (Option.none : Option Jvm.ClassFile.FieldType)).before args0 about1 = true := code_word (m := ⟨7, 1⟩) (meth := k7m1) (c := k7c1) (by decide +kernel) rfl rfl rfl (by decide +kernel)
set_option maxRecDepth 65536 in
theorem w_c8 : (Jvm.Cond.code ({ cls := "java/lang/String", name := "<init>", desc := "([CIILjava/lang/Void;)V" } : Jvm.MethodName) jdk_42_method_149_code (6 : Nat) (Option.none : Option Jvm.ClassFile.FieldType)).before args0 about1 = true := code_word (m := ⟨7, 3⟩) (meth := k7m3) (c := k7c3) (by decide +kernel) rfl rfl rfl (by decide +kernel)
set_option maxRecDepth 65536 in
theorem w_c9 : (Jvm.Cond.code ({ cls := "java/lang/StringUTF16", name := "compress", desc := "([CII)[B" } : Jvm.MethodName) jdk_52_method_16_code (6 : Nat) (Option.some (Jvm.ClassFile.FieldType.array Jvm.ClassFile.FieldType.byte))).before args0 about1 = true := code_word (m := ⟨9, 2⟩) (meth := k9m2) (c := k9c2) (by decide +kernel) rfl rfl rfl (by decide +kernel)
set_option maxRecDepth 65536 in
theorem w_c10 : (Jvm.Cond.code ({ cls := "java/lang/StringUTF16", name := "compress", desc := "([CI[BII)I" } : Jvm.MethodName) jdk_52_method_21_code (7 : Nat) (Option.some Jvm.ClassFile.FieldType.int)).before args0 about1 = true := code_word (m := ⟨9, 3⟩) (meth := k9m3) (c := k9c3) (by decide +kernel) rfl rfl rfl (by decide +kernel)
set_option maxRecDepth 65536 in
theorem w_c11 : (Jvm.Cond.code ({ cls := "java/lang/StringUTF16", name := "coderFromArrayLen", desc := "([BI)B" } : Jvm.MethodName) jdk_52_method_15_code (2 : Nat) (Option.some Jvm.ClassFile.FieldType.byte)).before args0 about1 = true := code_word (m := ⟨9, 1⟩) (meth := k9m1) (c := k9c1) (by decide +kernel) rfl rfl rfl (by decide +kernel)
set_option maxRecDepth 65536 in
theorem w_c12 : (Jvm.Cond.code ({ cls := "com/example/sundew/sundew/EntityRef", name := "<init>", desc := "(Ljava/lang/String;Ljava/lang/String;)V" } : Jvm.MethodName) prog_9_method_1_code (3 : Nat) (Option.none : Option Jvm.ClassFile.FieldType)).before args0 about1 = true := code_word (m := ⟨11, 0⟩) (meth := k11m0) (c := k11c0) (by decide +kernel) rfl rfl rfl (by decide +kernel)
set_option maxRecDepth 65536 in
theorem w_c13 : (Jvm.Cond.code ({ cls := "java/lang/Record", name := "<init>", desc := "()V" } : Jvm.MethodName) jdk_30_method_1_code (1 : Nat) (Option.none : Option Jvm.ClassFile.FieldType)).before args0 about1 = true := code_word (m := ⟨10, 0⟩) (meth := k10m0) (c := k10c0) (by decide +kernel) rfl rfl rfl (by decide +kernel)
set_option maxRecDepth 65536 in
theorem w_c14 : (Jvm.Cond.code ({ cls := "java/util/Objects", name := "requireNonNull", desc := "(Ljava/lang/Object;Ljava/lang/String;)Ljava/lang/Object;" } : Jvm.MethodName) jdk_31_method_11_code (2 : Nat) (Option.some (Jvm.ClassFile.FieldType.object "java/lang/Object"))).before args0 about1 = true := code_word (m := ⟨12, 1⟩) (meth := k12m1) (c := k12c1) (by decide +kernel) rfl rfl rfl (by decide +kernel)
set_option maxRecDepth 65536 in
theorem w_c15 : (Jvm.Cond.code ({ cls := "com/example/sundew/sundew/Holder", name := "resource", desc := "(Lcom/example/sundew/sundew/EntityRef;)Lcom/example/sundew/sundew/Holder;" } : Jvm.MethodName) prog_10_method_3_code (1 : Nat) (Option.some (Jvm.ClassFile.FieldType.object "com/example/sundew/sundew/Holder"))).before args0 about1 = true := code_word (m := ⟨13, 1⟩) (meth := k13m1) (c := k13c1) (by decide +kernel) rfl rfl rfl (by decide +kernel)
set_option maxRecDepth 65536 in
theorem w_c16 : (Jvm.Cond.code ({ cls := "com/example/sundew/sundew/Holder", name := "<init>", desc := "(Lcom/example/sundew/sundew/Holder$Kind;Lcom/example/sundew/sundew/EntityRef;)V" } : Jvm.MethodName) prog_10_method_1_code (3 : Nat) (Option.none : Option Jvm.ClassFile.FieldType)).before args0 about1 = true := code_word (m := ⟨13, 0⟩) (meth := k13m0) (c := k13c0) (by decide +kernel) rfl rfl rfl (by decide +kernel)
set_option maxRecDepth 65536 in
theorem w_c17 : (Jvm.Cond.code ({ cls := "com/example/sundew/sundew/Holder", name := "kind", desc := "()Lcom/example/sundew/sundew/Holder$Kind;" } : Jvm.MethodName) prog_10_method_7_code (1 : Nat) (Option.some (Jvm.ClassFile.FieldType.object "com/example/sundew/sundew/Holder$Kind"))).before args0 about1 = true := code_word (m := ⟨13, 2⟩) (meth := k13m2) (c := k13c2) (by decide +kernel) rfl rfl rfl (by decide +kernel)
set_option maxRecDepth 65536 in
theorem w_c18 : (Jvm.Cond.code ({ cls := "com/example/sundew/sundew/Holder", name := "entity", desc := "()Lcom/example/sundew/sundew/EntityRef;" } : Jvm.MethodName) prog_10_method_8_code (1 : Nat) (Option.some (Jvm.ClassFile.FieldType.object "com/example/sundew/sundew/EntityRef"))).before args0 about1 = true := code_word (m := ⟨13, 3⟩) (meth := k13m3) (c := k13c3) (by decide +kernel) rfl rfl rfl (by decide +kernel)
def codes1 : List Jvm.Cond := [Jvm.Cond.code x code maxLocals ret, Jvm.Cond.code ({ cls := "com/example/sundew/sundew/HolderResourcePinLaw", name := "drawn", desc := "(II)Ljava/lang/String;" } : Jvm.MethodName) method_2_code (3 : Nat) (Option.some (Jvm.ClassFile.FieldType.object "java/lang/String")), Jvm.Cond.code ({ cls := "java/lang/String", name := "valueOf", desc := "(C)Ljava/lang/String;" } : Jvm.MethodName) jdk_42_method_139_code (1 : Nat) (Option.some (Jvm.ClassFile.FieldType.object "java/lang/String")), Jvm.Cond.code ({ cls := "java/lang/StringLatin1", name := "canEncode", desc := "(C)Z" } : Jvm.MethodName) jdk_43_method_3_code (1 : Nat) (Option.some Jvm.ClassFile.FieldType.boolean), Jvm.Cond.code ({ cls := "java/lang/StringLatin1", name := "toBytes", desc := "(C)[B" } : Jvm.MethodName) jdk_43_method_46_code (1 : Nat) (Option.some (Jvm.ClassFile.FieldType.array Jvm.ClassFile.FieldType.byte)), Jvm.Cond.code ({ cls := "java/lang/String", name := "<init>", desc := "([BB)V" } : Jvm.MethodName) jdk_42_method_151_code (3 : Nat) (Option.none : Option Jvm.ClassFile.FieldType), Jvm.Cond.code ({ cls := "java/lang/Object", name := "<init>", desc := "()V" } : Jvm.MethodName) object_method_1_code (1 : Nat) (Option.none : Option Jvm.ClassFile.FieldType), Jvm.Cond.code ({ cls := "java/lang/String", name := "<init>", desc := "([C)V" } : Jvm.MethodName) jdk_42_method_3_code (2 : Nat) (Option.none : Option Jvm.ClassFile.FieldType), Jvm.Cond.code ({ cls := "java/lang/String", name := "<init>", desc := "([CIILjava/lang/Void;)V" } : Jvm.MethodName) jdk_42_method_149_code (6 : Nat) (Option.none : Option Jvm.ClassFile.FieldType), Jvm.Cond.code ({ cls := "java/lang/StringUTF16", name := "compress", desc := "([CII)[B" } : Jvm.MethodName) jdk_52_method_16_code (6 : Nat) (Option.some (Jvm.ClassFile.FieldType.array Jvm.ClassFile.FieldType.byte)), Jvm.Cond.code ({ cls := "java/lang/StringUTF16", name := "compress", desc := "([CI[BII)I" } : Jvm.MethodName) jdk_52_method_21_code (7 : Nat) (Option.some Jvm.ClassFile.FieldType.int), Jvm.Cond.code ({ cls := "java/lang/StringUTF16", name := "coderFromArrayLen", desc := "([BI)B" } : Jvm.MethodName) jdk_52_method_15_code (2 : Nat) (Option.some Jvm.ClassFile.FieldType.byte), Jvm.Cond.code ({ cls := "com/example/sundew/sundew/EntityRef", name := "<init>", desc := "(Ljava/lang/String;Ljava/lang/String;)V" } : Jvm.MethodName) prog_9_method_1_code (3 : Nat) (Option.none : Option Jvm.ClassFile.FieldType), Jvm.Cond.code ({ cls := "java/lang/Record", name := "<init>", desc := "()V" } : Jvm.MethodName) jdk_30_method_1_code (1 : Nat) (Option.none : Option Jvm.ClassFile.FieldType), Jvm.Cond.code ({ cls := "java/util/Objects", name := "requireNonNull", desc := "(Ljava/lang/Object;Ljava/lang/String;)Ljava/lang/Object;" } : Jvm.MethodName) jdk_31_method_11_code (2 : Nat) (Option.some (Jvm.ClassFile.FieldType.object "java/lang/Object")), Jvm.Cond.code ({ cls := "com/example/sundew/sundew/Holder", name := "resource", desc := "(Lcom/example/sundew/sundew/EntityRef;)Lcom/example/sundew/sundew/Holder;" } : Jvm.MethodName) prog_10_method_3_code (1 : Nat) (Option.some (Jvm.ClassFile.FieldType.object "com/example/sundew/sundew/Holder")), Jvm.Cond.code ({ cls := "com/example/sundew/sundew/Holder", name := "<init>", desc := "(Lcom/example/sundew/sundew/Holder$Kind;Lcom/example/sundew/sundew/EntityRef;)V" } : Jvm.MethodName) prog_10_method_1_code (3 : Nat) (Option.none : Option Jvm.ClassFile.FieldType), Jvm.Cond.code ({ cls := "com/example/sundew/sundew/Holder", name := "kind", desc := "()Lcom/example/sundew/sundew/Holder$Kind;" } : Jvm.MethodName) prog_10_method_7_code (1 : Nat) (Option.some (Jvm.ClassFile.FieldType.object "com/example/sundew/sundew/Holder$Kind")), Jvm.Cond.code ({ cls := "com/example/sundew/sundew/Holder", name := "entity", desc := "()Lcom/example/sundew/sundew/EntityRef;" } : Jvm.MethodName) prog_10_method_8_code (1 : Nat) (Option.some (Jvm.ClassFile.FieldType.object "com/example/sundew/sundew/EntityRef"))]
set_option maxRecDepth 65536 in
theorem codes_eq : words1.filter isCode = codes1 := rfl
theorem w_codes : ∀ c ∈ words1.filter isCode, c.before args0 about1 = true := by
  rw [codes_eq]
  intro c hc
  simp only [codes1, List.mem_cons, List.not_mem_nil, or_false] at hc
  rcases hc with rfl | rfl | rfl | rfl | rfl | rfl | rfl | rfl | rfl | rfl | rfl | rfl | rfl | rfl | rfl | rfl | rfl | rfl | rfl
  · exact w_c0
  · exact w_c1
  · exact w_c2
  · exact w_c3
  · exact w_c4
  · exact w_c5
  · exact w_c6
  · exact w_c7
  · exact w_c8
  · exact w_c9
  · exact w_c10
  · exact w_c11
  · exact w_c12
  · exact w_c13
  · exact w_c14
  · exact w_c15
  · exact w_c16
  · exact w_c17
  · exact w_c18
set_option maxRecDepth 65536 in
theorem w_t1 : (words1.take 24).all (fun c => isCode c || c.before args0 about1) = true := by decide +kernel
set_option maxRecDepth 65536 in
theorem w_t2 : ((words1.drop 24).take 24).all (fun c => isCode c || c.before args0 about1) = true := by decide +kernel
set_option maxRecDepth 65536 in
theorem w_t3 : (((words1.drop 24).drop 24).take 24).all (fun c => isCode c || c.before args0 about1) = true := by decide +kernel
set_option maxRecDepth 65536 in
theorem w_t4 : ((((words1.drop 24).drop 24).drop 24).take 24).all (fun c => isCode c || c.before args0 about1) = true := by decide +kernel
set_option maxRecDepth 65536 in
theorem w_t5 : ((((words1.drop 24).drop 24).drop 24).drop 24).all (fun c => isCode c || c.before args0 about1) = true := by decide +kernel
theorem w_tables : (allAtoms (Jvm.Cond.code x code maxLocals ret :: tables_1)).before args0 about1 = true := by
  rw [allAtoms_all]
  show words1.all (fun c => c.before args0 about1) = true
  refine all_split ?_ w_codes
  rw [← List.take_append_drop 24 words1, List.all_append, w_t1, ← List.take_append_drop 24 (words1.drop 24), List.all_append, w_t2, ← List.take_append_drop 24 ((words1.drop 24).drop 24), List.all_append, w_t3, ← List.take_append_drop 24 (((words1.drop 24).drop 24).drop 24), List.all_append, w_t4, w_t5]
  rfl
set_option maxRecDepth 65536 in
theorem w_rest : rest_1_c.before args0 about1 = true := by decide +kernel
set_option maxRecDepth 65536 in
theorem w_case : (Jvm.Cond.and given_1 narrow_1).before args0 about1 = true := by decide +kernel
theorem w_applies : (headSpec (Jvm.Cond.code x code maxLocals ret :: tables_1) room_1).applies x e0.platform about1 = true :=
  (Spec.applies_iff w_frames).mpr ⟨w_running, w_runnable, w_alone, w_named, w_hears, w_ripe, w_room, w_tables⟩
theorem atStart : AtStart classFile x code maxLocals ret World_1 tables_1 room_1 Calls_1 rest_1 Pre_1 launch0 p0 e0 about1 theMethod args0 below0 :=
  ⟨lists_1, trivial, launch0.admits_env _ _ _, launch0.least_env, fairChoices_fair.cas, fairChoices_fair.clock, w_frames, w_args, w_heap, w_applies, trivial, w_rest, w_case⟩
end start1
theorem witness_1 : WitnessClaimed_1 := ⟨start1.p0, start1.e0, start1.about1, start1.theMethod, start1.args0, start1.below0, start1.atStart⟩
end Jvm.Pilot.@@N@@
