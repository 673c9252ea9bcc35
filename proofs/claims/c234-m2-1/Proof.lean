import JvmDerived
import JvmDerived.Pilot.@@N@@Statement
import JvmDerived.Pilot.@@N@@Code
set_option linter.unusedVariables false
set_option linter.unusedSimpArgs false
namespace Jvm.Own
open Sem ClassFile Op Lib Bundle Jvm.Stand Jvm.Free Jvm.LawKit Jvm.RoadKit
/-! A small calculus of weakest conditions over the library's walks: 'Go' says that from here the body comes to its end with Q; each rule goes back over one instruction. -/
/-- what is kept up at every point: the constants of EL say their texts; the cells of the start stand; the cells in ws are new and no constant's -/
def Inv (Z : State) (EL : List (String × Nat)) (ws : List Addr) (vm : Vm) (h : Heap) : Prop :=
  CHv Z EL vm h ∧ Ext Z.heap h ∧ ∀ x ∈ ws, Z.heap.size ≤ x ∧ x < h.size ∧ Safe Z EL vm h x
section Facts
variable {Z : State} {a0 : Array Value} {EL : List (String × Nat)} {ws ws' : List Addr} {vm vm1 : Vm} {h h' : Heap} {a : Addr} {sl : Nat} {v : Value}
theorem Inv.ext (I : Inv Z EL ws vm h) (E : Ext h h') : Inv Z EL ws vm h' :=
  ⟨I.1.ext E, ⟨Nat.le_trans I.2.1.1 E.1, fun x c q => E.2 x c (I.2.1.2 x c q)⟩, fun x hx => ⟨(I.2.2 x hx).1, Nat.lt_of_lt_of_le (I.2.2 x hx).2.1 E.1, Safe.ext E I.1 (I.2.2 x hx).2.2⟩⟩
theorem Inv.new (I : Inv Z EL ws vm h) (E : Ext h h') (ha : a = h.size) (hl : a < h'.size) : Inv Z EL (a :: ws) vm h' :=
  ⟨(I.ext E).1, (I.ext E).2.1, fun x hx => by
    rcases List.mem_cons.mp hx with rfl | hx
    · exact ⟨by rw [ha]; exact I.2.1.1, hl, Safe.ext E I.1 (Safe.new (Nat.le_of_eq ha.symm))⟩
    · exact (I.ext E).2.2 x hx⟩
theorem Inv.wr (I : Inv Z EL ws vm h) (W : Wr h h' a sl v) (ha : a ∈ ws) : Inv Z EL ws vm h' :=
  have S := (I.2.2 a ha).2.2
  ⟨I.1.wr W S, (Old.wr (n0 := Z.heap.size) ⟨rfl, I.2.1⟩ W (I.2.2 a ha).1).2, fun x hx => ⟨(I.2.2 x hx).1, by rw [W.size]; exact (I.2.2 x hx).2.1, Safe.wr W S I.1 (I.2.2 x hx).2.2⟩⟩
theorem Inv.keep {xs : List Addr} (I : Inv Z EL ws vm h) (K : Keep h h' xs) (hs : ∀ x ∈ xs, x ∈ ws) : Inv Z EL ws vm h' :=
  have S : ∀ x ∈ xs, Safe Z EL vm h x := fun x hx => (I.2.2 x (hs x hx)).2.2
  ⟨I.1.keep K S, (Old.keep (n0 := Z.heap.size) ⟨rfl, I.2.1⟩ K fun x hx => (I.2.2 x (hs x hx)).1).2, fun x hx => ⟨(I.2.2 x hx).1, Nat.lt_of_lt_of_le (I.2.2 x hx).2.1 K.1, Safe.keep K S I.1 (I.2.2 x hx).2.2⟩⟩
theorem Inv.sub (I : Inv Z EL ws vm h) (hs : ∀ x ∈ ws', x ∈ ws) : Inv Z EL ws' vm h := ⟨I.1, I.2.1, fun x hx => I.2.2 x (hs x hx)⟩
/-- behind an end: what was writable is writable still, and what the end says besides -/
theorem Inv.later (I : Inv Z EL ws vm h) (C : CHr Z EL vm h vm1 h') (J : Inv Z EL ws' vm1 h') : Inv Z EL (ws' ++ ws) vm1 h' :=
  ⟨C.1, J.2.1, fun x hx => (List.mem_append.mp hx).elim (J.2.2 x) fun q => ⟨(I.2.2 x q).1, Nat.lt_of_lt_of_le (I.2.2 x q).2.1 C.2.1, C.safe (I.2.2 x q).2.1 (I.2.2 x q).2.2⟩⟩
theorem Inv.moved (I : Inv Z EL ws vm h) (C : CHr Z EL vm h vm1 h) : Inv Z EL ws vm1 h :=
  ⟨C.1, I.2.1, fun x q => ⟨(I.2.2 x q).1, (I.2.2 x q).2.1, C.safe (I.2.2 x q).2.1 (I.2.2 x q).2.2⟩⟩
theorem Inv.ld (I : Inv Z EL ws vm h) (C : CHr Z EL vm h vm1 h') (E : Ext h h') : Inv Z EL ws vm1 h' :=
  ⟨C.1, (I.ext E).2.1, fun x q => ⟨(I.2.2 x q).1, Nat.lt_of_lt_of_le (I.2.2 x q).2.1 C.2.1, C.safe (I.2.2 x q).2.1 (I.2.2 x q).2.2⟩⟩
end Facts
/-- what a body's walk may lean on, all along -/
def Cst (p : Program) (meth : Method) (c : Code) (Z : State) (a0 : Array Value) (EL : List (String × Nat)) (bytes : ByteArray) (maxL : Nat) (ret : Option FieldType) (nm : String) : Prop :=
  p.tables.exec = Jvm.exec ∧ c.code = bytes ∧ c.maxLocals = maxL ∧ meth.sig.returnType = ret ∧ meth.locks = false ∧ meth.name = nm ∧ EW Z a0 EL
/-- the walk stands at T -/
def Pos (p : Program) (l : Launch) (e : Env) (R : Room) (s : State) (m : MethodId) (args : Array Value) (below : List Frame) (meth : Method) (c : Code) (Z : State) (EL : List (String × Nat)) (own : String) (ws : List Addr) (h : Heap) (cells slots : Nat) (T : State) : Prop :=
  ∃ (vm0 : Vm) (k0 : Nat) (locs : List Loc), Stand p l e R (s.setVm vm0) m args below meth c T locs cells slots ∧ T.heap = h ∧ s.Since vm0 k0 ∧ k0 ≤ h.size ∧ Z.Warmed39 vm0 ∧ vm0.findClass own = some m.cls ∧ Fr Z.heap.size locs ∧ Inv Z EL ws vm0 h ∧ CHr Z EL s.vm s.heap vm0 h ∧ cells ≤ R.cells ∧ slots ≤ R.slots
/-- the body has come to its end -/
def Done (s : State) (below : List Frame) (R : Room) (Z : State) (EL : List (String × Nat)) (Q : Option Value → Heap → List Addr → Prop) (u : State) : Prop :=
  u.status = .running ∧ ∃ (v : Option Value) (L : List Loc) (ws' : List Addr), Ended u below (.returned v) ∧ Q v u.heap ws' ∧ Fr Z.heap.size L ∧ Inv Z EL ws' u.vm u.heap ∧ CHr Z EL s.vm s.heap u.vm u.heap ∧ ReturnedEndW s (.returned v) u L R.cells R.slots
def Go (p : Program) (l : Launch) (e : Env) (R : Room) (s : State) (m : MethodId) (args : Array Value) (below : List Frame) (meth : Method) (c : Code) (Z : State) (a0 : Array Value) (EL : List (String × Nat)) (own : String) (bytes : ByteArray) (maxL : Nat) (ret : Option FieldType) (nm : String)
    (ws : List Addr) (h : Heap) (cells slots : Nat) (pc : Nat) (Ls : Array Slot) (st : List Value) (Q : Option Value → Heap → List Addr → Prop) : Prop :=
  Cst p meth c Z a0 EL bytes maxL ret nm → ∀ T : State, Pos p l e R s m args below meth c Z EL own ws h cells slots T → ∃ u, Steps p.tables e below (T.setTop (mkF m pc Ls st)) u ∧ Done s below R Z EL Q u
/-- a method's contract: for these arguments, over the heap h, ws writable: it returns, with Q -/
def Con (l : Launch) (Z : State) (EL : List (String × Nat)) (y : MethodName) (bytes : ByteArray) (maxL : Nat) (ret : Option FieldType) (cs : List Cond) (rm : Room) (as' : Array Value) (h : Heap) (ws : List Addr) (Q : Option Value → Heap → List Addr → Prop) : Prop :=
  MetFree l y (head1 (Cond.code y bytes maxL ret :: cs) rm) (fun a U => a = as' ∧ Z.Warmed39 U.vm ∧ U.heap = h ∧ Inv Z EL ws U.vm h) (fun _ _ _ _ _ => True)
    (fun _ U o U' => ∃ (v : Option Value) (L : List Loc) (ws' : List Addr), o = .returned v ∧ Q v U'.heap ws' ∧ Fr Z.heap.size L ∧ Inv Z EL ws' U'.vm U'.heap ∧ CHr Z EL U.vm U.heap U'.vm U'.heap ∧ ReturnedEndW U o U' L rm.cells rm.slots)
section Rules
variable {p : Program} {l : Launch} {e : Env} {R : Room} {s : State} {m : MethodId} {args : Array Value} {below : List Frame} {meth : Method} {c : Code} {Z : State} {a0 : Array Value} {EL : List (String × Nat)} {own : String} {bytes : ByteArray} {maxL : Nat} {ret : Option FieldType} {nm : String}
  {ws : List Addr} {h : Heap} {cells slots : Nat} {pc pc' : Nat} {Ls Ls' : Array Slot} {st st' rest : List Value} {Q Q' : Option Value → Heap → List Addr → Prop}
theorem con_of {y : MethodName} {rm : Room} {as' : Array Value} {cs : List Cond} (hn : plainFor y = true) (hEL : EW Z a0 EL) (hef : ∀ m, entryFrame m as' maxL = mkF m 0 Ls [])
    (go : ∀ p e s m below meth c, Go p l e rm s m as' below meth c Z a0 EL y.cls bytes maxL ret y.name ws h 0 0 0 Ls [] Q) : Con l Z EL y bytes maxL ret cs rm as' h ws Q := by
  refine MetFree.of_bodySF hn hisR ?_
  intro p e s m args below meth c s₁ Bd hml hP hK
  obtain ⟨rfl, hZ, hh, I⟩ := hP
  have X0 : Stand p l e rm s m args below meth c s₁ [] 0 0 := Stand.of_body Bd
  have e0 : s₁.heap = h := by rw [← hh, Bd.state]; rfl
  obtain ⟨u, S2, hrun, v, L, ws', hend, q, N, I2, C, W⟩ := go p e s m below meth c ⟨Bd.exec, Bd.bytes, hml, Bd.returns, Bd.notSynchronized, (name_of_methodNamed Bd.named Bd.method).1, hEL⟩ s₁
    ⟨s.vm, 0, [], X0, e0, (State.WarmedH.refl s).since _, Nat.zero_le _, hZ, findClass_of_methodNamed Bd.named, Fr.nil _, I, by rw [hh]; exact CHr.refl I.1, Nat.zero_le _, Nat.zero_le _⟩
  exact ⟨u, _, castTop (hef m) S2, hrun, hend, v, L, ws', rfl, q, N, I2, C, W⟩
theorem Con.mono {y : MethodName} {rm : Room} {as' : Array Value} {cs : List Cond} (K : Con l Z EL y bytes maxL ret cs rm as' h ws Q) (hq : ∀ v h ws, Q v h ws → Q' v h ws) : Con l Z EL y bytes maxL ret cs rm as' h ws Q' := by
  intro p e h1 h2 h3 s m args below hf ha hP hK
  obtain ⟨n, o, g1, g2, g3, v, L, ws', e1, q, r⟩ := K p e h1 h2 h3 s m args below hf ha hP hK
  exact ⟨n, o, g1, g2, g3, v, L, ws', e1, hq _ _ _ q, r⟩
/-- the payer of a call -/
theorem backC {vm0 : Vm} {y : MethodName} {bY : ByteArray} {mY : Nat} {rY : Option FieldType} {rm : Room} {len W : Nat} {as' : Array Value} {ws0 : List Addr} (hM : Con l Z EL y bY mY rY [] rm as' h ws0 Q)
    (hZ : Z.Warmed39 vm0) (wc : (Cond.code y bY mY rY).before a0 Z = true) (wz : (Cond.initialized y.cls).before a0 Z = true) (hf : rm.frames + 1 ≤ R.frames) (hl : W + (mY + 11) + rm.locals ≤ R.locals) (hEL : EW Z a0 EL) (I : Inv Z EL ws vm0 h) (hs : ∀ x ∈ ws0, x ∈ ws) :
    BackS l R p e below (s.setVm vm0) args y len W (fun A a => a = as' ∧ A.U.heap = h ∧ A.cells + rm.cells ≤ R.cells ∧ A.slots + rm.slots ≤ R.slots)
      (fun A _ v B => ∃ (L : List Loc) (ws' : List Addr), Q v B.U.heap ws' ∧ Fr Z.heap.size L ∧ B.locs = A.locs ++ L ∧ B.cells = A.cells + rm.cells ∧ B.slots = A.slots + rm.slots ∧ CHr Z EL vm0 h B.U.vm B.U.heap ∧ Inv Z EL (ws' ++ ws) B.U.vm B.U.heap) :=
  BackS.of_freeW (bytes := bY) (maxL := mY) (ret := rY) (E := fun _ first o t L k n => k = rm.cells ∧ n = rm.slots ∧ ∃ (v : Option Value) (ws' : List Addr), o = .returned v ∧ Q v t.heap ws' ∧ Fr Z.heap.size L ∧ Inv Z EL ws' t.vm t.heap ∧ CHr Z EL first.vm first.heap t.vm t.heap) hM hf hl
    (fun m meth c A a Y hp => have hU : Z.Warmed39 A.U.vm := wtrans (s := s.setVm vm0) hZ Y.warmed
      ⟨by show (Cond.and _ .tt).before a A.U = true; rw [Cond.before_and, mv hU wc]; rfl, mv hU wc, mv hU wz, hp.2.2.1, hp.2.2.2⟩)
    (fun m meth c A a g mk Y hp => ⟨hp.1, wtrans (s := s.setVm vm0) hZ Y.warmed, hp.2.1, show Inv Z EL ws0 A.U.vm h from (I.sub hs).moved (CHv.at Y hZ hEL I.1)⟩) (fun _ _ _ _ _ _ _ _ _ => trivial)
    (fun _ _ _ _ ⟨v, L, ws', h1, h2, h3, h4, h5, h6⟩ => ⟨L, _, _, h6, rfl, rfl, v, ws', h1, h2, h3, h4, h5⟩)
    (fun m meth c A a g mk v t L k n Y hp _ _ ⟨e1, e2, v', ws', e3, e4, e5, e6, e7⟩ => by
      cases e3; subst e1 e2
      have C : CHr Z EL vm0 h t.vm t.heap := (CHv.at Y hZ hEL I.1).trans (by rw [← hp.2.1]; exact e7)
      exact ⟨L, ws', e4, e5, rfl, rfl, rfl, C, I.later C e6⟩)
theorem go_step (hs : p.tables.exec = Jvm.exec → c.code = bytes → ∀ T : State, At T m c below → ∀ t, Steps p.tables e below (T.setTop (mkF m pc' Ls' st')) t → Steps p.tables e below (T.setTop (mkF m pc Ls st)) t)
    (n : Go p l e R s m args below meth c Z a0 EL own bytes maxL ret nm ws h cells slots pc' Ls' st' Q) : Go p l e R s m args below meth c Z a0 EL own bytes maxL ret nm ws h cells slots pc Ls st Q := fun K T P => by
  obtain ⟨u, S, E⟩ := n K T P
  obtain ⟨vm0, k0, locs, X, -⟩ := P
  exact ⟨u, hs K.1 K.2.1 T X.here _ S, E⟩
theorem go_mono (hq : ∀ v h ws, Q v h ws → Q' v h ws) (n : Go p l e R s m args below meth c Z a0 EL own bytes maxL ret nm ws h cells slots pc Ls st Q) : Go p l e R s m args below meth c Z a0 EL own bytes maxL ret nm ws h cells slots pc Ls st Q' := fun K T P => by
  obtain ⟨u, S, r, v, L, ws', e1, q, x⟩ := n K T P
  exact ⟨u, S, r, v, L, ws', e1, hq _ _ _ q, x⟩
theorem go_old (n : Ext Z.heap h → Go p l e R s m args below meth c Z a0 EL own bytes maxL ret nm ws h cells slots pc Ls st Q) : Go p l e R s m args below meth c Z a0 EL own bytes maxL ret nm ws h cells slots pc Ls st Q := fun K T P => by
  obtain ⟨vm0, k0, locs, X, eT, hS, hk, hZ, hown, N, I, C, r⟩ := id P
  exact n I.2.1 K T P
theorem go_safe (n : (∀ x ∈ ws, Z.heap.size ≤ x ∧ x < h.size) → Go p l e R s m args below meth c Z a0 EL own bytes maxL ret nm ws h cells slots pc Ls st Q) : Go p l e R s m args below meth c Z a0 EL own bytes maxL ret nm ws h cells slots pc Ls st Q := fun K T P => by
  obtain ⟨vm0, k0, locs, X, eT, hS, hk, hZ, hown, N, I, C, r⟩ := id P
  exact n (fun x hx => ⟨(I.2.2 x hx).1, (I.2.2 x hx).2.1⟩) K T P
theorem go_room (n : cells ≤ R.cells → slots ≤ R.slots → Go p l e R s m args below meth c Z a0 EL own bytes maxL ret nm ws h cells slots pc Ls st Q) : Go p l e R s m args below meth c Z a0 EL own bytes maxL ret nm ws h cells slots pc Ls st Q := fun K T P => by
  obtain ⟨vm0, k0, locs, X, eT, hS, hk, hZ, hown, N, I, C, r1, r2⟩ := id P
  exact n r1 r2 K T P
/-- fewer writable cells, more made: the same walk -/
theorem go_less {ws' : List Addr} {cells' slots' : Nat} (hs : ∀ x ∈ ws', x ∈ ws) (hc : cells ≤ cells') (hl : slots ≤ slots') (hc' : cells' ≤ R.cells) (hl' : slots' ≤ R.slots) (n : Go p l e R s m args below meth c Z a0 EL own bytes maxL ret nm ws' h cells' slots' pc Ls st Q) :
    Go p l e R s m args below meth c Z a0 EL own bytes maxL ret nm ws h cells slots pc Ls st Q := fun K T P => by
  obtain ⟨vm0, k0, locs, X, eT, hS, hk, hZ, hown, N, I, C, r1, r2⟩ := P
  exact n K T ⟨vm0, k0, locs, X.mono hc hl, eT, hS, hk, hZ, hown, N, I.sub hs, C, hc', hl'⟩
/-! ## returns -/
theorem go_ret {i : Instr} {w : Value} {t : FieldType} (hd : decode bytes pc = .ok (i, 1)) (ht : ret = some t) (hn : narrow t w = w)
    (hi : (i = .ireturn ∧ (t = .int ∨ t = .boolean ∨ t = .byte ∨ t = .char ∨ t = .short) ∧ ∃ z, w = .int z) ∨ (i = .lreturn ∧ t = .long ∧ ∃ z, w = .long z) ∨ (i = .dreturn ∧ t = .double ∧ ∃ z, w = .double z) ∨ (i = .freturn ∧ t = .float ∧ ∃ z, w = .float z) ∨ (i = .areturn ∧ t.isReference = true ∧ w.isRef = true))
    {ws' : List Addr} (hs : ∀ x ∈ ws', x ∈ ws) (q : Q (some w) h ws') : Go p l e R s m args below meth c Z a0 EL own bytes maxL ret nm ws h cells slots pc Ls (w :: rest) Q := fun K T P => by
  obtain ⟨vm0, k0, locs, X, eT, hS, hk, hZ, hown, N, I, C, r1, r2⟩ := P
  obtain ⟨hx, hby, hml, hrt, hlk, hnm, hEL⟩ := K
  obtain ⟨fs, hr, hrun, hended, hW⟩ := X.leaveW hS (by rw [eT]; exact hk) (v := some w) (fun h => by rw [hrt, ht] at h; cases h) hlk
  have D := CHv.at X hZ hEL I.1
  refine ⟨T.setFrames fs, retOut X hx (hrt.trans ht) hn hi (hb hby hd) hr, hrun, some w, locs, ws', hended, ?_, N, ?_, ?_, hW.1, hW.2.1, hW.2.2.1, hW.2.2.2.mono r1 r2⟩
  · show Q (some w) T.heap ws'; rw [eT]; exact q
  · show Inv Z EL ws' T.vm T.heap; rw [eT]; exact (I.sub hs).moved D
  · show CHr Z EL s.vm s.heap T.vm T.heap; rw [eT]; exact C.trans D
theorem go_ireturn {z : Int32} {t : FieldType} (hd : decode bytes pc = .ok (.ireturn, 1)) (ht : ret = some t) (ht' : t = .int ∨ t = .boolean ∨ t = .byte ∨ t = .char ∨ t = .short) (hn : narrow t (.int z) = .int z) {ws' : List Addr} (hs : ∀ x ∈ ws', x ∈ ws) (q : Q (some (.int z)) h ws') :
    Go p l e R s m args below meth c Z a0 EL own bytes maxL ret nm ws h cells slots pc Ls (.int z :: rest) Q := go_ret hd ht hn (Or.inl ⟨rfl, ht', z, rfl⟩) hs q
theorem go_areturn {w : Value} {t : FieldType} (hd : decode bytes pc = .ok (.areturn, 1)) (ht : ret = some t) (ht' : t.isReference = true) (hw : w.isRef = true) {ws' : List Addr} (hs : ∀ x ∈ ws', x ∈ ws) (q : Q (some w) h ws') :
    Go p l e R s m args below meth c Z a0 EL own bytes maxL ret nm ws h cells slots pc Ls (w :: rest) Q := go_ret hd ht (by cases t <;> first | (cases ht'; done) | (cases w <;> first | rfl | (cases hw; done))) (Or.inr (Or.inr (Or.inr (Or.inr ⟨rfl, ht', hw⟩)))) hs q
theorem go_return (hd : decode bytes pc = .ok (.return_, 1)) (ht : ret = none) {ws' : List Addr} (hs : ∀ x ∈ ws', x ∈ ws) (q : Q none h ws') : Go p l e R s m args below meth c Z a0 EL own bytes maxL ret nm ws h cells slots pc Ls [] Q := fun K T P => by
  obtain ⟨vm0, k0, locs, X, eT, hS, hk, hZ, hown, N, I, C, r1, r2⟩ := P
  obtain ⟨hx, hby, hml, hrt, hlk, hnm, hEL⟩ := K
  obtain ⟨fs, hr, hrun, hended, hW⟩ := X.leaveW hS (by rw [eT]; exact hk) (v := none) (fun _ => rfl) hlk
  have D := CHv.at X hZ hEL I.1
  refine ⟨T.setFrames fs, X.returnOut hx (hrt.trans ht) (hb hby hd) hr, hrun, none, locs, ws', hended, ?_, N, ?_, ?_, hW.1, hW.2.1, hW.2.2.1, hW.2.2.2.mono r1 r2⟩
  · show Q none T.heap ws'; rw [eT]; exact q
  · show Inv Z EL ws' T.vm T.heap; rw [eT]; exact (I.sub hs).moved D
  · show CHr Z EL s.vm s.heap T.vm T.heap; rw [eT]; exact C.trans D
/-! ## fields, statics -/
theorem go_getstatic {R0 O n d : String} {idx : Nat} {v : Value} (hd : decode bytes pc = .ok (.getstatic idx, 3)) (w : (Cond.fieldLink own idx R0 n d).before a0 Z = true) (via : Via Z R0 O n d) (F : Sta Z Z.heap O n d v) (hp : pc + 3 = pc')
    (nx : Go p l e R s m args below meth c Z a0 EL own bytes maxL ret nm ws h cells slots pc' Ls (v :: st) Q) : Go p l e R s m args below meth c Z a0 EL own bytes maxL ret nm ws h cells slots pc Ls st Q := fun K T P => by
  obtain ⟨vm0, k0, locs, X, eT, hS, hk, hZ, hown, N, I, C, r⟩ := P
  obtain ⟨T', X', e', stp⟩ := getS (host := "") X K.1 hZ hown w via eT (F.ext I.2.1) (g := mkF m pc Ls st) rfl (hb K.2.1 hd)
  subst hp
  obtain ⟨u, S2, E⟩ := nx K T' ⟨vm0, k0, locs, X', e', hS, hk, hZ, hown, N, I, C, r⟩
  exact ⟨u, stp _ S2, E⟩
theorem go_getstaticN {R0 O n d host : String} {idx : Nat} {v : Value} (hd : decode bytes pc = .ok (.getstatic idx, 3)) (w : (Cond.fieldLinkNest own idx R0 n d host).before a0 Z = true) (via : Via Z R0 O n d) (F : Sta Z Z.heap O n d v) (hp : pc + 3 = pc')
    (nx : Go p l e R s m args below meth c Z a0 EL own bytes maxL ret nm ws h cells slots pc' Ls (v :: st) Q) : Go p l e R s m args below meth c Z a0 EL own bytes maxL ret nm ws h cells slots pc Ls st Q := fun K T P => by
  obtain ⟨vm0, k0, locs, X, eT, hS, hk, hZ, hown, N, I, C, r⟩ := P
  obtain ⟨T', X', e', stp⟩ := getS2 X K.1 hZ hown (Or.inr w) via eT (F.ext I.2.1) (g := mkF m pc Ls st) rfl (hb K.2.1 hd)
  subst hp
  obtain ⟨u, S2, E⟩ := nx K T' ⟨vm0, k0, locs, X', e', hS, hk, hZ, hown, N, I, C, r⟩
  exact ⟨u, stp _ S2, E⟩
theorem go_getfield {R0 O n d host : String} {idx : Nat} {a : Addr} {v : Value} (hd : decode bytes pc = .ok (.getfield idx, 3)) (w : (Cond.fieldLink own idx R0 n d).before a0 Z = true ∨ (Cond.fieldLinkNest own idx R0 n d host).before a0 Z = true) (via : Via Z R0 O n d) (F : Fld Z h a O n d v) (hp : pc + 3 = pc')
    (nx : Go p l e R s m args below meth c Z a0 EL own bytes maxL ret nm ws h cells slots pc' Ls (v :: rest) Q) : Go p l e R s m args below meth c Z a0 EL own bytes maxL ret nm ws h cells slots pc Ls (.ref a :: rest) Q := fun K T P => by
  obtain ⟨vm0, k0, locs, X, eT, hS, hk, hZ, hown, N, I, C, r⟩ := P
  obtain ⟨T', X', e', stp⟩ := getF X K.1 hZ hown w via eT F (g := mkF m pc Ls (.ref a :: rest)) rfl rfl (hb K.2.1 hd)
  subst hp
  obtain ⟨u, S2, E⟩ := nx K T' ⟨vm0, k0, locs, X', e', hS, hk, hZ, hown, N, I, C, r⟩
  exact ⟨u, stp _ S2, E⟩
/-- a store into a field of a new object; of the narrow kinds too -/
theorem go_putfield {R0 O n d C0 : String} {idx kk : Nat} {a : Addr} {v v' old : Value} {ty : FieldType} (hd : decode bytes pc = .ok (.putfield idx, 3)) (w : (Cond.fieldLink own idx R0 n d).before a0 Z = true) (via : Via Z R0 O n d) (F : Fld Z h a O n d old) (E : Exa Z h a C0)
    (L : (Cond.lays C0 O n d).before a0 Z = true ∨ ((Cond.laysFinal C0 O n d).before a0 Z = true ∧ own = O ∧ nm = "<init>")) (wi : (Cond.instantiable C0 kk).before a0 Z = true) (hty : parseFieldDescriptor d = some ty) (hn : narrow ty v = v') (hf : fits ty v' = true) (ha : a ∈ ws) (hp : pc + 3 = pc')
    (nx : ∀ h', Wr h h' a (Jvm.RoadKit.slotOf Z O n d) v' → Go p l e R s m args below meth c Z a0 EL own bytes maxL ret nm ws h' cells slots pc' Ls rest Q) : Go p l e R s m args below meth c Z a0 EL own bytes maxL ret nm ws h cells slots pc Ls (v :: .ref a :: rest) Q := fun K T P => by
  obtain ⟨vm0, k0, locs, X, eT, hS, hk, hZ, hown, N, I, C, r⟩ := P
  obtain ⟨T', h', X', e', W, stp⟩ := putFN X K.1 hZ hown w via eT F E (L.imp id fun q => ⟨q.1, q.2.1, K.2.2.2.2.2.1.trans q.2.2⟩) wi hty hn hf (g := mkF m pc Ls (v :: .ref a :: rest)) rfl rfl (hb K.2.1 hd)
  subst hp
  obtain ⟨u, S2, E⟩ := nx h' W K T' ⟨vm0, k0, _, X', e', hS, by rw [W.size]; exact hk, hZ, hown, Fr.snoc X' N (I.2.2 a ha).1, I.wr W ha, C.trans (CHr.wr W (I.2.2 a ha).2.2 I.1), r⟩
  exact ⟨u, stp _ S2, E⟩
/-! ## new objects and arrays -/
theorem go_new {C0 : String} {idx k : Nat} (hd : decode bytes pc = .ok (.new idx, 3)) (w : (Cond.classLink own idx C0).before a0 Z = true) (wi : (Cond.instantiable C0 k).before a0 Z = true) (wz : (Cond.initialized C0).before a0 Z = true) (hc : cells + 1 ≤ R.cells) (hl : slots + k ≤ R.slots) (hp : pc + 3 = pc')
    (nx : ∀ h' a, a = h.size → Ext h h' → Exa Z h' a C0 → (∀ {O n d : String} {ty : FieldType}, Laid Z a0 C0 O n d → parseFieldDescriptor d = some ty → Fld Z h' a O n d (defaultValue ty)) → Go p l e R s m args below meth c Z a0 EL own bytes maxL ret nm (a :: ws) h' (cells + 1) (slots + k) pc' Ls (.ref a :: st) Q) :
    Go p l e R s m args below meth c Z a0 EL own bytes maxL ret nm ws h cells slots pc Ls st Q := fun K T P => by
  obtain ⟨vm0, k0, locs, X, eT, hS, hk, hZ, hown, N, I, C, r⟩ := P
  obtain ⟨T', h', X', e', E', A', D', -, stp⟩ := newO X K.1 hZ hown w wi wz eT (g := mkF m pc Ls st) rfl (hb K.2.1 hd) hc hl
  subst hp
  obtain ⟨u, S2, E⟩ := nx h' h.size rfl E' A' D' K T' ⟨vm0, k0, _, X', e', hS, Nat.le_trans hk E'.1, hZ, hown, N, I.new E' rfl A'.lt, C.trans (CHr.ext E' I.1), hc, hl⟩
  exact ⟨u, stp _ S2, E⟩
theorem go_newarray {aty : ArrayType} {z : Int32} {cap : Nat} (hd : decode bytes pc = .ok (.newarray aty, 2)) (w : (Cond.arrayClass (newarray.typeOf aty)).before a0 Z = true) (hz : ¬ z < 0) (hcap : z.toNatClampNeg ≤ cap) (hb8 : cap * 8 ≤ 536870912) (hc : cells + 1 ≤ R.cells) (hl : slots + cap ≤ R.slots) {ad : String} (had : "[" ++ (newarray.typeOf aty).toString = ad) (hp : pc + 2 = pc')
    (nx : ∀ h' a k, a = h.size → Ext h h' → Arv Z h' a k (newarray.typeOf aty) z [] (defaultValue (newarray.typeOf aty)) → Exa Z h' a ad → Go p l e R s m args below meth c Z a0 EL own bytes maxL ret nm (a :: ws) h' (cells + 1) (slots + cap) pc' Ls (.ref a :: rest) Q) :
    Go p l e R s m args below meth c Z a0 EL own bytes maxL ret nm ws h cells slots pc Ls (.int z :: rest) Q := fun K T P => by
  obtain ⟨vm0, k0, locs, X, eT, hS, hk, hZ, hown, N, I, C, r⟩ := P
  obtain ⟨T', h', k, X', e', E', A', D', stp⟩ := newPE X K.1 hZ w eT (g := mkF m pc Ls (.int z :: rest)) rfl (hb K.2.1 hd) rfl hz hcap hb8 hc hl had
  subst hp
  obtain ⟨u, S2, E⟩ := nx h' h.size k rfl E' (Arv.new A' hz) D' K T' ⟨vm0, k0, _, X', e', hS, Nat.le_trans hk E'.1, hZ, hown, N, I.new E' rfl A'.lt, C.trans (CHr.ext E' I.1), hc, hl⟩
  exact ⟨u, stp _ S2, E⟩
theorem go_anewarray {C0 : String} {idx : Nat} {z : Int32} {cap : Nat} (hd : decode bytes pc = .ok (.anewarray idx, 3)) (w : (Cond.classLink own idx C0).before a0 Z = true) (w2 : (Cond.arrayOver (.object C0)).before a0 Z = true) (hz : ¬ z < 0) (hcap : z.toNatClampNeg ≤ cap) (hb8 : cap * 8 ≤ 536870912) (hc : cells + 1 ≤ R.cells) (hl : slots + cap ≤ R.slots) {ad : String} (had : "[" ++ (FieldType.object C0).toString = ad) (hp : pc + 3 = pc')
    (nx : ∀ h' a k, a = h.size → Ext h h' → Arv Z h' a k (.object C0) z [] .null → Exa Z h' a ad → Ovr Z k C0 → Go p l e R s m args below meth c Z a0 EL own bytes maxL ret nm (a :: ws) h' (cells + 1) (slots + cap) pc' Ls (.ref a :: rest) Q) :
    Go p l e R s m args below meth c Z a0 EL own bytes maxL ret nm ws h cells slots pc Ls (.int z :: rest) Q := fun K T P => by
  obtain ⟨vm0, k0, locs, X, eT, hS, hk, hZ, hown, N, I, C, r⟩ := P
  obtain ⟨T', h', k, X', e', E', A', D', O', stp⟩ := newRE X K.1 hZ hown w w2 eT (g := mkF m pc Ls (.int z :: rest)) rfl (hb K.2.1 hd) rfl hz hcap hb8 hc hl had
  subst hp
  obtain ⟨u, S2, E⟩ := nx h' h.size k rfl E' (Arv.new A' hz) D' O' K T' ⟨vm0, k0, _, X', e', hS, Nat.le_trans hk E'.1, hZ, hown, N, I.new E' rfl A'.lt, C.trans (CHr.ext E' I.1), hc, hl⟩
  exact ⟨u, stp _ S2, E⟩
/-! ## arrays: length, loads, stores -/
theorem go_arraylength {a : Addr} {k : ClassId} {ty : FieldType} {z : Int32} {vs : List Value} {dv : Value} (hd : decode bytes pc = .ok (.arraylength, 1)) (F : Arv Z h a k ty z vs dv) (hp : pc + 1 = pc')
    (nx : Go p l e R s m args below meth c Z a0 EL own bytes maxL ret nm ws h cells slots pc' Ls (.int z :: rest) Q) : Go p l e R s m args below meth c Z a0 EL own bytes maxL ret nm ws h cells slots pc Ls (.ref a :: rest) Q := fun K T P => by
  obtain ⟨u, S2, E⟩ := nx K T P
  obtain ⟨vm0, k0, locs, X, eT, hS, hk, hZ, hown, N, I, C, r⟩ := P
  obtain ⟨cl, A, q1, S, q3, H, G⟩ := F
  subst hp
  refine ⟨u, X.arraylength K.1 (cell := cl) (by rw [eT]; exact A.1) (State.isArrayOf_alike hZ.alike A.2.1) (g := mkF m pc Ls (.ref a :: rest)) rfl rfl (hb K.2.1 hd) _ ?_, E⟩
  rw [len_of S q3]; exact S2
theorem go_caload {a : Addr} {k : ClassId} {z j : Int32} {vs : List Value} {dv v : Value} (hd : decode bytes pc = .ok (.caload, 1)) (F : Arv Z h a k .char z vs dv) (hj : ¬ j < 0 ∧ j < z) (hv : vs.getD j.toNatClampNeg dv = v) (hp : pc + 1 = pc')
    (nx : Go p l e R s m args below meth c Z a0 EL own bytes maxL ret nm ws h cells slots pc' Ls (v :: rest) Q) : Go p l e R s m args below meth c Z a0 EL own bytes maxL ret nm ws h cells slots pc Ls (.int j :: .ref a :: rest) Q := fun K T P => by
  obtain ⟨u, S2, E⟩ := nx K T P
  obtain ⟨vm0, k0, locs, X, eT, hS, hk, hZ, hown, N, I, C, r⟩ := P
  obtain ⟨cl, A, q1, S, q3, H, G⟩ := F
  subst hp
  exact ⟨u, X.caload K.1 (j := j) (v := v) (by rw [eT]; exact A.1) (State.isArrayOf_alike hZ.alike A.2.1) A.2.2 (inb_of S hj) (H.at (inb_of S hj) hv) (g := mkF m pc Ls (.int j :: .ref a :: rest)) rfl rfl (hb K.2.1 hd) _ S2, E⟩
theorem go_baload {a : Addr} {k : ClassId} {z j : Int32} {vs : List Value} {dv v : Value} (hd : decode bytes pc = .ok (.baload, 1)) (F : Arv Z h a k .byte z vs dv) (hj : ¬ j < 0 ∧ j < z) (hv : vs.getD j.toNatClampNeg dv = v) (hp : pc + 1 = pc')
    (nx : Go p l e R s m args below meth c Z a0 EL own bytes maxL ret nm ws h cells slots pc' Ls (v :: rest) Q) : Go p l e R s m args below meth c Z a0 EL own bytes maxL ret nm ws h cells slots pc Ls (.int j :: .ref a :: rest) Q := fun K T P => by
  obtain ⟨u, S2, E⟩ := nx K T P
  obtain ⟨vm0, k0, locs, X, eT, hS, hk, hZ, hown, N, I, C, r⟩ := P
  obtain ⟨cl, A, q1, S, q3, H, G⟩ := F
  subst hp
  exact ⟨u, X.baloadBytes K.1 (j := j) (v := v) (by rw [eT]; exact A.1) (State.isArrayOf_alike hZ.alike A.2.1) A.2.2 (inb_of S hj) (H.at (inb_of S hj) hv) (g := mkF m pc Ls (.int j :: .ref a :: rest)) rfl rfl (hb K.2.1 hd) _ S2, E⟩
theorem go_aaload {a : Addr} {k : ClassId} {ty : FieldType} {z j : Int32} {vs : List Value} {dv v : Value} (hd : decode bytes pc = .ok (.aaload, 1)) (hty : ty.isReference = true) (F : Arv Z h a k ty z vs dv) (hj : ¬ j < 0 ∧ j < z) (hv : vs.getD j.toNatClampNeg dv = v) (hp : pc + 1 = pc')
    (nx : Go p l e R s m args below meth c Z a0 EL own bytes maxL ret nm ws h cells slots pc' Ls (v :: rest) Q) : Go p l e R s m args below meth c Z a0 EL own bytes maxL ret nm ws h cells slots pc Ls (.int j :: .ref a :: rest) Q := fun K T P => by
  obtain ⟨u, S2, E⟩ := nx K T P
  obtain ⟨vm0, k0, locs, X, eT, hS, hk, hZ, hown, N, I, C, r⟩ := P
  obtain ⟨cl, A, q1, S, q3, H, G⟩ := F
  subst hp
  exact ⟨u, X.aaload K.1 (j := j) (v := v) (by rw [eT]; exact A.1) (State.isArrayOf_alike hZ.alike A.2.1) hty A.2.2 (inb_of S hj) (H.at (inb_of S hj) hv) (g := mkF m pc Ls (.int j :: .ref a :: rest)) rfl rfl (hb K.2.1 hd) _ S2, E⟩
/-- a char stored: as the array keeps it -/
theorem go_castore {a : Addr} {k : ClassId} {z j x x' : Int32} {vs : List Value} {dv : Value} (i : Nat) (hd : decode bytes pc = .ok (.castore, 1)) (F : Arv Z h a k .char z vs dv) (hj : ¬ j < 0 ∧ j < z) (hi : j.toNatClampNeg = i) (hl : i < vs.length) (hx' : nar .char x = x') (ha : a ∈ ws) (hp : pc + 1 = pc')
    (nx : ∀ h', Wr h h' a j.toNatClampNeg (.int x') → Arv Z h' a k .char z (vs.set i (.int x')) dv → Go p l e R s m args below meth c Z a0 EL own bytes maxL ret nm ws h' cells slots pc' Ls rest Q) : Go p l e R s m args below meth c Z a0 EL own bytes maxL ret nm ws h cells slots pc Ls (.int x :: .int j :: .ref a :: rest) Q := fun K T P => by
  obtain ⟨vm0, k0, locs, X, eT, hS, hk, hZ, hown, N, I, C, r⟩ := P
  obtain ⟨cl, A, q1, S, q3, H, G⟩ := F
  obtain ⟨T', h', X', e', W, stp⟩ := stC X K.1 hZ eT A (inb_of S hj) (g := mkF m pc Ls (.int x :: .int j :: .ref a :: rest)) rfl rfl (hb K.2.1 hd)
  subst hp hx'
  obtain ⟨u, S2, E⟩ := nx h' W (Arv.set A q1 S q3 H G (fits_nar_char _) W i hi hl) K T' ⟨vm0, k0, _, X', e', hS, by rw [W.size]; exact hk, hZ, hown, Fr.snoc X' N (I.2.2 a ha).1, I.wr W ha, C.trans (CHr.wr W (I.2.2 a ha).2.2 I.1), r⟩
  exact ⟨u, stp _ S2, E⟩
theorem go_bastore {a : Addr} {k : ClassId} {z j x x' : Int32} {vs : List Value} {dv : Value} (i : Nat) (hd : decode bytes pc = .ok (.bastore, 1)) (F : Arv Z h a k .byte z vs dv) (hj : ¬ j < 0 ∧ j < z) (hi : j.toNatClampNeg = i) (hl : i < vs.length) (hx' : x.toInt8.toInt32 = x') (ha : a ∈ ws) (hp : pc + 1 = pc')
    (nx : ∀ h', Wr h h' a j.toNatClampNeg (.int x') → Arv Z h' a k .byte z (vs.set i (.int x')) dv → Go p l e R s m args below meth c Z a0 EL own bytes maxL ret nm ws h' cells slots pc' Ls rest Q) : Go p l e R s m args below meth c Z a0 EL own bytes maxL ret nm ws h cells slots pc Ls (.int x :: .int j :: .ref a :: rest) Q := fun K T P => by
  obtain ⟨vm0, k0, locs, X, eT, hS, hk, hZ, hown, N, I, C, r⟩ := P
  obtain ⟨cl, A, q1, S, q3, H, G⟩ := F
  obtain ⟨T', h', X', e', W, stp⟩ := stB X K.1 hZ eT A (inb_of S hj) (g := mkF m pc Ls (.int x :: .int j :: .ref a :: rest)) rfl rfl (hb K.2.1 hd)
  subst hp hx'
  obtain ⟨u, S2, E⟩ := nx h' W (Arv.set A q1 S q3 H G (fits_nar_byte _) W i hi hl) K T' ⟨vm0, k0, _, X', e', hS, by rw [W.size]; exact hk, hZ, hown, Fr.snoc X' N (I.2.2 a ha).1, I.wr W ha, C.trans (CHr.wr W (I.2.2 a ha).2.2 I.1), r⟩
  exact ⟨u, stp _ S2, E⟩
theorem go_aastore {a : Addr} {k : ClassId} {ty : FieldType} {z j : Int32} {v : Value} {vs : List Value} {dv : Value} (i : Nat) (hd : decode bytes pc = .ok (.aastore, 1)) (hty : ty.isReference = true) (F : Arv Z h a k ty z vs dv) (hf : fits ty v = true) (hS' : Sto Z h a v) (hj : ¬ j < 0 ∧ j < z) (hi : j.toNatClampNeg = i) (hl : i < vs.length) (ha : a ∈ ws) (hp : pc + 1 = pc')
    (nx : ∀ h', Wr h h' a j.toNatClampNeg v → Arv Z h' a k ty z (vs.set i v) dv → Go p l e R s m args below meth c Z a0 EL own bytes maxL ret nm ws h' cells slots pc' Ls rest Q) : Go p l e R s m args below meth c Z a0 EL own bytes maxL ret nm ws h cells slots pc Ls (v :: .int j :: .ref a :: rest) Q := fun K T P => by
  obtain ⟨vm0, k0, locs, X, eT, hS, hk, hZ, hown, N, I, C, r⟩ := P
  obtain ⟨cl, A, q1, S, q3, H, G⟩ := F
  obtain ⟨T', h', X', e', W, stp⟩ := stR X K.1 hZ eT A (inb_of S hj) hty hS' (g := mkF m pc Ls (v :: .int j :: .ref a :: rest)) rfl rfl (hb K.2.1 hd)
  subst hp
  obtain ⟨u, S2, E⟩ := nx h' W (Arv.set A q1 S q3 H G hf W i hi hl) K T' ⟨vm0, k0, _, X', e', hS, by rw [W.size]; exact hk, hZ, hown, Fr.snoc X' N (I.2.2 a ha).1, I.wr W ha, C.trans (CHr.wr W (I.2.2 a ha).2.2 I.1), r⟩
  exact ⟨u, stp _ S2, E⟩
/-! ## casts -/
theorem go_checkcast {K0 : String} {idx : Nat} {a : Addr} (hd : decode bytes pc = .ok (.checkcast idx, 3)) (w : (Cond.classLink own idx K0).before a0 Z = true) (F : Ins Z h a K0 true) (hp : pc + 3 = pc')
    (nx : Go p l e R s m args below meth c Z a0 EL own bytes maxL ret nm ws h cells slots pc' Ls (.ref a :: rest) Q) : Go p l e R s m args below meth c Z a0 EL own bytes maxL ret nm ws h cells slots pc Ls (.ref a :: rest) Q := fun K T P => by
  obtain ⟨vm0, k0, locs, X, eT, hS, hk, hZ, hown, N, I, C, r⟩ := P
  obtain ⟨T', X', e', stp⟩ := castY X K.1 hZ hown w eT F (g := mkF m pc Ls (.ref a :: rest)) rfl rfl (hb K.2.1 hd)
  subst hp
  obtain ⟨u, S2, E⟩ := nx K T' ⟨vm0, k0, locs, X', e', hS, hk, hZ, hown, N, I, C, r⟩
  exact ⟨u, stp _ S2, E⟩
theorem go_instYes {K0 : String} {idx : Nat} {a : Addr} (hd : decode bytes pc = .ok (.instanceof idx, 3)) (w : (Cond.classLink own idx K0).before a0 Z = true) (F : Ins Z h a K0 true) (hp : pc + 3 = pc')
    (nx : Go p l e R s m args below meth c Z a0 EL own bytes maxL ret nm ws h cells slots pc' Ls (.int 1 :: rest) Q) : Go p l e R s m args below meth c Z a0 EL own bytes maxL ret nm ws h cells slots pc Ls (.ref a :: rest) Q := fun K T P => by
  obtain ⟨vm0, k0, locs, X, eT, hS, hk, hZ, hown, N, I, C, r⟩ := P
  obtain ⟨T', X', e', stp⟩ := instY X K.1 hZ hown w eT F (g := mkF m pc Ls (.ref a :: rest)) rfl rfl (hb K.2.1 hd)
  subst hp
  obtain ⟨u, S2, E⟩ := nx K T' ⟨vm0, k0, locs, X', e', hS, hk, hZ, hown, N, I, C, r⟩
  exact ⟨u, stp _ S2, E⟩
theorem go_instNo {K0 C0 : String} {idx : Nat} {a : Addr} (hd : decode bytes pc = .ok (.instanceof idx, 3)) (w : (Cond.classLink own idx K0).before a0 Z = true) (E0 : Exa Z h a C0) (F : ∃ c t, Z.vm.findClass C0 = some c ∧ Z.vm.findClass K0 = some t ∧ Z.vm.assignable c t = false) (hp : pc + 3 = pc')
    (nx : Go p l e R s m args below meth c Z a0 EL own bytes maxL ret nm ws h cells slots pc' Ls (.int 0 :: rest) Q) : Go p l e R s m args below meth c Z a0 EL own bytes maxL ret nm ws h cells slots pc Ls (.ref a :: rest) Q := fun K T P => by
  obtain ⟨vm0, k0, locs, X, eT, hS, hk, hZ, hown, N, I, C, r⟩ := P
  obtain ⟨T', X', e', stp⟩ := instNo X K.1 hZ hown w eT E0 F (g := mkF m pc Ls (.ref a :: rest)) rfl rfl (hb K.2.1 hd)
  subst hp
  obtain ⟨u, S2, E⟩ := nx K T' ⟨vm0, k0, locs, X', e', hS, hk, hZ, hown, N, I, C, r⟩
  exact ⟨u, stp _ S2, E⟩
/-! ## String constants -/
theorem go_ldcO {text : String} {idx n : Nat} (hd : decode bytes pc = .ok (.ldc idx, 2)) (w : (Cond.stringLink own idx text).before a0 Z = true) (wS : ∀ a ∈ Bundle.stringAtoms, a.before a0 Z = true) (hn : 4 * text.toList.length ≤ n) (hbig : n ≤ 536870912) (hc : cells + 2 ≤ R.cells) (hl : slots + (n + 4) ≤ R.slots) (hp : pc + 2 = pc')
    (nx : ∀ h' a, Ext h h' → Go p l e R s m args below meth c Z a0 EL own bytes maxL ret nm ws h' (cells + 2) (slots + (n + 4)) pc' Ls (.ref a :: st) Q) : Go p l e R s m args below meth c Z a0 EL own bytes maxL ret nm ws h cells slots pc Ls st Q := fun K T P => by
  obtain ⟨vm0, k0, locs, X, eT, hS, hk, hZ, hown, N, I, C, r⟩ := P
  obtain ⟨a, T', h', k1, X', e', E', hS', hk', hZ', hown', C', -, stp⟩ := ldcOH X K.1 hZ hown w wS eT hS hk K.2.2.2.2.2.2 I.1 (g := mkF m pc Ls st) rfl (hb K.2.1 hd) hn hbig hc hl
  subst hp
  obtain ⟨u, S2, E⟩ := nx h' a E' K T' ⟨T'.vm, k1, locs, X', e', hS', hk', hZ', hown', N, I.ld C' E', C.trans C', hc, hl⟩
  exact ⟨u, stp _ S2, E⟩
theorem go_ldcR {text : String} {idx n : Nat} {vs : List Value} {z : Int32} (hd : decode bytes pc = .ok (.ldc idx, 2)) (w : (Cond.stringLink own idx text).before a0 Z = true) (wS : ∀ a ∈ Bundle.stringAtoms, a.before a0 Z = true) (hm : (own, idx) ∈ EL)
    (ht : (∀ c ∈ text.toList, c.toNat < 256) ∧ text.toList.map (fun c => Value.int (Jvm.Lit.byteI c.toNat.toUInt16)) = vs) (hz : ¬ z < 0) (hzl : z.toNatClampNeg = vs.length) (hn : 4 * text.toList.length ≤ n) (hbig : n ≤ 536870912) (hc : cells + 2 ≤ R.cells) (hl : slots + (n + 4) ≤ R.slots) (hp : pc + 2 = pc')
    (nx : ∀ h' a b k, Ext h h' → Exa Z h' a "java/lang/String" → Fld Z h' a "java/lang/String" "coder" "B" (.int 0) → Fld Z h' a "java/lang/String" "value" "[B" (.ref b) → Arv Z h' b k .byte z vs (.int 0) → (∀ x ∈ ws, x ≠ a ∧ x ≠ b) →
      Go p l e R s m args below meth c Z a0 EL own bytes maxL ret nm ws h' (cells + 2) (slots + (n + 4)) pc' Ls (.ref a :: st) Q) : Go p l e R s m args below meth c Z a0 EL own bytes maxL ret nm ws h cells slots pc Ls st Q := fun K T P => by
  obtain ⟨vm0, k0, locs, X, eT, hS, hk, hZ, hown, N, I, C, r⟩ := P
  obtain ⟨a, T', h', k1, b, k, X', e', E', hS', hk', hZ', hown', A1, A2, A3, A4, -, -, C', -, hne, stp⟩ := ldcCH X K.1 hZ hown w wS eT hS hk K.2.2.2.2.2.2 hm I.1 ht hz hzl (g := mkF m pc Ls st) rfl (hb K.2.1 hd) hn hbig hc hl
  subst hp
  have I' := I.ld C' E'
  obtain ⟨u, S2, E⟩ := nx h' a b k E' A1 A2 A3 A4 (fun x hx => hne x (I'.2.2 x hx).2.2) K T' ⟨T'.vm, k1, locs, X', e', hS', hk', hZ', hown', N, I', C.trans C', hc, hl⟩
  exact ⟨u, stp _ S2, E⟩
theorem go_ldcI {idx : Nat} {z : Int32} (hd : decode bytes pc = .ok (.ldc idx, 2)) (w : (Cond.constant own idx z).before a0 Z = true) (hp : pc + 2 = pc')
    (nx : Go p l e R s m args below meth c Z a0 EL own bytes maxL ret nm ws h cells slots pc' Ls (.int z :: st) Q) : Go p l e R s m args below meth c Z a0 EL own bytes maxL ret nm ws h cells slots pc Ls st Q := fun K T P => by
  obtain ⟨u, S2, E⟩ := nx K T P
  obtain ⟨vm0, k0, locs, X, eT, hS, hk, hZ, hown, N, I, C, r⟩ := P
  subst hp
  exact ⟨u, X.ldcInt K.1 hown (mv (s := s.setVm vm0) hZ w) (g := mkF m pc Ls st) rfl (hb K.2.1 hd) _ S2, E⟩
/-! ## calls -/
theorem go_init {idx W : Nat} {a : Addr} (hd : decode bytes pc = .ok (.invokespecial idx, 3)) (w1 : (Cond.methodLink own idx Lib.objectInit).before a0 Z = true) (w2 : (Cond.instanceMethod Lib.objectInit).before a0 Z = true) (w3 : (Cond.code Lib.objectInit ⟨#[0xb1]⟩ 1 none).before a0 Z = true) (hsz : Ls.size = maxL) (hf : 1 ≤ R.frames)
    (hW : (rest.map fun v => v.category).sum ≤ W) (hl : W + 12 ≤ R.locals) (hp : pc + 3 = pc') (nx : Go p l e R s m args below meth c Z a0 EL own bytes maxL ret nm ws h cells slots pc' Ls rest Q) : Go p l e R s m args below meth c Z a0 EL own bytes maxL ret nm ws h cells slots pc Ls (.ref a :: rest) Q := fun K T P => by
  obtain ⟨vm0, k0, locs, X, eT, hS, hk, hZ, hown, N, I, C, r⟩ := P
  obtain ⟨T', X', e', stp⟩ := initO X K.1 hZ hown w1 w2 w3 eT (g := mkF m pc Ls (.ref a :: rest)) rfl (hsz.trans K.2.2.1.symm) rfl (hb K.2.1 hd) hf (W := W) (by show 2 * 0 + _ ≤ _; omega) hl
  subst hp
  obtain ⟨u, S2, E⟩ := nx K T' ⟨vm0, k0, locs, X', e', hS, hk, hZ, hown, N, I, C, r⟩
  exact ⟨u, stp _ S2, E⟩
/-- what comes behind a call's return -/
theorem go_after {vm0 : Vm} {k0 : Nat} {locs : List Loc} {T : State} {B : Pt} {v : Option Value} {rm : Room} (K : Cst p meth c Z a0 EL bytes maxL ret nm) (eT : T.heap = h) (hS : s.Since vm0 k0) (hk : k0 ≤ h.size) (hZ : Z.Warmed39 vm0) (hown : vm0.findClass own = some m.cls) (N : Fr Z.heap.size locs) (C : CHr Z EL s.vm s.heap vm0 h)
    (hc : cells + rm.cells ≤ R.cells) (hl : slots + rm.slots ≤ R.slots)
    (X' : Stand p l e R ((s.setVm vm0).setVm B.U.vm) m args below meth c B.U B.locs B.cells B.slots) (h2 : (s.setVm vm0).Since B.U.vm B.U.heap.size) (hgr : T.heap.size ≤ B.U.heap.size)
    (hp : ∃ (L : List Loc) (ws' : List Addr), Q v B.U.heap ws' ∧ Fr Z.heap.size L ∧ B.locs = locs ++ L ∧ B.cells = cells + rm.cells ∧ B.slots = slots + rm.slots ∧ CHr Z EL vm0 h B.U.vm B.U.heap ∧ Inv Z EL (ws' ++ ws) B.U.vm B.U.heap) {st0 : State} (hst : Steps p.tables e below st0 (B.U.setTop (mkF m pc' Ls st')))
    (nx : ∀ h' ws', Q v h' ws' → h.size ≤ h'.size → Go p l e R s m args below meth c Z a0 EL own bytes maxL ret nm (ws' ++ ws) h' (cells + rm.cells) (slots + rm.slots) pc' Ls st' Q') : ∃ u, Steps p.tables e below st0 u ∧ Done s below R Z EL Q' u := by
  obtain ⟨L, ws', q, N', e1, e2, e3, C', I'⟩ := hp
  have hgr' : h.size ≤ B.U.heap.size := by rw [← eT]; exact hgr
  rw [e1, e2, e3] at X'
  obtain ⟨u, S2, E⟩ := nx B.U.heap ws' q hgr' K B.U ⟨B.U.vm, B.U.heap.size, _, X', rfl, hS.trans h2 (Nat.le_trans hk hgr'), Nat.le_refl _, State.Warmed39.trans (t := s.setVm vm0) hZ h2.1, (h2.1.alike.findClass _ _).trans hown, N.app N', I', C.trans C', hc, hl⟩
  exact ⟨u, hst.trans S2, E⟩
theorem go_static {idx W : Nat} {y : MethodName} {bY : ByteArray} {mY : Nat} {rY : Option FieldType} {rm : Room} {as' : Array Value} {ws0 : List Addr} {argsL : List Value} (hd : decode bytes pc = .ok (.invokestatic idx, 3)) (hM : Con l Z EL y bY mY rY [] rm as' h ws0 Q) (hs : ∀ x ∈ ws0, x ∈ ws)
    (w1 : (Cond.methodLink own idx y).before a0 Z = true) (w2 : (Cond.static y).before a0 Z = true) (w3 : (Cond.initialized y.cls).before a0 Z = true) (w4 : (Cond.code y bY mY rY).before a0 Z = true) (hy : y.cls ≠ "java/lang/invoke/MethodHandle" ∧ y.cls ≠ "java/lang/invoke/VarHandle")
    (hlen : ∀ sig, parseMethodDescriptor y.desc = some sig → argsL.length = sig.parameters.length) (has : argsL.toArray = as') (hst : st = argsL.reverse ++ rest) (hsz : Ls.size = maxL) (hW : (rest.map fun v => v.category).sum ≤ W) (hf : rm.frames + 1 ≤ R.frames) (hlo : W + (mY + 11) + rm.locals ≤ R.locals) (hc : cells + rm.cells ≤ R.cells) (hl : slots + rm.slots ≤ R.slots) (hp : pc + 3 = pc')
    (nx : ∀ v h' ws', Q v h' ws' → h.size ≤ h'.size → Go p l e R s m args below meth c Z a0 EL own bytes maxL ret nm (ws' ++ ws) h' (cells + rm.cells) (slots + rm.slots) pc' Ls (v.toList ++ rest) Q') :
    Go p l e R s m args below meth c Z a0 EL own bytes maxL ret nm ws h cells slots pc Ls st Q' := fun K T P => by
  obtain ⟨vm0, k0, locs, X, eT, hS, hk, hZ, hown, N, I, C, r⟩ := P
  subst hst hp
  obtain ⟨v, vm₁, B, hW1, X', h2, hgr, hpost, hsteps⟩ := callSS X K.1 hown (mvT (s := s.setVm vm0) hZ w1) (mvT (s := s.setVm vm0) hZ w2) (mvT (s := s.setVm vm0) hZ w3) (mvT (s := s.setVm vm0) hZ w4) hy (backC (W := W) hM hZ w4 w3 hf hlo K.2.2.2.2.2.2 I hs) (g := mkF m pc Ls (argsL.reverse ++ rest)) rfl (hsz.trans K.2.2.1.symm) hlen rfl (by show 2 * 0 + _ ≤ _; omega) (hb K.2.1 hd) (fun _ _ => ⟨has, eT, hc, hl⟩)
  exact go_after K eT hS hk hZ hown N C hc hl X' h2 hgr hpost hsteps (nx v)
theorem go_special {idx W : Nat} {y : MethodName} {bY : ByteArray} {mY : Nat} {rm : Room} {as' : Array Value} {ws0 : List Addr} {argsL : List Value} {a : Addr} (hd : decode bytes pc = .ok (.invokespecial idx, 3)) (hM : Con l Z EL y bY mY none [] rm as' h ws0 Q) (hs : ∀ x ∈ ws0, x ∈ ws) (hy1 : y.name = "<init>")
    (w1 : (Cond.methodLink own idx y).before a0 Z = true) (w2 : (Cond.instanceMethod y).before a0 Z = true) (w3 : (Cond.initialized y.cls).before a0 Z = true) (w4 : (Cond.code y bY mY none).before a0 Z = true) (hy : y.cls ≠ "java/lang/invoke/MethodHandle" ∧ y.cls ≠ "java/lang/invoke/VarHandle")
    (hlen : ∀ sig, parseMethodDescriptor y.desc = some sig → argsL.length = sig.parameters.length) (has : (Value.ref a :: argsL).toArray = as') (hst : st = argsL.reverse ++ .ref a :: rest) (hsz : Ls.size = maxL) (hW : (rest.map fun v => v.category).sum ≤ W) (hf : rm.frames + 1 ≤ R.frames) (hlo : W + (mY + 11) + rm.locals ≤ R.locals) (hc : cells + rm.cells ≤ R.cells) (hl : slots + rm.slots ≤ R.slots) (hp : pc + 3 = pc')
    (nx : ∀ v h' ws', Q v h' ws' → h.size ≤ h'.size → Go p l e R s m args below meth c Z a0 EL own bytes maxL ret nm (ws' ++ ws) h' (cells + rm.cells) (slots + rm.slots) pc' Ls (v.toList ++ rest) Q') :
    Go p l e R s m args below meth c Z a0 EL own bytes maxL ret nm ws h cells slots pc Ls st Q' := fun K T P => by
  obtain ⟨vm0, k0, locs, X, eT, hS, hk, hZ, hown, N, I, C, r⟩ := P
  subst hst hp
  obtain ⟨v, vm₁, B, hW1, X', h2, hgr, hpost, hsteps⟩ := X.specialBackS K.1 hy1 hown (mvT (s := s.setVm vm0) hZ w1) (mvT (s := s.setVm vm0) hZ w2) (mvT (s := s.setVm vm0) hZ w4) hy (backC (W := W) hM hZ w4 w3 hf hlo K.2.2.2.2.2.2 I hs) (g := mkF m pc Ls (argsL.reverse ++ .ref a :: rest)) rfl (hsz.trans K.2.2.1.symm) (Steps.refl _) hlen rfl (by show 2 * 0 + _ ≤ _; omega) (hb K.2.1 hd) (fun _ _ => ⟨has, eT, hc, hl⟩)
  exact go_after K eT hS hk hZ hown N C hc hl X' h2 hgr hpost hsteps (nx v)
theorem go_virtual {idx W : Nat} {y z : MethodName} {C0 : String} {bY : ByteArray} {mY : Nat} {rY : Option FieldType} {rm : Room} {as' : Array Value} {ws0 : List Addr} {argsL : List Value} {a : Addr} (hd : decode bytes pc = .ok (.invokevirtual idx, 3)) (hM : Con l Z EL z bY mY rY [] rm as' h ws0 Q) (hs : ∀ x ∈ ws0, x ∈ ws) (E0 : Exa Z h a C0)
    (w1 : (Cond.methodLink own idx y).before a0 Z = true) (w2 : (Cond.declares y).before a0 Z = true) (w5 : (Cond.selects C0 y z).before a0 Z = true) (hnf : ∀ s' : State, Z.Warmed39 s'.vm → NotFace s' y) (w6 : (Cond.instanceMethod z).before a0 Z = true) (w3 : (Cond.initialized z.cls).before a0 Z = true) (w4 : (Cond.code z bY mY rY).before a0 Z = true) (hy : y.cls ≠ "java/lang/invoke/MethodHandle" ∧ y.cls ≠ "java/lang/invoke/VarHandle")
    (hlen : ∀ sig, parseMethodDescriptor y.desc = some sig → argsL.length = sig.parameters.length) (has : (Value.ref a :: argsL).toArray = as') (hst : st = argsL.reverse ++ .ref a :: rest) (hsz : Ls.size = maxL) (hW : (rest.map fun v => v.category).sum ≤ W) (hf : rm.frames + 1 ≤ R.frames) (hlo : W + (mY + 11) + rm.locals ≤ R.locals) (hc : cells + rm.cells ≤ R.cells) (hl : slots + rm.slots ≤ R.slots) (hp : pc + 3 = pc')
    (nx : ∀ v h' ws', Q v h' ws' → h.size ≤ h'.size → Go p l e R s m args below meth c Z a0 EL own bytes maxL ret nm (ws' ++ ws) h' (cells + rm.cells) (slots + rm.slots) pc' Ls (v.toList ++ rest) Q') :
    Go p l e R s m args below meth c Z a0 EL own bytes maxL ret nm ws h cells slots pc Ls st Q' := fun K T P => by
  obtain ⟨vm0, k0, locs, X, eT, hS, hk, hZ, hown, N, I, C, r⟩ := P
  subst hst hp
  obtain ⟨cB, kB, i1, i2, i3⟩ := isOf (s := s.setVm vm0) hZ eT E0
  obtain ⟨v, vm₁, B, hW1, X', h2, hgr, hpost, hsteps⟩ := X.virtualBackS K.1 hown (mvT (s := s.setVm vm0) hZ w1) (mvT (s := s.setVm vm0) hZ w2) (hnf (s.setVm vm0) hZ) (mvT (s := s.setVm vm0) hZ w5) (mvT (s := s.setVm vm0) hZ w6) hy (backC (W := W) hM hZ w4 w3 hf hlo K.2.2.2.2.2.2 I hs) i1 i3 (g := mkF m pc Ls (argsL.reverse ++ .ref a :: rest)) rfl (hsz.trans K.2.2.1.symm) (Steps.refl _) hlen rfl (by show 2 * 0 + _ ≤ _; omega) (hb K.2.1 hd) (fun _ _ => ⟨has, eT, hc, hl⟩)
  exact go_after K eT hS hk hZ hown N C hc hl X' h2 hgr hpost hsteps (nx v)
theorem nf_sel {y : MethodName} {C0 : String} (w : (Cond.selects C0 y y).before a0 Z = true) : ∀ s' : State, Z.Warmed39 s'.vm → NotFace s' y := fun s' hZ => notFace_of_selects (args := #[]) (mvT hZ w)
end Rules
end Jvm.Own
namespace Jvm.Own
open Sem ClassFile Op Lib Bundle Jvm.Stand Jvm.Free Jvm.LawKit Jvm.RoadKit
section Rules2
variable {p : Program} {l : Launch} {e : Env} {R : Room} {s : State} {m : MethodId} {args : Array Value} {below : List Frame} {meth : Method} {c : Code} {Z : State} {a0 : Array Value} {EL : List (String × Nat)} {own : String} {bytes : ByteArray} {maxL : Nat} {ret : Option FieldType} {nm : String}
  {ws : List Addr} {h : Heap} {cells slots : Nat} {pc pc' : Nat} {Ls Ls' : Array Slot} {st st' rest : List Value} {Q Q' : Option Value → Heap → List Addr → Prop}
theorem g_iload {k : Nat} {v : Int32} (hd : decode bytes pc = .ok (.iload k, 2)) (hp : pc + 2 = pc') (hl : Ls[k]? = some (.val (.int v))) (n : Go p l e R s m args below meth c Z a0 EL own bytes maxL ret nm ws h cells slots pc' Ls (.int v :: st) Q) : Go p l e R s m args below meth c Z a0 EL own bytes maxL ret nm ws h cells slots pc Ls st Q := by
  subst hp; exact go_step (fun hx q _ A _ k => XS.iload A hx rfl (hb q hd) hl k) n
theorem g_iloadN {k : Fin 4} {v : Int32} (hd : decode bytes pc = .ok (.iload_n k, 1)) (hp : pc + 1 = pc') (hl : Ls[k.val]? = some (.val (.int v))) (n : Go p l e R s m args below meth c Z a0 EL own bytes maxL ret nm ws h cells slots pc' Ls (.int v :: st) Q) : Go p l e R s m args below meth c Z a0 EL own bytes maxL ret nm ws h cells slots pc Ls st Q := by
  subst hp; exact go_step (fun hx q _ A _ k => XS.iloadN A hx rfl (hb q hd) hl k) n
theorem g_lload {k : Nat} {v : Int64} (hd : decode bytes pc = .ok (.lload k, 2)) (hp : pc + 2 = pc') (hl : Ls[k]? = some (.val (.long v))) (n : Go p l e R s m args below meth c Z a0 EL own bytes maxL ret nm ws h cells slots pc' Ls (.long v :: st) Q) : Go p l e R s m args below meth c Z a0 EL own bytes maxL ret nm ws h cells slots pc Ls st Q := by
  subst hp; exact go_step (fun hx q _ A _ k => XS.lload A hx rfl (hb q hd) hl k) n
theorem g_lloadN {k : Fin 4} {v : Int64} (hd : decode bytes pc = .ok (.lload_n k, 1)) (hp : pc + 1 = pc') (hl : Ls[k.val]? = some (.val (.long v))) (n : Go p l e R s m args below meth c Z a0 EL own bytes maxL ret nm ws h cells slots pc' Ls (.long v :: st) Q) : Go p l e R s m args below meth c Z a0 EL own bytes maxL ret nm ws h cells slots pc Ls st Q := by
  subst hp; exact go_step (fun hx q _ A _ k => XS.lloadN A hx rfl (hb q hd) hl k) n
theorem g_aload {k : Nat} {v : Value} (hd : decode bytes pc = .ok (.aload k, 2)) (hp : pc + 2 = pc') (hl : Ls[k]? = some (.val v)) (hv : v.isRef = true) (n : Go p l e R s m args below meth c Z a0 EL own bytes maxL ret nm ws h cells slots pc' Ls (v :: st) Q) : Go p l e R s m args below meth c Z a0 EL own bytes maxL ret nm ws h cells slots pc Ls st Q := by
  subst hp; exact go_step (fun hx q _ A _ k => XS.aload A hx rfl (hb q hd) hl hv k) n
theorem g_aloadN {k : Fin 4} {v : Value} (hd : decode bytes pc = .ok (.aload_n k, 1)) (hp : pc + 1 = pc') (hl : Ls[k.val]? = some (.val v)) (hv : v.isRef = true) (n : Go p l e R s m args below meth c Z a0 EL own bytes maxL ret nm ws h cells slots pc' Ls (v :: st) Q) : Go p l e R s m args below meth c Z a0 EL own bytes maxL ret nm ws h cells slots pc Ls st Q := by
  subst hp; exact go_step (fun hx q _ A _ k => XS.aloadN A hx rfl (hb q hd) hl hv k) n
theorem g_iconst {i : Int} {z : Int32} (hd : decode bytes pc = .ok (.iconst i, 1)) (hp : pc + 1 = pc') (hz : Int32.ofInt i = z) (n : Go p l e R s m args below meth c Z a0 EL own bytes maxL ret nm ws h cells slots pc' Ls (.int z :: st) Q) : Go p l e R s m args below meth c Z a0 EL own bytes maxL ret nm ws h cells slots pc Ls st Q := by
  subst hp hz; exact go_step (fun hx q _ A _ k => XS.iconst A hx rfl (hb q hd) k) n
theorem g_bipush {i : Int} {z : Int32} (hd : decode bytes pc = .ok (.bipush i, 2)) (hp : pc + 2 = pc') (hz : (Int8.ofInt i).toInt32 = z) (n : Go p l e R s m args below meth c Z a0 EL own bytes maxL ret nm ws h cells slots pc' Ls (.int z :: st) Q) : Go p l e R s m args below meth c Z a0 EL own bytes maxL ret nm ws h cells slots pc Ls st Q := by
  subst hp hz; exact go_step (fun hx q _ A _ k => XS.bipush A hx rfl (hb q hd) k) n
theorem g_sipush {i : Int} {z : Int32} (hd : decode bytes pc = .ok (.sipush i, 3)) (hp : pc + 3 = pc') (hz : (Int16.ofInt i).toInt32 = z) (n : Go p l e R s m args below meth c Z a0 EL own bytes maxL ret nm ws h cells slots pc' Ls (.int z :: st) Q) : Go p l e R s m args below meth c Z a0 EL own bytes maxL ret nm ws h cells slots pc Ls st Q := by
  subst hp hz; exact go_step (fun hx q _ A _ k => XS.sipush A hx rfl (hb q hd) k) n
theorem g_aconstNull  (hd : decode bytes pc = .ok (.aconst_null, 1)) (hp : pc + 1 = pc') (n : Go p l e R s m args below meth c Z a0 EL own bytes maxL ret nm ws h cells slots pc' Ls (.null :: st) Q) : Go p l e R s m args below meth c Z a0 EL own bytes maxL ret nm ws h cells slots pc Ls st Q := by
  subst hp; exact go_step (fun hx q _ A _ k => XS.aconstNull A hx rfl (hb q hd) k) n
theorem g_lconst {i : Fin 2} {z : Int64} (hd : decode bytes pc = .ok (.lconst i, 1)) (hp : pc + 1 = pc') (hz : Int64.ofNat i = z) (n : Go p l e R s m args below meth c Z a0 EL own bytes maxL ret nm ws h cells slots pc' Ls (.long z :: st) Q) : Go p l e R s m args below meth c Z a0 EL own bytes maxL ret nm ws h cells slots pc Ls st Q := by
  subst hp hz; exact go_step (fun hx q _ A _ k => XS.lconst A hx rfl (hb q hd) k) n
theorem g_istore {k : Nat} {x : Int32} (hd : decode bytes pc = .ok (.istore k, 2)) (hp : pc + 2 = pc') (hl : storeLocals Ls k (.int x) = some Ls') (n : Go p l e R s m args below meth c Z a0 EL own bytes maxL ret nm ws h cells slots pc' Ls' rest Q) : Go p l e R s m args below meth c Z a0 EL own bytes maxL ret nm ws h cells slots pc Ls (.int x :: rest) Q := by
  subst hp; exact go_step (fun hx q _ A _ k => XS.istore A hx rfl (hb q hd) rfl hl k) n
theorem g_istoreN {k : Fin 4} {x : Int32} (hd : decode bytes pc = .ok (.istore_n k, 1)) (hp : pc + 1 = pc') (hl : storeLocals Ls k.val (.int x) = some Ls') (n : Go p l e R s m args below meth c Z a0 EL own bytes maxL ret nm ws h cells slots pc' Ls' rest Q) : Go p l e R s m args below meth c Z a0 EL own bytes maxL ret nm ws h cells slots pc Ls (.int x :: rest) Q := by
  subst hp; exact go_step (fun hx q _ A _ k => XS.istoreN A hx rfl (hb q hd) rfl hl k) n
theorem g_lstore {k : Nat} {x : Int64} (hd : decode bytes pc = .ok (.lstore k, 2)) (hp : pc + 2 = pc') (hl : storeLocals Ls k (.long x) = some Ls') (n : Go p l e R s m args below meth c Z a0 EL own bytes maxL ret nm ws h cells slots pc' Ls' rest Q) : Go p l e R s m args below meth c Z a0 EL own bytes maxL ret nm ws h cells slots pc Ls (.long x :: rest) Q := by
  subst hp; exact go_step (fun hx q _ A _ k => XS.lstore A hx rfl (hb q hd) rfl hl k) n
theorem g_lstoreN {k : Fin 4} {x : Int64} (hd : decode bytes pc = .ok (.lstore_n k, 1)) (hp : pc + 1 = pc') (hl : storeLocals Ls k.val (.long x) = some Ls') (n : Go p l e R s m args below meth c Z a0 EL own bytes maxL ret nm ws h cells slots pc' Ls' rest Q) : Go p l e R s m args below meth c Z a0 EL own bytes maxL ret nm ws h cells slots pc Ls (.long x :: rest) Q := by
  subst hp; exact go_step (fun hx q _ A _ k => XS.lstoreN A hx rfl (hb q hd) rfl hl k) n
theorem g_astore {k : Nat} {x : Value} (hd : decode bytes pc = .ok (.astore k, 2)) (hp : pc + 2 = pc') (hv : x.isRef = true) (hl : storeLocals Ls k x = some Ls') (n : Go p l e R s m args below meth c Z a0 EL own bytes maxL ret nm ws h cells slots pc' Ls' rest Q) : Go p l e R s m args below meth c Z a0 EL own bytes maxL ret nm ws h cells slots pc Ls (x :: rest) Q := by
  subst hp; exact go_step (fun hx q _ A _ k => XS.astore A hx rfl (hb q hd) rfl hv hl k) n
theorem g_astoreN {k : Fin 4} {x : Value} (hd : decode bytes pc = .ok (.astore_n k, 1)) (hp : pc + 1 = pc') (hv : x.isRef = true) (hl : storeLocals Ls k.val x = some Ls') (n : Go p l e R s m args below meth c Z a0 EL own bytes maxL ret nm ws h cells slots pc' Ls' rest Q) : Go p l e R s m args below meth c Z a0 EL own bytes maxL ret nm ws h cells slots pc Ls (x :: rest) Q := by
  subst hp; exact go_step (fun hx q _ A _ k => XS.astoreN A hx rfl (hb q hd) rfl hv hl k) n
theorem g_iinc {k : Nat} {cst : Int} {x : Int32} (hd : decode bytes pc = .ok (.iinc k cst, 3)) (hp : pc + 3 = pc') (hl : Ls[k]? = some (.val (.int x))) (hl' : storeLocals Ls k (.int (x + Int32.ofInt cst)) = some Ls') (n : Go p l e R s m args below meth c Z a0 EL own bytes maxL ret nm ws h cells slots pc' Ls' st Q) : Go p l e R s m args below meth c Z a0 EL own bytes maxL ret nm ws h cells slots pc Ls st Q := by
  subst hp; exact go_step (fun hx q _ A _ k => XS.iinc A hx rfl (hb q hd) hl hl' k) n
theorem g_iadd {x y : Int32} (hd : decode bytes pc = .ok (.iadd, 1)) (hp : pc + 1 = pc') (n : Go p l e R s m args below meth c Z a0 EL own bytes maxL ret nm ws h cells slots pc' Ls (.int (x + y) :: rest) Q) : Go p l e R s m args below meth c Z a0 EL own bytes maxL ret nm ws h cells slots pc Ls (.int y :: .int x :: rest) Q := by
  subst hp; exact go_step (fun hx q _ A _ k => XS.iadd A hx rfl (hb q hd) rfl k) n
theorem g_isub {x y : Int32} (hd : decode bytes pc = .ok (.isub, 1)) (hp : pc + 1 = pc') (n : Go p l e R s m args below meth c Z a0 EL own bytes maxL ret nm ws h cells slots pc' Ls (.int (x - y) :: rest) Q) : Go p l e R s m args below meth c Z a0 EL own bytes maxL ret nm ws h cells slots pc Ls (.int y :: .int x :: rest) Q := by
  subst hp; exact go_step (fun hx q _ A _ k => XS.isub A hx rfl (hb q hd) rfl k) n
theorem g_imul {x y : Int32} (hd : decode bytes pc = .ok (.imul, 1)) (hp : pc + 1 = pc') (n : Go p l e R s m args below meth c Z a0 EL own bytes maxL ret nm ws h cells slots pc' Ls (.int (x * y) :: rest) Q) : Go p l e R s m args below meth c Z a0 EL own bytes maxL ret nm ws h cells slots pc Ls (.int y :: .int x :: rest) Q := by
  subst hp; exact go_step (fun hx q _ A _ k => XS.imul A hx rfl (hb q hd) rfl k) n
theorem g_iand {x y : Int32} (hd : decode bytes pc = .ok (.iand, 1)) (hp : pc + 1 = pc') (n : Go p l e R s m args below meth c Z a0 EL own bytes maxL ret nm ws h cells slots pc' Ls (.int (x &&& y) :: rest) Q) : Go p l e R s m args below meth c Z a0 EL own bytes maxL ret nm ws h cells slots pc Ls (.int y :: .int x :: rest) Q := by
  subst hp; exact go_step (fun hx q _ A _ k => XS.iand A hx rfl (hb q hd) rfl k) n
theorem g_ior {x y : Int32} (hd : decode bytes pc = .ok (.ior, 1)) (hp : pc + 1 = pc') (n : Go p l e R s m args below meth c Z a0 EL own bytes maxL ret nm ws h cells slots pc' Ls (.int (x ||| y) :: rest) Q) : Go p l e R s m args below meth c Z a0 EL own bytes maxL ret nm ws h cells slots pc Ls (.int y :: .int x :: rest) Q := by
  subst hp; exact go_step (fun hx q _ A _ k => XS.ior A hx rfl (hb q hd) rfl k) n
theorem g_ixor {x y : Int32} (hd : decode bytes pc = .ok (.ixor, 1)) (hp : pc + 1 = pc') (n : Go p l e R s m args below meth c Z a0 EL own bytes maxL ret nm ws h cells slots pc' Ls (.int (x ^^^ y) :: rest) Q) : Go p l e R s m args below meth c Z a0 EL own bytes maxL ret nm ws h cells slots pc Ls (.int y :: .int x :: rest) Q := by
  subst hp; exact go_step (fun hx q _ A _ k => XS.ixor A hx rfl (hb q hd) rfl k) n
theorem g_ishl {x y : Int32} (hd : decode bytes pc = .ok (.ishl, 1)) (hp : pc + 1 = pc') (n : Go p l e R s m args below meth c Z a0 EL own bytes maxL ret nm ws h cells slots pc' Ls (.int (x <<< (y &&& 31)) :: rest) Q) : Go p l e R s m args below meth c Z a0 EL own bytes maxL ret nm ws h cells slots pc Ls (.int y :: .int x :: rest) Q := by
  subst hp; exact go_step (fun hx q _ A _ k => XS.ishl A hx rfl (hb q hd) rfl k) n
theorem g_ishr {x y : Int32} (hd : decode bytes pc = .ok (.ishr, 1)) (hp : pc + 1 = pc') (n : Go p l e R s m args below meth c Z a0 EL own bytes maxL ret nm ws h cells slots pc' Ls (.int (x >>> (y &&& 31)) :: rest) Q) : Go p l e R s m args below meth c Z a0 EL own bytes maxL ret nm ws h cells slots pc Ls (.int y :: .int x :: rest) Q := by
  subst hp; exact go_step (fun hx q _ A _ k => XS.ishr A hx rfl (hb q hd) rfl k) n
theorem g_iushr {x y : Int32} (hd : decode bytes pc = .ok (.iushr, 1)) (hp : pc + 1 = pc') (n : Go p l e R s m args below meth c Z a0 EL own bytes maxL ret nm ws h cells slots pc' Ls (.int ((x.toUInt32 >>> (y &&& 31).toUInt32).toInt32) :: rest) Q) : Go p l e R s m args below meth c Z a0 EL own bytes maxL ret nm ws h cells slots pc Ls (.int y :: .int x :: rest) Q := by
  subst hp; exact go_step (fun hx q _ A _ k => XS.iushr A hx rfl (hb q hd) rfl k) n
theorem g_ineg {x : Int32} (hd : decode bytes pc = .ok (.ineg, 1)) (hp : pc + 1 = pc') (n : Go p l e R s m args below meth c Z a0 EL own bytes maxL ret nm ws h cells slots pc' Ls (.int (-x) :: rest) Q) : Go p l e R s m args below meth c Z a0 EL own bytes maxL ret nm ws h cells slots pc Ls (.int x :: rest) Q := by
  subst hp; exact go_step (fun hx q _ A _ k => XS.ineg A hx rfl (hb q hd) rfl k) n
theorem g_irem {x y : Int32} (hd : decode bytes pc = .ok (.irem, 1)) (hp : pc + 1 = pc') (hy : y ≠ 0) (n : Go p l e R s m args below meth c Z a0 EL own bytes maxL ret nm ws h cells slots pc' Ls (.int (x % y) :: rest) Q) : Go p l e R s m args below meth c Z a0 EL own bytes maxL ret nm ws h cells slots pc Ls (.int y :: .int x :: rest) Q := by
  subst hp; exact go_step (fun hx q _ A _ k => XS.irem A hx rfl (hb q hd) rfl hy (by rw [irem_eq_mod]; exact k)) n
theorem g_i2b {x : Int32} (hd : decode bytes pc = .ok (.i2b, 1)) (hp : pc + 1 = pc') (n : Go p l e R s m args below meth c Z a0 EL own bytes maxL ret nm ws h cells slots pc' Ls (.int (x.toInt8.toInt32) :: rest) Q) : Go p l e R s m args below meth c Z a0 EL own bytes maxL ret nm ws h cells slots pc Ls (.int x :: rest) Q := by
  subst hp; exact go_step (fun hx q _ A _ k => XS.i2b A hx rfl (hb q hd) rfl k) n
theorem g_i2c {x : Int32} (hd : decode bytes pc = .ok (.i2c, 1)) (hp : pc + 1 = pc') (n : Go p l e R s m args below meth c Z a0 EL own bytes maxL ret nm ws h cells slots pc' Ls (.int (x.toUInt32.toUInt16.toUInt32.toInt32) :: rest) Q) : Go p l e R s m args below meth c Z a0 EL own bytes maxL ret nm ws h cells slots pc Ls (.int x :: rest) Q := by
  subst hp; exact go_step (fun hx q _ A _ k => XS.i2c A hx rfl (hb q hd) rfl k) n
theorem g_i2l {x : Int32} (hd : decode bytes pc = .ok (.i2l, 1)) (hp : pc + 1 = pc') (n : Go p l e R s m args below meth c Z a0 EL own bytes maxL ret nm ws h cells slots pc' Ls (.long (x.toInt64) :: rest) Q) : Go p l e R s m args below meth c Z a0 EL own bytes maxL ret nm ws h cells slots pc Ls (.int x :: rest) Q := by
  subst hp; exact go_step (fun hx q _ A _ k => XS.i2l A hx rfl (hb q hd) rfl k) n
theorem g_l2i {x : Int64} (hd : decode bytes pc = .ok (.l2i, 1)) (hp : pc + 1 = pc') (n : Go p l e R s m args below meth c Z a0 EL own bytes maxL ret nm ws h cells slots pc' Ls (.int (x.toInt32) :: rest) Q) : Go p l e R s m args below meth c Z a0 EL own bytes maxL ret nm ws h cells slots pc Ls (.long x :: rest) Q := by
  subst hp; exact go_step (fun hx q _ A _ k => XS.l2i A hx rfl (hb q hd) rfl k) n
theorem g_ladd {x y : Int64} (hd : decode bytes pc = .ok (.ladd, 1)) (hp : pc + 1 = pc') (n : Go p l e R s m args below meth c Z a0 EL own bytes maxL ret nm ws h cells slots pc' Ls (.long (x + y) :: rest) Q) : Go p l e R s m args below meth c Z a0 EL own bytes maxL ret nm ws h cells slots pc Ls (.long y :: .long x :: rest) Q := by
  subst hp; exact go_step (fun hx q _ A _ k => XS.ladd A hx rfl (hb q hd) rfl k) n
theorem g_lsub {x y : Int64} (hd : decode bytes pc = .ok (.lsub, 1)) (hp : pc + 1 = pc') (n : Go p l e R s m args below meth c Z a0 EL own bytes maxL ret nm ws h cells slots pc' Ls (.long (x - y) :: rest) Q) : Go p l e R s m args below meth c Z a0 EL own bytes maxL ret nm ws h cells slots pc Ls (.long y :: .long x :: rest) Q := by
  subst hp; exact go_step (fun hx q _ A _ k => XS.lsub A hx rfl (hb q hd) rfl k) n
theorem g_land {x y : Int64} (hd : decode bytes pc = .ok (.land, 1)) (hp : pc + 1 = pc') (n : Go p l e R s m args below meth c Z a0 EL own bytes maxL ret nm ws h cells slots pc' Ls (.long (x &&& y) :: rest) Q) : Go p l e R s m args below meth c Z a0 EL own bytes maxL ret nm ws h cells slots pc Ls (.long y :: .long x :: rest) Q := by
  subst hp; exact go_step (fun hx q _ A _ k => XS.land A hx rfl (hb q hd) rfl k) n
theorem g_lor {x y : Int64} (hd : decode bytes pc = .ok (.lor, 1)) (hp : pc + 1 = pc') (n : Go p l e R s m args below meth c Z a0 EL own bytes maxL ret nm ws h cells slots pc' Ls (.long (x ||| y) :: rest) Q) : Go p l e R s m args below meth c Z a0 EL own bytes maxL ret nm ws h cells slots pc Ls (.long y :: .long x :: rest) Q := by
  subst hp; exact go_step (fun hx q _ A _ k => XS.lor A hx rfl (hb q hd) rfl k) n
theorem g_lushr {x : Int64} {y : Int32} (hd : decode bytes pc = .ok (.lushr, 1)) (hp : pc + 1 = pc') (n : Go p l e R s m args below meth c Z a0 EL own bytes maxL ret nm ws h cells slots pc' Ls (.long ((x.toUInt64 >>> (y &&& 0x3f).toInt64.toUInt64).toInt64) :: rest) Q) : Go p l e R s m args below meth c Z a0 EL own bytes maxL ret nm ws h cells slots pc Ls (.int y :: .long x :: rest) Q := by
  subst hp; exact go_step (fun hx q _ A _ k => XS.lushr A hx rfl (hb q hd) rfl k) n
theorem g_lcmp {x y : Int64} (hd : decode bytes pc = .ok (.lcmp, 1)) (hp : pc + 1 = pc') (n : Go p l e R s m args below meth c Z a0 EL own bytes maxL ret nm ws h cells slots pc' Ls (.int (if x > y then 1 else if x = y then 0 else -1) :: rest) Q) : Go p l e R s m args below meth c Z a0 EL own bytes maxL ret nm ws h cells slots pc Ls (.long y :: .long x :: rest) Q := by
  subst hp; exact go_step (fun hx q _ A _ k => XS.lcmp A hx rfl (hb q hd) rfl k) n
theorem g_pop {x : Value} (hd : decode bytes pc = .ok (.pop, 1)) (hp : pc + 1 = pc') (hc : x.category = 1) (n : Go p l e R s m args below meth c Z a0 EL own bytes maxL ret nm ws h cells slots pc' Ls rest Q) : Go p l e R s m args below meth c Z a0 EL own bytes maxL ret nm ws h cells slots pc Ls (x :: rest) Q := by
  subst hp; exact go_step (fun hx q _ A _ k => XS.pop A hx rfl (hb q hd) rfl hc k) n
theorem g_dup {x : Value} (hd : decode bytes pc = .ok (.dup, 1)) (hp : pc + 1 = pc') (hc : x.category = 1) (n : Go p l e R s m args below meth c Z a0 EL own bytes maxL ret nm ws h cells slots pc' Ls (x :: x :: rest) Q) : Go p l e R s m args below meth c Z a0 EL own bytes maxL ret nm ws h cells slots pc Ls (x :: rest) Q := by
  subst hp; exact go_step (fun hx q _ A _ k => XS.dup A hx rfl (hb q hd) rfl hc k) n
theorem g_dup2 {x y : Value} (hd : decode bytes pc = .ok (.dup2, 1)) (hp : pc + 1 = pc') (hc : x.category = 1) (hc' : y.category = 1) (n : Go p l e R s m args below meth c Z a0 EL own bytes maxL ret nm ws h cells slots pc' Ls (x :: y :: x :: y :: rest) Q) : Go p l e R s m args below meth c Z a0 EL own bytes maxL ret nm ws h cells slots pc Ls (x :: y :: rest) Q := by
  subst hp; exact go_step (fun hx q _ A _ k => XT.dup2 A hx rfl (hb q hd) rfl hc hc' k) n
theorem g_dupX1 {x y : Value} (hd : decode bytes pc = .ok (.dup_x1, 1)) (hp : pc + 1 = pc') (hc : x.category = 1) (hc' : y.category = 1) (n : Go p l e R s m args below meth c Z a0 EL own bytes maxL ret nm ws h cells slots pc' Ls (x :: y :: x :: rest) Q) : Go p l e R s m args below meth c Z a0 EL own bytes maxL ret nm ws h cells slots pc Ls (x :: y :: rest) Q := by
  subst hp; exact go_step (fun hx q _ A _ k => XS.dupX1 A hx rfl (hb q hd) rfl hc hc' k) n
theorem g_goto {o : Int} (hd : decode bytes pc = .ok (.goto o, 3)) (ho : 0 ≤ (pc : Int) + o) (hp : ((pc : Int) + o).toNat = pc') (n : Go p l e R s m args below meth c Z a0 EL own bytes maxL ret nm ws h cells slots pc' Ls st Q) : Go p l e R s m args below meth c Z a0 EL own bytes maxL ret nm ws h cells slots pc Ls st Q :=
  go_step (fun hx q _ A _ k => XS.goto A hx rfl rfl (hb q hd)  ho hp k) n
theorem g_ifYes {cd : ClassFile.Cond} {x : Int32} {o : Int} (hd : decode bytes pc = .ok (.ifCond cd o, 3)) (hc : if_icmp.holds cd x 0 = true) (ho : 0 ≤ (pc : Int) + o) (hp : ((pc : Int) + o).toNat = pc') (n : Go p l e R s m args below meth c Z a0 EL own bytes maxL ret nm ws h cells slots pc' Ls rest Q) : Go p l e R s m args below meth c Z a0 EL own bytes maxL ret nm ws h cells slots pc Ls (.int x :: rest) Q :=
  go_step (fun hx q _ A _ k => XS.ifYes A hx rfl rfl (hb q hd) rfl ((if0 _ _).trans hc) ho hp k) n
theorem g_ifNo {cd : ClassFile.Cond} {x : Int32} {o : Int} (hd : decode bytes pc = .ok (.ifCond cd o, 3)) (hp : pc + 3 = pc') (hc : if_icmp.holds cd x 0 = false) (n : Go p l e R s m args below meth c Z a0 EL own bytes maxL ret nm ws h cells slots pc' Ls rest Q) : Go p l e R s m args below meth c Z a0 EL own bytes maxL ret nm ws h cells slots pc Ls (.int x :: rest) Q := by
  subst hp; exact go_step (fun hx q _ A _ k => XS.ifNo A hx rfl (hb q hd) rfl ((if0 _ _).trans hc) k) n
theorem g_icmpYes {cd : ClassFile.Cond} {x y : Int32} {o : Int} (hd : decode bytes pc = .ok (.if_icmp cd o, 3)) (hc : if_icmp.holds cd x y = true) (ho : 0 ≤ (pc : Int) + o) (hp : ((pc : Int) + o).toNat = pc') (n : Go p l e R s m args below meth c Z a0 EL own bytes maxL ret nm ws h cells slots pc' Ls rest Q) : Go p l e R s m args below meth c Z a0 EL own bytes maxL ret nm ws h cells slots pc Ls (.int y :: .int x :: rest) Q :=
  go_step (fun hx q _ A _ k => XS.icmpYes A hx rfl rfl (hb q hd) rfl hc ho hp k) n
theorem g_icmpNo {cd : ClassFile.Cond} {x y : Int32} {o : Int} (hd : decode bytes pc = .ok (.if_icmp cd o, 3)) (hp : pc + 3 = pc') (hc : if_icmp.holds cd x y = false) (n : Go p l e R s m args below meth c Z a0 EL own bytes maxL ret nm ws h cells slots pc' Ls rest Q) : Go p l e R s m args below meth c Z a0 EL own bytes maxL ret nm ws h cells slots pc Ls (.int y :: .int x :: rest) Q := by
  subst hp; exact go_step (fun hx q _ A _ k => XS.icmpNo A hx rfl (hb q hd) rfl hc k) n
theorem g_ifnullYes {o : Int} (hd : decode bytes pc = .ok (.ifnull o, 3)) (ho : 0 ≤ (pc : Int) + o) (hp : ((pc : Int) + o).toNat = pc') (n : Go p l e R s m args below meth c Z a0 EL own bytes maxL ret nm ws h cells slots pc' Ls rest Q) : Go p l e R s m args below meth c Z a0 EL own bytes maxL ret nm ws h cells slots pc Ls (.null :: rest) Q :=
  go_step (fun hx q _ A _ k => XS.ifnullYes A hx rfl rfl (hb q hd) rfl ho hp k) n
theorem g_ifnullNo {o : Int} {a : Addr} (hd : decode bytes pc = .ok (.ifnull o, 3)) (hp : pc + 3 = pc') (n : Go p l e R s m args below meth c Z a0 EL own bytes maxL ret nm ws h cells slots pc' Ls rest Q) : Go p l e R s m args below meth c Z a0 EL own bytes maxL ret nm ws h cells slots pc Ls (.ref a :: rest) Q := by
  subst hp; exact go_step (fun hx q _ A _ k => XS.ifnullNo A hx rfl (hb q hd) rfl k) n
theorem g_ifnonnullYes {o : Int} {a : Addr} (hd : decode bytes pc = .ok (.ifnonnull o, 3)) (ho : 0 ≤ (pc : Int) + o) (hp : ((pc : Int) + o).toNat = pc') (n : Go p l e R s m args below meth c Z a0 EL own bytes maxL ret nm ws h cells slots pc' Ls rest Q) : Go p l e R s m args below meth c Z a0 EL own bytes maxL ret nm ws h cells slots pc Ls (.ref a :: rest) Q :=
  go_step (fun hx q _ A _ k => XS.ifnonnullYes A hx rfl rfl (hb q hd) rfl ho hp k) n
theorem g_ifnonnullNo {o : Int} (hd : decode bytes pc = .ok (.ifnonnull o, 3)) (hp : pc + 3 = pc') (n : Go p l e R s m args below meth c Z a0 EL own bytes maxL ret nm ws h cells slots pc' Ls rest Q) : Go p l e R s m args below meth c Z a0 EL own bytes maxL ret nm ws h cells slots pc Ls (.null :: rest) Q := by
  subst hp; exact go_step (fun hx q _ A _ k => XS.ifnonnullNo A hx rfl (hb q hd) rfl k) n
theorem g_acmp {cd : ClassFile.ACond} {x y : Value} {o : Int} {same : Bool} (hd : decode bytes pc = .ok (.if_acmp cd o, 3)) (hx' : x.isRef = true) (hy' : y.isRef = true) (hq : decide (x = y) = same) (ho : 0 ≤ (pc : Int) + o) (hp : pc' = if acV cd same = true then ((pc : Int) + o).toNat else pc + 3) (n : Go p l e R s m args below meth c Z a0 EL own bytes maxL ret nm ws h cells slots pc' Ls rest Q) : Go p l e R s m args below meth c Z a0 EL own bytes maxL ret nm ws h cells slots pc Ls (y :: x :: rest) Q := fun K T P => by
  obtain ⟨u, S, E⟩ := n K T P
  obtain ⟨vm0, k0, locs, X, -⟩ := P
  exact ⟨u, acmp X K.1 (g := mkF m pc Ls (y :: x :: rest)) rfl hx' hy' rfl (hb K.2.1 hd) rfl hq ho hp S, E⟩
end Rules2
end Jvm.Own
namespace Jvm.Own
open Sem ClassFile Op Lib Bundle Jvm.Stand Jvm.Free Jvm.LawKit Jvm.RoadKit
/-! ## counting in ints -/
theorem o_int {i : Nat} (hi : i < 2147483648) : (Int32.ofNat i).toInt = (i : Int) := toInt_of rfl hi
theorem o_lt {i n : Nat} (hi : i < 2147483648) (hn : n < 2147483648) : Int32.ofNat i < Int32.ofNat n ↔ i < n := by
  rw [Int32.lt_iff_toInt_lt, o_int hi, o_int hn]; omega
theorem o_nn {i : Nat} (hi : i < 2147483648) : ¬ Int32.ofNat i < 0 := by
  rw [Int32.lt_iff_toInt_lt, o_int hi]; show ¬ ((i : Int) < 0); omega
theorem o_cl {i : Nat} (hi : i < 2147483648) : (Int32.ofNat i).toNatClampNeg = i := clamp_of rfl hi
theorem o_inc (i : Nat) : Int32.ofNat i + (1 : Int32) = Int32.ofNat (i + 1) := (inc_ofNat i).symm
theorem o_eq {i n : Nat} (hi : i < 2147483648) (hn : n < 2147483648) : Int32.ofNat i = Int32.ofNat n ↔ i = n := by
  constructor
  · intro q; have := congrArg Int32.toInt q; rw [o_int hi, o_int hn] at this; omega
  · intro q; rw [q]
/-! ## arrays by their values within the length -/
theorem Arv_congr {Z : State} {h : Heap} {a : Addr} {k : ClassId} {ty : FieldType} {z : Int32} {vs vs' : List Value} {dv : Value} (F : Arv Z h a k ty z vs dv) (q : ∀ i, i < z.toNatClampNeg → vs'.getD i dv = vs.getD i dv) : Arv Z h a k ty z vs' dv := by
  obtain ⟨c, A, r1, r2, r3, H, G⟩ := F
  exact ⟨c, A, r1, r2, r3, fun i hi => by rw [q i (by rw [← r2]; exact hi)]; exact H i hi, fun i hi => by rw [q i (by rw [← r2]; exact hi)]; exact G i hi⟩
theorem Arv_nn {Z : State} {h : Heap} {a : Addr} {k : ClassId} {ty : FieldType} {z : Int32} {vs : List Value} {dv : Value} (F : Arv Z h a k ty z vs dv) : ¬ z < 0 := by obtain ⟨c, A, r1, r2, r3, H, G⟩ := F; exact r3
theorem getD_set_eq {vs : List Value} {i : Nat} {v d : Value} (hi : i < vs.length) : (vs.set i v).getD i d = v := by simp [List.getD, hi]
theorem getD_set_ne {vs : List Value} {i j : Nat} {v d : Value} (hne : j ≠ i) : (vs.set i v).getD j d = vs.getD j d := by
  simp only [List.getD]; rw [List.getElem?_set_ne (Ne.symm hne)]
theorem Keep_of_ext {h h' : Heap} (E : Ext h h') : Keep h h' [] := (Keep.refl h []).ext E
theorem Ext_of_keep {h h' : Heap} (K : Keep h h' []) : Ext h h' := ⟨K.1, fun x c q => K.2.1 x c q nin0⟩
theorem Keep_mono {h h' : Heap} {ws ws' : List Addr} (K : Keep h h' ws) (q : ∀ x ∈ ws, x ∈ ws') : Keep h h' ws' := ⟨K.1, fun x c r s => K.2.1 x c r fun z => s (q x z), K.2.2⟩
/-- bytes as signed -/
def by8 (c : Int32) : Value := .int c.toInt8.toInt32
theorem fits_by8 (c : Int32) : fits .byte (by8 c) = true := fits_nar_byte c
end Jvm.Own
namespace Jvm.Own
open Sem ClassFile Op Lib Bundle Jvm.Stand Jvm.Free Jvm.LawKit Jvm.RoadKit
theorem i2b2 (x : Int32) : x.toInt8.toInt32.toInt8.toInt32 = x.toInt8.toInt32 := by simp
theorem map_getD (cs : List Int32) (j : Nat) : (cs.map Value.int).getD j (.int 0) = .int (cs.getD j 0) := by
  simp only [List.getD, List.getElem?_map]; cases cs[j]? <;> rfl
theorem map8_getD (cs : List Int32) (j : Nat) : (cs.map by8).getD j (.int 0) = by8 (cs.getD j 0) := by
  simp only [List.getD, List.getElem?_map]; cases cs[j]? <;> rfl
theorem getD_lat {cs : List Int32} (h : ∀ c ∈ cs, ¬ (255 : Int32) < c) (j : Nat) : ¬ (255 : Int32) < cs.getD j 0 := by
  by_cases hj : j < cs.length
  · simp only [List.getD, List.getElem?_eq_getElem hj, Option.getD_some]; exact h _ (List.getElem_mem hj)
  · simp only [List.getD, List.getElem?_eq_none (Nat.le_of_not_lt hj), Option.getD_none]; decide
end Jvm.Own
namespace Jvm.Own
open Sem ClassFile Op Lib Bundle Jvm.Stand Jvm.Free Jvm.LawKit Jvm.RoadKit
theorem fld_eq {args : Array Value} {s : State} {t : Term} {C n d : String} {k : Int32} {x : Addr} (ht : t.eval args s none [] s = some (.ref x)) (h : (Cond.eq (Term.field t C n d) (Term.int k)).value args s none s [] = some true) : s.fieldOf? x C n d = some (.int k) := by
  have q := Cond.eq_int (Cond.before_iff.mpr h) rfl
  simpa [Term.eval, ht] using q
theorem Inv_start0 {s : State} : Inv s [] [] s.vm s.heap := ⟨(fun p hp => nomatch hp), ⟨Nat.le_refl _, fun _ _ q => q⟩, all0⟩
theorem lat255 (x : Int32) : ¬ (255 : Int32) < (x &&& 255).toUInt32.toUInt16.toUInt32.toInt32 := by
  rw [i2c_mask]
  have h := c_and x 255 (by decide)
  rw [Int32.lt_iff_toInt_lt]; exact fun q => absurd q (Int.not_lt.mpr h.2)
theorem all1 {P : Int32 → Prop} {x : Int32} {L : List Int32} (q : P x) (r : ∀ y ∈ L, P y) : ∀ y ∈ x :: L, P y := fun y z => (List.mem_cons.mp z).elim (fun u => u ▸ q) (r y)
theorem allN {P : Int32 → Prop} : ∀ y ∈ ([] : List Int32), P y := fun _ q => nomatch q
theorem nar_i2c (x : Int32) : nar .char (x.toUInt32.toUInt16.toUInt32.toInt32) = x.toUInt32.toUInt16.toUInt32.toInt32 := by
  apply Int32.toInt_inj.mp
  have a := c_i2c x
  have b := c_i2c (x.toUInt32.toUInt16.toUInt32.toInt32)
  show (x.toUInt32.toUInt16.toUInt32.toInt32.toUInt32.toUInt16.toUInt32.toInt32).toInt = _
  omega
end Jvm.Own
namespace Jvm.Own
open Sem ClassFile Op Lib Bundle Jvm.Stand Jvm.Free Jvm.LawKit Jvm.RoadKit
/-! ## Strings of one byte a char -/
/-- the object a is a String, one byte a char, that spells cs; its array is b -/
def LatB (Z : State) (h : Heap) (a b : Addr) (cs : List Int32) : Prop :=
  Exa Z h a "java/lang/String" ∧ Fld Z h a "java/lang/String" "coder" "B" (.int 0) ∧ Fld Z h a "java/lang/String" "value" "[B" (.ref b) ∧ ∃ k, Arv Z h b k .byte (Int32.ofNat cs.length) (cs.map by8) (.int 0)
section LatFacts
variable {Z : State} {h h' : Heap} {a b x : Addr} {cs ds : List Int32} {ws : List Addr} {sl : Nat} {v : Value}
theorem LatB.ext (F : LatB Z h a b cs) (E : Ext h h') : LatB Z h' a b cs := ⟨F.1.ext E, F.2.1.ext E, F.2.2.1.ext E, by obtain ⟨k, A⟩ := F.2.2.2; exact ⟨k, A.ext E⟩⟩
theorem LatB.keep (F : LatB Z h a b cs) (K : Keep h h' ws) (q : a ∉ ws) (r : b ∉ ws) : LatB Z h' a b cs := ⟨F.1.keep K, F.2.1.keep K q, F.2.2.1.keep K q, by obtain ⟨k, A⟩ := F.2.2.2; exact ⟨k, A.keep K r⟩⟩
theorem LatB.other (F : LatB Z h a b cs) (W : Wr h h' x sl v) (q : a ≠ x) (r : b ≠ x) : LatB Z h' a b cs := ⟨Exa.wr W F.1, Fld.other W F.2.1 (Or.inl q), Fld.other W F.2.2.1 (Or.inl q), by obtain ⟨k, A⟩ := F.2.2.2; exact ⟨k, A.other W r⟩⟩
theorem LatB.lt (F : LatB Z h a b cs) : a < h.size := F.1.lt
theorem LatB.blt (F : LatB Z h a b cs) : b < h.size := by obtain ⟨k, A⟩ := F.2.2.2; exact A.lt
theorem LatB.mk {k : ClassId} {z : Int32} {vs : List Value} (E : Exa Z h a "java/lang/String") (C : Fld Z h a "java/lang/String" "coder" "B" (.int 0)) (V : Fld Z h a "java/lang/String" "value" "[B" (.ref b)) (A : Arv Z h b k .byte z vs (.int 0)) (hz : z = Int32.ofNat cs.length) (hv : vs = cs.map by8) : LatB Z h a b cs := ⟨E, C, V, k, by subst hz hv; exact A⟩
end LatFacts
theorem shr0 (x : Int32) : x >>> ((0 : Int32) &&& 31) = x := by
  apply Int32.toInt_inj.mp
  rw [c_ishr x 0 0 (by decide)]; omega
/-- a char up to 255, kept as a byte and read back -/
theorem by8_back {c : Int32} (h0 : ¬ c < 0) (h1 : ¬ (255 : Int32) < c) : (c.toInt8.toInt32 &&& 255) = c := by
  apply Int32.toInt_inj.mp
  have q := c_i2b c
  have m := c_mask c.toInt8.toInt32 255 8 (by decide) (by decide)
  rw [m]
  simp only [Int32.lt_iff_toInt_lt, Int32.reduceToInt] at h0 h1
  have : ((2 : Nat) ^ 8 : Nat) = 256 := rfl
  omega
theorem by8_char {c : Int32} (h0 : ¬ c < 0) (h1 : ¬ (255 : Int32) < c) : (c.toInt8.toInt32 &&& 255).toUInt32.toUInt16.toUInt32.toInt32 = c := by rw [i2c_mask, by8_back h0 h1]
theorem by8_inj {c d : Int32} (h0 : ¬ c < 0) (h1 : ¬ (255 : Int32) < c) (g0 : ¬ d < 0) (g1 : ¬ (255 : Int32) < d) (h : c.toInt8.toInt32 = d.toInt8.toInt32) : c = d := by
  rw [← by8_back h0 h1, ← by8_back g0 g1, h]
/-- each of them lies from 0 to 255 -/
def Byt (cs : List Int32) : Prop := ∀ c ∈ cs, ¬ c < 0 ∧ ¬ (255 : Int32) < c
theorem Byt.nil : Byt [] := fun _ q => nomatch q
theorem Byt.cons {c : Int32} {cs : List Int32} (q : ¬ c < 0 ∧ ¬ (255 : Int32) < c) (r : Byt cs) : Byt (c :: cs) := fun y z => (List.mem_cons.mp z).elim (fun u => u ▸ q) (r y)
theorem Byt.at {cs : List Int32} (B : Byt cs) (j : Nat) : ¬ cs.getD j 0 < 0 ∧ ¬ (255 : Int32) < cs.getD j 0 := by
  by_cases hj : j < cs.length
  · simp only [List.getD, List.getElem?_eq_getElem hj, Option.getD_some]; exact B _ (List.getElem_mem hj)
  · simp only [List.getD, List.getElem?_eq_none (Nat.le_of_not_lt hj), Option.getD_none]; decide
theorem Byt.lat {cs : List Int32} (B : Byt cs) : ∀ c ∈ cs, ¬ (255 : Int32) < c := fun c q => (B c q).2
theorem byt255 (x : Int32) : ¬ (x &&& 255).toUInt32.toUInt16.toUInt32.toInt32 < 0 ∧ ¬ (255 : Int32) < (x &&& 255).toUInt32.toUInt16.toUInt32.toInt32 := by
  refine ⟨?_, lat255 x⟩
  rw [i2c_mask]
  have h := c_and x 255 (by decide)
  rw [Int32.lt_iff_toInt_lt]; exact fun q => absurd q (Int.not_lt.mpr h.1)
theorem list_ext_getD {cs ds : List Int32} (hl : cs.length = ds.length) (h : ∀ i, i < cs.length → cs.getD i 0 = ds.getD i 0) : cs = ds := by
  apply List.ext_getElem hl
  intro i h1 h2
  have q := h i h1
  simpa [List.getD, List.getElem?_eq_getElem h1, List.getElem?_eq_getElem h2] using q
end Jvm.Own
namespace Jvm.Own
open Sem ClassFile Op Lib Bundle Jvm.Stand Jvm.Free Jvm.LawKit Jvm.RoadKit
theorem nar_byt {c : Int32} (h : ¬ c < 0 ∧ ¬ (255 : Int32) < c) : nar .char c = c := by
  have q := by8_char h.1 h.2
  show c.toUInt32.toUInt16.toUInt32.toInt32 = c
  rw [by8_back h.1 h.2] at q; exact q
end Jvm.Own
namespace Jvm.Own
open Sem ClassFile Op Lib Bundle Jvm.Stand Jvm.Free Jvm.LawKit Jvm.RoadKit
/-- r is where ch stands first in cs, or -1 -/
def Ix (cs : List Int32) (ch r : Int32) : Prop := (∃ j, j < cs.length ∧ r = Int32.ofNat j ∧ cs.getD j 0 = ch ∧ ∀ i, i < j → ¬ cs.getD i 0 = ch) ∨ (r = -1 ∧ ∀ i, i < cs.length → ¬ cs.getD i 0 = ch)
end Jvm.Own
namespace Jvm.Own
open Sem ClassFile Op Lib Bundle Jvm.Stand Jvm.Free Jvm.LawKit Jvm.RoadKit
/-! ## Strings of two bytes a char -/
def hi8 (c : Int32) : Value := by8 (c >>> ((8 : Int32) &&& 31))
def u16b : List Int32 → List Value
  | [] => []
  | c :: cs => by8 c :: hi8 c :: u16b cs
theorem u16b_length : ∀ cs : List Int32, (u16b cs).length = 2 * cs.length
  | [] => rfl
  | c :: cs => by simp [u16b, u16b_length cs]; omega
theorem u16b_lo : ∀ (cs : List Int32) (j : Nat), (u16b cs).getD (2 * j) (.int 0) = by8 (cs.getD j 0)
  | [], j => by simp [u16b, List.getD]; rfl
  | c :: cs, 0 => rfl
  | c :: cs, j + 1 => by
    rw [show 2 * (j + 1) = 2 * j + 1 + 1 by omega]
    exact u16b_lo cs j
theorem u16b_hi : ∀ (cs : List Int32) (j : Nat), (u16b cs).getD (2 * j + 1) (.int 0) = hi8 (cs.getD j 0)
  | [], j => by simp [u16b, List.getD]; rfl
  | c :: cs, 0 => rfl
  | c :: cs, j + 1 => by
    rw [show 2 * (j + 1) + 1 = 2 * j + 1 + 1 + 1 by omega]
    exact u16b_hi cs j
def UtfB (Z : State) (h : Heap) (a b : Addr) (cs : List Int32) : Prop :=
  Exa Z h a "java/lang/String" ∧ Fld Z h a "java/lang/String" "coder" "B" (.int 1) ∧ Fld Z h a "java/lang/String" "value" "[B" (.ref b) ∧ ∃ k, Arv Z h b k .byte (Int32.ofNat (2 * cs.length)) (u16b cs) (.int 0)
section UtfFacts
variable {Z : State} {h h' : Heap} {a b x : Addr} {cs ds : List Int32} {ws : List Addr} {sl : Nat} {v : Value}
theorem UtfB.ext (F : UtfB Z h a b cs) (E : Ext h h') : UtfB Z h' a b cs := ⟨F.1.ext E, F.2.1.ext E, F.2.2.1.ext E, by obtain ⟨k, A⟩ := F.2.2.2; exact ⟨k, A.ext E⟩⟩
theorem UtfB.keep (F : UtfB Z h a b cs) (K : Keep h h' ws) (q : a ∉ ws) (r : b ∉ ws) : UtfB Z h' a b cs := ⟨F.1.keep K, F.2.1.keep K q, F.2.2.1.keep K q, by obtain ⟨k, A⟩ := F.2.2.2; exact ⟨k, A.keep K r⟩⟩
theorem UtfB.other (F : UtfB Z h a b cs) (W : Wr h h' x sl v) (q : a ≠ x) (r : b ≠ x) : UtfB Z h' a b cs := ⟨Exa.wr W F.1, Fld.other W F.2.1 (Or.inl q), Fld.other W F.2.2.1 (Or.inl q), by obtain ⟨k, A⟩ := F.2.2.2; exact ⟨k, A.other W r⟩⟩
theorem UtfB.lt (F : UtfB Z h a b cs) : a < h.size := F.1.lt
theorem UtfB.blt (F : UtfB Z h a b cs) : b < h.size := by obtain ⟨k, A⟩ := F.2.2.2; exact A.lt
end UtfFacts
def U16 (cs : List Int32) : Prop := ∀ c ∈ cs, ¬ c < 0 ∧ ¬ (65535 : Int32) < c
theorem U16.nil : U16 [] := fun _ q => nomatch q
theorem U16.cons {c : Int32} {cs : List Int32} (q : ¬ c < 0 ∧ ¬ (65535 : Int32) < c) (r : U16 cs) : U16 (c :: cs) := fun y z => (List.mem_cons.mp z).elim (fun u => u ▸ q) (r y)
theorem U16.at {cs : List Int32} (B : U16 cs) (j : Nat) : ¬ cs.getD j 0 < 0 ∧ ¬ (65535 : Int32) < cs.getD j 0 := by
  by_cases hj : j < cs.length
  · simp only [List.getD, List.getElem?_eq_getElem hj, Option.getD_some]; exact B _ (List.getElem_mem hj)
  · simp only [List.getD, List.getElem?_eq_none (Nat.le_of_not_lt hj), Option.getD_none]; decide
theorem u16_i2c (x : Int32) : ¬ x.toUInt32.toUInt16.toUInt32.toInt32 < 0 ∧ ¬ (65535 : Int32) < x.toUInt32.toUInt16.toUInt32.toInt32 := by
  have q := c_i2c x
  simp only [Int32.lt_iff_toInt_lt, Int32.reduceToInt]; omega
theorem nar_u16 {c : Int32} (h : ¬ c < 0 ∧ ¬ (65535 : Int32) < c) : nar .char c = c := by
  apply Int32.toInt_inj.mp
  have q := c_i2c c
  show c.toUInt32.toUInt16.toUInt32.toInt32.toInt = c.toInt
  simp only [Int32.lt_iff_toInt_lt, Int32.reduceToInt] at h; omega
theorem join16 {c : Int32} (h0 : ¬ c < 0) (h1 : ¬ (65535 : Int32) < c) :
    (((c.toInt8.toInt32 &&& 255) <<< ((0 : Int32) &&& 31)) ||| (((c >>> ((8 : Int32) &&& 31)).toInt8.toInt32 &&& 255) <<< ((8 : Int32) &&& 31))).toUInt32.toUInt16.toUInt32.toInt32 = c := by
  apply Int32.toInt_inj.mp
  have a1 := c_mask c.toInt8.toInt32 255 8 (by decide) (by decide)
  have a2 := c_i2b c
  have s1 := c_ishl (c.toInt8.toInt32 &&& 255) 0 0 (by decide)
  have b1 := c_ishr c 8 8 (by decide)
  have b2 := c_i2b (c >>> ((8 : Int32) &&& 31))
  have b3 := c_mask (c >>> ((8 : Int32) &&& 31)).toInt8.toInt32 255 8 (by decide) (by decide)
  have s2 := c_ishl ((c >>> ((8 : Int32) &&& 31)).toInt8.toInt32 &&& 255) 8 8 (by decide)
  have r1 := rng32 ((c.toInt8.toInt32 &&& 255) <<< ((0 : Int32) &&& 31))
  have r2 := rng32 (((c >>> ((8 : Int32) &&& 31)).toInt8.toInt32 &&& 255) <<< ((8 : Int32) &&& 31))
  have o := c_or' ((c.toInt8.toInt32 &&& 255) <<< ((0 : Int32) &&& 31)) (((c >>> ((8 : Int32) &&& 31)).toInt8.toInt32 &&& 255) <<< ((8 : Int32) &&& 31)) 8 (by decide) 256 rfl
  have r3 := rng32 (((c.toInt8.toInt32 &&& 255) <<< ((0 : Int32) &&& 31)) ||| (((c >>> ((8 : Int32) &&& 31)).toInt8.toInt32 &&& 255) <<< ((8 : Int32) &&& 31)))
  have i := c_i2c (((c.toInt8.toInt32 &&& 255) <<< ((0 : Int32) &&& 31)) ||| (((c >>> ((8 : Int32) &&& 31)).toInt8.toInt32 &&& 255) <<< ((8 : Int32) &&& 31)))
  simp only [Int32.lt_iff_toInt_lt, Int32.reduceToInt] at h0 h1
  have e8 : ((2 : Nat) ^ 8 : Nat) = 256 := rfl
  have e0 : ((2 : Nat) ^ 0 : Nat) = 1 := rfl
  rw [e8] at *
  rw [e0] at s1
  omega
theorem shl1 {n : Nat} (h : n < 1073741824) : Int32.ofNat n <<< ((1 : Int32) &&& 31) = Int32.ofNat (2 * n) := by
  apply Int32.toInt_inj.mp
  have q := c_ishl (Int32.ofNat n) 1 1 (by decide)
  have r := rng32 (Int32.ofNat n <<< ((1 : Int32) &&& 31))
  rw [o_int (by omega)] at q
  rw [o_int (by omega)]
  have e1 : ((2 : Nat) ^ 1 : Nat) = 2 := rfl
  rw [e1] at q; omega
theorem shr1 {n : Nat} (h : n < 1073741824) : Int32.ofNat (2 * n) >>> ((1 : Int32) &&& 31) = Int32.ofNat n := by
  apply Int32.toInt_inj.mp
  have q := c_ishr (Int32.ofNat (2 * n)) 1 1 (by decide)
  rw [o_int (by omega)] at q
  rw [o_int (by omega), q]
  have e1 : ((2 : Nat) ^ 1 : Nat) = 2 := rfl
  rw [e1]; omega
/-- a char, as a String of chars up to 255 has it, is one of the wider kind -/
theorem Byt.u16 {cs : List Int32} (B : Byt cs) : U16 cs := fun c q => ⟨(B c q).1, fun z => (B c q).2 (by simp only [Int32.lt_iff_toInt_lt, Int32.reduceToInt] at *; omega)⟩
end Jvm.Own
namespace Jvm.Own
open Sem ClassFile Op Lib Bundle Jvm.Stand Jvm.Free Jvm.LawKit Jvm.RoadKit
theorem coder1 {n : Nat} (h0 : 0 < n) (h : n ≤ 4000) : (((Int32.ofNat n - Int32.ofNat (2 * n)).toUInt32 >>> (((31 : Int32) &&& 31)).toUInt32).toInt32).toInt8.toInt32 = 1 := by
  apply Int32.toInt_inj.mp
  have a := c_isub (Int32.ofNat n) (Int32.ofNat (2 * n))
  have r := rng32 (Int32.ofNat n - Int32.ofNat (2 * n))
  have s := c_iushr (Int32.ofNat n - Int32.ofNat (2 * n)) 31 31 (by decide) (by decide)
  have b := c_i2b (((Int32.ofNat n - Int32.ofNat (2 * n)).toUInt32 >>> (((31 : Int32) &&& 31)).toUInt32).toInt32)
  rw [o_int (by omega), o_int (by omega)] at a
  have e : ((2 : Nat) ^ 31 : Nat) = 2147483648 := rfl
  rw [e] at s
  rw [show (1 : Int32).toInt = 1 from rfl]
  omega
/-- a String that spells cs, of either kind -/
def StrB (Z : State) (h : Heap) (a b : Addr) (cs : List Int32) : Prop := (Byt cs ∧ LatB Z h a b cs) ∨ (¬ (∀ i, i < cs.length → ¬ (255 : Int32) < cs.getD i 0) ∧ UtfB Z h a b cs)
theorem StrB.ext {Z : State} {h h' : Heap} {a b : Addr} {cs : List Int32} (F : StrB Z h a b cs) (E : Ext h h') : StrB Z h' a b cs := F.imp (fun q => ⟨q.1, q.2.ext E⟩) (fun q => ⟨q.1, q.2.ext E⟩)
theorem StrB.keep {Z : State} {h h' : Heap} {a b : Addr} {cs : List Int32} {ws : List Addr} (F : StrB Z h a b cs) (K : Keep h h' ws) (q : a ∉ ws) (r : b ∉ ws) : StrB Z h' a b cs := F.imp (fun z => ⟨z.1, z.2.keep K q r⟩) (fun z => ⟨z.1, z.2.keep K q r⟩)
theorem StrB.other {Z : State} {h h' : Heap} {a b x : Addr} {cs : List Int32} {sl : Nat} {v : Value} (F : StrB Z h a b cs) (W : Wr h h' x sl v) (q : a ≠ x) (r : b ≠ x) : StrB Z h' a b cs := F.imp (fun z => ⟨z.1, z.2.other W q r⟩) (fun z => ⟨z.1, z.2.other W q r⟩)
theorem StrB.lt {Z : State} {h : Heap} {a b : Addr} {cs : List Int32} (F : StrB Z h a b cs) : a < h.size := F.elim (fun q => q.2.lt) (fun q => q.2.lt)
theorem StrB.blt {Z : State} {h : Heap} {a b : Addr} {cs : List Int32} (F : StrB Z h a b cs) : b < h.size := F.elim (fun q => q.2.blt) (fun q => q.2.blt)
theorem StrB.exa {Z : State} {h : Heap} {a b : Addr} {cs : List Int32} (F : StrB Z h a b cs) : Exa Z h a "java/lang/String" := F.elim (fun q => q.2.1) (fun q => q.2.1)
theorem lat_of {cs : List Int32} (h : ∀ i, i < cs.length → ¬ (255 : Int32) < cs.getD i 0) : ∀ c ∈ cs, ¬ (255 : Int32) < c := fun c hc => by
  obtain ⟨i, hi, rfl⟩ := List.mem_iff_getElem.mp hc
  have q := h i hi
  simpa [List.getD, List.getElem?_eq_getElem hi] using q
theorem U16.byt {cs : List Int32} (B : U16 cs) (h : ∀ i, i < cs.length → ¬ (255 : Int32) < cs.getD i 0) : Byt cs := fun c hc => ⟨(B c hc).1, lat_of h c hc⟩
end Jvm.Own
namespace Jvm.Own
theorem lt65536 {c : Int32} (h : ¬ (255 : Int32) < c) : c < 65536 := by
  simp only [Int32.lt_iff_toInt_lt, Int32.reduceToInt] at *; omega
end Jvm.Own
namespace Jvm.Own
open Sem ClassFile Op Lib Bundle Jvm.Stand Jvm.Free Jvm.LawKit Jvm.RoadKit
/-! ## more calls: through an interface, private, over a nest-mate's entry, natives; switches; class constants -/
section Rules3
variable {p : Program} {l : Launch} {e : Env} {R : Room} {s : State} {m : MethodId} {args : Array Value} {below : List Frame} {meth : Method} {c : Code} {Z : State} {a0 : Array Value} {EL : List (String × Nat)} {own : String} {bytes : ByteArray} {maxL : Nat} {ret : Option FieldType} {nm : String}
  {ws : List Addr} {h : Heap} {cells slots : Nat} {pc pc' : Nat} {Ls Ls' : Array Slot} {st st' rest : List Value} {Q Q' : Option Value → Heap → List Addr → Prop}
theorem go_interface {idx cnt W : Nat} {y z : MethodName} {C0 : String} {bY : ByteArray} {mY : Nat} {rY : Option FieldType} {rm : Room} {as' : Array Value} {ws0 : List Addr} {argsL : List Value} {a : Addr} (hd : decode bytes pc = .ok (.invokeinterface idx cnt, 5)) (hM : Con l Z EL z bY mY rY [] rm as' h ws0 Q) (hs : ∀ x ∈ ws0, x ∈ ws) (E0 : Exa Z h a C0)
    (w1 : (Cond.methodLink own idx y).before a0 Z = true) (w2 : (Cond.declares y).before a0 Z = true) (w7 : (Cond.interfaceMethod y.cls y.cls y.name y.desc).before a0 Z = true) (k7 : ((Cond.interfaceMethod y.cls y.cls y.name y.desc).onTables && (Cond.interfaceMethod y.cls y.cls y.name y.desc).keepsFace) = true) (w5 : (Cond.selects C0 y z).before a0 Z = true) (w6 : (Cond.instanceMethod z).before a0 Z = true) (w8 : (Cond.publicMethod z).before a0 Z = true) (w9 : (Cond.unhidden C0 y.name y.desc).before a0 Z = true) (w10 : (Cond.castable C0 y.cls).before a0 Z = true) (w3 : (Cond.initialized z.cls).before a0 Z = true) (w4 : (Cond.code z bY mY rY).before a0 Z = true) (hy : y.cls ≠ "java/lang/invoke/MethodHandle" ∧ y.cls ≠ "java/lang/invoke/VarHandle")
    (hlen : ∀ sig, parseMethodDescriptor y.desc = some sig → argsL.length = sig.parameters.length) (has : (Value.ref a :: argsL).toArray = as') (hst : st = argsL.reverse ++ .ref a :: rest) (hsz : Ls.size = maxL) (hW : (rest.map fun v => v.category).sum ≤ W) (hf : rm.frames + 1 ≤ R.frames) (hlo : W + (mY + 11) + rm.locals ≤ R.locals) (hc : cells + rm.cells ≤ R.cells) (hl : slots + rm.slots ≤ R.slots) (hp : pc + 5 = pc')
    (nx : ∀ v h' ws', Q v h' ws' → h.size ≤ h'.size → Go p l e R s m args below meth c Z a0 EL own bytes maxL ret nm (ws' ++ ws) h' (cells + rm.cells) (slots + rm.slots) pc' Ls (v.toList ++ rest) Q') :
    Go p l e R s m args below meth c Z a0 EL own bytes maxL ret nm ws h cells slots pc Ls st Q' := fun K T P => by
  obtain ⟨vm0, k0, locs, X, eT, hS, hk, hZ, hown, N, I, C, r⟩ := P
  subst hst hp
  obtain ⟨cB, kB, i1, i2, i3⟩ := isOf (s := s.setVm vm0) hZ eT E0
  obtain ⟨v, vm₁, B, hW1, X', h2, hgr, hpost, hsteps⟩ := X.interfaceBackS K.1 hown (mvT (s := s.setVm vm0) hZ w1) (mvT (s := s.setVm vm0) hZ w2) (mvT (s := s.setVm vm0) hZ w7 k7) (mvT (s := s.setVm vm0) hZ w5) (mvT (s := s.setVm vm0) hZ w6) (mvT (s := s.setVm vm0) hZ w8) (mvT (s := s.setVm vm0) hZ w9) (mvT (s := s.setVm vm0) hZ w10) hy (backC (W := W) hM hZ w4 w3 hf hlo K.2.2.2.2.2.2 I hs) i1 i2 i3 (g := mkF m pc Ls (argsL.reverse ++ .ref a :: rest)) rfl (hsz.trans K.2.2.1.symm) (Steps.refl _) hlen rfl (by show 2 * 0 + _ ≤ _; omega) (hb K.2.1 hd) (fun _ _ => ⟨has, eT, hc, hl⟩)
  exact go_after K eT hS hk hZ hown N C hc hl X' h2 hgr hpost hsteps (nx v)
theorem go_private {idx W : Nat} {y : MethodName} {C0 : String} {bY : ByteArray} {mY : Nat} {rY : Option FieldType} {rm : Room} {as' : Array Value} {ws0 : List Addr} {argsL : List Value} {a : Addr} (hd : decode bytes pc = .ok (.invokevirtual idx, 3)) (hM : Con l Z EL y bY mY rY [] rm as' h ws0 Q) (hs : ∀ x ∈ ws0, x ∈ ws) (E0 : Exa Z h a C0)
    (w1 : (Cond.methodLink own idx y).before a0 Z = true) (w6 : (Cond.instanceMethod y).before a0 Z = true) (w5 : (Cond.selects y.cls y y).before a0 Z = true) (w7 : (Cond.privateMethod y).before a0 Z = true) (w3 : (Cond.initialized y.cls).before a0 Z = true) (w4 : (Cond.code y bY mY rY).before a0 Z = true) (hy : y.cls ≠ "java/lang/invoke/MethodHandle" ∧ y.cls ≠ "java/lang/invoke/VarHandle")
    (hlen : ∀ sig, parseMethodDescriptor y.desc = some sig → argsL.length = sig.parameters.length) (has : (Value.ref a :: argsL).toArray = as') (hst : st = argsL.reverse ++ .ref a :: rest) (hsz : Ls.size = maxL) (hW : (rest.map fun v => v.category).sum ≤ W) (hf : rm.frames + 1 ≤ R.frames) (hlo : W + (mY + 11) + rm.locals ≤ R.locals) (hc : cells + rm.cells ≤ R.cells) (hl : slots + rm.slots ≤ R.slots) (hp : pc + 3 = pc')
    (nx : ∀ v h' ws', Q v h' ws' → h.size ≤ h'.size → Go p l e R s m args below meth c Z a0 EL own bytes maxL ret nm (ws' ++ ws) h' (cells + rm.cells) (slots + rm.slots) pc' Ls (v.toList ++ rest) Q') :
    Go p l e R s m args below meth c Z a0 EL own bytes maxL ret nm ws h cells slots pc Ls st Q' := fun K T P => by
  obtain ⟨vm0, k0, locs, X, eT, hS, hk, hZ, hown, N, I, C, r⟩ := P
  subst hst hp
  obtain ⟨cell, hcell, hobj⟩ := E0.cell
  have hpr : (s.setVm vm0).PrivateAt y := Cond.privateMethod_at (mvP (args := #[]) (s := s.setVm vm0) hZ w7)
  obtain ⟨v, vm₁, B, hW1, X', h2, hgr, hpost, hsteps⟩ := X.privateBackS K.1 hown (mvT (s := s.setVm vm0) hZ w1) (mvT (s := s.setVm vm0) hZ w6) (mvT (s := s.setVm vm0) hZ w5) hpr (mvT (s := s.setVm vm0) hZ w4) hy (backC (W := W) hM hZ w4 w3 hf hlo K.2.2.2.2.2.2 I hs) (g := mkF m pc Ls (argsL.reverse ++ .ref a :: rest)) rfl (hsz.trans K.2.2.1.symm) (Steps.refl _) (a := a) (cell := cell) (by rw [eT]; exact hcell) hobj hlen rfl (by show 2 * 0 + _ ≤ _; omega) (hb K.2.1 hd) (fun _ _ => ⟨has, eT, hc, hl⟩)
  exact go_after K eT hS hk hZ hown N C hc hl X' h2 hgr hpost hsteps (nx v)
theorem go_specialN {idx W : Nat} {host : String} {y : MethodName} {bY : ByteArray} {mY : Nat} {rm : Room} {as' : Array Value} {ws0 : List Addr} {argsL : List Value} {a : Addr} (hd : decode bytes pc = .ok (.invokespecial idx, 3)) (hM : Con l Z EL y bY mY none [] rm as' h ws0 Q) (hs : ∀ x ∈ ws0, x ∈ ws) (hy1 : y.name = "<init>")
    (w1 : (Cond.methodLinkNest own idx y host).before a0 Z = true) (w2 : (Cond.instanceMethod y).before a0 Z = true) (w3 : (Cond.initialized y.cls).before a0 Z = true) (w4 : (Cond.code y bY mY none).before a0 Z = true) (hy : y.cls ≠ "java/lang/invoke/MethodHandle" ∧ y.cls ≠ "java/lang/invoke/VarHandle")
    (hlen : ∀ sig, parseMethodDescriptor y.desc = some sig → argsL.length = sig.parameters.length) (has : (Value.ref a :: argsL).toArray = as') (hst : st = argsL.reverse ++ .ref a :: rest) (hsz : Ls.size = maxL) (hW : (rest.map fun v => v.category).sum ≤ W) (hf : rm.frames + 1 ≤ R.frames) (hlo : W + (mY + 11) + rm.locals ≤ R.locals) (hc : cells + rm.cells ≤ R.cells) (hl : slots + rm.slots ≤ R.slots) (hp : pc + 3 = pc')
    (nx : ∀ v h' ws', Q v h' ws' → h.size ≤ h'.size → Go p l e R s m args below meth c Z a0 EL own bytes maxL ret nm (ws' ++ ws) h' (cells + rm.cells) (slots + rm.slots) pc' Ls (v.toList ++ rest) Q') :
    Go p l e R s m args below meth c Z a0 EL own bytes maxL ret nm ws h cells slots pc Ls st Q' := fun K T P => by
  obtain ⟨vm0, k0, locs, X, eT, hS, hk, hZ, hown, N, I, C, r⟩ := P
  subst hst hp
  have w1' : (Cond.methodLinkNest own idx y host).before args (s.setVm vm0) = true := (Cond.methodLinkNest_wide (s := Z) (vm' := vm0) hZ w1 :)
  obtain ⟨v, vm₁, B, hW1, X', h2, hgr, hpost, hsteps⟩ := X.specialBackNestS K.1 hy1 hown w1' (mvT (s := s.setVm vm0) hZ w2) (mvT (s := s.setVm vm0) hZ w4) hy (backC (W := W) hM hZ w4 w3 hf hlo K.2.2.2.2.2.2 I hs) (g := mkF m pc Ls (argsL.reverse ++ .ref a :: rest)) rfl (hsz.trans K.2.2.1.symm) (Steps.refl _) hlen rfl (by show 2 * 0 + _ ≤ _; omega) (hb K.2.1 hd) (fun _ _ => ⟨has, eT, hc, hl⟩)
  exact go_after K eT hS hk hZ hown N C hc hl X' h2 hgr hpost hsteps (nx v)
/-- System.arraycopy into a new array -/
theorem go_arraycopy {idx W : Nat} {a b : Addr} {k k' : ClassId} {ty ty' : FieldType} {z z' sp dp nn : Int32} {vs vd us : List Value} {dv dd : Value} (hd : decode bytes pc = .ok (.invokestatic idx, 3)) (w1 : (Cond.methodLink own idx Jvm.Stand.acN).before a0 Z = true) (w2 : (Cond.native Jvm.Stand.acN).before a0 Z = true) (w3 : (Cond.static Jvm.Stand.acN).before a0 Z = true) (w4 : (Cond.initialized "java/lang/System").before a0 Z = true)
    (A : Arv Z h a k ty z vs dv) (B : Arv Z h b k' ty' z' vd dd) (hty : (ty = ty' ∧ refKind ty = false) ∨ (refKind ty = true ∧ refKind ty' = true ∧ StoL Z h b us)) (h1 : ¬ sp < 0) (h2 : ¬ dp < 0) (h3 : ¬ nn < 0) (h4 : sp.toNatClampNeg + nn.toNatClampNeg ≤ z.toNatClampNeg) (h5 : dp.toNatClampNeg + nn.toNatClampNeg ≤ z'.toNatClampNeg)
    (hus : us = (List.range nn.toNatClampNeg).map fun i => vs.getD (sp.toNatClampNeg + i) dv) (hl : dp.toNatClampNeg + nn.toNatClampNeg ≤ vd.length) (hb' : b ∈ ws) (hsz : Ls.size = maxL) (hf : 1 ≤ R.frames) (hW : (rest.map fun v => v.category).sum ≤ W) (hlo : W + (nativeFrameWords "java/lang/System" "arraycopy" 5 + 11) ≤ R.locals) (hp : pc + 3 = pc')
    (nx : ∀ h', Keep h h' [b] → Arv Z h' b k' ty' z' (vd.take dp.toNatClampNeg ++ us ++ vd.drop (dp.toNatClampNeg + nn.toNatClampNeg)) dd → Go p l e R s m args below meth c Z a0 EL own bytes maxL ret nm ws h' cells slots pc' Ls rest Q) :
    Go p l e R s m args below meth c Z a0 EL own bytes maxL ret nm ws h cells slots pc Ls (.int nn :: .int dp :: .ref b :: .int sp :: .ref a :: rest) Q := fun K T P => by
  obtain ⟨vm0, k0, locs, X, eT, hS, hk, hZ, hown, N, I, C, r⟩ := P
  obtain ⟨T', h', L, X', e', N', K', A', stp⟩ := cpA X K.1 hZ hown w1 w2 w3 w4 eT A B hty h1 h2 h3 h4 h5 hus hl N (I.2.2 b hb').1 (g := mkF m pc Ls (.int nn :: .int dp :: .ref b :: .int sp :: .ref a :: rest)) rfl (hsz.trans K.2.2.1.symm) rfl (hb K.2.1 hd) hf (W := W) (by show 2 * 0 + _ ≤ _; omega) hlo
  subst hp
  have S1 : ∀ x ∈ [b], x ∈ ws := allS hb' all0
  obtain ⟨u, S2, E⟩ := nx h' K' A' K T' ⟨vm0, k0, L, X', e', hS, Nat.le_trans hk K'.1, hZ, hown, N', I.keep K' S1, C.trans (CHr.keep K' (fun x hx => (I.2.2 x (S1 x hx)).2.2) I.1), r⟩
  exact ⟨u, stp _ S2, E⟩
theorem go_getClass {idx W : Nat} {a mr : Addr} {C0 : String} (hd : decode bytes pc = .ok (.invokevirtual idx, 3)) (w1 : (Cond.methodLink own idx ⟨"java/lang/Object", "getClass", "()Ljava/lang/Class;"⟩).before a0 Z = true) (w2 : (Cond.declares ⟨"java/lang/Object", "getClass", "()Ljava/lang/Class;"⟩).before a0 Z = true) (w3 : (Cond.noSuperclass "java/lang/Object").before a0 Z = true) (w4 : (Cond.selects C0 ⟨"java/lang/Object", "getClass", "()Ljava/lang/Class;"⟩ ⟨"java/lang/Object", "getClass", "()Ljava/lang/Class;"⟩).before a0 Z = true)
    (w5 : (Cond.instanceMethod ⟨"java/lang/Object", "getClass", "()Ljava/lang/Class;"⟩).before a0 Z = true) (w6 : (Cond.native ⟨"java/lang/Object", "getClass", "()Ljava/lang/Class;"⟩).before a0 Z = true) (E0 : Exa Z h a C0) (M : Mir Z C0 mr) (hsz : Ls.size = maxL) (hf : 1 ≤ R.frames) (hW : (rest.map fun v => v.category).sum ≤ W) (hlo : W + (nativeFrameWords "java/lang/Object" "getClass" 1 + 11) ≤ R.locals) (hp : pc + 3 = pc')
    (nx : Go p l e R s m args below meth c Z a0 EL own bytes maxL ret nm ws h cells slots pc' Ls (.ref mr :: rest) Q) : Go p l e R s m args below meth c Z a0 EL own bytes maxL ret nm ws h cells slots pc Ls (.ref a :: rest) Q := fun K T P => by
  obtain ⟨vm0, k0, locs, X, eT, hS, hk, hZ, hown, N, I, C, r⟩ := P
  obtain ⟨T', X', e', stp⟩ := gcls X K.1 hZ hown w1 w2 w3 w4 w5 w6 eT E0 M (g := mkF m pc Ls (.ref a :: rest)) rfl (hsz.trans K.2.2.1.symm) rfl (hb K.2.1 hd) hf (W := W) (by show 2 * 0 + _ ≤ _; omega) hlo
  subst hp
  obtain ⟨u, S2, E⟩ := nx K T' ⟨vm0, k0, locs, X', e', hS, hk, hZ, hown, N, I, C, r⟩
  exact ⟨u, stp _ S2, E⟩
theorem go_ldcClass {idx : Nat} {C0 : String} {mr : Addr} (hd : decode bytes pc = .ok (.ldc idx, 2)) (w : (Cond.classLink own idx C0).before a0 Z = true) (M : Mir Z C0 mr) (hp : pc + 2 = pc')
    (nx : Go p l e R s m args below meth c Z a0 EL own bytes maxL ret nm ws h cells slots pc' Ls (.ref mr :: st) Q) : Go p l e R s m args below meth c Z a0 EL own bytes maxL ret nm ws h cells slots pc Ls st Q := fun K T P => by
  obtain ⟨vm0, k0, locs, X, eT, hS, hk, hZ, hown, N, I, C, r⟩ := P
  obtain ⟨cc, kc, m1, m2, m3, -⟩ := M
  obtain ⟨k', q, ek⟩ := hZ.alike.2.2 _ _ m2
  have hev : (Term.mirror C0).eval args (s.setVm vm0) none [] (s.setVm vm0) = some (.ref mr) := by
    have f1 : vm0.findClass C0 = some cc := by rw [hZ.alike.findClass]; exact m1
    have f2 : vm0.classes[cc]? = some k' := q
    have f0 : (s.setVm vm0).vm = vm0 := rfl
    have f3 : k'.mirror = some mr := by rw [ek]; exact m3
    simp [Term.eval, f0, f1, f2, f3]
  obtain ⟨vm', X', stp⟩ := X.ldcMirror K.1 hown (mvT (s := s.setVm vm0) hZ w) hev (g := mkF m pc Ls st) rfl (hb K.2.1 hd)
  subst hp
  obtain ⟨u, S2, E⟩ := nx K (T.setVm vm') ⟨vm0, k0, locs, X', eT, hS, hk, hZ, hown, N, I, C, r⟩
  exact ⟨u, stp _ S2, E⟩
theorem g_tswIn {dflt low high o : Int} {offs : Array Int} {len : Nat} {i : Int32} (hd : decode bytes pc = .ok (.tableswitch dflt low high offs, len)) (hin : ¬ (i.toInt < low ∨ i.toInt > high)) (hoff : offs[(i.toInt - low).toNat]? = some o) (ho : 0 ≤ (pc : Int) + o) (hp : ((pc : Int) + o).toNat = pc')
    (n : Go p l e R s m args below meth c Z a0 EL own bytes maxL ret nm ws h cells slots pc' Ls rest Q) : Go p l e R s m args below meth c Z a0 EL own bytes maxL ret nm ws h cells slots pc Ls (.int i :: rest) Q :=
  go_step (fun hx q _ A _ k => XS.tswIn A hx rfl rfl (hb q hd) rfl hin hoff ho hp k) n
theorem g_tswOut {dflt low high : Int} {offs : Array Int} {len : Nat} {i : Int32} (hd : decode bytes pc = .ok (.tableswitch dflt low high offs, len)) (hout : i.toInt < low ∨ i.toInt > high) (ho : 0 ≤ (pc : Int) + dflt) (hp : ((pc : Int) + dflt).toNat = pc')
    (n : Go p l e R s m args below meth c Z a0 EL own bytes maxL ret nm ws h cells slots pc' Ls rest Q) : Go p l e R s m args below meth c Z a0 EL own bytes maxL ret nm ws h cells slots pc Ls (.int i :: rest) Q :=
  go_step (fun hx q _ A _ k => XS.tswOut A hx rfl rfl (hb q hd) rfl hout ho hp k) n
theorem g_lswHit {dflt a off : Int} {prs : Array (Int × Int)} {len : Nat} {i : Int32} (hd : decode bytes pc = .ok (.lookupswitch dflt prs, len)) (hsorted : (prs.toList.zip (prs.toList.drop 1)).all (fun (a, next) => a.1 < next.1) = true) (hfind : prs.find? (·.1 == i.toInt) = some (a, off)) (ho : 0 ≤ (pc : Int) + off) (hp : ((pc : Int) + off).toNat = pc')
    (n : Go p l e R s m args below meth c Z a0 EL own bytes maxL ret nm ws h cells slots pc' Ls rest Q) : Go p l e R s m args below meth c Z a0 EL own bytes maxL ret nm ws h cells slots pc Ls (.int i :: rest) Q := fun K T P => by
  obtain ⟨u, S2, E⟩ := n K T P
  obtain ⟨vm0, k0, locs, X, -⟩ := P
  subst hp
  exact ⟨u, X.lookupswitchHit K.1 (g := mkF m pc Ls (.int i :: rest)) rfl rfl (hb K.2.1 hd) hsorted hfind ho _ S2, E⟩
theorem g_lswMiss {dflt : Int} {prs : Array (Int × Int)} {len : Nat} {i : Int32} (hd : decode bytes pc = .ok (.lookupswitch dflt prs, len)) (hsorted : (prs.toList.zip (prs.toList.drop 1)).all (fun (a, next) => a.1 < next.1) = true) (hfind : prs.find? (·.1 == i.toInt) = none) (ho : 0 ≤ (pc : Int) + dflt) (hp : ((pc : Int) + dflt).toNat = pc')
    (n : Go p l e R s m args below meth c Z a0 EL own bytes maxL ret nm ws h cells slots pc' Ls rest Q) : Go p l e R s m args below meth c Z a0 EL own bytes maxL ret nm ws h cells slots pc Ls (.int i :: rest) Q := fun K T P => by
  obtain ⟨u, S2, E⟩ := n K T P
  obtain ⟨vm0, k0, locs, X, -⟩ := P
  subst hp
  exact ⟨u, X.lookupswitchMiss K.1 (g := mkF m pc Ls (.int i :: rest)) rfl rfl (hb K.2.1 hd) hsorted hfind ho _ S2, E⟩
end Rules3
end Jvm.Own
namespace Jvm.Own
open Sem ClassFile Op Lib Bundle Jvm.Stand Jvm.Free Jvm.LawKit Jvm.RoadKit
/-! ## calls to a superclass's method; an array's clone -/
section Rules4
variable {p : Program} {l : Launch} {e : Env} {R : Room} {s : State} {m : MethodId} {args : Array Value} {below : List Frame} {meth : Method} {c : Code} {Z : State} {a0 : Array Value} {EL : List (String × Nat)} {own : String} {bytes : ByteArray} {maxL : Nat} {ret : Option FieldType} {nm : String}
  {ws : List Addr} {h : Heap} {cells slots : Nat} {pc pc' : Nat} {Ls Ls' : Array Slot} {st st' rest : List Value} {Q Q' : Option Value → Heap → List Addr → Prop}
theorem go_super {idx W : Nat} {y : MethodName} {K0 : String} {bY : ByteArray} {mY : Nat} {rY : Option FieldType} {rm : Room} {as' : Array Value} {ws0 : List Addr} {argsL : List Value} {a : Addr} (hd : decode bytes pc = .ok (.invokespecial idx, 3)) (hM : Con l Z EL y bY mY rY [] rm as' h ws0 Q) (hs : ∀ x ∈ ws0, x ∈ ws) (F : Ins Z h a K0 true)
    (w1 : (Cond.methodLink own idx y).before a0 Z = true) (w2 : (Cond.sameMethod y.cls y.cls y.name y.desc).before a0 Z = true) (w6 : (Cond.instanceMethod y).before a0 Z = true) (w7 : (Cond.superclass own y.cls).before a0 Z = true) (w3 : (Cond.initialized y.cls).before a0 Z = true) (w4 : (Cond.code y bY mY rY).before a0 Z = true) (hn : y.name ≠ "<init>")
    (hlen : ∀ sig, parseMethodDescriptor y.desc = some sig → argsL.length = sig.parameters.length) (has : (Value.ref a :: argsL).toArray = as') (hst : st = argsL.reverse ++ .ref a :: rest) (hsz : Ls.size = maxL) (hW : (rest.map fun v => v.category).sum ≤ W) (hf : rm.frames + 1 ≤ R.frames) (hlo : W + (mY + 11) + rm.locals ≤ R.locals) (hc : cells + rm.cells ≤ R.cells) (hl : slots + rm.slots ≤ R.slots) (hp : pc + 3 = pc')
    (nx : ∀ v h' ws', Q v h' ws' → h.size ≤ h'.size → Go p l e R s m args below meth c Z a0 EL own bytes maxL ret nm (ws' ++ ws) h' (cells + rm.cells) (slots + rm.slots) pc' Ls (v.toList ++ rest) Q') :
    Go p l e R s m args below meth c Z a0 EL own bytes maxL ret nm ws h cells slots pc Ls st Q' := fun K T P => by
  obtain ⟨vm0, k0, locs, X, eT, hS, hk, hZ, hown, N, I, C, r⟩ := P
  subst hst hp
  obtain ⟨v, vm₁, B, hW1, X', h2, hgr, hpost, hsteps⟩ := superBackS X K.1 hZ hown w1 w2 w6 w7 hn (backC (W := W) hM hZ w4 w3 hf hlo K.2.2.2.2.2.2 I hs) eT F (g := mkF m pc Ls (argsL.reverse ++ .ref a :: rest)) rfl (hsz.trans K.2.2.1.symm) w4 hlen rfl (by show 2 * 0 + _ ≤ _; omega) (hb K.2.1 hd) (fun _ _ => ⟨has, eT, hc, hl⟩)
  exact go_after K eT hS hk hZ hown N C hc hl X' h2 hgr hpost hsteps (nx v)
theorem go_up {idx W : Nat} {x z : MethodName} {C0 owner : String} {bY : ByteArray} {mY : Nat} {rY : Option FieldType} {rm : Room} {as' : Array Value} {ws0 : List Addr} {argsL : List Value} {a : Addr} (hd : decode bytes pc = .ok (.invokevirtual idx, 3)) (hM : Con l Z EL z bY mY rY [] rm as' h ws0 Q) (hs : ∀ x ∈ ws0, x ∈ ws) (E0 : Exa Z h a C0)
    (w1 : (Cond.methodLink own idx x).before a0 Z = true) (w2 : (Cond.sameMethod x.cls owner x.name x.desc).before a0 Z = true) (w7 : (Cond.declares ⟨owner, x.name, x.desc⟩).before a0 Z = true) (hy : owner ≠ "java/lang/invoke/MethodHandle" ∧ owner ≠ "java/lang/invoke/VarHandle") (w5 : (Cond.selects C0 x z).before a0 Z = true) (w6 : (Cond.instanceMethod z).before a0 Z = true) (w3 : (Cond.initialized z.cls).before a0 Z = true) (w4 : (Cond.code z bY mY rY).before a0 Z = true)
    (hlen : ∀ sig, parseMethodDescriptor x.desc = some sig → argsL.length = sig.parameters.length) (has : (Value.ref a :: argsL).toArray = as') (hst : st = argsL.reverse ++ .ref a :: rest) (hsz : Ls.size = maxL) (hW : (rest.map fun v => v.category).sum ≤ W) (hf : rm.frames + 1 ≤ R.frames) (hlo : W + (mY + 11) + rm.locals ≤ R.locals) (hc : cells + rm.cells ≤ R.cells) (hl : slots + rm.slots ≤ R.slots) (hp : pc + 3 = pc')
    (nx : ∀ v h' ws', Q v h' ws' → h.size ≤ h'.size → Go p l e R s m args below meth c Z a0 EL own bytes maxL ret nm (ws' ++ ws) h' (cells + rm.cells) (slots + rm.slots) pc' Ls (v.toList ++ rest) Q') :
    Go p l e R s m args below meth c Z a0 EL own bytes maxL ret nm ws h cells slots pc Ls st Q' := fun K T P => by
  obtain ⟨vm0, k0, locs, X, eT, hS, hk, hZ, hown, N, I, C, r⟩ := P
  subst hst hp
  obtain ⟨cB, kB, i1, i2, i3⟩ := isOf (s := s.setVm vm0) hZ eT E0
  obtain ⟨v, vm₁, B, hW1, X', h2, hgr, hpost, hsteps⟩ := X.virtualBackUpS K.1 hown (mvT (s := s.setVm vm0) hZ w1) (mvT (s := s.setVm vm0) hZ w2) (mvT (s := s.setVm vm0) hZ w7) hy (mvT (s := s.setVm vm0) hZ w5) (mvT (s := s.setVm vm0) hZ w6) (backC (W := W) hM hZ w4 w3 hf hlo K.2.2.2.2.2.2 I hs) i1 i3 (g := mkF m pc Ls (argsL.reverse ++ .ref a :: rest)) rfl (hsz.trans K.2.2.1.symm) (Steps.refl _) hlen rfl (by show 2 * 0 + _ ≤ _; omega) (hb K.2.1 hd) (fun _ _ => ⟨has, eT, hc, hl⟩)
  exact go_after K eT hS hk hZ hown N C hc hl X' h2 hgr hpost hsteps (nx v)
theorem go_clone {idx W cap : Nat} {ad : String} {a : Addr} {k : ClassId} {ty : FieldType} {z : Int32} {vs : List Value} {dv : Value} (hd : decode bytes pc = .ok (.invokevirtual idx, 3))
    (w1 : (Cond.methodLink own idx ⟨ad, "clone", "()Ljava/lang/Object;"⟩).before a0 Z = true) (w2 : (Cond.sameMethod ad "java/lang/Object" "clone" "()Ljava/lang/Object;").before a0 Z = true) (w3 : (Cond.native ⟨"java/lang/Object", "clone", "()Ljava/lang/Object;"⟩).before a0 Z = true)
    (w4 : (Cond.instanceMethod ⟨"java/lang/Object", "clone", "()Ljava/lang/Object;"⟩).before a0 Z = true) (w5 : (Cond.selects ad ⟨ad, "clone", "()Ljava/lang/Object;"⟩ ⟨"java/lang/Object", "clone", "()Ljava/lang/Object;"⟩).before a0 Z = true) (w6 : (Cond.castable ad "java/lang/Cloneable").before a0 Z = true)
    (F : Arv Z h a k ty z vs dv) (E0 : Exa Z h a ad) (hsz : Ls.size = maxL) (hf : 1 ≤ R.frames) (hW : (rest.map fun v => v.category).sum ≤ W) (hlo : W + 14 ≤ R.locals) (hcap : z.toNatClampNeg ≤ cap) (hc : cells + 1 ≤ R.cells) (hl : slots + cap ≤ R.slots) (hp : pc + 3 = pc')
    (nx : ∀ h' b, b = h.size → Ext h h' → Arv Z h' b k ty z vs dv → Exa Z h' b ad → Go p l e R s m args below meth c Z a0 EL own bytes maxL ret nm (b :: ws) h' (cells + 1) (slots + cap) pc' Ls (.ref b :: rest) Q) : Go p l e R s m args below meth c Z a0 EL own bytes maxL ret nm ws h cells slots pc Ls (.ref a :: rest) Q := fun K T P => by
  obtain ⟨vm0, k0, locs, X, eT, hS, hk, hZ, hown, N, I, C, r⟩ := P
  obtain ⟨T', h', X', e', E', A', D, stp⟩ := cloneH X K.1 hZ hown w1 w2 w3 w4 w5 w6 eT F.arh E0 (g := mkF m pc Ls (.ref a :: rest)) rfl (hsz.trans K.2.2.1.symm) rfl (hb K.2.1 hd) hf (W := W) (by show 2 * 0 + _ ≤ _; omega) hlo hcap hc hl
  subst hp
  obtain ⟨u, S2, E⟩ := nx h' h.size rfl E' A' D K T' ⟨vm0, k0, locs, X', e', hS, Nat.le_trans hk E'.1, hZ, hown, N, I.new E' rfl D.lt, C.trans (CHr.ext E' I.1), hc, hl⟩
  exact ⟨u, stp _ S2, E⟩
theorem go_ldc2 {idx : Nat} {z : Int64} (hd : decode bytes pc = .ok (.ldc2_w idx, 3)) (w : (Cond.constantLong own idx z).before a0 Z = true) (hp : pc + 3 = pc')
    (nx : Go p l e R s m args below meth c Z a0 EL own bytes maxL ret nm ws h cells slots pc' Ls (.long z :: st) Q) : Go p l e R s m args below meth c Z a0 EL own bytes maxL ret nm ws h cells slots pc Ls st Q := fun K T P => by
  obtain ⟨u, S2, E⟩ := nx K T P
  obtain ⟨vm0, k0, locs, X, eT, hS, hk, hZ, hown, N, I, C, r⟩ := P
  subst hp
  exact ⟨u, X.ldc2Long K.1 hown (mv (s := s.setVm vm0) hZ w) (g := mkF m pc Ls st) rfl (hb K.2.1 hd) _ S2, E⟩
theorem go_instNull {idx : Nat} (hd : decode bytes pc = .ok (.instanceof idx, 3)) (hp : pc + 3 = pc')
    (nx : Go p l e R s m args below meth c Z a0 EL own bytes maxL ret nm ws h cells slots pc' Ls (.int 0 :: rest) Q) : Go p l e R s m args below meth c Z a0 EL own bytes maxL ret nm ws h cells slots pc Ls (.null :: rest) Q := fun K T P => by
  obtain ⟨u, S2, E⟩ := nx K T P
  obtain ⟨vm0, k0, locs, X, eT, hS, hk, hZ, hown, N, I, C, r⟩ := P
  subst hp
  exact ⟨u, X.instanceofNull K.1 (g := mkF m pc Ls (.null :: rest)) rfl rfl (hb K.2.1 hd) _ S2, E⟩
theorem go_castNull {idx : Nat} (hd : decode bytes pc = .ok (.checkcast idx, 3)) (hp : pc + 3 = pc')
    (nx : Go p l e R s m args below meth c Z a0 EL own bytes maxL ret nm ws h cells slots pc' Ls (.null :: rest) Q) : Go p l e R s m args below meth c Z a0 EL own bytes maxL ret nm ws h cells slots pc Ls (.null :: rest) Q := fun K T P => by
  obtain ⟨u, S2, E⟩ := nx K T P
  obtain ⟨vm0, k0, locs, X, eT, hS, hk, hZ, hown, N, I, C, r⟩ := P
  subst hp
  exact ⟨u, X.checkcastNull K.1 (g := mkF m pc Ls (.null :: rest)) rfl rfl (hb K.2.1 hd) _ S2, E⟩
end Rules4
end Jvm.Own
namespace Jvm.Own
open Sem ClassFile Op Lib Bundle Jvm.Stand Jvm.Free Jvm.LawKit Jvm.RoadKit
/-! ## what the sheet says of the start: arrays and Strings -/
theorem eq_ref {args : Array Value} {s : State} {a b : Term} {x : Addr} (hb : b.eval args s none [] s = some (.ref x)) (h : (Cond.eq a b).value args s none s [] = some true) : a.eval args s none [] s = some (.ref x) := by
  cases ha : a.eval args s none [] s with
  | none => simp [Cond.value, ha, hb] at h
  | some v => cases v <;> simp_all [Cond.value]
theorem el_int {args : Array Value} {s : State} {t : Term} {k : Int32} (h : (Cond.eq t (Term.int k)).value args s none s [] = some true) : t.eval args s none [] s = some (.int k) := Cond.eq_int (Cond.before_iff.mpr h) rfl
def Els (t : Term) (args : Array Value) (s : State) : Nat → List Value → Prop
  | _, [] => True
  | i, v :: r => (Term.elem t (Term.int (Int32.ofNat i))).eval args s none [] s = some v ∧ Els t args s (i + 1) r
theorem Els.at {t : Term} {args : Array Value} {s : State} {dv : Value} : ∀ (vs : List Value) (i : Nat), Els t args s i vs → ∀ j, j < vs.length → (Term.elem t (Term.int (Int32.ofNat (i + j)))).eval args s none [] s = some (vs.getD j dv)
  | [], _, _, _, q => nomatch q
  | _ :: _, _, H, 0, _ => H.1
  | _ :: r, i, H, j + 1, q => by
    have := Els.at (dv := dv) r (i + 1) H.2 j (Nat.lt_of_succ_lt_succ q)
    rw [Nat.add_right_comm] at this; exact this
theorem arv_start {args : Array Value} {s : State} {t : Term} {ty : FieldType} {x : Addr} {n : Int32} {vs : List Value} {dv : Value} (ht : t.eval args s none [] s = some (.ref x)) (ha : (Cond.arrayOf t ty).value args s none s [] = some true) (hl : (Cond.eq (Term.length t) (Term.int n)).value args s none s [] = some true)
    (hz : ¬ n < 0) (hn : n.toNatClampNeg = vs.length) (hN : vs.length ≤ 4000) (H : Els t args s 0 vs) (hf : ∀ v ∈ vs, fits ty v = true) : ∃ k, Arv s s.heap x k ty n vs dv := by
  obtain ⟨c, A⟩ := Arr.start ht ha
  have e := el_int hl
  have hA := Arr.fin (State.Warmed39.refl s).alike A
  have q : c.slots.size < 2 ^ 31 := by
    by_cases q : c.slots.size < 2 ^ 31
    · exact q
    · simp [Term.eval, ht, hA, q] at e
  have e2 := len_f ht hA q
  have e3 : c.slots.size.toInt32 = n := by rw [e2] at e; exact Value.int.inj (Option.some.inj e)
  have S : c.slots.size = n.toNatClampNeg := by rw [← e3]; simp only [Int32.toNatClampNeg, len_toInt q]; rfl
  have L : ∀ j, j < c.slots.size → j < vs.length := fun j hj => by rw [← hn, ← S]; exact hj
  have Hs : Has c vs dv := fun j hj => by
    have r := Els.at (dv := dv) vs 0 H j (L j hj)
    rw [Nat.zero_add] at r
    have z := (elem_in r ht rfl A.1).2
    rw [o_cl (by have := L j hj; omega)] at z; exact z
  refine ⟨c.cls, c, A, rfl, S, hz, Hs, fun i hi => ?_⟩
  have hi' := L i hi
  rw [List.getD, List.getElem?_eq_getElem hi', Option.getD_some]; exact hf _ (List.getElem_mem hi')
theorem lat_start {args : Array Value} {s : State} {t : Term} {a : Addr} {n : Int32} {cs : List Int32} {vs : List Value} (ht : t.eval args s none [] s = some (.ref a)) (X : (Cond.exactly t "java/lang/String").value args s none s [] = some true) (hc : (Cond.eq (Term.field t "java/lang/String" "coder" "B") (Term.int 0)).value args s none s [] = some true)
    (hA : (Cond.arrayOf (Term.field t "java/lang/String" "value" "[B") .byte).value args s none s [] = some true) (hL : (Cond.eq (Term.length (Term.field t "java/lang/String" "value" "[B")) (Term.int n)).value args s none s [] = some true)
    (hv : vs = cs.map by8) (H : Els (Term.field t "java/lang/String" "value" "[B") args s 0 vs) (hcs : n = Int32.ofNat cs.length) (hN : cs.length ≤ 4000) : ∃ b, LatB s s.heap a b cs := by
  obtain ⟨b, hb⟩ := arr_v hA
  have hb' := (fld_at ht).symm.trans hb
  obtain ⟨k, A⟩ := arv_start (dv := .int 0) hb hA hL (by rw [hcs]; exact o_nn (by omega)) (by rw [hcs, o_cl (by omega), hv, List.length_map]) (by rw [hv, List.length_map]; exact hN) H (fun v q => by rw [hv] at q; obtain ⟨c, -, rfl⟩ := List.mem_map.mp q; exact fits_by8 c)
  exact ⟨b, LatB.mk (Exa.start ht X) (Fld.start (fld_eq ht hc)) (Fld.start hb') A hcs hv⟩
theorem LatB.same {Z : State} {h : Heap} {a b b' : Addr} {cs ds : List Int32} (F : LatB Z h a b cs) (G : LatB Z h a b' ds) (hB : Byt cs) (hD : Byt ds) (hN : cs.length ≤ 4000) (hM : ds.length ≤ 4000) : cs = ds := by
  obtain ⟨-, -, F3, k1, A1⟩ := F
  obtain ⟨-, -, G3, k2, A2⟩ := G
  have e : (Value.ref b) = .ref b' := Decidable.byContradiction fun q => Fld.ne F3 G3 q rfl
  have e' : b = b' := Value.ref.inj e
  subst e'
  obtain ⟨c1, a1, -, s1, -, H1, -⟩ := A1
  obtain ⟨c2, a2, -, s2, -, H2, -⟩ := A2
  cases a1.1.symm.trans a2.1
  rw [o_cl (by omega)] at s1 s2
  refine list_ext_getD (s1.symm.trans s2) fun i hi => ?_
  have q := (H1 i (by omega)).symm.trans (H2 i (by omega))
  rw [map8_getD, map8_getD] at q
  exact by8_inj (hB.at i).1 (hB.at i).2 (hD.at i).1 (hD.at i).2 (Value.int.inj (Option.some.inj q))
theorem Byt.set {cs : List Int32} {c : Int32} (B : Byt cs) (q : ¬ c < 0 ∧ ¬ (255 : Int32) < c) (j : Nat) : Byt (cs.set j c) := fun y hy => by
  rcases List.mem_or_eq_of_mem_set hy with r | r
  · exact B y r
  · rw [r]; exact q
theorem Byt.rep (n : Nat) : Byt (List.replicate n (0 : Int32)) := fun y hy => by
  rw [(List.mem_replicate.mp hy).2]; exact ⟨by decide, by decide⟩
theorem bytL (x : Int64) : ¬ (x &&& (255 : Int64)).toInt32.toUInt32.toUInt16.toUInt32.toInt32 < 0 ∧ ¬ (255 : Int32) < (x &&& (255 : Int64)).toInt32.toUInt32.toUInt16.toUInt32.toInt32 := by
  have a := c_maskL x 255 8 (by decide) (by decide)
  have b := c_l2i (x &&& 255)
  have c := c_i2c (x &&& (255 : Int64)).toInt32
  have r := rng32 (x &&& (255 : Int64)).toInt32
  have e8 : ((2 : Nat) ^ 8 : Nat) = 256 := rfl
  rw [e8] at a
  simp only [Int32.lt_iff_toInt_lt, Int32.reduceToInt]; omega
/-- a number below n -/
theorem rem_nat (x : Int32) (m : Int32) {n : Nat} (hm : m.toInt = (n : Int)) (h0 : 0 < n) (h1 : n < 2147483648) : ∃ j, j < n ∧ (x &&& (2147483647 : Int32)) % m = Int32.ofNat j := by
  have h := c_and x 2147483647 (by decide)
  have q := (c_iremV (x &&& 2147483647) m).1 h.1 (by omega)
  refine ⟨((x &&& (2147483647 : Int32)) % m).toInt.toNat, ?_, ?_⟩
  · omega
  · apply Int32.toInt_inj.mp; rw [o_int (by omega)]; omega
end Jvm.Own
namespace Jvm.Pilot.@@N@@
open Jvm Jvm.ClassFile Sem Op Lib Jvm.Free Jvm.Stand Jvm.LawKit Jvm.RoadKit Bundle Jvm.Own Jvm.Pilot.@@N@@.Jvm.D
theorem w0 {Z : State} {a0 : Array Value} (hw : ∀ d ∈ tables_1, d.before a0 Z = true) : ((Jvm.Cond.methodLink "com/example/plugwright/plugwright/platform/AttributeFitsPinLaw" (7 : Nat) ({ cls := "com/example/plugwright/plugwright/platform/AttributeFitsPinLaw", name := "pick", desc := "(I)Lcom/example/plugwright/plugwright/platform/Attribute;" } : Jvm.MethodName))).before a0 Z = true := hw _ (List.mem_of_getElem? (i := 0) rfl)
theorem w1 {Z : State} {a0 : Array Value} (hw : ∀ d ∈ tables_1, d.before a0 Z = true) : ((Jvm.Cond.static ({ cls := "com/example/plugwright/plugwright/platform/AttributeFitsPinLaw", name := "pick", desc := "(I)Lcom/example/plugwright/plugwright/platform/Attribute;" } : Jvm.MethodName))).before a0 Z = true := hw _ (List.mem_of_getElem? (i := 1) rfl)
theorem w2 {Z : State} {a0 : Array Value} (hw : ∀ d ∈ tables_1, d.before a0 Z = true) : ((Jvm.Cond.initialized "com/example/plugwright/plugwright/platform/AttributeFitsPinLaw")).before a0 Z = true := hw _ (List.mem_of_getElem? (i := 2) rfl)
theorem w3 {Z : State} {a0 : Array Value} (hw : ∀ d ∈ tables_1, d.before a0 Z = true) : ((Jvm.Cond.code ({ cls := "com/example/plugwright/plugwright/platform/AttributeFitsPinLaw", name := "pick", desc := "(I)Lcom/example/plugwright/plugwright/platform/Attribute;" } : Jvm.MethodName) method_3_code (1 : Nat) (Option.some (Jvm.ClassFile.FieldType.object "com/example/plugwright/plugwright/platform/Attribute")))).before a0 Z = true := hw _ (List.mem_of_getElem? (i := 3) rfl)
theorem w4 {Z : State} {a0 : Array Value} (hw : ∀ d ∈ tables_1, d.before a0 Z = true) : ((Jvm.Cond.fieldLink "com/example/plugwright/plugwright/platform/AttributeFitsPinLaw" (39 : Nat) "com/example/plugwright/plugwright/platform/Attribute" "OS" "Lcom/example/plugwright/plugwright/platform/Attribute;")).before a0 Z = true := hw _ (List.mem_of_getElem? (i := 4) rfl)
theorem w5 {Z : State} {a0 : Array Value} (hw : ∀ d ∈ tables_1, d.before a0 Z = true) : ((Jvm.Cond.initialized "com/example/plugwright/plugwright/platform/Attribute")).before a0 Z = true := hw _ (List.mem_of_getElem? (i := 5) rfl)
theorem w6 {Z : State} {a0 : Array Value} (hw : ∀ d ∈ tables_1, d.before a0 Z = true) : ((Jvm.Cond.laysStatic "com/example/plugwright/plugwright/platform/Attribute" "OS" "Lcom/example/plugwright/plugwright/platform/Attribute;")).before a0 Z = true := hw _ (List.mem_of_getElem? (i := 6) rfl)
theorem w7 {Z : State} {a0 : Array Value} (hw : ∀ d ∈ tables_1, d.before a0 Z = true) : ((Jvm.Cond.arrayClass Jvm.ClassFile.FieldType.char)).before a0 Z = true := hw _ (List.mem_of_getElem? (i := 7) rfl)
theorem w8 {Z : State} {a0 : Array Value} (hw : ∀ d ∈ tables_1, d.before a0 Z = true) : ((Jvm.Cond.methodLink "com/example/plugwright/plugwright/platform/AttributeFitsPinLaw" (13 : Nat) ({ cls := "com/example/plugwright/plugwright/platform/AttributeFitsPinLaw", name := "tch", desc := "(JI)C" } : Jvm.MethodName))).before a0 Z = true := hw _ (List.mem_of_getElem? (i := 8) rfl)
theorem w9 {Z : State} {a0 : Array Value} (hw : ∀ d ∈ tables_1, d.before a0 Z = true) : ((Jvm.Cond.static ({ cls := "com/example/plugwright/plugwright/platform/AttributeFitsPinLaw", name := "tch", desc := "(JI)C" } : Jvm.MethodName))).before a0 Z = true := hw _ (List.mem_of_getElem? (i := 9) rfl)
theorem w10 {Z : State} {a0 : Array Value} (hw : ∀ d ∈ tables_1, d.before a0 Z = true) : ((Jvm.Cond.code ({ cls := "com/example/plugwright/plugwright/platform/AttributeFitsPinLaw", name := "tch", desc := "(JI)C" } : Jvm.MethodName) method_4_code (3 : Nat) (Option.some Jvm.ClassFile.FieldType.char))).before a0 Z = true := hw _ (List.mem_of_getElem? (i := 10) rfl)
theorem w11 {Z : State} {a0 : Array Value} (hw : ∀ d ∈ tables_1, d.before a0 Z = true) : ((Jvm.Cond.constantLong "com/example/plugwright/plugwright/platform/AttributeFitsPinLaw" (52 : Nat) (255 : Int64))).before a0 Z = true := hw _ (List.mem_of_getElem? (i := 11) rfl)
theorem w12 {Z : State} {a0 : Array Value} (hw : ∀ d ∈ tables_1, d.before a0 Z = true) : ((Jvm.Cond.methodLink "com/example/plugwright/plugwright/platform/AttributeFitsPinLaw" (17 : Nat) ({ cls := "com/example/plugwright/plugwright/platform/AttributeFitsPinLaw", name := "lch", desc := "(JIC)C" } : Jvm.MethodName))).before a0 Z = true := hw _ (List.mem_of_getElem? (i := 12) rfl)
theorem w13 {Z : State} {a0 : Array Value} (hw : ∀ d ∈ tables_1, d.before a0 Z = true) : ((Jvm.Cond.static ({ cls := "com/example/plugwright/plugwright/platform/AttributeFitsPinLaw", name := "lch", desc := "(JIC)C" } : Jvm.MethodName))).before a0 Z = true := hw _ (List.mem_of_getElem? (i := 13) rfl)
theorem w14 {Z : State} {a0 : Array Value} (hw : ∀ d ∈ tables_1, d.before a0 Z = true) : ((Jvm.Cond.code ({ cls := "com/example/plugwright/plugwright/platform/AttributeFitsPinLaw", name := "lch", desc := "(JIC)C" } : Jvm.MethodName) method_5_code (5 : Nat) (Option.some Jvm.ClassFile.FieldType.char))).before a0 Z = true := hw _ (List.mem_of_getElem? (i := 14) rfl)
theorem w15 {Z : State} {a0 : Array Value} (hw : ∀ d ∈ tables_1, d.before a0 Z = true) : ((Jvm.Cond.constantLong "com/example/plugwright/plugwright/platform/AttributeFitsPinLaw" (54 : Nat) (3 : Int64))).before a0 Z = true := hw _ (List.mem_of_getElem? (i := 15) rfl)
theorem w16 {Z : State} {a0 : Array Value} (hw : ∀ d ∈ tables_1, d.before a0 Z = true) : ((Jvm.Cond.methodLink "com/example/plugwright/plugwright/platform/AttributeFitsPinLaw" (21 : Nat) ({ cls := "com/example/plugwright/plugwright/platform/AttributeFitsPinLaw", name := "mk", desc := "([CI)Ljava/lang/String;" } : Jvm.MethodName))).before a0 Z = true := hw _ (List.mem_of_getElem? (i := 16) rfl)
theorem w17 {Z : State} {a0 : Array Value} (hw : ∀ d ∈ tables_1, d.before a0 Z = true) : ((Jvm.Cond.static ({ cls := "com/example/plugwright/plugwright/platform/AttributeFitsPinLaw", name := "mk", desc := "([CI)Ljava/lang/String;" } : Jvm.MethodName))).before a0 Z = true := hw _ (List.mem_of_getElem? (i := 17) rfl)
theorem w18 {Z : State} {a0 : Array Value} (hw : ∀ d ∈ tables_1, d.before a0 Z = true) : ((Jvm.Cond.code ({ cls := "com/example/plugwright/plugwright/platform/AttributeFitsPinLaw", name := "mk", desc := "([CI)Ljava/lang/String;" } : Jvm.MethodName) method_6_code (2 : Nat) (Option.some (Jvm.ClassFile.FieldType.object "java/lang/String")))).before a0 Z = true := hw _ (List.mem_of_getElem? (i := 18) rfl)
theorem w19 {Z : State} {a0 : Array Value} (hw : ∀ d ∈ tables_1, d.before a0 Z = true) : ((Jvm.Cond.classLink "com/example/plugwright/plugwright/platform/AttributeFitsPinLaw" (56 : Nat) "java/lang/String")).before a0 Z = true := hw _ (List.mem_of_getElem? (i := 19) rfl)
theorem w20 {Z : State} {a0 : Array Value} (hw : ∀ d ∈ tables_1, d.before a0 Z = true) : ((Jvm.Cond.instantiable "java/lang/String" (4 : Nat))).before a0 Z = true := hw _ (List.mem_of_getElem? (i := 20) rfl)
theorem w21 {Z : State} {a0 : Array Value} (hw : ∀ d ∈ tables_1, d.before a0 Z = true) : ((Jvm.Cond.initialized "java/lang/String")).before a0 Z = true := hw _ (List.mem_of_getElem? (i := 21) rfl)
theorem w22 {Z : State} {a0 : Array Value} (hw : ∀ d ∈ tables_1, d.before a0 Z = true) : ((Jvm.Cond.methodLink "com/example/plugwright/plugwright/platform/AttributeFitsPinLaw" (58 : Nat) ({ cls := "java/lang/String", name := "<init>", desc := "([C)V" } : Jvm.MethodName))).before a0 Z = true := hw _ (List.mem_of_getElem? (i := 22) rfl)
theorem w23 {Z : State} {a0 : Array Value} (hw : ∀ d ∈ tables_1, d.before a0 Z = true) : ((Jvm.Cond.instanceMethod ({ cls := "java/lang/String", name := "<init>", desc := "([C)V" } : Jvm.MethodName))).before a0 Z = true := hw _ (List.mem_of_getElem? (i := 23) rfl)
theorem w24 {Z : State} {a0 : Array Value} (hw : ∀ d ∈ tables_1, d.before a0 Z = true) : ((Jvm.Cond.code ({ cls := "java/lang/String", name := "<init>", desc := "([C)V" } : Jvm.MethodName) jdk_42_method_3_code (2 : Nat) (Option.none : Option Jvm.ClassFile.FieldType))).before a0 Z = true := hw _ (List.mem_of_getElem? (i := 24) rfl)
theorem w25 {Z : State} {a0 : Array Value} (hw : ∀ d ∈ tables_1, d.before a0 Z = true) : ((Jvm.Cond.methodLink "java/lang/String" (27 : Nat) ({ cls := "java/lang/String", name := "<init>", desc := "([CIILjava/lang/Void;)V" } : Jvm.MethodName))).before a0 Z = true := hw _ (List.mem_of_getElem? (i := 25) rfl)
theorem w26 {Z : State} {a0 : Array Value} (hw : ∀ d ∈ tables_1, d.before a0 Z = true) : ((Jvm.Cond.instanceMethod ({ cls := "java/lang/String", name := "<init>", desc := "([CIILjava/lang/Void;)V" } : Jvm.MethodName))).before a0 Z = true := hw _ (List.mem_of_getElem? (i := 26) rfl)
theorem w28 {Z : State} {a0 : Array Value} (hw : ∀ d ∈ tables_1, d.before a0 Z = true) : ((Jvm.Cond.code ({ cls := "java/lang/String", name := "<init>", desc := "([CIILjava/lang/Void;)V" } : Jvm.MethodName) jdk_42_method_149_code (6 : Nat) (Option.none : Option Jvm.ClassFile.FieldType))).before a0 Z = true := hw _ (List.mem_of_getElem? (i := 28) rfl)
theorem w29 {Z : State} {a0 : Array Value} (hw : ∀ d ∈ tables_1, d.before a0 Z = true) : ((Jvm.Cond.methodLink "java/lang/String" (1 : Nat) ({ cls := "java/lang/Object", name := "<init>", desc := "()V" } : Jvm.MethodName))).before a0 Z = true := hw _ (List.mem_of_getElem? (i := 29) rfl)
theorem w30 {Z : State} {a0 : Array Value} (hw : ∀ d ∈ tables_1, d.before a0 Z = true) : ((Jvm.Cond.instanceMethod ({ cls := "java/lang/Object", name := "<init>", desc := "()V" } : Jvm.MethodName))).before a0 Z = true := hw _ (List.mem_of_getElem? (i := 30) rfl)
theorem w31 {Z : State} {a0 : Array Value} (hw : ∀ d ∈ tables_1, d.before a0 Z = true) : ((Jvm.Cond.code ({ cls := "java/lang/Object", name := "<init>", desc := "()V" } : Jvm.MethodName) object_method_1_code (1 : Nat) (Option.none : Option Jvm.ClassFile.FieldType))).before a0 Z = true := hw _ (List.mem_of_getElem? (i := 31) rfl)
theorem w32 {Z : State} {a0 : Array Value} (hw : ∀ d ∈ tables_1, d.before a0 Z = true) : ((Jvm.Cond.stringLink "java/lang/String" (7 : Nat) "")).before a0 Z = true := hw _ (List.mem_of_getElem? (i := 32) rfl)
theorem w33 {Z : State} {a0 : Array Value} (hw : ∀ d ∈ tables_1, d.before a0 Z = true) : ((Jvm.Cond.arrayClass Jvm.ClassFile.FieldType.byte)).before a0 Z = true := hw _ (List.mem_of_getElem? (i := 33) rfl)
theorem w34 {Z : State} {a0 : Array Value} (hw : ∀ d ∈ tables_1, d.before a0 Z = true) : ((Jvm.Cond.laysFinal "java/lang/String" "java/lang/String" "value" "[B")).before a0 Z = true := hw _ (List.mem_of_getElem? (i := 34) rfl)
theorem w35 {Z : State} {a0 : Array Value} (hw : ∀ d ∈ tables_1, d.before a0 Z = true) : ((Jvm.Cond.laysFinal "java/lang/String" "java/lang/String" "coder" "B")).before a0 Z = true := hw _ (List.mem_of_getElem? (i := 35) rfl)
theorem w38 {Z : State} {a0 : Array Value} (hw : ∀ d ∈ tables_1, d.before a0 Z = true) : ((Jvm.Cond.fieldLink "java/lang/String" (9 : Nat) "java/lang/String" "value" "[B")).before a0 Z = true := hw _ (List.mem_of_getElem? (i := 38) rfl)
theorem w39 {Z : State} {a0 : Array Value} (hw : ∀ d ∈ tables_1, d.before a0 Z = true) : ((Jvm.Cond.fieldLink "java/lang/String" (15 : Nat) "java/lang/String" "coder" "B")).before a0 Z = true := hw _ (List.mem_of_getElem? (i := 39) rfl)
theorem w40 {Z : State} {a0 : Array Value} (hw : ∀ d ∈ tables_1, d.before a0 Z = true) : ((Jvm.Cond.methodLink "com/example/plugwright/plugwright/platform/AttributeFitsPinLaw" (25 : Nat) ({ cls := "com/example/plugwright/plugwright/platform/AttributeFitsPinLaw", name := "firstUnderscore", desc := "([CI)I" } : Jvm.MethodName))).before a0 Z = true := hw _ (List.mem_of_getElem? (i := 40) rfl)
theorem w41 {Z : State} {a0 : Array Value} (hw : ∀ d ∈ tables_1, d.before a0 Z = true) : ((Jvm.Cond.static ({ cls := "com/example/plugwright/plugwright/platform/AttributeFitsPinLaw", name := "firstUnderscore", desc := "([CI)I" } : Jvm.MethodName))).before a0 Z = true := hw _ (List.mem_of_getElem? (i := 41) rfl)
theorem w42 {Z : State} {a0 : Array Value} (hw : ∀ d ∈ tables_1, d.before a0 Z = true) : ((Jvm.Cond.code ({ cls := "com/example/plugwright/plugwright/platform/AttributeFitsPinLaw", name := "firstUnderscore", desc := "([CI)I" } : Jvm.MethodName) method_7_code (2 : Nat) (Option.some Jvm.ClassFile.FieldType.int))).before a0 Z = true := hw _ (List.mem_of_getElem? (i := 42) rfl)
theorem w43 {Z : State} {a0 : Array Value} (hw : ∀ d ∈ tables_1, d.before a0 Z = true) : ((Jvm.Cond.methodLink "com/example/plugwright/plugwright/platform/AttributeFitsPinLaw" (29 : Nat) ({ cls := "com/example/plugwright/plugwright/platform/AttributeFitsPinLaw", name := "same", desc := "([CI[CI)Z" } : Jvm.MethodName))).before a0 Z = true := hw _ (List.mem_of_getElem? (i := 43) rfl)
theorem w44 {Z : State} {a0 : Array Value} (hw : ∀ d ∈ tables_1, d.before a0 Z = true) : ((Jvm.Cond.static ({ cls := "com/example/plugwright/plugwright/platform/AttributeFitsPinLaw", name := "same", desc := "([CI[CI)Z" } : Jvm.MethodName))).before a0 Z = true := hw _ (List.mem_of_getElem? (i := 44) rfl)
theorem w45 {Z : State} {a0 : Array Value} (hw : ∀ d ∈ tables_1, d.before a0 Z = true) : ((Jvm.Cond.code ({ cls := "com/example/plugwright/plugwright/platform/AttributeFitsPinLaw", name := "same", desc := "([CI[CI)Z" } : Jvm.MethodName) method_8_code (4 : Nat) (Option.some Jvm.ClassFile.FieldType.boolean))).before a0 Z = true := hw _ (List.mem_of_getElem? (i := 45) rfl)
theorem w46 {Z : State} {a0 : Array Value} (hw : ∀ d ∈ tables_1, d.before a0 Z = true) : ((Jvm.Cond.methodLink "com/example/plugwright/plugwright/platform/AttributeFitsPinLaw" (33 : Nat) ({ cls := "com/example/plugwright/plugwright/platform/Attribute", name := "fits", desc := "(Ljava/lang/String;Ljava/lang/String;)Z" } : Jvm.MethodName))).before a0 Z = true := hw _ (List.mem_of_getElem? (i := 46) rfl)
theorem w47 {Z : State} {a0 : Array Value} (hw : ∀ d ∈ tables_1, d.before a0 Z = true) : ((Jvm.Cond.declares ({ cls := "com/example/plugwright/plugwright/platform/Attribute", name := "fits", desc := "(Ljava/lang/String;Ljava/lang/String;)Z" } : Jvm.MethodName))).before a0 Z = true := hw _ (List.mem_of_getElem? (i := 47) rfl)
theorem w48 {Z : State} {a0 : Array Value} (hw : ∀ d ∈ tables_1, d.before a0 Z = true) : ((Jvm.Cond.instanceMethod ({ cls := "com/example/plugwright/plugwright/platform/Attribute", name := "fits", desc := "(Ljava/lang/String;Ljava/lang/String;)Z" } : Jvm.MethodName))).before a0 Z = true := hw _ (List.mem_of_getElem? (i := 48) rfl)
theorem w49 {Z : State} {a0 : Array Value} (hw : ∀ d ∈ tables_1, d.before a0 Z = true) : ((Jvm.Cond.selects "com/example/plugwright/plugwright/platform/Attribute" ({ cls := "com/example/plugwright/plugwright/platform/Attribute", name := "fits", desc := "(Ljava/lang/String;Ljava/lang/String;)Z" } : Jvm.MethodName) ({ cls := "com/example/plugwright/plugwright/platform/Attribute", name := "fits", desc := "(Ljava/lang/String;Ljava/lang/String;)Z" } : Jvm.MethodName))).before a0 Z = true := hw _ (List.mem_of_getElem? (i := 49) rfl)
theorem w50 {Z : State} {a0 : Array Value} (hw : ∀ d ∈ tables_1, d.before a0 Z = true) : ((Jvm.Cond.code ({ cls := "com/example/plugwright/plugwright/platform/Attribute", name := "fits", desc := "(Ljava/lang/String;Ljava/lang/String;)Z" } : Jvm.MethodName) prog_32_method_4_code (4 : Nat) (Option.some Jvm.ClassFile.FieldType.boolean))).before a0 Z = true := hw _ (List.mem_of_getElem? (i := 50) rfl)
theorem w51 {Z : State} {a0 : Array Value} (hw : ∀ d ∈ tables_1, d.before a0 Z = true) : ((Jvm.Cond.methodLink "com/example/plugwright/plugwright/platform/Attribute" (39 : Nat) ({ cls := "java/lang/String", name := "equals", desc := "(Ljava/lang/Object;)Z" } : Jvm.MethodName))).before a0 Z = true := hw _ (List.mem_of_getElem? (i := 51) rfl)
theorem w52 {Z : State} {a0 : Array Value} (hw : ∀ d ∈ tables_1, d.before a0 Z = true) : ((Jvm.Cond.declares ({ cls := "java/lang/String", name := "equals", desc := "(Ljava/lang/Object;)Z" } : Jvm.MethodName))).before a0 Z = true := hw _ (List.mem_of_getElem? (i := 52) rfl)
theorem w53 {Z : State} {a0 : Array Value} (hw : ∀ d ∈ tables_1, d.before a0 Z = true) : ((Jvm.Cond.instanceMethod ({ cls := "java/lang/String", name := "equals", desc := "(Ljava/lang/Object;)Z" } : Jvm.MethodName))).before a0 Z = true := hw _ (List.mem_of_getElem? (i := 53) rfl)
theorem w54 {Z : State} {a0 : Array Value} (hw : ∀ d ∈ tables_1, d.before a0 Z = true) : ((Jvm.Cond.selects "java/lang/String" ({ cls := "java/lang/String", name := "equals", desc := "(Ljava/lang/Object;)Z" } : Jvm.MethodName) ({ cls := "java/lang/String", name := "equals", desc := "(Ljava/lang/Object;)Z" } : Jvm.MethodName))).before a0 Z = true := hw _ (List.mem_of_getElem? (i := 54) rfl)
theorem w55 {Z : State} {a0 : Array Value} (hw : ∀ d ∈ tables_1, d.before a0 Z = true) : ((Jvm.Cond.code ({ cls := "java/lang/String", name := "equals", desc := "(Ljava/lang/Object;)Z" } : Jvm.MethodName) jdk_42_method_66_code (3 : Nat) (Option.some Jvm.ClassFile.FieldType.boolean))).before a0 Z = true := hw _ (List.mem_of_getElem? (i := 55) rfl)
theorem w56 {Z : State} {a0 : Array Value} (hw : ∀ d ∈ tables_1, d.before a0 Z = true) : ((Jvm.Cond.classLink "java/lang/String" (10 : Nat) "java/lang/String")).before a0 Z = true := hw _ (List.mem_of_getElem? (i := 56) rfl)
theorem w57 {Z : State} {a0 : Array Value} (hw : ∀ d ∈ tables_1, d.before a0 Z = true) : ((Jvm.Cond.fieldLink "java/lang/String" (38 : Nat) "java/lang/String" "COMPACT_STRINGS" "Z")).before a0 Z = true := hw _ (List.mem_of_getElem? (i := 57) rfl)
theorem w58 {Z : State} {a0 : Array Value} (hw : ∀ d ∈ tables_1, d.before a0 Z = true) : ((Jvm.Cond.methodLink "java/lang/String" (541 : Nat) ({ cls := "java/lang/StringLatin1", name := "equals", desc := "([B[B)Z" } : Jvm.MethodName))).before a0 Z = true := hw _ (List.mem_of_getElem? (i := 58) rfl)
theorem w59 {Z : State} {a0 : Array Value} (hw : ∀ d ∈ tables_1, d.before a0 Z = true) : ((Jvm.Cond.static ({ cls := "java/lang/StringLatin1", name := "equals", desc := "([B[B)Z" } : Jvm.MethodName))).before a0 Z = true := hw _ (List.mem_of_getElem? (i := 59) rfl)
theorem w60 {Z : State} {a0 : Array Value} (hw : ∀ d ∈ tables_1, d.before a0 Z = true) : ((Jvm.Cond.initialized "java/lang/StringLatin1")).before a0 Z = true := hw _ (List.mem_of_getElem? (i := 60) rfl)
theorem w61 {Z : State} {a0 : Array Value} (hw : ∀ d ∈ tables_1, d.before a0 Z = true) : ((Jvm.Cond.code ({ cls := "java/lang/StringLatin1", name := "equals", desc := "([B[B)Z" } : Jvm.MethodName) jdk_43_method_13_code (3 : Nat) (Option.some Jvm.ClassFile.FieldType.boolean))).before a0 Z = true := hw _ (List.mem_of_getElem? (i := 61) rfl)
theorem w62 {Z : State} {a0 : Array Value} (hw : ∀ d ∈ tables_1, d.before a0 Z = true) : ((Jvm.Cond.methodLink "java/lang/String" (177 : Nat) ({ cls := "java/lang/StringUTF16", name := "compress", desc := "([CII)[B" } : Jvm.MethodName))).before a0 Z = true := hw _ (List.mem_of_getElem? (i := 62) rfl)
theorem w63 {Z : State} {a0 : Array Value} (hw : ∀ d ∈ tables_1, d.before a0 Z = true) : ((Jvm.Cond.static ({ cls := "java/lang/StringUTF16", name := "compress", desc := "([CII)[B" } : Jvm.MethodName))).before a0 Z = true := hw _ (List.mem_of_getElem? (i := 63) rfl)
theorem w64 {Z : State} {a0 : Array Value} (hw : ∀ d ∈ tables_1, d.before a0 Z = true) : ((Jvm.Cond.initialized "java/lang/StringUTF16")).before a0 Z = true := hw _ (List.mem_of_getElem? (i := 64) rfl)
theorem w65 {Z : State} {a0 : Array Value} (hw : ∀ d ∈ tables_1, d.before a0 Z = true) : ((Jvm.Cond.code ({ cls := "java/lang/StringUTF16", name := "compress", desc := "([CII)[B" } : Jvm.MethodName) jdk_52_method_16_code (6 : Nat) (Option.some (Jvm.ClassFile.FieldType.array Jvm.ClassFile.FieldType.byte)))).before a0 Z = true := hw _ (List.mem_of_getElem? (i := 65) rfl)
theorem w66 {Z : State} {a0 : Array Value} (hw : ∀ d ∈ tables_1, d.before a0 Z = true) : ((Jvm.Cond.methodLink "java/lang/StringUTF16" (115 : Nat) ({ cls := "java/lang/StringUTF16", name := "compress", desc := "([CI[BII)I" } : Jvm.MethodName))).before a0 Z = true := hw _ (List.mem_of_getElem? (i := 66) rfl)
theorem w67 {Z : State} {a0 : Array Value} (hw : ∀ d ∈ tables_1, d.before a0 Z = true) : ((Jvm.Cond.static ({ cls := "java/lang/StringUTF16", name := "compress", desc := "([CI[BII)I" } : Jvm.MethodName))).before a0 Z = true := hw _ (List.mem_of_getElem? (i := 67) rfl)
theorem w68 {Z : State} {a0 : Array Value} (hw : ∀ d ∈ tables_1, d.before a0 Z = true) : ((Jvm.Cond.code ({ cls := "java/lang/StringUTF16", name := "compress", desc := "([CI[BII)I" } : Jvm.MethodName) jdk_52_method_21_code (7 : Nat) (Option.some Jvm.ClassFile.FieldType.int))).before a0 Z = true := hw _ (List.mem_of_getElem? (i := 68) rfl)
theorem w69 {Z : State} {a0 : Array Value} (hw : ∀ d ∈ tables_1, d.before a0 Z = true) : ((Jvm.Cond.methodLink "java/lang/String" (47 : Nat) ({ cls := "java/lang/StringUTF16", name := "coderFromArrayLen", desc := "([BI)B" } : Jvm.MethodName))).before a0 Z = true := hw _ (List.mem_of_getElem? (i := 69) rfl)
theorem w70 {Z : State} {a0 : Array Value} (hw : ∀ d ∈ tables_1, d.before a0 Z = true) : ((Jvm.Cond.static ({ cls := "java/lang/StringUTF16", name := "coderFromArrayLen", desc := "([BI)B" } : Jvm.MethodName))).before a0 Z = true := hw _ (List.mem_of_getElem? (i := 70) rfl)
theorem w71 {Z : State} {a0 : Array Value} (hw : ∀ d ∈ tables_1, d.before a0 Z = true) : ((Jvm.Cond.code ({ cls := "java/lang/StringUTF16", name := "coderFromArrayLen", desc := "([BI)B" } : Jvm.MethodName) jdk_52_method_15_code (2 : Nat) (Option.some Jvm.ClassFile.FieldType.byte))).before a0 Z = true := hw _ (List.mem_of_getElem? (i := 71) rfl)
theorem w72 {Z : State} {a0 : Array Value} (hw : ∀ d ∈ tables_1, d.before a0 Z = true) : ((Jvm.Cond.methodLink "com/example/plugwright/plugwright/platform/Attribute" (45 : Nat) ({ cls := "java/lang/String", name := "indexOf", desc := "(I)I" } : Jvm.MethodName))).before a0 Z = true := hw _ (List.mem_of_getElem? (i := 72) rfl)
theorem w73 {Z : State} {a0 : Array Value} (hw : ∀ d ∈ tables_1, d.before a0 Z = true) : ((Jvm.Cond.declares ({ cls := "java/lang/String", name := "indexOf", desc := "(I)I" } : Jvm.MethodName))).before a0 Z = true := hw _ (List.mem_of_getElem? (i := 73) rfl)
theorem w74 {Z : State} {a0 : Array Value} (hw : ∀ d ∈ tables_1, d.before a0 Z = true) : ((Jvm.Cond.instanceMethod ({ cls := "java/lang/String", name := "indexOf", desc := "(I)I" } : Jvm.MethodName))).before a0 Z = true := hw _ (List.mem_of_getElem? (i := 74) rfl)
theorem w75 {Z : State} {a0 : Array Value} (hw : ∀ d ∈ tables_1, d.before a0 Z = true) : ((Jvm.Cond.selects "java/lang/String" ({ cls := "java/lang/String", name := "indexOf", desc := "(I)I" } : Jvm.MethodName) ({ cls := "java/lang/String", name := "indexOf", desc := "(I)I" } : Jvm.MethodName))).before a0 Z = true := hw _ (List.mem_of_getElem? (i := 75) rfl)
theorem w76 {Z : State} {a0 : Array Value} (hw : ∀ d ∈ tables_1, d.before a0 Z = true) : ((Jvm.Cond.code ({ cls := "java/lang/String", name := "indexOf", desc := "(I)I" } : Jvm.MethodName) jdk_42_method_79_code (2 : Nat) (Option.some Jvm.ClassFile.FieldType.int))).before a0 Z = true := hw _ (List.mem_of_getElem? (i := 76) rfl)
theorem w77 {Z : State} {a0 : Array Value} (hw : ∀ d ∈ tables_1, d.before a0 Z = true) : ((Jvm.Cond.methodLink "java/lang/String" (633 : Nat) ({ cls := "java/lang/String", name := "indexOf", desc := "(II)I" } : Jvm.MethodName))).before a0 Z = true := hw _ (List.mem_of_getElem? (i := 77) rfl)
theorem w78 {Z : State} {a0 : Array Value} (hw : ∀ d ∈ tables_1, d.before a0 Z = true) : ((Jvm.Cond.declares ({ cls := "java/lang/String", name := "indexOf", desc := "(II)I" } : Jvm.MethodName))).before a0 Z = true := hw _ (List.mem_of_getElem? (i := 78) rfl)
theorem w79 {Z : State} {a0 : Array Value} (hw : ∀ d ∈ tables_1, d.before a0 Z = true) : ((Jvm.Cond.instanceMethod ({ cls := "java/lang/String", name := "indexOf", desc := "(II)I" } : Jvm.MethodName))).before a0 Z = true := hw _ (List.mem_of_getElem? (i := 79) rfl)
theorem w80 {Z : State} {a0 : Array Value} (hw : ∀ d ∈ tables_1, d.before a0 Z = true) : ((Jvm.Cond.selects "java/lang/String" ({ cls := "java/lang/String", name := "indexOf", desc := "(II)I" } : Jvm.MethodName) ({ cls := "java/lang/String", name := "indexOf", desc := "(II)I" } : Jvm.MethodName))).before a0 Z = true := hw _ (List.mem_of_getElem? (i := 80) rfl)
theorem w81 {Z : State} {a0 : Array Value} (hw : ∀ d ∈ tables_1, d.before a0 Z = true) : ((Jvm.Cond.code ({ cls := "java/lang/String", name := "indexOf", desc := "(II)I" } : Jvm.MethodName) jdk_42_method_80_code (3 : Nat) (Option.some Jvm.ClassFile.FieldType.int))).before a0 Z = true := hw _ (List.mem_of_getElem? (i := 81) rfl)
theorem w82 {Z : State} {a0 : Array Value} (hw : ∀ d ∈ tables_1, d.before a0 Z = true) : ((Jvm.Cond.methodLink "java/lang/String" (492 : Nat) ({ cls := "java/lang/String", name := "isLatin1", desc := "()Z" } : Jvm.MethodName))).before a0 Z = true := hw _ (List.mem_of_getElem? (i := 82) rfl)
theorem w83 {Z : State} {a0 : Array Value} (hw : ∀ d ∈ tables_1, d.before a0 Z = true) : ((Jvm.Cond.declares ({ cls := "java/lang/String", name := "isLatin1", desc := "()Z" } : Jvm.MethodName))).before a0 Z = true := hw _ (List.mem_of_getElem? (i := 83) rfl)
theorem w84 {Z : State} {a0 : Array Value} (hw : ∀ d ∈ tables_1, d.before a0 Z = true) : ((Jvm.Cond.instanceMethod ({ cls := "java/lang/String", name := "isLatin1", desc := "()Z" } : Jvm.MethodName))).before a0 Z = true := hw _ (List.mem_of_getElem? (i := 84) rfl)
theorem w85 {Z : State} {a0 : Array Value} (hw : ∀ d ∈ tables_1, d.before a0 Z = true) : ((Jvm.Cond.selects "java/lang/String" ({ cls := "java/lang/String", name := "isLatin1", desc := "()Z" } : Jvm.MethodName) ({ cls := "java/lang/String", name := "isLatin1", desc := "()Z" } : Jvm.MethodName))).before a0 Z = true := hw _ (List.mem_of_getElem? (i := 85) rfl)
theorem w86 {Z : State} {a0 : Array Value} (hw : ∀ d ∈ tables_1, d.before a0 Z = true) : ((Jvm.Cond.code ({ cls := "java/lang/String", name := "isLatin1", desc := "()Z" } : Jvm.MethodName) jdk_42_method_154_code (1 : Nat) (Option.some Jvm.ClassFile.FieldType.boolean))).before a0 Z = true := hw _ (List.mem_of_getElem? (i := 86) rfl)
theorem w87 {Z : State} {a0 : Array Value} (hw : ∀ d ∈ tables_1, d.before a0 Z = true) : ((Jvm.Cond.methodLink "java/lang/String" (505 : Nat) ({ cls := "java/lang/String", name := "length", desc := "()I" } : Jvm.MethodName))).before a0 Z = true := hw _ (List.mem_of_getElem? (i := 87) rfl)
theorem w88 {Z : State} {a0 : Array Value} (hw : ∀ d ∈ tables_1, d.before a0 Z = true) : ((Jvm.Cond.declares ({ cls := "java/lang/String", name := "length", desc := "()I" } : Jvm.MethodName))).before a0 Z = true := hw _ (List.mem_of_getElem? (i := 88) rfl)
theorem w89 {Z : State} {a0 : Array Value} (hw : ∀ d ∈ tables_1, d.before a0 Z = true) : ((Jvm.Cond.instanceMethod ({ cls := "java/lang/String", name := "length", desc := "()I" } : Jvm.MethodName))).before a0 Z = true := hw _ (List.mem_of_getElem? (i := 89) rfl)
theorem w90 {Z : State} {a0 : Array Value} (hw : ∀ d ∈ tables_1, d.before a0 Z = true) : ((Jvm.Cond.selects "java/lang/String" ({ cls := "java/lang/String", name := "length", desc := "()I" } : Jvm.MethodName) ({ cls := "java/lang/String", name := "length", desc := "()I" } : Jvm.MethodName))).before a0 Z = true := hw _ (List.mem_of_getElem? (i := 90) rfl)
theorem w91 {Z : State} {a0 : Array Value} (hw : ∀ d ∈ tables_1, d.before a0 Z = true) : ((Jvm.Cond.code ({ cls := "java/lang/String", name := "length", desc := "()I" } : Jvm.MethodName) jdk_42_method_54_code (1 : Nat) (Option.some Jvm.ClassFile.FieldType.int))).before a0 Z = true := hw _ (List.mem_of_getElem? (i := 91) rfl)
theorem w92 {Z : State} {a0 : Array Value} (hw : ∀ d ∈ tables_1, d.before a0 Z = true) : ((Jvm.Cond.methodLink "java/lang/String" (335 : Nat) ({ cls := "java/lang/String", name := "coder", desc := "()B" } : Jvm.MethodName))).before a0 Z = true := hw _ (List.mem_of_getElem? (i := 92) rfl)
theorem w93 {Z : State} {a0 : Array Value} (hw : ∀ d ∈ tables_1, d.before a0 Z = true) : ((Jvm.Cond.declares ({ cls := "java/lang/String", name := "coder", desc := "()B" } : Jvm.MethodName))).before a0 Z = true := hw _ (List.mem_of_getElem? (i := 93) rfl)
theorem w94 {Z : State} {a0 : Array Value} (hw : ∀ d ∈ tables_1, d.before a0 Z = true) : ((Jvm.Cond.instanceMethod ({ cls := "java/lang/String", name := "coder", desc := "()B" } : Jvm.MethodName))).before a0 Z = true := hw _ (List.mem_of_getElem? (i := 94) rfl)
theorem w95 {Z : State} {a0 : Array Value} (hw : ∀ d ∈ tables_1, d.before a0 Z = true) : ((Jvm.Cond.selects "java/lang/String" ({ cls := "java/lang/String", name := "coder", desc := "()B" } : Jvm.MethodName) ({ cls := "java/lang/String", name := "coder", desc := "()B" } : Jvm.MethodName))).before a0 Z = true := hw _ (List.mem_of_getElem? (i := 95) rfl)
theorem w96 {Z : State} {a0 : Array Value} (hw : ∀ d ∈ tables_1, d.before a0 Z = true) : ((Jvm.Cond.code ({ cls := "java/lang/String", name := "coder", desc := "()B" } : Jvm.MethodName) jdk_42_method_152_code (1 : Nat) (Option.some Jvm.ClassFile.FieldType.byte))).before a0 Z = true := hw _ (List.mem_of_getElem? (i := 96) rfl)
theorem w97 {Z : State} {a0 : Array Value} (hw : ∀ d ∈ tables_1, d.before a0 Z = true) : ((Jvm.Cond.methodLink "java/lang/String" (637 : Nat) ({ cls := "java/lang/StringLatin1", name := "indexOf", desc := "([BIII)I" } : Jvm.MethodName))).before a0 Z = true := hw _ (List.mem_of_getElem? (i := 97) rfl)
theorem w98 {Z : State} {a0 : Array Value} (hw : ∀ d ∈ tables_1, d.before a0 Z = true) : ((Jvm.Cond.static ({ cls := "java/lang/StringLatin1", name := "indexOf", desc := "([BIII)I" } : Jvm.MethodName))).before a0 Z = true := hw _ (List.mem_of_getElem? (i := 98) rfl)
theorem w99 {Z : State} {a0 : Array Value} (hw : ∀ d ∈ tables_1, d.before a0 Z = true) : ((Jvm.Cond.code ({ cls := "java/lang/StringLatin1", name := "indexOf", desc := "([BIII)I" } : Jvm.MethodName) jdk_43_method_22_code (4 : Nat) (Option.some Jvm.ClassFile.FieldType.int))).before a0 Z = true := hw _ (List.mem_of_getElem? (i := 99) rfl)
theorem w100 {Z : State} {a0 : Array Value} (hw : ∀ d ∈ tables_1, d.before a0 Z = true) : ((Jvm.Cond.methodLink "java/lang/StringLatin1" (88 : Nat) ({ cls := "java/lang/StringLatin1", name := "canEncode", desc := "(I)Z" } : Jvm.MethodName))).before a0 Z = true := hw _ (List.mem_of_getElem? (i := 100) rfl)
theorem w101 {Z : State} {a0 : Array Value} (hw : ∀ d ∈ tables_1, d.before a0 Z = true) : ((Jvm.Cond.static ({ cls := "java/lang/StringLatin1", name := "canEncode", desc := "(I)Z" } : Jvm.MethodName))).before a0 Z = true := hw _ (List.mem_of_getElem? (i := 101) rfl)
theorem w102 {Z : State} {a0 : Array Value} (hw : ∀ d ∈ tables_1, d.before a0 Z = true) : ((Jvm.Cond.code ({ cls := "java/lang/StringLatin1", name := "canEncode", desc := "(I)Z" } : Jvm.MethodName) jdk_43_method_4_code (1 : Nat) (Option.some Jvm.ClassFile.FieldType.boolean))).before a0 Z = true := hw _ (List.mem_of_getElem? (i := 102) rfl)
theorem w103 {Z : State} {a0 : Array Value} (hw : ∀ d ∈ tables_1, d.before a0 Z = true) : ((Jvm.Cond.methodLink "java/lang/StringLatin1" (92 : Nat) ({ cls := "java/lang/Math", name := "max", desc := "(II)I" } : Jvm.MethodName))).before a0 Z = true := hw _ (List.mem_of_getElem? (i := 103) rfl)
theorem w104 {Z : State} {a0 : Array Value} (hw : ∀ d ∈ tables_1, d.before a0 Z = true) : ((Jvm.Cond.static ({ cls := "java/lang/Math", name := "max", desc := "(II)I" } : Jvm.MethodName))).before a0 Z = true := hw _ (List.mem_of_getElem? (i := 104) rfl)
theorem w105 {Z : State} {a0 : Array Value} (hw : ∀ d ∈ tables_1, d.before a0 Z = true) : ((Jvm.Cond.initialized "java/lang/Math")).before a0 Z = true := hw _ (List.mem_of_getElem? (i := 105) rfl)
theorem w106 {Z : State} {a0 : Array Value} (hw : ∀ d ∈ tables_1, d.before a0 Z = true) : ((Jvm.Cond.code ({ cls := "java/lang/Math", name := "max", desc := "(II)I" } : Jvm.MethodName) jdk_29_method_65_code (2 : Nat) (Option.some Jvm.ClassFile.FieldType.int))).before a0 Z = true := hw _ (List.mem_of_getElem? (i := 106) rfl)
theorem w107 {Z : State} {a0 : Array Value} (hw : ∀ d ∈ tables_1, d.before a0 Z = true) : ((Jvm.Cond.methodLink "java/lang/StringLatin1" (38 : Nat) ({ cls := "java/lang/Math", name := "min", desc := "(II)I" } : Jvm.MethodName))).before a0 Z = true := hw _ (List.mem_of_getElem? (i := 107) rfl)
theorem w108 {Z : State} {a0 : Array Value} (hw : ∀ d ∈ tables_1, d.before a0 Z = true) : ((Jvm.Cond.static ({ cls := "java/lang/Math", name := "min", desc := "(II)I" } : Jvm.MethodName))).before a0 Z = true := hw _ (List.mem_of_getElem? (i := 108) rfl)
theorem w109 {Z : State} {a0 : Array Value} (hw : ∀ d ∈ tables_1, d.before a0 Z = true) : ((Jvm.Cond.code ({ cls := "java/lang/Math", name := "min", desc := "(II)I" } : Jvm.MethodName) jdk_29_method_69_code (2 : Nat) (Option.some Jvm.ClassFile.FieldType.int))).before a0 Z = true := hw _ (List.mem_of_getElem? (i := 109) rfl)
theorem w110 {Z : State} {a0 : Array Value} (hw : ∀ d ∈ tables_1, d.before a0 Z = true) : ((Jvm.Cond.methodLink "java/lang/StringLatin1" (95 : Nat) ({ cls := "java/lang/StringLatin1", name := "indexOfChar", desc := "([BIII)I" } : Jvm.MethodName))).before a0 Z = true := hw _ (List.mem_of_getElem? (i := 110) rfl)
theorem w111 {Z : State} {a0 : Array Value} (hw : ∀ d ∈ tables_1, d.before a0 Z = true) : ((Jvm.Cond.static ({ cls := "java/lang/StringLatin1", name := "indexOfChar", desc := "([BIII)I" } : Jvm.MethodName))).before a0 Z = true := hw _ (List.mem_of_getElem? (i := 111) rfl)
theorem w112 {Z : State} {a0 : Array Value} (hw : ∀ d ∈ tables_1, d.before a0 Z = true) : ((Jvm.Cond.code ({ cls := "java/lang/StringLatin1", name := "indexOfChar", desc := "([BIII)I" } : Jvm.MethodName) jdk_43_method_23_code (6 : Nat) (Option.some Jvm.ClassFile.FieldType.int))).before a0 Z = true := hw _ (List.mem_of_getElem? (i := 112) rfl)
theorem w113 {Z : State} {a0 : Array Value} (hw : ∀ d ∈ tables_1, d.before a0 Z = true) : ((Jvm.Cond.fieldLink "com/example/plugwright/plugwright/platform/Attribute" (13 : Nat) "com/example/plugwright/plugwright/platform/Attribute" "NL" "Lcom/example/plugwright/plugwright/platform/Attribute;")).before a0 Z = true := hw _ (List.mem_of_getElem? (i := 113) rfl)
theorem w114 {Z : State} {a0 : Array Value} (hw : ∀ d ∈ tables_1, d.before a0 Z = true) : ((Jvm.Cond.laysStatic "com/example/plugwright/plugwright/platform/Attribute" "NL" "Lcom/example/plugwright/plugwright/platform/Attribute;")).before a0 Z = true := hw _ (List.mem_of_getElem? (i := 114) rfl)
theorem w115 {Z : State} {a0 : Array Value} (hw : ∀ d ∈ tables_1, d.before a0 Z = true) : ((Jvm.Cond.fieldLink "com/example/plugwright/plugwright/platform/AttributeFitsPinLaw" (46 : Nat) "com/example/plugwright/plugwright/platform/Attribute" "ARCH" "Lcom/example/plugwright/plugwright/platform/Attribute;")).before a0 Z = true := hw _ (List.mem_of_getElem? (i := 115) rfl)
theorem w116 {Z : State} {a0 : Array Value} (hw : ∀ d ∈ tables_1, d.before a0 Z = true) : ((Jvm.Cond.laysStatic "com/example/plugwright/plugwright/platform/Attribute" "ARCH" "Lcom/example/plugwright/plugwright/platform/Attribute;")).before a0 Z = true := hw _ (List.mem_of_getElem? (i := 116) rfl)
theorem w117 {Z : State} {a0 : Array Value} (hw : ∀ d ∈ tables_1, d.before a0 Z = true) : ((Jvm.Cond.fieldLink "com/example/plugwright/plugwright/platform/AttributeFitsPinLaw" (49 : Nat) "com/example/plugwright/plugwright/platform/Attribute" "NL" "Lcom/example/plugwright/plugwright/platform/Attribute;")).before a0 Z = true := hw _ (List.mem_of_getElem? (i := 117) rfl)
theorem w118 {Z : State} {a0 : Array Value} (hw : ∀ d ∈ tables_1, d.before a0 Z = true) : ((Jvm.Cond.fieldLink "com/example/plugwright/plugwright/platform/AttributeFitsPinLaw" (43 : Nat) "com/example/plugwright/plugwright/platform/Attribute" "WS" "Lcom/example/plugwright/plugwright/platform/Attribute;")).before a0 Z = true := hw _ (List.mem_of_getElem? (i := 118) rfl)
theorem w119 {Z : State} {a0 : Array Value} (hw : ∀ d ∈ tables_1, d.before a0 Z = true) : ((Jvm.Cond.laysStatic "com/example/plugwright/plugwright/platform/Attribute" "WS" "Lcom/example/plugwright/plugwright/platform/Attribute;")).before a0 Z = true := hw _ (List.mem_of_getElem? (i := 119) rfl)
theorem w120 {Z : State} {a0 : Array Value} (hw : ∀ d ∈ tables_1, d.before a0 Z = true) : ((Jvm.Cond.methodLink "com/example/plugwright/plugwright/platform/Attribute" (49 : Nat) ({ cls := "java/lang/String", name := "substring", desc := "(II)Ljava/lang/String;" } : Jvm.MethodName))).before a0 Z = true := hw _ (List.mem_of_getElem? (i := 120) rfl)
theorem w121 {Z : State} {a0 : Array Value} (hw : ∀ d ∈ tables_1, d.before a0 Z = true) : ((Jvm.Cond.declares ({ cls := "java/lang/String", name := "substring", desc := "(II)Ljava/lang/String;" } : Jvm.MethodName))).before a0 Z = true := hw _ (List.mem_of_getElem? (i := 121) rfl)
theorem w122 {Z : State} {a0 : Array Value} (hw : ∀ d ∈ tables_1, d.before a0 Z = true) : ((Jvm.Cond.instanceMethod ({ cls := "java/lang/String", name := "substring", desc := "(II)Ljava/lang/String;" } : Jvm.MethodName))).before a0 Z = true := hw _ (List.mem_of_getElem? (i := 122) rfl)
theorem w123 {Z : State} {a0 : Array Value} (hw : ∀ d ∈ tables_1, d.before a0 Z = true) : ((Jvm.Cond.selects "java/lang/String" ({ cls := "java/lang/String", name := "substring", desc := "(II)Ljava/lang/String;" } : Jvm.MethodName) ({ cls := "java/lang/String", name := "substring", desc := "(II)Ljava/lang/String;" } : Jvm.MethodName))).before a0 Z = true := hw _ (List.mem_of_getElem? (i := 123) rfl)
theorem w124 {Z : State} {a0 : Array Value} (hw : ∀ d ∈ tables_1, d.before a0 Z = true) : ((Jvm.Cond.code ({ cls := "java/lang/String", name := "substring", desc := "(II)Ljava/lang/String;" } : Jvm.MethodName) jdk_42_method_92_code (5 : Nat) (Option.some (Jvm.ClassFile.FieldType.object "java/lang/String")))).before a0 Z = true := hw _ (List.mem_of_getElem? (i := 124) rfl)
theorem w125 {Z : State} {a0 : Array Value} (hw : ∀ d ∈ tables_1, d.before a0 Z = true) : ((Jvm.Cond.methodLink "java/lang/String" (521 : Nat) ({ cls := "java/lang/String", name := "checkBoundsBeginEnd", desc := "(III)V" } : Jvm.MethodName))).before a0 Z = true := hw _ (List.mem_of_getElem? (i := 125) rfl)
theorem w126 {Z : State} {a0 : Array Value} (hw : ∀ d ∈ tables_1, d.before a0 Z = true) : ((Jvm.Cond.static ({ cls := "java/lang/String", name := "checkBoundsBeginEnd", desc := "(III)V" } : Jvm.MethodName))).before a0 Z = true := hw _ (List.mem_of_getElem? (i := 126) rfl)
theorem w127 {Z : State} {a0 : Array Value} (hw : ∀ d ∈ tables_1, d.before a0 Z = true) : ((Jvm.Cond.code ({ cls := "java/lang/String", name := "checkBoundsBeginEnd", desc := "(III)V" } : Jvm.MethodName) jdk_42_method_158_code (3 : Nat) (Option.none : Option Jvm.ClassFile.FieldType))).before a0 Z = true := hw _ (List.mem_of_getElem? (i := 127) rfl)
theorem w128 {Z : State} {a0 : Array Value} (hw : ∀ d ∈ tables_1, d.before a0 Z = true) : ((Jvm.Cond.fieldLink "java/lang/String" (1053 : Nat) "jdk/internal/util/Preconditions" "SIOOBE_FORMATTER" "Ljava/util/function/BiFunction;")).before a0 Z = true := hw _ (List.mem_of_getElem? (i := 128) rfl)
theorem w129 {Z : State} {a0 : Array Value} (hw : ∀ d ∈ tables_1, d.before a0 Z = true) : ((Jvm.Cond.initialized "jdk/internal/util/Preconditions")).before a0 Z = true := hw _ (List.mem_of_getElem? (i := 129) rfl)
theorem w130 {Z : State} {a0 : Array Value} (hw : ∀ d ∈ tables_1, d.before a0 Z = true) : ((Jvm.Cond.methodLink "java/lang/String" (1062 : Nat) ({ cls := "jdk/internal/util/Preconditions", name := "checkFromToIndex", desc := "(IIILjava/util/function/BiFunction;)I" } : Jvm.MethodName))).before a0 Z = true := hw _ (List.mem_of_getElem? (i := 130) rfl)
theorem w131 {Z : State} {a0 : Array Value} (hw : ∀ d ∈ tables_1, d.before a0 Z = true) : ((Jvm.Cond.static ({ cls := "jdk/internal/util/Preconditions", name := "checkFromToIndex", desc := "(IIILjava/util/function/BiFunction;)I" } : Jvm.MethodName))).before a0 Z = true := hw _ (List.mem_of_getElem? (i := 131) rfl)
theorem w132 {Z : State} {a0 : Array Value} (hw : ∀ d ∈ tables_1, d.before a0 Z = true) : ((Jvm.Cond.code ({ cls := "jdk/internal/util/Preconditions", name := "checkFromToIndex", desc := "(IIILjava/util/function/BiFunction;)I" } : Jvm.MethodName) jdk_41_method_12_code (4 : Nat) (Option.some Jvm.ClassFile.FieldType.int))).before a0 Z = true := hw _ (List.mem_of_getElem? (i := 132) rfl)
theorem w133 {Z : State} {a0 : Array Value} (hw : ∀ d ∈ tables_1, d.before a0 Z = true) : ((Jvm.Cond.methodLink "java/lang/String" (685 : Nat) ({ cls := "java/lang/StringLatin1", name := "newString", desc := "([BII)Ljava/lang/String;" } : Jvm.MethodName))).before a0 Z = true := hw _ (List.mem_of_getElem? (i := 133) rfl)
theorem w134 {Z : State} {a0 : Array Value} (hw : ∀ d ∈ tables_1, d.before a0 Z = true) : ((Jvm.Cond.static ({ cls := "java/lang/StringLatin1", name := "newString", desc := "([BII)Ljava/lang/String;" } : Jvm.MethodName))).before a0 Z = true := hw _ (List.mem_of_getElem? (i := 134) rfl)
theorem w135 {Z : State} {a0 : Array Value} (hw : ∀ d ∈ tables_1, d.before a0 Z = true) : ((Jvm.Cond.code ({ cls := "java/lang/StringLatin1", name := "newString", desc := "([BII)Ljava/lang/String;" } : Jvm.MethodName) jdk_43_method_47_code (3 : Nat) (Option.some (Jvm.ClassFile.FieldType.object "java/lang/String")))).before a0 Z = true := hw _ (List.mem_of_getElem? (i := 135) rfl)
theorem w136 {Z : State} {a0 : Array Value} (hw : ∀ d ∈ tables_1, d.before a0 Z = true) : ((Jvm.Cond.classLink "java/lang/StringLatin1" (1 : Nat) "java/lang/String")).before a0 Z = true := hw _ (List.mem_of_getElem? (i := 136) rfl)
theorem w137 {Z : State} {a0 : Array Value} (hw : ∀ d ∈ tables_1, d.before a0 Z = true) : ((Jvm.Cond.methodLink "java/lang/StringLatin1" (232 : Nat) ({ cls := "java/util/Arrays", name := "copyOfRange", desc := "([BII)[B" } : Jvm.MethodName))).before a0 Z = true := hw _ (List.mem_of_getElem? (i := 137) rfl)
theorem w138 {Z : State} {a0 : Array Value} (hw : ∀ d ∈ tables_1, d.before a0 Z = true) : ((Jvm.Cond.static ({ cls := "java/util/Arrays", name := "copyOfRange", desc := "([BII)[B" } : Jvm.MethodName))).before a0 Z = true := hw _ (List.mem_of_getElem? (i := 138) rfl)
theorem w139 {Z : State} {a0 : Array Value} (hw : ∀ d ∈ tables_1, d.before a0 Z = true) : ((Jvm.Cond.initialized "java/util/Arrays")).before a0 Z = true := hw _ (List.mem_of_getElem? (i := 139) rfl)
theorem w140 {Z : State} {a0 : Array Value} (hw : ∀ d ∈ tables_1, d.before a0 Z = true) : ((Jvm.Cond.code ({ cls := "java/util/Arrays", name := "copyOfRange", desc := "([BII)[B" } : Jvm.MethodName) jdk_65_method_132_code (3 : Nat) (Option.some (Jvm.ClassFile.FieldType.array Jvm.ClassFile.FieldType.byte)))).before a0 Z = true := hw _ (List.mem_of_getElem? (i := 140) rfl)
theorem w141 {Z : State} {a0 : Array Value} (hw : ∀ d ∈ tables_1, d.before a0 Z = true) : ((Jvm.Cond.methodLink "java/util/Arrays" (339 : Nat) ({ cls := "java/util/Arrays", name := "copyOfRangeByte", desc := "([BII)[B" } : Jvm.MethodName))).before a0 Z = true := hw _ (List.mem_of_getElem? (i := 141) rfl)
theorem w142 {Z : State} {a0 : Array Value} (hw : ∀ d ∈ tables_1, d.before a0 Z = true) : ((Jvm.Cond.static ({ cls := "java/util/Arrays", name := "copyOfRangeByte", desc := "([BII)[B" } : Jvm.MethodName))).before a0 Z = true := hw _ (List.mem_of_getElem? (i := 142) rfl)
theorem w143 {Z : State} {a0 : Array Value} (hw : ∀ d ∈ tables_1, d.before a0 Z = true) : ((Jvm.Cond.code ({ cls := "java/util/Arrays", name := "copyOfRangeByte", desc := "([BII)[B" } : Jvm.MethodName) jdk_65_method_133_code (5 : Nat) (Option.some (Jvm.ClassFile.FieldType.array Jvm.ClassFile.FieldType.byte)))).before a0 Z = true := hw _ (List.mem_of_getElem? (i := 143) rfl)
theorem w144 {Z : State} {a0 : Array Value} (hw : ∀ d ∈ tables_1, d.before a0 Z = true) : ((Jvm.Cond.methodLink "java/util/Arrays" (343 : Nat) ({ cls := "java/util/Arrays", name := "checkLength", desc := "(II)V" } : Jvm.MethodName))).before a0 Z = true := hw _ (List.mem_of_getElem? (i := 144) rfl)
theorem w145 {Z : State} {a0 : Array Value} (hw : ∀ d ∈ tables_1, d.before a0 Z = true) : ((Jvm.Cond.static ({ cls := "java/util/Arrays", name := "checkLength", desc := "(II)V" } : Jvm.MethodName))).before a0 Z = true := hw _ (List.mem_of_getElem? (i := 145) rfl)
theorem w146 {Z : State} {a0 : Array Value} (hw : ∀ d ∈ tables_1, d.before a0 Z = true) : ((Jvm.Cond.code ({ cls := "java/util/Arrays", name := "checkLength", desc := "(II)V" } : Jvm.MethodName) jdk_65_method_131_code (2 : Nat) (Option.none : Option Jvm.ClassFile.FieldType))).before a0 Z = true := hw _ (List.mem_of_getElem? (i := 146) rfl)
theorem w147 {Z : State} {a0 : Array Value} (hw : ∀ d ∈ tables_1, d.before a0 Z = true) : ((Jvm.Cond.methodLink "java/util/Arrays" (304 : Nat) ({ cls := "java/lang/Math", name := "min", desc := "(II)I" } : Jvm.MethodName))).before a0 Z = true := hw _ (List.mem_of_getElem? (i := 147) rfl)
theorem w148 {Z : State} {a0 : Array Value} (hw : ∀ d ∈ tables_1, d.before a0 Z = true) : ((Jvm.Cond.methodLink "java/util/Arrays" (150 : Nat) ({ cls := "java/lang/System", name := "arraycopy", desc := "(Ljava/lang/Object;ILjava/lang/Object;II)V" } : Jvm.MethodName))).before a0 Z = true := hw _ (List.mem_of_getElem? (i := 148) rfl)
theorem w149 {Z : State} {a0 : Array Value} (hw : ∀ d ∈ tables_1, d.before a0 Z = true) : ((Jvm.Cond.static ({ cls := "java/lang/System", name := "arraycopy", desc := "(Ljava/lang/Object;ILjava/lang/Object;II)V" } : Jvm.MethodName))).before a0 Z = true := hw _ (List.mem_of_getElem? (i := 149) rfl)
theorem w150 {Z : State} {a0 : Array Value} (hw : ∀ d ∈ tables_1, d.before a0 Z = true) : ((Jvm.Cond.initialized "java/lang/System")).before a0 Z = true := hw _ (List.mem_of_getElem? (i := 150) rfl)
theorem w151 {Z : State} {a0 : Array Value} (hw : ∀ d ∈ tables_1, d.before a0 Z = true) : ((Jvm.Cond.native ({ cls := "java/lang/System", name := "arraycopy", desc := "(Ljava/lang/Object;ILjava/lang/Object;II)V" } : Jvm.MethodName))).before a0 Z = true := hw _ (List.mem_of_getElem? (i := 151) rfl)
theorem w152 {Z : State} {a0 : Array Value} (hw : ∀ d ∈ tables_1, d.before a0 Z = true) : ((Jvm.Cond.methodLink "java/lang/StringLatin1" (112 : Nat) ({ cls := "java/lang/String", name := "<init>", desc := "([BB)V" } : Jvm.MethodName))).before a0 Z = true := hw _ (List.mem_of_getElem? (i := 152) rfl)
theorem w153 {Z : State} {a0 : Array Value} (hw : ∀ d ∈ tables_1, d.before a0 Z = true) : ((Jvm.Cond.instanceMethod ({ cls := "java/lang/String", name := "<init>", desc := "([BB)V" } : Jvm.MethodName))).before a0 Z = true := hw _ (List.mem_of_getElem? (i := 153) rfl)
theorem w154 {Z : State} {a0 : Array Value} (hw : ∀ d ∈ tables_1, d.before a0 Z = true) : ((Jvm.Cond.code ({ cls := "java/lang/String", name := "<init>", desc := "([BB)V" } : Jvm.MethodName) jdk_42_method_151_code (3 : Nat) (Option.none : Option Jvm.ClassFile.FieldType))).before a0 Z = true := hw _ (List.mem_of_getElem? (i := 154) rfl)
theorem d_jdk_52_m21_3 : decode jdk_52_method_21_code 3 = .ok (.iload 5, 2) := by decide +kernel
theorem d_jdk_52_m21_5 : decode jdk_52_method_21_code 5 = .ok (.iload 4, 2) := by decide +kernel
theorem d_jdk_52_m21_7 : decode jdk_52_method_21_code 7 = .ok (.if_icmp .ge 37, 3) := by decide +kernel
theorem d_jdk_52_m21_44 : decode jdk_52_method_21_code 44 = .ok (.iload 4, 2) := by decide +kernel
theorem d_jdk_52_m21_46 : decode jdk_52_method_21_code 46 = .ok (.ireturn, 1) := by decide +kernel
theorem d_jdk_52_m21_10 : decode jdk_52_method_21_code 10 = .ok (.aload_n 0, 1) := by decide +kernel
theorem d_jdk_52_m21_11 : decode jdk_52_method_21_code 11 = .ok (.iload_n 1, 1) := by decide +kernel
theorem d_jdk_52_m21_12 : decode jdk_52_method_21_code 12 = .ok (.caload, 1) := by decide +kernel
theorem d_jdk_52_m21_13 : decode jdk_52_method_21_code 13 = .ok (.istore 6, 2) := by decide +kernel
theorem d_jdk_52_m21_15 : decode jdk_52_method_21_code 15 = .ok (.iload 6, 2) := by decide +kernel
theorem d_jdk_52_m21_17 : decode jdk_52_method_21_code 17 = .ok (.sipush 255, 3) := by decide +kernel
theorem d_jdk_52_m21_20 : decode jdk_52_method_21_code 20 = .ok (.if_icmp .le 6, 3) := by decide +kernel
theorem d_jdk_52_m21_23 : decode jdk_52_method_21_code 23 = .ok (.iload 5, 2) := by decide +kernel
theorem d_jdk_52_m21_25 : decode jdk_52_method_21_code 25 = .ok (.ireturn, 1) := by decide +kernel
theorem d_jdk_52_m21_26 : decode jdk_52_method_21_code 26 = .ok (.aload_n 2, 1) := by decide +kernel
theorem d_jdk_52_m21_27 : decode jdk_52_method_21_code 27 = .ok (.iload_n 3, 1) := by decide +kernel
theorem d_jdk_52_m21_28 : decode jdk_52_method_21_code 28 = .ok (.iload 6, 2) := by decide +kernel
theorem d_jdk_52_m21_30 : decode jdk_52_method_21_code 30 = .ok (.i2b, 1) := by decide +kernel
theorem d_jdk_52_m21_31 : decode jdk_52_method_21_code 31 = .ok (.bastore, 1) := by decide +kernel
theorem d_jdk_52_m21_32 : decode jdk_52_method_21_code 32 = .ok (.iinc 1 1, 3) := by decide +kernel
theorem d_jdk_52_m21_35 : decode jdk_52_method_21_code 35 = .ok (.iinc 3 1, 3) := by decide +kernel
theorem d_jdk_52_m21_38 : decode jdk_52_method_21_code 38 = .ok (.iinc 5 1, 3) := by decide +kernel
theorem d_jdk_52_m21_41 : decode jdk_52_method_21_code 41 = .ok (.goto (-38), 3) := by decide +kernel
theorem d_jdk_52_m21_0 : decode jdk_52_method_21_code 0 = .ok (.iconst 0, 1) := by decide +kernel
theorem d_jdk_52_m21_1 : decode jdk_52_method_21_code 1 = .ok (.istore 5, 2) := by decide +kernel
theorem pn0 : plainName "java/lang/StringUTF16" = true := by first | (simp [plainName, overriddenIn]; done) | decide +kernel
theorem d_jdk_52_m16_0 : decode jdk_52_method_16_code 0 = .ok (.iload_n 2, 1) := by decide +kernel
theorem d_jdk_52_m16_1 : decode jdk_52_method_16_code 1 = .ok (.newarray .byte, 2) := by decide +kernel
theorem d_jdk_52_m16_3 : decode jdk_52_method_16_code 3 = .ok (.astore_n 3, 1) := by decide +kernel
theorem d_jdk_52_m16_4 : decode jdk_52_method_16_code 4 = .ok (.aload_n 0, 1) := by decide +kernel
theorem d_jdk_52_m16_5 : decode jdk_52_method_16_code 5 = .ok (.iload_n 1, 1) := by decide +kernel
theorem d_jdk_52_m16_6 : decode jdk_52_method_16_code 6 = .ok (.aload_n 3, 1) := by decide +kernel
theorem d_jdk_52_m16_7 : decode jdk_52_method_16_code 7 = .ok (.iconst 0, 1) := by decide +kernel
theorem d_jdk_52_m16_8 : decode jdk_52_method_16_code 8 = .ok (.iload_n 2, 1) := by decide +kernel
theorem d_jdk_52_m16_9 : decode jdk_52_method_16_code 9 = .ok (.invokestatic 115, 3) := by decide +kernel
theorem pd0 : parseMethodDescriptor "([CI[BII)I" = some ⟨[(.array .char), .int, (.array .byte), .int, .int], some .int⟩ := by decide +kernel
theorem d_jdk_52_m16_12 : decode jdk_52_method_16_code 12 = .ok (.istore 4, 2) := by decide +kernel
theorem d_jdk_52_m16_14 : decode jdk_52_method_16_code 14 = .ok (.iload 4, 2) := by decide +kernel
theorem d_jdk_52_m16_16 : decode jdk_52_method_16_code 16 = .ok (.iload_n 2, 1) := by decide +kernel
theorem d_jdk_52_m16_17 : decode jdk_52_method_16_code 17 = .ok (.if_icmp .eq 40, 3) := by decide +kernel
theorem d_jdk_52_m16_57 : decode jdk_52_method_16_code 57 = .ok (.aload_n 3, 1) := by decide +kernel
theorem d_jdk_52_m16_58 : decode jdk_52_method_16_code 58 = .ok (.areturn, 1) := by decide +kernel
theorem d_jdk_52_m15_0 : decode jdk_52_method_15_code 0 = .ok (.iload_n 1, 1) := by decide +kernel
theorem d_jdk_52_m15_1 : decode jdk_52_method_15_code 1 = .ok (.aload_n 0, 1) := by decide +kernel
theorem d_jdk_52_m15_2 : decode jdk_52_method_15_code 2 = .ok (.arraylength, 1) := by decide +kernel
theorem d_jdk_52_m15_3 : decode jdk_52_method_15_code 3 = .ok (.isub, 1) := by decide +kernel
theorem d_jdk_52_m15_4 : decode jdk_52_method_15_code 4 = .ok (.bipush 31, 2) := by decide +kernel
theorem d_jdk_52_m15_6 : decode jdk_52_method_15_code 6 = .ok (.iushr, 1) := by decide +kernel
theorem d_jdk_52_m15_7 : decode jdk_52_method_15_code 7 = .ok (.i2b, 1) := by decide +kernel
theorem d_jdk_52_m15_8 : decode jdk_52_method_15_code 8 = .ok (.ireturn, 1) := by decide +kernel
theorem d_jdk_42_m149_0 : decode jdk_42_method_149_code 0 = .ok (.aload_n 0, 1) := by decide +kernel
theorem d_jdk_42_m149_1 : decode jdk_42_method_149_code 1 = .ok (.invokespecial 1, 3) := by decide +kernel
theorem d_jdk_42_m149_4 : decode jdk_42_method_149_code 4 = .ok (.iload_n 3, 1) := by decide +kernel
theorem d_jdk_42_m149_5 : decode jdk_42_method_149_code 5 = .ok (.ifCond .ne 22, 3) := by decide +kernel
theorem d_jdk_42_m149_8 : decode jdk_42_method_149_code 8 = .ok (.aload_n 0, 1) := by decide +kernel
theorem d_jdk_42_m149_9 : decode jdk_42_method_149_code 9 = .ok (.ldc 7, 2) := by decide +kernel
theorem d_jdk_42_m149_11 : decode jdk_42_method_149_code 11 = .ok (.getfield 9, 3) := by decide +kernel
theorem d_jdk_42_m149_14 : decode jdk_42_method_149_code 14 = .ok (.putfield 9, 3) := by decide +kernel
theorem d_jdk_42_m149_17 : decode jdk_42_method_149_code 17 = .ok (.aload_n 0, 1) := by decide +kernel
theorem d_jdk_42_m149_18 : decode jdk_42_method_149_code 18 = .ok (.ldc 7, 2) := by decide +kernel
theorem d_jdk_42_m149_20 : decode jdk_42_method_149_code 20 = .ok (.getfield 15, 3) := by decide +kernel
theorem d_jdk_42_m149_23 : decode jdk_42_method_149_code 23 = .ok (.putfield 15, 3) := by decide +kernel
theorem d_jdk_42_m149_26 : decode jdk_42_method_149_code 26 = .ok (.return_, 1) := by decide +kernel
theorem d_jdk_42_m149_27 : decode jdk_42_method_149_code 27 = .ok (.getstatic 38, 3) := by decide +kernel
theorem d_jdk_42_m149_30 : decode jdk_42_method_149_code 30 = .ok (.ifCond .eq 28, 3) := by decide +kernel
theorem d_jdk_42_m149_33 : decode jdk_42_method_149_code 33 = .ok (.aload_n 1, 1) := by decide +kernel
theorem d_jdk_42_m149_34 : decode jdk_42_method_149_code 34 = .ok (.iload_n 2, 1) := by decide +kernel
theorem d_jdk_42_m149_35 : decode jdk_42_method_149_code 35 = .ok (.iload_n 3, 1) := by decide +kernel
theorem d_jdk_42_m149_36 : decode jdk_42_method_149_code 36 = .ok (.invokestatic 177, 3) := by decide +kernel
theorem pd1 : parseMethodDescriptor "([CII)[B" = some ⟨[(.array .char), .int, .int], some (.array .byte)⟩ := by decide +kernel
theorem d_jdk_42_m149_39 : decode jdk_42_method_149_code 39 = .ok (.astore 5, 2) := by decide +kernel
theorem d_jdk_42_m149_41 : decode jdk_42_method_149_code 41 = .ok (.aload_n 0, 1) := by decide +kernel
theorem d_jdk_42_m149_42 : decode jdk_42_method_149_code 42 = .ok (.aload 5, 2) := by decide +kernel
theorem d_jdk_42_m149_44 : decode jdk_42_method_149_code 44 = .ok (.iload_n 3, 1) := by decide +kernel
theorem d_jdk_42_m149_45 : decode jdk_42_method_149_code 45 = .ok (.invokestatic 47, 3) := by decide +kernel
theorem pd2 : parseMethodDescriptor "([BI)B" = some ⟨[(.array .byte), .int], some .byte⟩ := by decide +kernel
theorem d_jdk_42_m149_48 : decode jdk_42_method_149_code 48 = .ok (.putfield 15, 3) := by decide +kernel
theorem d_jdk_42_m149_51 : decode jdk_42_method_149_code 51 = .ok (.aload_n 0, 1) := by decide +kernel
theorem d_jdk_42_m149_52 : decode jdk_42_method_149_code 52 = .ok (.aload 5, 2) := by decide +kernel
theorem d_jdk_42_m149_54 : decode jdk_42_method_149_code 54 = .ok (.putfield 9, 3) := by decide +kernel
theorem d_jdk_42_m149_57 : decode jdk_42_method_149_code 57 = .ok (.return_, 1) := by decide +kernel
theorem pn1 : plainName "java/lang/String" = true := by first | (simp [plainName, overriddenIn]; done) | decide +kernel
theorem d_jdk_42_m3_0 : decode jdk_42_method_3_code 0 = .ok (.aload_n 0, 1) := by decide +kernel
theorem d_jdk_42_m3_1 : decode jdk_42_method_3_code 1 = .ok (.aload_n 1, 1) := by decide +kernel
theorem d_jdk_42_m3_2 : decode jdk_42_method_3_code 2 = .ok (.iconst 0, 1) := by decide +kernel
theorem d_jdk_42_m3_3 : decode jdk_42_method_3_code 3 = .ok (.aload_n 1, 1) := by decide +kernel
theorem d_jdk_42_m3_4 : decode jdk_42_method_3_code 4 = .ok (.arraylength, 1) := by decide +kernel
theorem d_jdk_42_m3_5 : decode jdk_42_method_3_code 5 = .ok (.aconst_null, 1) := by decide +kernel
theorem d_jdk_42_m3_6 : decode jdk_42_method_3_code 6 = .ok (.invokespecial 27, 3) := by decide +kernel
theorem pd3 : parseMethodDescriptor "([CIILjava/lang/Void;)V" = some ⟨[(.array .char), .int, .int, (.object "java/lang/Void")], none⟩ := by decide +kernel
theorem d_jdk_42_m3_9 : decode jdk_42_method_3_code 9 = .ok (.return_, 1) := by decide +kernel
theorem d_jdk_42_m152_0 : decode jdk_42_method_152_code 0 = .ok (.getstatic 38, 3) := by decide +kernel
theorem d_jdk_42_m152_3 : decode jdk_42_method_152_code 3 = .ok (.ifCond .eq 10, 3) := by decide +kernel
theorem d_jdk_42_m152_6 : decode jdk_42_method_152_code 6 = .ok (.aload_n 0, 1) := by decide +kernel
theorem d_jdk_42_m152_7 : decode jdk_42_method_152_code 7 = .ok (.getfield 15, 3) := by decide +kernel
theorem d_jdk_42_m152_10 : decode jdk_42_method_152_code 10 = .ok (.goto 4, 3) := by decide +kernel
theorem d_jdk_42_m152_14 : decode jdk_42_method_152_code 14 = .ok (.ireturn, 1) := by decide +kernel
theorem d_jdk_42_m54_0 : decode jdk_42_method_54_code 0 = .ok (.aload_n 0, 1) := by decide +kernel
theorem d_jdk_42_m54_1 : decode jdk_42_method_54_code 1 = .ok (.getfield 9, 3) := by decide +kernel
theorem d_jdk_42_m54_4 : decode jdk_42_method_54_code 4 = .ok (.arraylength, 1) := by decide +kernel
theorem d_jdk_42_m54_5 : decode jdk_42_method_54_code 5 = .ok (.aload_n 0, 1) := by decide +kernel
theorem d_jdk_42_m54_6 : decode jdk_42_method_54_code 6 = .ok (.invokevirtual 335, 3) := by decide +kernel
theorem pd4 : parseMethodDescriptor "()B" = some ⟨[], some .byte⟩ := by decide +kernel
theorem d_jdk_42_m54_9 : decode jdk_42_method_54_code 9 = .ok (.ishr, 1) := by decide +kernel
theorem d_jdk_42_m54_10 : decode jdk_42_method_54_code 10 = .ok (.ireturn, 1) := by decide +kernel
theorem d_jdk_42_m154_0 : decode jdk_42_method_154_code 0 = .ok (.getstatic 38, 3) := by decide +kernel
theorem d_jdk_42_m154_3 : decode jdk_42_method_154_code 3 = .ok (.ifCond .eq 14, 3) := by decide +kernel
theorem d_jdk_42_m154_6 : decode jdk_42_method_154_code 6 = .ok (.aload_n 0, 1) := by decide +kernel
theorem d_jdk_42_m154_7 : decode jdk_42_method_154_code 7 = .ok (.getfield 15, 3) := by decide +kernel
theorem d_jdk_42_m154_10 : decode jdk_42_method_154_code 10 = .ok (.ifCond .ne 7, 3) := by decide +kernel
theorem d_jdk_42_m154_13 : decode jdk_42_method_154_code 13 = .ok (.iconst 1, 1) := by decide +kernel
theorem d_jdk_42_m154_14 : decode jdk_42_method_154_code 14 = .ok (.goto 4, 3) := by decide +kernel
theorem d_jdk_42_m154_18 : decode jdk_42_method_154_code 18 = .ok (.ireturn, 1) := by decide +kernel
theorem d_jdk_43_m13_9 : decode jdk_43_method_13_code 9 = .ok (.iload_n 2, 1) := by decide +kernel
theorem d_jdk_43_m13_10 : decode jdk_43_method_13_code 10 = .ok (.aload_n 0, 1) := by decide +kernel
theorem d_jdk_43_m13_11 : decode jdk_43_method_13_code 11 = .ok (.arraylength, 1) := by decide +kernel
theorem d_jdk_43_m13_12 : decode jdk_43_method_13_code 12 = .ok (.if_icmp .ge 20, 3) := by decide +kernel
theorem d_jdk_43_m13_32 : decode jdk_43_method_13_code 32 = .ok (.iconst 1, 1) := by decide +kernel
theorem d_jdk_43_m13_33 : decode jdk_43_method_13_code 33 = .ok (.ireturn, 1) := by decide +kernel
theorem d_jdk_43_m13_15 : decode jdk_43_method_13_code 15 = .ok (.aload_n 0, 1) := by decide +kernel
theorem d_jdk_43_m13_16 : decode jdk_43_method_13_code 16 = .ok (.iload_n 2, 1) := by decide +kernel
theorem d_jdk_43_m13_17 : decode jdk_43_method_13_code 17 = .ok (.baload, 1) := by decide +kernel
theorem d_jdk_43_m13_18 : decode jdk_43_method_13_code 18 = .ok (.aload_n 1, 1) := by decide +kernel
theorem d_jdk_43_m13_19 : decode jdk_43_method_13_code 19 = .ok (.iload_n 2, 1) := by decide +kernel
theorem d_jdk_43_m13_20 : decode jdk_43_method_13_code 20 = .ok (.baload, 1) := by decide +kernel
theorem d_jdk_43_m13_21 : decode jdk_43_method_13_code 21 = .ok (.if_icmp .eq 5, 3) := by decide +kernel
theorem d_jdk_43_m13_26 : decode jdk_43_method_13_code 26 = .ok (.iinc 2 1, 3) := by decide +kernel
theorem d_jdk_43_m13_29 : decode jdk_43_method_13_code 29 = .ok (.goto (-20), 3) := by decide +kernel
theorem d_jdk_43_m13_24 : decode jdk_43_method_13_code 24 = .ok (.iconst 0, 1) := by decide +kernel
theorem d_jdk_43_m13_25 : decode jdk_43_method_13_code 25 = .ok (.ireturn, 1) := by decide +kernel
theorem d_jdk_43_m13_0 : decode jdk_43_method_13_code 0 = .ok (.aload_n 0, 1) := by decide +kernel
theorem d_jdk_43_m13_1 : decode jdk_43_method_13_code 1 = .ok (.arraylength, 1) := by decide +kernel
theorem d_jdk_43_m13_2 : decode jdk_43_method_13_code 2 = .ok (.aload_n 1, 1) := by decide +kernel
theorem d_jdk_43_m13_3 : decode jdk_43_method_13_code 3 = .ok (.arraylength, 1) := by decide +kernel
theorem d_jdk_43_m13_4 : decode jdk_43_method_13_code 4 = .ok (.if_icmp .ne 30, 3) := by decide +kernel
theorem d_jdk_43_m13_7 : decode jdk_43_method_13_code 7 = .ok (.iconst 0, 1) := by decide +kernel
theorem d_jdk_43_m13_8 : decode jdk_43_method_13_code 8 = .ok (.istore_n 2, 1) := by decide +kernel
theorem d_jdk_43_m13_34 : decode jdk_43_method_13_code 34 = .ok (.iconst 0, 1) := by decide +kernel
theorem d_jdk_43_m13_35 : decode jdk_43_method_13_code 35 = .ok (.ireturn, 1) := by decide +kernel
theorem pn2 : plainName "java/lang/StringLatin1" = true := by first | (simp [plainName, overriddenIn]; done) | decide +kernel
theorem d_jdk_42_m66_0 : decode jdk_42_method_66_code 0 = .ok (.aload_n 0, 1) := by decide +kernel
theorem d_jdk_42_m66_1 : decode jdk_42_method_66_code 1 = .ok (.aload_n 1, 1) := by decide +kernel
theorem d_jdk_42_m66_2 : decode jdk_42_method_66_code 2 = .ok (.if_acmp .ne 5, 3) := by decide +kernel
theorem d_jdk_42_m66_5 : decode jdk_42_method_66_code 5 = .ok (.iconst 1, 1) := by decide +kernel
theorem d_jdk_42_m66_6 : decode jdk_42_method_66_code 6 = .ok (.ireturn, 1) := by decide +kernel
theorem d_jdk_42_m66_7 : decode jdk_42_method_66_code 7 = .ok (.aload_n 1, 1) := by decide +kernel
theorem d_jdk_42_m66_8 : decode jdk_42_method_66_code 8 = .ok (.instanceof 10, 3) := by decide +kernel
theorem d_jdk_42_m66_11 : decode jdk_42_method_66_code 11 = .ok (.ifCond .eq 43, 3) := by decide +kernel
theorem d_jdk_42_m66_14 : decode jdk_42_method_66_code 14 = .ok (.aload_n 1, 1) := by decide +kernel
theorem d_jdk_42_m66_15 : decode jdk_42_method_66_code 15 = .ok (.checkcast 10, 3) := by decide +kernel
theorem d_jdk_42_m66_18 : decode jdk_42_method_66_code 18 = .ok (.astore_n 2, 1) := by decide +kernel
theorem d_jdk_42_m66_19 : decode jdk_42_method_66_code 19 = .ok (.getstatic 38, 3) := by decide +kernel
theorem d_jdk_42_m66_22 : decode jdk_42_method_66_code 22 = .ok (.ifCond .eq 14, 3) := by decide +kernel
theorem d_jdk_42_m66_25 : decode jdk_42_method_66_code 25 = .ok (.aload_n 0, 1) := by decide +kernel
theorem d_jdk_42_m66_26 : decode jdk_42_method_66_code 26 = .ok (.getfield 15, 3) := by decide +kernel
theorem d_jdk_42_m66_29 : decode jdk_42_method_66_code 29 = .ok (.aload_n 2, 1) := by decide +kernel
theorem d_jdk_42_m66_30 : decode jdk_42_method_66_code 30 = .ok (.getfield 15, 3) := by decide +kernel
theorem d_jdk_42_m66_33 : decode jdk_42_method_66_code 33 = .ok (.if_icmp .ne 21, 3) := by decide +kernel
theorem d_jdk_42_m66_36 : decode jdk_42_method_66_code 36 = .ok (.aload_n 0, 1) := by decide +kernel
theorem d_jdk_42_m66_37 : decode jdk_42_method_66_code 37 = .ok (.getfield 9, 3) := by decide +kernel
theorem d_jdk_42_m66_40 : decode jdk_42_method_66_code 40 = .ok (.aload_n 2, 1) := by decide +kernel
theorem d_jdk_42_m66_41 : decode jdk_42_method_66_code 41 = .ok (.getfield 9, 3) := by decide +kernel
theorem d_jdk_42_m66_44 : decode jdk_42_method_66_code 44 = .ok (.invokestatic 541, 3) := by decide +kernel
theorem pd5 : parseMethodDescriptor "([B[B)Z" = some ⟨[(.array .byte), (.array .byte)], some .boolean⟩ := by decide +kernel
theorem d_jdk_42_m66_47 : decode jdk_42_method_66_code 47 = .ok (.ifCond .eq 7, 3) := by decide +kernel
theorem d_jdk_42_m66_54 : decode jdk_42_method_66_code 54 = .ok (.iconst 0, 1) := by decide +kernel
theorem d_jdk_42_m66_55 : decode jdk_42_method_66_code 55 = .ok (.ireturn, 1) := by decide +kernel
theorem d_jdk_42_m66_50 : decode jdk_42_method_66_code 50 = .ok (.iconst 1, 1) := by decide +kernel
theorem d_jdk_42_m66_51 : decode jdk_42_method_66_code 51 = .ok (.goto 4, 3) := by decide +kernel
theorem d_jdk_29_m65_0 : decode jdk_29_method_65_code 0 = .ok (.iload_n 0, 1) := by decide +kernel
theorem d_jdk_29_m65_1 : decode jdk_29_method_65_code 1 = .ok (.iload_n 1, 1) := by decide +kernel
theorem d_jdk_29_m65_2 : decode jdk_29_method_65_code 2 = .ok (.if_icmp .lt 7, 3) := by decide +kernel
theorem d_jdk_29_m65_9 : decode jdk_29_method_65_code 9 = .ok (.iload_n 1, 1) := by decide +kernel
theorem d_jdk_29_m65_10 : decode jdk_29_method_65_code 10 = .ok (.ireturn, 1) := by decide +kernel
theorem d_jdk_29_m65_5 : decode jdk_29_method_65_code 5 = .ok (.iload_n 0, 1) := by decide +kernel
theorem d_jdk_29_m65_6 : decode jdk_29_method_65_code 6 = .ok (.goto 4, 3) := by decide +kernel
theorem d_jdk_29_m69_0 : decode jdk_29_method_69_code 0 = .ok (.iload_n 0, 1) := by decide +kernel
theorem d_jdk_29_m69_1 : decode jdk_29_method_69_code 1 = .ok (.iload_n 1, 1) := by decide +kernel
theorem d_jdk_29_m69_2 : decode jdk_29_method_69_code 2 = .ok (.if_icmp .gt 7, 3) := by decide +kernel
theorem d_jdk_29_m69_9 : decode jdk_29_method_69_code 9 = .ok (.iload_n 1, 1) := by decide +kernel
theorem d_jdk_29_m69_10 : decode jdk_29_method_69_code 10 = .ok (.ireturn, 1) := by decide +kernel
theorem d_jdk_29_m69_5 : decode jdk_29_method_69_code 5 = .ok (.iload_n 0, 1) := by decide +kernel
theorem d_jdk_29_m69_6 : decode jdk_29_method_69_code 6 = .ok (.goto 4, 3) := by decide +kernel
theorem d_jdk_43_m4_0 : decode jdk_43_method_4_code 0 = .ok (.iload_n 0, 1) := by decide +kernel
theorem d_jdk_43_m4_1 : decode jdk_43_method_4_code 1 = .ok (.ifCond .lt 14, 3) := by decide +kernel
theorem d_jdk_43_m4_4 : decode jdk_43_method_4_code 4 = .ok (.iload_n 0, 1) := by decide +kernel
theorem d_jdk_43_m4_5 : decode jdk_43_method_4_code 5 = .ok (.sipush 255, 3) := by decide +kernel
theorem d_jdk_43_m4_8 : decode jdk_43_method_4_code 8 = .ok (.if_icmp .gt 7, 3) := by decide +kernel
theorem d_jdk_43_m4_11 : decode jdk_43_method_4_code 11 = .ok (.iconst 1, 1) := by decide +kernel
theorem d_jdk_43_m4_12 : decode jdk_43_method_4_code 12 = .ok (.goto 4, 3) := by decide +kernel
theorem d_jdk_43_m4_16 : decode jdk_43_method_4_code 16 = .ok (.ireturn, 1) := by decide +kernel
theorem d_jdk_43_m23_7 : decode jdk_43_method_23_code 7 = .ok (.iload 5, 2) := by decide +kernel
theorem d_jdk_43_m23_9 : decode jdk_43_method_23_code 9 = .ok (.iload_n 3, 1) := by decide +kernel
theorem d_jdk_43_m23_10 : decode jdk_43_method_23_code 10 = .ok (.if_icmp .ge 21, 3) := by decide +kernel
theorem d_jdk_43_m23_31 : decode jdk_43_method_23_code 31 = .ok (.iconst (-1), 1) := by decide +kernel
theorem d_jdk_43_m23_32 : decode jdk_43_method_23_code 32 = .ok (.ireturn, 1) := by decide +kernel
theorem d_jdk_43_m23_13 : decode jdk_43_method_23_code 13 = .ok (.aload_n 0, 1) := by decide +kernel
theorem d_jdk_43_m23_14 : decode jdk_43_method_23_code 14 = .ok (.iload 5, 2) := by decide +kernel
theorem d_jdk_43_m23_16 : decode jdk_43_method_23_code 16 = .ok (.baload, 1) := by decide +kernel
theorem d_jdk_43_m23_17 : decode jdk_43_method_23_code 17 = .ok (.iload 4, 2) := by decide +kernel
theorem d_jdk_43_m23_19 : decode jdk_43_method_23_code 19 = .ok (.if_icmp .ne 6, 3) := by decide +kernel
theorem d_jdk_43_m23_22 : decode jdk_43_method_23_code 22 = .ok (.iload 5, 2) := by decide +kernel
theorem d_jdk_43_m23_24 : decode jdk_43_method_23_code 24 = .ok (.ireturn, 1) := by decide +kernel
theorem d_jdk_43_m23_25 : decode jdk_43_method_23_code 25 = .ok (.iinc 5 1, 3) := by decide +kernel
theorem d_jdk_43_m23_28 : decode jdk_43_method_23_code 28 = .ok (.goto (-21), 3) := by decide +kernel
theorem d_jdk_43_m23_0 : decode jdk_43_method_23_code 0 = .ok (.iload_n 1, 1) := by decide +kernel
theorem d_jdk_43_m23_1 : decode jdk_43_method_23_code 1 = .ok (.i2b, 1) := by decide +kernel
theorem d_jdk_43_m23_2 : decode jdk_43_method_23_code 2 = .ok (.istore 4, 2) := by decide +kernel
theorem d_jdk_43_m23_4 : decode jdk_43_method_23_code 4 = .ok (.iload_n 2, 1) := by decide +kernel
theorem d_jdk_43_m23_5 : decode jdk_43_method_23_code 5 = .ok (.istore 5, 2) := by decide +kernel
theorem d_jdk_43_m22_0 : decode jdk_43_method_22_code 0 = .ok (.iload_n 1, 1) := by decide +kernel
theorem d_jdk_43_m22_1 : decode jdk_43_method_22_code 1 = .ok (.invokestatic 88, 3) := by decide +kernel
theorem pd6 : parseMethodDescriptor "(I)Z" = some ⟨[.int], some .boolean⟩ := by decide +kernel
theorem d_jdk_43_m22_4 : decode jdk_43_method_22_code 4 = .ok (.ifCond .ne 5, 3) := by decide +kernel
theorem d_jdk_43_m22_9 : decode jdk_43_method_22_code 9 = .ok (.iload_n 2, 1) := by decide +kernel
theorem d_jdk_43_m22_10 : decode jdk_43_method_22_code 10 = .ok (.iconst 0, 1) := by decide +kernel
theorem d_jdk_43_m22_11 : decode jdk_43_method_22_code 11 = .ok (.invokestatic 92, 3) := by decide +kernel
theorem pd7 : parseMethodDescriptor "(II)I" = some ⟨[.int, .int], some .int⟩ := by decide +kernel
theorem d_jdk_43_m22_14 : decode jdk_43_method_22_code 14 = .ok (.istore_n 2, 1) := by decide +kernel
theorem d_jdk_43_m22_15 : decode jdk_43_method_22_code 15 = .ok (.iload_n 3, 1) := by decide +kernel
theorem d_jdk_43_m22_16 : decode jdk_43_method_22_code 16 = .ok (.aload_n 0, 1) := by decide +kernel
theorem d_jdk_43_m22_17 : decode jdk_43_method_22_code 17 = .ok (.arraylength, 1) := by decide +kernel
theorem d_jdk_43_m22_18 : decode jdk_43_method_22_code 18 = .ok (.invokestatic 38, 3) := by decide +kernel
theorem d_jdk_43_m22_21 : decode jdk_43_method_22_code 21 = .ok (.istore_n 3, 1) := by decide +kernel
theorem d_jdk_43_m22_22 : decode jdk_43_method_22_code 22 = .ok (.iload_n 2, 1) := by decide +kernel
theorem d_jdk_43_m22_23 : decode jdk_43_method_22_code 23 = .ok (.iload_n 3, 1) := by decide +kernel
theorem d_jdk_43_m22_24 : decode jdk_43_method_22_code 24 = .ok (.if_icmp .lt 5, 3) := by decide +kernel
theorem d_jdk_43_m22_29 : decode jdk_43_method_22_code 29 = .ok (.aload_n 0, 1) := by decide +kernel
theorem d_jdk_43_m22_30 : decode jdk_43_method_22_code 30 = .ok (.iload_n 1, 1) := by decide +kernel
theorem d_jdk_43_m22_31 : decode jdk_43_method_22_code 31 = .ok (.iload_n 2, 1) := by decide +kernel
theorem d_jdk_43_m22_32 : decode jdk_43_method_22_code 32 = .ok (.iload_n 3, 1) := by decide +kernel
theorem d_jdk_43_m22_33 : decode jdk_43_method_22_code 33 = .ok (.invokestatic 95, 3) := by decide +kernel
theorem pd8 : parseMethodDescriptor "([BIII)I" = some ⟨[(.array .byte), .int, .int, .int], some .int⟩ := by decide +kernel
theorem d_jdk_43_m22_36 : decode jdk_43_method_22_code 36 = .ok (.ireturn, 1) := by decide +kernel
theorem d_jdk_43_m22_27 : decode jdk_43_method_22_code 27 = .ok (.iconst (-1), 1) := by decide +kernel
theorem d_jdk_43_m22_28 : decode jdk_43_method_22_code 28 = .ok (.ireturn, 1) := by decide +kernel
theorem d_jdk_41_m12_0 : decode jdk_41_method_12_code 0 = .ok (.iload_n 0, 1) := by decide +kernel
theorem d_jdk_41_m12_1 : decode jdk_41_method_12_code 1 = .ok (.ifCond .lt 13, 3) := by decide +kernel
theorem d_jdk_41_m12_4 : decode jdk_41_method_12_code 4 = .ok (.iload_n 0, 1) := by decide +kernel
theorem d_jdk_41_m12_5 : decode jdk_41_method_12_code 5 = .ok (.iload_n 1, 1) := by decide +kernel
theorem d_jdk_41_m12_6 : decode jdk_41_method_12_code 6 = .ok (.if_icmp .gt 8, 3) := by decide +kernel
theorem d_jdk_41_m12_9 : decode jdk_41_method_12_code 9 = .ok (.iload_n 1, 1) := by decide +kernel
theorem d_jdk_41_m12_10 : decode jdk_41_method_12_code 10 = .ok (.iload_n 2, 1) := by decide +kernel
theorem d_jdk_41_m12_11 : decode jdk_41_method_12_code 11 = .ok (.if_icmp .le 11, 3) := by decide +kernel
theorem d_jdk_41_m12_22 : decode jdk_41_method_12_code 22 = .ok (.iload_n 0, 1) := by decide +kernel
theorem d_jdk_41_m12_23 : decode jdk_41_method_12_code 23 = .ok (.ireturn, 1) := by decide +kernel
theorem pn3 : plainName "jdk/internal/util/Preconditions" = true := by first | (simp [plainName, overriddenIn]; done) | decide +kernel
theorem d_jdk_42_m158_0 : decode jdk_42_method_158_code 0 = .ok (.iload_n 0, 1) := by decide +kernel
theorem d_jdk_42_m158_1 : decode jdk_42_method_158_code 1 = .ok (.iload_n 1, 1) := by decide +kernel
theorem d_jdk_42_m158_2 : decode jdk_42_method_158_code 2 = .ok (.iload_n 2, 1) := by decide +kernel
theorem d_jdk_42_m158_3 : decode jdk_42_method_158_code 3 = .ok (.getstatic 1053, 3) := by decide +kernel
theorem d_jdk_42_m158_6 : decode jdk_42_method_158_code 6 = .ok (.invokestatic 1062, 3) := by decide +kernel
theorem pd9 : parseMethodDescriptor "(IIILjava/util/function/BiFunction;)I" = some ⟨[.int, .int, .int, (.object "java/util/function/BiFunction")], some .int⟩ := by decide +kernel
theorem d_jdk_42_m158_9 : decode jdk_42_method_158_code 9 = .ok (.pop, 1) := by decide +kernel
theorem d_jdk_42_m158_10 : decode jdk_42_method_158_code 10 = .ok (.return_, 1) := by decide +kernel
theorem d_jdk_42_m151_0 : decode jdk_42_method_151_code 0 = .ok (.aload_n 0, 1) := by decide +kernel
theorem d_jdk_42_m151_1 : decode jdk_42_method_151_code 1 = .ok (.invokespecial 1, 3) := by decide +kernel
theorem d_jdk_42_m151_4 : decode jdk_42_method_151_code 4 = .ok (.aload_n 0, 1) := by decide +kernel
theorem d_jdk_42_m151_5 : decode jdk_42_method_151_code 5 = .ok (.aload_n 1, 1) := by decide +kernel
theorem d_jdk_42_m151_6 : decode jdk_42_method_151_code 6 = .ok (.putfield 9, 3) := by decide +kernel
theorem d_jdk_42_m151_9 : decode jdk_42_method_151_code 9 = .ok (.aload_n 0, 1) := by decide +kernel
theorem d_jdk_42_m151_10 : decode jdk_42_method_151_code 10 = .ok (.iload_n 2, 1) := by decide +kernel
theorem d_jdk_42_m151_11 : decode jdk_42_method_151_code 11 = .ok (.putfield 15, 3) := by decide +kernel
theorem d_jdk_42_m151_14 : decode jdk_42_method_151_code 14 = .ok (.return_, 1) := by decide +kernel
theorem d_jdk_42_m80_0 : decode jdk_42_method_80_code 0 = .ok (.aload_n 0, 1) := by decide +kernel
theorem d_jdk_42_m80_1 : decode jdk_42_method_80_code 1 = .ok (.invokevirtual 492, 3) := by decide +kernel
theorem pd10 : parseMethodDescriptor "()Z" = some ⟨[], some .boolean⟩ := by decide +kernel
theorem d_jdk_42_m80_4 : decode jdk_42_method_80_code 4 = .ok (.ifCond .eq 19, 3) := by decide +kernel
theorem d_jdk_42_m80_7 : decode jdk_42_method_80_code 7 = .ok (.aload_n 0, 1) := by decide +kernel
theorem d_jdk_42_m80_8 : decode jdk_42_method_80_code 8 = .ok (.getfield 9, 3) := by decide +kernel
theorem d_jdk_42_m80_11 : decode jdk_42_method_80_code 11 = .ok (.iload_n 1, 1) := by decide +kernel
theorem d_jdk_42_m80_12 : decode jdk_42_method_80_code 12 = .ok (.iload_n 2, 1) := by decide +kernel
theorem d_jdk_42_m80_13 : decode jdk_42_method_80_code 13 = .ok (.aload_n 0, 1) := by decide +kernel
theorem d_jdk_42_m80_14 : decode jdk_42_method_80_code 14 = .ok (.invokevirtual 505, 3) := by decide +kernel
theorem pd11 : parseMethodDescriptor "()I" = some ⟨[], some .int⟩ := by decide +kernel
theorem d_jdk_42_m80_17 : decode jdk_42_method_80_code 17 = .ok (.invokestatic 637, 3) := by decide +kernel
theorem d_jdk_42_m80_20 : decode jdk_42_method_80_code 20 = .ok (.goto 16, 3) := by decide +kernel
theorem d_jdk_42_m80_36 : decode jdk_42_method_80_code 36 = .ok (.ireturn, 1) := by decide +kernel
theorem d_jdk_42_m79_0 : decode jdk_42_method_79_code 0 = .ok (.aload_n 0, 1) := by decide +kernel
theorem d_jdk_42_m79_1 : decode jdk_42_method_79_code 1 = .ok (.iload_n 1, 1) := by decide +kernel
theorem d_jdk_42_m79_2 : decode jdk_42_method_79_code 2 = .ok (.iconst 0, 1) := by decide +kernel
theorem d_jdk_42_m79_3 : decode jdk_42_method_79_code 3 = .ok (.invokevirtual 633, 3) := by decide +kernel
theorem d_jdk_42_m79_6 : decode jdk_42_method_79_code 6 = .ok (.ireturn, 1) := by decide +kernel
theorem d_jdk_65_m131_0 : decode jdk_65_method_131_code 0 = .ok (.iload_n 1, 1) := by decide +kernel
theorem d_jdk_65_m131_1 : decode jdk_65_method_131_code 1 = .ok (.iload_n 0, 1) := by decide +kernel
theorem d_jdk_65_m131_2 : decode jdk_65_method_131_code 2 = .ok (.if_icmp .ge 35, 3) := by decide +kernel
theorem d_jdk_65_m131_37 : decode jdk_65_method_131_code 37 = .ok (.return_, 1) := by decide +kernel
theorem pn4 : plainName "java/util/Arrays" = true := by first | (simp [plainName, overriddenIn]; done) | decide +kernel
theorem d_jdk_65_m133_0 : decode jdk_65_method_133_code 0 = .ok (.iload_n 1, 1) := by decide +kernel
theorem d_jdk_65_m133_1 : decode jdk_65_method_133_code 1 = .ok (.iload_n 2, 1) := by decide +kernel
theorem d_jdk_65_m133_2 : decode jdk_65_method_133_code 2 = .ok (.invokestatic 343, 3) := by decide +kernel
theorem pd12 : parseMethodDescriptor "(II)V" = some ⟨[.int, .int], none⟩ := by decide +kernel
theorem d_jdk_65_m133_5 : decode jdk_65_method_133_code 5 = .ok (.iload_n 2, 1) := by decide +kernel
theorem d_jdk_65_m133_6 : decode jdk_65_method_133_code 6 = .ok (.iload_n 1, 1) := by decide +kernel
theorem d_jdk_65_m133_7 : decode jdk_65_method_133_code 7 = .ok (.isub, 1) := by decide +kernel
theorem d_jdk_65_m133_8 : decode jdk_65_method_133_code 8 = .ok (.istore_n 3, 1) := by decide +kernel
theorem d_jdk_65_m133_9 : decode jdk_65_method_133_code 9 = .ok (.iload_n 3, 1) := by decide +kernel
theorem d_jdk_65_m133_10 : decode jdk_65_method_133_code 10 = .ok (.newarray .byte, 2) := by decide +kernel
theorem d_jdk_65_m133_12 : decode jdk_65_method_133_code 12 = .ok (.astore 4, 2) := by decide +kernel
theorem d_jdk_65_m133_14 : decode jdk_65_method_133_code 14 = .ok (.aload_n 0, 1) := by decide +kernel
theorem d_jdk_65_m133_15 : decode jdk_65_method_133_code 15 = .ok (.iload_n 1, 1) := by decide +kernel
theorem d_jdk_65_m133_16 : decode jdk_65_method_133_code 16 = .ok (.aload 4, 2) := by decide +kernel
theorem d_jdk_65_m133_18 : decode jdk_65_method_133_code 18 = .ok (.iconst 0, 1) := by decide +kernel
theorem d_jdk_65_m133_19 : decode jdk_65_method_133_code 19 = .ok (.aload_n 0, 1) := by decide +kernel
theorem d_jdk_65_m133_20 : decode jdk_65_method_133_code 20 = .ok (.arraylength, 1) := by decide +kernel
theorem d_jdk_65_m133_21 : decode jdk_65_method_133_code 21 = .ok (.iload_n 1, 1) := by decide +kernel
theorem d_jdk_65_m133_22 : decode jdk_65_method_133_code 22 = .ok (.isub, 1) := by decide +kernel
theorem d_jdk_65_m133_23 : decode jdk_65_method_133_code 23 = .ok (.iload_n 3, 1) := by decide +kernel
theorem d_jdk_65_m133_24 : decode jdk_65_method_133_code 24 = .ok (.invokestatic 304, 3) := by decide +kernel
theorem d_jdk_65_m133_27 : decode jdk_65_method_133_code 27 = .ok (.invokestatic 150, 3) := by decide +kernel
theorem d_jdk_65_m133_30 : decode jdk_65_method_133_code 30 = .ok (.aload 4, 2) := by decide +kernel
theorem d_jdk_65_m133_32 : decode jdk_65_method_133_code 32 = .ok (.areturn, 1) := by decide +kernel
theorem d_jdk_65_m132_0 : decode jdk_65_method_132_code 0 = .ok (.iload_n 1, 1) := by decide +kernel
theorem d_jdk_65_m132_1 : decode jdk_65_method_132_code 1 = .ok (.ifCond .ne 9, 3) := by decide +kernel
theorem d_jdk_65_m132_4 : decode jdk_65_method_132_code 4 = .ok (.iload_n 2, 1) := by decide +kernel
theorem d_jdk_65_m132_5 : decode jdk_65_method_132_code 5 = .ok (.aload_n 0, 1) := by decide +kernel
theorem d_jdk_65_m132_6 : decode jdk_65_method_132_code 6 = .ok (.arraylength, 1) := by decide +kernel
theorem d_jdk_65_m132_7 : decode jdk_65_method_132_code 7 = .ok (.if_icmp .eq 10, 3) := by decide +kernel
theorem d_jdk_65_m132_10 : decode jdk_65_method_132_code 10 = .ok (.aload_n 0, 1) := by decide +kernel
theorem d_jdk_65_m132_11 : decode jdk_65_method_132_code 11 = .ok (.iload_n 1, 1) := by decide +kernel
theorem d_jdk_65_m132_12 : decode jdk_65_method_132_code 12 = .ok (.iload_n 2, 1) := by decide +kernel
theorem d_jdk_65_m132_13 : decode jdk_65_method_132_code 13 = .ok (.invokestatic 339, 3) := by decide +kernel
theorem pd13 : parseMethodDescriptor "([BII)[B" = some ⟨[(.array .byte), .int, .int], some (.array .byte)⟩ := by decide +kernel
theorem d_jdk_65_m132_16 : decode jdk_65_method_132_code 16 = .ok (.areturn, 1) := by decide +kernel
theorem d_jdk_43_m47_0 : decode jdk_43_method_47_code 0 = .ok (.iload_n 2, 1) := by decide +kernel
theorem d_jdk_43_m47_1 : decode jdk_43_method_47_code 1 = .ok (.ifCond .ne 6, 3) := by decide +kernel
theorem d_jdk_43_m47_7 : decode jdk_43_method_47_code 7 = .ok (.new 1, 3) := by decide +kernel
theorem d_jdk_43_m47_10 : decode jdk_43_method_47_code 10 = .ok (.dup, 1) := by decide +kernel
theorem d_jdk_43_m47_11 : decode jdk_43_method_47_code 11 = .ok (.aload_n 0, 1) := by decide +kernel
theorem d_jdk_43_m47_12 : decode jdk_43_method_47_code 12 = .ok (.iload_n 1, 1) := by decide +kernel
theorem d_jdk_43_m47_13 : decode jdk_43_method_47_code 13 = .ok (.iload_n 1, 1) := by decide +kernel
theorem d_jdk_43_m47_14 : decode jdk_43_method_47_code 14 = .ok (.iload_n 2, 1) := by decide +kernel
theorem d_jdk_43_m47_15 : decode jdk_43_method_47_code 15 = .ok (.iadd, 1) := by decide +kernel
theorem d_jdk_43_m47_16 : decode jdk_43_method_47_code 16 = .ok (.invokestatic 232, 3) := by decide +kernel
theorem d_jdk_43_m47_19 : decode jdk_43_method_47_code 19 = .ok (.iconst 0, 1) := by decide +kernel
theorem d_jdk_43_m47_20 : decode jdk_43_method_47_code 20 = .ok (.invokespecial 112, 3) := by decide +kernel
theorem pd14 : parseMethodDescriptor "([BB)V" = some ⟨[(.array .byte), .byte], none⟩ := by decide +kernel
theorem d_jdk_43_m47_23 : decode jdk_43_method_47_code 23 = .ok (.areturn, 1) := by decide +kernel
theorem d_jdk_42_m92_0 : decode jdk_42_method_92_code 0 = .ok (.aload_n 0, 1) := by decide +kernel
theorem d_jdk_42_m92_1 : decode jdk_42_method_92_code 1 = .ok (.invokevirtual 505, 3) := by decide +kernel
theorem d_jdk_42_m92_4 : decode jdk_42_method_92_code 4 = .ok (.istore_n 3, 1) := by decide +kernel
theorem d_jdk_42_m92_5 : decode jdk_42_method_92_code 5 = .ok (.iload_n 1, 1) := by decide +kernel
theorem d_jdk_42_m92_6 : decode jdk_42_method_92_code 6 = .ok (.iload_n 2, 1) := by decide +kernel
theorem d_jdk_42_m92_7 : decode jdk_42_method_92_code 7 = .ok (.iload_n 3, 1) := by decide +kernel
theorem d_jdk_42_m92_8 : decode jdk_42_method_92_code 8 = .ok (.invokestatic 521, 3) := by decide +kernel
theorem pd15 : parseMethodDescriptor "(III)V" = some ⟨[.int, .int, .int], none⟩ := by decide +kernel
theorem d_jdk_42_m92_11 : decode jdk_42_method_92_code 11 = .ok (.iload_n 1, 1) := by decide +kernel
theorem d_jdk_42_m92_12 : decode jdk_42_method_92_code 12 = .ok (.ifCond .ne 10, 3) := by decide +kernel
theorem d_jdk_42_m92_15 : decode jdk_42_method_92_code 15 = .ok (.iload_n 2, 1) := by decide +kernel
theorem d_jdk_42_m92_16 : decode jdk_42_method_92_code 16 = .ok (.iload_n 3, 1) := by decide +kernel
theorem d_jdk_42_m92_17 : decode jdk_42_method_92_code 17 = .ok (.if_icmp .ne 5, 3) := by decide +kernel
theorem d_jdk_42_m92_22 : decode jdk_42_method_92_code 22 = .ok (.iload_n 2, 1) := by decide +kernel
theorem d_jdk_42_m92_23 : decode jdk_42_method_92_code 23 = .ok (.iload_n 1, 1) := by decide +kernel
theorem d_jdk_42_m92_24 : decode jdk_42_method_92_code 24 = .ok (.isub, 1) := by decide +kernel
theorem d_jdk_42_m92_25 : decode jdk_42_method_92_code 25 = .ok (.istore 4, 2) := by decide +kernel
theorem d_jdk_42_m92_27 : decode jdk_42_method_92_code 27 = .ok (.aload_n 0, 1) := by decide +kernel
theorem d_jdk_42_m92_28 : decode jdk_42_method_92_code 28 = .ok (.invokevirtual 492, 3) := by decide +kernel
theorem d_jdk_42_m92_31 : decode jdk_42_method_92_code 31 = .ok (.ifCond .eq 16, 3) := by decide +kernel
theorem d_jdk_42_m92_34 : decode jdk_42_method_92_code 34 = .ok (.aload_n 0, 1) := by decide +kernel
theorem d_jdk_42_m92_35 : decode jdk_42_method_92_code 35 = .ok (.getfield 9, 3) := by decide +kernel
theorem d_jdk_42_m92_38 : decode jdk_42_method_92_code 38 = .ok (.iload_n 1, 1) := by decide +kernel
theorem d_jdk_42_m92_39 : decode jdk_42_method_92_code 39 = .ok (.iload 4, 2) := by decide +kernel
theorem d_jdk_42_m92_41 : decode jdk_42_method_92_code 41 = .ok (.invokestatic 685, 3) := by decide +kernel
theorem pd16 : parseMethodDescriptor "([BII)Ljava/lang/String;" = some ⟨[(.array .byte), .int, .int], some (.object "java/lang/String")⟩ := by decide +kernel
theorem d_jdk_42_m92_44 : decode jdk_42_method_92_code 44 = .ok (.goto 13, 3) := by decide +kernel
theorem d_jdk_42_m92_57 : decode jdk_42_method_92_code 57 = .ok (.areturn, 1) := by decide +kernel
theorem d_m4_0 : decode method_4_code 0 = .ok (.lload_n 0, 1) := by decide +kernel
theorem d_m4_1 : decode method_4_code 1 = .ok (.bipush 32, 2) := by decide +kernel
theorem d_m4_3 : decode method_4_code 3 = .ok (.iload_n 2, 1) := by decide +kernel
theorem d_m4_4 : decode method_4_code 4 = .ok (.iadd, 1) := by decide +kernel
theorem d_m4_5 : decode method_4_code 5 = .ok (.lushr, 1) := by decide +kernel
theorem d_m4_6 : decode method_4_code 6 = .ok (.lconst 1, 1) := by decide +kernel
theorem d_m4_7 : decode method_4_code 7 = .ok (.land, 1) := by decide +kernel
theorem d_m4_8 : decode method_4_code 8 = .ok (.lconst 0, 1) := by decide +kernel
theorem d_m4_9 : decode method_4_code 9 = .ok (.lcmp, 1) := by decide +kernel
theorem d_m4_10 : decode method_4_code 10 = .ok (.ifCond .eq 6, 3) := by decide +kernel
theorem d_m4_16 : decode method_4_code 16 = .ok (.lload_n 0, 1) := by decide +kernel
theorem d_m4_17 : decode method_4_code 17 = .ok (.bipush 8, 2) := by decide +kernel
theorem d_m4_19 : decode method_4_code 19 = .ok (.iload_n 2, 1) := by decide +kernel
theorem d_m4_20 : decode method_4_code 20 = .ok (.imul, 1) := by decide +kernel
theorem d_m4_21 : decode method_4_code 21 = .ok (.lushr, 1) := by decide +kernel
theorem d_m4_22 : decode method_4_code 22 = .ok (.ldc2_w 52, 3) := by decide +kernel
theorem d_m4_25 : decode method_4_code 25 = .ok (.land, 1) := by decide +kernel
theorem d_m4_26 : decode method_4_code 26 = .ok (.l2i, 1) := by decide +kernel
theorem d_m4_27 : decode method_4_code 27 = .ok (.i2c, 1) := by decide +kernel
theorem d_m4_28 : decode method_4_code 28 = .ok (.ireturn, 1) := by decide +kernel
theorem d_m4_13 : decode method_4_code 13 = .ok (.bipush 95, 2) := by decide +kernel
theorem d_m4_15 : decode method_4_code 15 = .ok (.ireturn, 1) := by decide +kernel
theorem pn5 : plainName "com/example/plugwright/plugwright/platform/AttributeFitsPinLaw" = true := by first | (simp [plainName, overriddenIn]; done) | decide +kernel
theorem d_m5_0 : decode method_5_code 0 = .ok (.lload_n 0, 1) := by decide +kernel
theorem d_m5_1 : decode method_5_code 1 = .ok (.bipush 32, 2) := by decide +kernel
theorem d_m5_3 : decode method_5_code 3 = .ok (.iconst 2, 1) := by decide +kernel
theorem d_m5_4 : decode method_5_code 4 = .ok (.iload_n 2, 1) := by decide +kernel
theorem d_m5_5 : decode method_5_code 5 = .ok (.imul, 1) := by decide +kernel
theorem d_m5_6 : decode method_5_code 6 = .ok (.iadd, 1) := by decide +kernel
theorem d_m5_7 : decode method_5_code 7 = .ok (.lushr, 1) := by decide +kernel
theorem d_m5_8 : decode method_5_code 8 = .ok (.ldc2_w 54, 3) := by decide +kernel
theorem d_m5_11 : decode method_5_code 11 = .ok (.land, 1) := by decide +kernel
theorem d_m5_12 : decode method_5_code 12 = .ok (.l2i, 1) := by decide +kernel
theorem d_m5_13 : decode method_5_code 13 = .ok (.istore 4, 2) := by decide +kernel
theorem d_m5_15 : decode method_5_code 15 = .ok (.iload 4, 2) := by decide +kernel
theorem d_m5_17 : decode method_5_code 17 = .ok (.ifCond .ne 5, 3) := by decide +kernel
theorem d_m5_20 : decode method_5_code 20 = .ok (.iload_n 3, 1) := by decide +kernel
theorem d_m5_21 : decode method_5_code 21 = .ok (.ireturn, 1) := by decide +kernel
theorem d_m5_22 : decode method_5_code 22 = .ok (.iload 4, 2) := by decide +kernel
theorem d_m5_24 : decode method_5_code 24 = .ok (.iconst 1, 1) := by decide +kernel
theorem d_m5_25 : decode method_5_code 25 = .ok (.if_icmp .ne 6, 3) := by decide +kernel
theorem d_m5_28 : decode method_5_code 28 = .ok (.bipush 95, 2) := by decide +kernel
theorem d_m5_30 : decode method_5_code 30 = .ok (.ireturn, 1) := by decide +kernel
theorem d_m5_31 : decode method_5_code 31 = .ok (.lload_n 0, 1) := by decide +kernel
theorem d_m5_32 : decode method_5_code 32 = .ok (.bipush 8, 2) := by decide +kernel
theorem d_m5_34 : decode method_5_code 34 = .ok (.iload_n 2, 1) := by decide +kernel
theorem d_m5_35 : decode method_5_code 35 = .ok (.imul, 1) := by decide +kernel
theorem d_m5_36 : decode method_5_code 36 = .ok (.lushr, 1) := by decide +kernel
theorem d_m5_37 : decode method_5_code 37 = .ok (.ldc2_w 52, 3) := by decide +kernel
theorem d_m5_40 : decode method_5_code 40 = .ok (.land, 1) := by decide +kernel
theorem d_m5_41 : decode method_5_code 41 = .ok (.l2i, 1) := by decide +kernel
theorem d_m5_42 : decode method_5_code 42 = .ok (.i2c, 1) := by decide +kernel
theorem d_m5_43 : decode method_5_code 43 = .ok (.ireturn, 1) := by decide +kernel
theorem d_m3_0 : decode method_3_code 0 = .ok (.iload_n 0, 1) := by decide +kernel
theorem d_m3_1 : decode method_3_code 1 = .ok (.ifCond .ne 7, 3) := by decide +kernel
theorem d_m3_4 : decode method_3_code 4 = .ok (.getstatic 39, 3) := by decide +kernel
theorem d_m3_7 : decode method_3_code 7 = .ok (.areturn, 1) := by decide +kernel
theorem d_m3_8 : decode method_3_code 8 = .ok (.iload_n 0, 1) := by decide +kernel
theorem d_m3_9 : decode method_3_code 9 = .ok (.iconst 1, 1) := by decide +kernel
theorem d_m3_10 : decode method_3_code 10 = .ok (.if_icmp .ne 7, 3) := by decide +kernel
theorem d_m3_13 : decode method_3_code 13 = .ok (.getstatic 43, 3) := by decide +kernel
theorem d_m3_16 : decode method_3_code 16 = .ok (.areturn, 1) := by decide +kernel
theorem d_m3_17 : decode method_3_code 17 = .ok (.iload_n 0, 1) := by decide +kernel
theorem d_m3_18 : decode method_3_code 18 = .ok (.iconst 2, 1) := by decide +kernel
theorem d_m3_19 : decode method_3_code 19 = .ok (.if_icmp .ne 7, 3) := by decide +kernel
theorem d_m3_22 : decode method_3_code 22 = .ok (.getstatic 46, 3) := by decide +kernel
theorem d_m3_25 : decode method_3_code 25 = .ok (.areturn, 1) := by decide +kernel
theorem d_m3_26 : decode method_3_code 26 = .ok (.getstatic 49, 3) := by decide +kernel
theorem d_m3_29 : decode method_3_code 29 = .ok (.areturn, 1) := by decide +kernel
theorem d_m6_0 : decode method_6_code 0 = .ok (.iload_n 1, 1) := by decide +kernel
theorem d_m6_1 : decode method_6_code 1 = .ok (.ifCond .ne 14, 3) := by decide +kernel
theorem d_m6_4 : decode method_6_code 4 = .ok (.new 56, 3) := by decide +kernel
theorem d_m6_7 : decode method_6_code 7 = .ok (.dup, 1) := by decide +kernel
theorem d_m6_8 : decode method_6_code 8 = .ok (.iconst 0, 1) := by decide +kernel
theorem d_m6_9 : decode method_6_code 9 = .ok (.newarray .char, 2) := by decide +kernel
theorem d_m6_11 : decode method_6_code 11 = .ok (.invokespecial 58, 3) := by decide +kernel
theorem pd17 : parseMethodDescriptor "([C)V" = some ⟨[(.array .char)], none⟩ := by decide +kernel
theorem d_m6_14 : decode method_6_code 14 = .ok (.areturn, 1) := by decide +kernel
theorem d_m6_15 : decode method_6_code 15 = .ok (.iload_n 1, 1) := by decide +kernel
theorem d_m6_16 : decode method_6_code 16 = .ok (.iconst 1, 1) := by decide +kernel
theorem d_m6_17 : decode method_6_code 17 = .ok (.if_icmp .ne 20, 3) := by decide +kernel
theorem d_m6_20 : decode method_6_code 20 = .ok (.new 56, 3) := by decide +kernel
theorem d_m6_23 : decode method_6_code 23 = .ok (.dup, 1) := by decide +kernel
theorem d_m6_24 : decode method_6_code 24 = .ok (.iconst 1, 1) := by decide +kernel
theorem d_m6_25 : decode method_6_code 25 = .ok (.newarray .char, 2) := by decide +kernel
theorem d_m6_27 : decode method_6_code 27 = .ok (.dup, 1) := by decide +kernel
theorem d_m6_28 : decode method_6_code 28 = .ok (.iconst 0, 1) := by decide +kernel
theorem d_m6_29 : decode method_6_code 29 = .ok (.aload_n 0, 1) := by decide +kernel
theorem d_m6_30 : decode method_6_code 30 = .ok (.iconst 0, 1) := by decide +kernel
theorem d_m6_31 : decode method_6_code 31 = .ok (.caload, 1) := by decide +kernel
theorem d_m6_32 : decode method_6_code 32 = .ok (.castore, 1) := by decide +kernel
theorem d_m6_33 : decode method_6_code 33 = .ok (.invokespecial 58, 3) := by decide +kernel
theorem d_m6_36 : decode method_6_code 36 = .ok (.areturn, 1) := by decide +kernel
theorem d_m6_37 : decode method_6_code 37 = .ok (.iload_n 1, 1) := by decide +kernel
theorem d_m6_38 : decode method_6_code 38 = .ok (.iconst 2, 1) := by decide +kernel
theorem d_m6_39 : decode method_6_code 39 = .ok (.if_icmp .ne 26, 3) := by decide +kernel
theorem d_m6_42 : decode method_6_code 42 = .ok (.new 56, 3) := by decide +kernel
theorem d_m6_45 : decode method_6_code 45 = .ok (.dup, 1) := by decide +kernel
theorem d_m6_46 : decode method_6_code 46 = .ok (.iconst 2, 1) := by decide +kernel
theorem d_m6_47 : decode method_6_code 47 = .ok (.newarray .char, 2) := by decide +kernel
theorem d_m6_49 : decode method_6_code 49 = .ok (.dup, 1) := by decide +kernel
theorem d_m6_50 : decode method_6_code 50 = .ok (.iconst 0, 1) := by decide +kernel
theorem d_m6_51 : decode method_6_code 51 = .ok (.aload_n 0, 1) := by decide +kernel
theorem d_m6_52 : decode method_6_code 52 = .ok (.iconst 0, 1) := by decide +kernel
theorem d_m6_53 : decode method_6_code 53 = .ok (.caload, 1) := by decide +kernel
theorem d_m6_54 : decode method_6_code 54 = .ok (.castore, 1) := by decide +kernel
theorem d_m6_55 : decode method_6_code 55 = .ok (.dup, 1) := by decide +kernel
theorem d_m6_56 : decode method_6_code 56 = .ok (.iconst 1, 1) := by decide +kernel
theorem d_m6_57 : decode method_6_code 57 = .ok (.aload_n 0, 1) := by decide +kernel
theorem d_m6_58 : decode method_6_code 58 = .ok (.iconst 1, 1) := by decide +kernel
theorem d_m6_59 : decode method_6_code 59 = .ok (.caload, 1) := by decide +kernel
theorem d_m6_60 : decode method_6_code 60 = .ok (.castore, 1) := by decide +kernel
theorem d_m6_61 : decode method_6_code 61 = .ok (.invokespecial 58, 3) := by decide +kernel
theorem d_m6_64 : decode method_6_code 64 = .ok (.areturn, 1) := by decide +kernel
theorem d_m6_65 : decode method_6_code 65 = .ok (.iload_n 1, 1) := by decide +kernel
theorem d_m6_66 : decode method_6_code 66 = .ok (.iconst 3, 1) := by decide +kernel
theorem d_m6_67 : decode method_6_code 67 = .ok (.if_icmp .ne 32, 3) := by decide +kernel
theorem d_m6_70 : decode method_6_code 70 = .ok (.new 56, 3) := by decide +kernel
theorem d_m6_73 : decode method_6_code 73 = .ok (.dup, 1) := by decide +kernel
theorem d_m6_74 : decode method_6_code 74 = .ok (.iconst 3, 1) := by decide +kernel
theorem d_m6_75 : decode method_6_code 75 = .ok (.newarray .char, 2) := by decide +kernel
theorem d_m6_77 : decode method_6_code 77 = .ok (.dup, 1) := by decide +kernel
theorem d_m6_78 : decode method_6_code 78 = .ok (.iconst 0, 1) := by decide +kernel
theorem d_m6_79 : decode method_6_code 79 = .ok (.aload_n 0, 1) := by decide +kernel
theorem d_m6_80 : decode method_6_code 80 = .ok (.iconst 0, 1) := by decide +kernel
theorem d_m6_81 : decode method_6_code 81 = .ok (.caload, 1) := by decide +kernel
theorem d_m6_82 : decode method_6_code 82 = .ok (.castore, 1) := by decide +kernel
theorem d_m6_83 : decode method_6_code 83 = .ok (.dup, 1) := by decide +kernel
theorem d_m6_84 : decode method_6_code 84 = .ok (.iconst 1, 1) := by decide +kernel
theorem d_m6_85 : decode method_6_code 85 = .ok (.aload_n 0, 1) := by decide +kernel
theorem d_m6_86 : decode method_6_code 86 = .ok (.iconst 1, 1) := by decide +kernel
theorem d_m6_87 : decode method_6_code 87 = .ok (.caload, 1) := by decide +kernel
theorem d_m6_88 : decode method_6_code 88 = .ok (.castore, 1) := by decide +kernel
theorem d_m6_89 : decode method_6_code 89 = .ok (.dup, 1) := by decide +kernel
theorem d_m6_90 : decode method_6_code 90 = .ok (.iconst 2, 1) := by decide +kernel
theorem d_m6_91 : decode method_6_code 91 = .ok (.aload_n 0, 1) := by decide +kernel
theorem d_m6_92 : decode method_6_code 92 = .ok (.iconst 2, 1) := by decide +kernel
theorem d_m6_93 : decode method_6_code 93 = .ok (.caload, 1) := by decide +kernel
theorem d_m6_94 : decode method_6_code 94 = .ok (.castore, 1) := by decide +kernel
theorem d_m6_95 : decode method_6_code 95 = .ok (.invokespecial 58, 3) := by decide +kernel
theorem d_m6_98 : decode method_6_code 98 = .ok (.areturn, 1) := by decide +kernel
theorem d_m6_99 : decode method_6_code 99 = .ok (.new 56, 3) := by decide +kernel
theorem d_m6_102 : decode method_6_code 102 = .ok (.dup, 1) := by decide +kernel
theorem d_m6_103 : decode method_6_code 103 = .ok (.iconst 4, 1) := by decide +kernel
theorem d_m6_104 : decode method_6_code 104 = .ok (.newarray .char, 2) := by decide +kernel
theorem d_m6_106 : decode method_6_code 106 = .ok (.dup, 1) := by decide +kernel
theorem d_m6_107 : decode method_6_code 107 = .ok (.iconst 0, 1) := by decide +kernel
theorem d_m6_108 : decode method_6_code 108 = .ok (.aload_n 0, 1) := by decide +kernel
theorem d_m6_109 : decode method_6_code 109 = .ok (.iconst 0, 1) := by decide +kernel
theorem d_m6_110 : decode method_6_code 110 = .ok (.caload, 1) := by decide +kernel
theorem d_m6_111 : decode method_6_code 111 = .ok (.castore, 1) := by decide +kernel
theorem d_m6_112 : decode method_6_code 112 = .ok (.dup, 1) := by decide +kernel
theorem d_m6_113 : decode method_6_code 113 = .ok (.iconst 1, 1) := by decide +kernel
theorem d_m6_114 : decode method_6_code 114 = .ok (.aload_n 0, 1) := by decide +kernel
theorem d_m6_115 : decode method_6_code 115 = .ok (.iconst 1, 1) := by decide +kernel
theorem d_m6_116 : decode method_6_code 116 = .ok (.caload, 1) := by decide +kernel
theorem d_m6_117 : decode method_6_code 117 = .ok (.castore, 1) := by decide +kernel
theorem d_m6_118 : decode method_6_code 118 = .ok (.dup, 1) := by decide +kernel
theorem d_m6_119 : decode method_6_code 119 = .ok (.iconst 2, 1) := by decide +kernel
theorem d_m6_120 : decode method_6_code 120 = .ok (.aload_n 0, 1) := by decide +kernel
theorem d_m6_121 : decode method_6_code 121 = .ok (.iconst 2, 1) := by decide +kernel
theorem d_m6_122 : decode method_6_code 122 = .ok (.caload, 1) := by decide +kernel
theorem d_m6_123 : decode method_6_code 123 = .ok (.castore, 1) := by decide +kernel
theorem d_m6_124 : decode method_6_code 124 = .ok (.dup, 1) := by decide +kernel
theorem d_m6_125 : decode method_6_code 125 = .ok (.iconst 3, 1) := by decide +kernel
theorem d_m6_126 : decode method_6_code 126 = .ok (.aload_n 0, 1) := by decide +kernel
theorem d_m6_127 : decode method_6_code 127 = .ok (.iconst 3, 1) := by decide +kernel
theorem d_m6_128 : decode method_6_code 128 = .ok (.caload, 1) := by decide +kernel
theorem d_m6_129 : decode method_6_code 129 = .ok (.castore, 1) := by decide +kernel
theorem d_m6_130 : decode method_6_code 130 = .ok (.invokespecial 58, 3) := by decide +kernel
theorem d_m6_133 : decode method_6_code 133 = .ok (.areturn, 1) := by decide +kernel
theorem d_m7_0 : decode method_7_code 0 = .ok (.iload_n 1, 1) := by decide +kernel
theorem d_m7_1 : decode method_7_code 1 = .ok (.ifCond .le 13, 3) := by decide +kernel
theorem d_m7_4 : decode method_7_code 4 = .ok (.aload_n 0, 1) := by decide +kernel
theorem d_m7_5 : decode method_7_code 5 = .ok (.iconst 0, 1) := by decide +kernel
theorem d_m7_6 : decode method_7_code 6 = .ok (.caload, 1) := by decide +kernel
theorem d_m7_7 : decode method_7_code 7 = .ok (.bipush 95, 2) := by decide +kernel
theorem d_m7_9 : decode method_7_code 9 = .ok (.if_icmp .ne 5, 3) := by decide +kernel
theorem d_m7_12 : decode method_7_code 12 = .ok (.iconst 0, 1) := by decide +kernel
theorem d_m7_13 : decode method_7_code 13 = .ok (.ireturn, 1) := by decide +kernel
theorem d_m7_14 : decode method_7_code 14 = .ok (.iload_n 1, 1) := by decide +kernel
theorem d_m7_15 : decode method_7_code 15 = .ok (.iconst 1, 1) := by decide +kernel
theorem d_m7_16 : decode method_7_code 16 = .ok (.if_icmp .le 13, 3) := by decide +kernel
theorem d_m7_19 : decode method_7_code 19 = .ok (.aload_n 0, 1) := by decide +kernel
theorem d_m7_20 : decode method_7_code 20 = .ok (.iconst 1, 1) := by decide +kernel
theorem d_m7_21 : decode method_7_code 21 = .ok (.caload, 1) := by decide +kernel
theorem d_m7_22 : decode method_7_code 22 = .ok (.bipush 95, 2) := by decide +kernel
theorem d_m7_24 : decode method_7_code 24 = .ok (.if_icmp .ne 5, 3) := by decide +kernel
theorem d_m7_27 : decode method_7_code 27 = .ok (.iconst 1, 1) := by decide +kernel
theorem d_m7_28 : decode method_7_code 28 = .ok (.ireturn, 1) := by decide +kernel
theorem d_m7_29 : decode method_7_code 29 = .ok (.iload_n 1, 1) := by decide +kernel
theorem d_m7_30 : decode method_7_code 30 = .ok (.iconst 2, 1) := by decide +kernel
theorem d_m7_31 : decode method_7_code 31 = .ok (.if_icmp .le 13, 3) := by decide +kernel
theorem d_m7_34 : decode method_7_code 34 = .ok (.aload_n 0, 1) := by decide +kernel
theorem d_m7_35 : decode method_7_code 35 = .ok (.iconst 2, 1) := by decide +kernel
theorem d_m7_36 : decode method_7_code 36 = .ok (.caload, 1) := by decide +kernel
theorem d_m7_37 : decode method_7_code 37 = .ok (.bipush 95, 2) := by decide +kernel
theorem d_m7_39 : decode method_7_code 39 = .ok (.if_icmp .ne 5, 3) := by decide +kernel
theorem d_m7_42 : decode method_7_code 42 = .ok (.iconst 2, 1) := by decide +kernel
theorem d_m7_43 : decode method_7_code 43 = .ok (.ireturn, 1) := by decide +kernel
theorem d_m7_44 : decode method_7_code 44 = .ok (.iload_n 1, 1) := by decide +kernel
theorem d_m7_45 : decode method_7_code 45 = .ok (.iconst 3, 1) := by decide +kernel
theorem d_m7_46 : decode method_7_code 46 = .ok (.if_icmp .le 13, 3) := by decide +kernel
theorem d_m7_49 : decode method_7_code 49 = .ok (.aload_n 0, 1) := by decide +kernel
theorem d_m7_50 : decode method_7_code 50 = .ok (.iconst 3, 1) := by decide +kernel
theorem d_m7_51 : decode method_7_code 51 = .ok (.caload, 1) := by decide +kernel
theorem d_m7_52 : decode method_7_code 52 = .ok (.bipush 95, 2) := by decide +kernel
theorem d_m7_54 : decode method_7_code 54 = .ok (.if_icmp .ne 5, 3) := by decide +kernel
theorem d_m7_57 : decode method_7_code 57 = .ok (.iconst 3, 1) := by decide +kernel
theorem d_m7_58 : decode method_7_code 58 = .ok (.ireturn, 1) := by decide +kernel
theorem d_m7_59 : decode method_7_code 59 = .ok (.iconst (-1), 1) := by decide +kernel
theorem d_m7_60 : decode method_7_code 60 = .ok (.ireturn, 1) := by decide +kernel
theorem d_m8_0 : decode method_8_code 0 = .ok (.iload_n 1, 1) := by decide +kernel
theorem d_m8_1 : decode method_8_code 1 = .ok (.iload_n 3, 1) := by decide +kernel
theorem d_m8_2 : decode method_8_code 2 = .ok (.if_icmp .eq 5, 3) := by decide +kernel
theorem d_m8_7 : decode method_8_code 7 = .ok (.iload_n 1, 1) := by decide +kernel
theorem d_m8_8 : decode method_8_code 8 = .ok (.iconst 1, 1) := by decide +kernel
theorem d_m8_9 : decode method_8_code 9 = .ok (.if_icmp .lt 12, 3) := by decide +kernel
theorem d_m8_21 : decode method_8_code 21 = .ok (.iload_n 1, 1) := by decide +kernel
theorem d_m8_22 : decode method_8_code 22 = .ok (.iconst 2, 1) := by decide +kernel
theorem d_m8_23 : decode method_8_code 23 = .ok (.if_icmp .lt 12, 3) := by decide +kernel
theorem d_m8_35 : decode method_8_code 35 = .ok (.iload_n 1, 1) := by decide +kernel
theorem d_m8_36 : decode method_8_code 36 = .ok (.iconst 3, 1) := by decide +kernel
theorem d_m8_37 : decode method_8_code 37 = .ok (.if_icmp .lt 12, 3) := by decide +kernel
theorem d_m8_49 : decode method_8_code 49 = .ok (.iload_n 1, 1) := by decide +kernel
theorem d_m8_50 : decode method_8_code 50 = .ok (.iconst 4, 1) := by decide +kernel
theorem d_m8_51 : decode method_8_code 51 = .ok (.if_icmp .lt 12, 3) := by decide +kernel
theorem d_m8_63 : decode method_8_code 63 = .ok (.iconst 1, 1) := by decide +kernel
theorem d_m8_64 : decode method_8_code 64 = .ok (.goto 4, 3) := by decide +kernel
theorem d_m8_68 : decode method_8_code 68 = .ok (.ireturn, 1) := by decide +kernel
theorem d_m8_54 : decode method_8_code 54 = .ok (.aload_n 0, 1) := by decide +kernel
theorem d_m8_55 : decode method_8_code 55 = .ok (.iconst 3, 1) := by decide +kernel
theorem d_m8_56 : decode method_8_code 56 = .ok (.caload, 1) := by decide +kernel
theorem d_m8_57 : decode method_8_code 57 = .ok (.aload_n 2, 1) := by decide +kernel
theorem d_m8_58 : decode method_8_code 58 = .ok (.iconst 3, 1) := by decide +kernel
theorem d_m8_59 : decode method_8_code 59 = .ok (.caload, 1) := by decide +kernel
theorem d_m8_60 : decode method_8_code 60 = .ok (.if_icmp .ne 7, 3) := by decide +kernel
theorem d_m8_67 : decode method_8_code 67 = .ok (.iconst 0, 1) := by decide +kernel
theorem d_m8_40 : decode method_8_code 40 = .ok (.aload_n 0, 1) := by decide +kernel
theorem d_m8_41 : decode method_8_code 41 = .ok (.iconst 2, 1) := by decide +kernel
theorem d_m8_42 : decode method_8_code 42 = .ok (.caload, 1) := by decide +kernel
theorem d_m8_43 : decode method_8_code 43 = .ok (.aload_n 2, 1) := by decide +kernel
theorem d_m8_44 : decode method_8_code 44 = .ok (.iconst 2, 1) := by decide +kernel
theorem d_m8_45 : decode method_8_code 45 = .ok (.caload, 1) := by decide +kernel
theorem d_m8_46 : decode method_8_code 46 = .ok (.if_icmp .ne 21, 3) := by decide +kernel
theorem d_m8_26 : decode method_8_code 26 = .ok (.aload_n 0, 1) := by decide +kernel
theorem d_m8_27 : decode method_8_code 27 = .ok (.iconst 1, 1) := by decide +kernel
theorem d_m8_28 : decode method_8_code 28 = .ok (.caload, 1) := by decide +kernel
theorem d_m8_29 : decode method_8_code 29 = .ok (.aload_n 2, 1) := by decide +kernel
theorem d_m8_30 : decode method_8_code 30 = .ok (.iconst 1, 1) := by decide +kernel
theorem d_m8_31 : decode method_8_code 31 = .ok (.caload, 1) := by decide +kernel
theorem d_m8_32 : decode method_8_code 32 = .ok (.if_icmp .ne 35, 3) := by decide +kernel
theorem d_m8_12 : decode method_8_code 12 = .ok (.aload_n 0, 1) := by decide +kernel
theorem d_m8_13 : decode method_8_code 13 = .ok (.iconst 0, 1) := by decide +kernel
theorem d_m8_14 : decode method_8_code 14 = .ok (.caload, 1) := by decide +kernel
theorem d_m8_15 : decode method_8_code 15 = .ok (.aload_n 2, 1) := by decide +kernel
theorem d_m8_16 : decode method_8_code 16 = .ok (.iconst 0, 1) := by decide +kernel
theorem d_m8_17 : decode method_8_code 17 = .ok (.caload, 1) := by decide +kernel
theorem d_m8_18 : decode method_8_code 18 = .ok (.if_icmp .ne 49, 3) := by decide +kernel
theorem d_m8_5 : decode method_8_code 5 = .ok (.iconst 0, 1) := by decide +kernel
theorem d_m8_6 : decode method_8_code 6 = .ok (.ireturn, 1) := by decide +kernel
theorem d_prog_32_m4_0 : decode prog_32_method_4_code 0 = .ok (.aload_n 1, 1) := by decide +kernel
theorem d_prog_32_m4_1 : decode prog_32_method_4_code 1 = .ok (.aload_n 2, 1) := by decide +kernel
theorem d_prog_32_m4_2 : decode prog_32_method_4_code 2 = .ok (.invokevirtual 39, 3) := by decide +kernel
theorem pd18 : parseMethodDescriptor "(Ljava/lang/Object;)Z" = some ⟨[(.object "java/lang/Object")], some .boolean⟩ := by decide +kernel
theorem d_prog_32_m4_5 : decode prog_32_method_4_code 5 = .ok (.ifCond .eq 5, 3) := by decide +kernel
theorem d_prog_32_m4_8 : decode prog_32_method_4_code 8 = .ok (.iconst 1, 1) := by decide +kernel
theorem d_prog_32_m4_9 : decode prog_32_method_4_code 9 = .ok (.ireturn, 1) := by decide +kernel
theorem d_prog_32_m4_10 : decode prog_32_method_4_code 10 = .ok (.aload_n 2, 1) := by decide +kernel
theorem d_prog_32_m4_11 : decode prog_32_method_4_code 11 = .ok (.bipush 95, 2) := by decide +kernel
theorem d_prog_32_m4_13 : decode prog_32_method_4_code 13 = .ok (.invokevirtual 45, 3) := by decide +kernel
theorem pd19 : parseMethodDescriptor "(I)I" = some ⟨[.int], some .int⟩ := by decide +kernel
theorem d_prog_32_m4_16 : decode prog_32_method_4_code 16 = .ok (.istore_n 3, 1) := by decide +kernel
theorem d_prog_32_m4_17 : decode prog_32_method_4_code 17 = .ok (.aload_n 0, 1) := by decide +kernel
theorem d_prog_32_m4_18 : decode prog_32_method_4_code 18 = .ok (.getstatic 13, 3) := by decide +kernel
theorem d_prog_32_m4_21 : decode prog_32_method_4_code 21 = .ok (.if_acmp .ne 24, 3) := by decide +kernel
theorem d_prog_32_m4_24 : decode prog_32_method_4_code 24 = .ok (.iload_n 3, 1) := by decide +kernel
theorem d_prog_32_m4_25 : decode prog_32_method_4_code 25 = .ok (.ifCond .le 20, 3) := by decide +kernel
theorem d_prog_32_m4_28 : decode prog_32_method_4_code 28 = .ok (.aload_n 1, 1) := by decide +kernel
theorem d_prog_32_m4_29 : decode prog_32_method_4_code 29 = .ok (.aload_n 2, 1) := by decide +kernel
theorem d_prog_32_m4_30 : decode prog_32_method_4_code 30 = .ok (.iconst 0, 1) := by decide +kernel
theorem d_prog_32_m4_31 : decode prog_32_method_4_code 31 = .ok (.iload_n 3, 1) := by decide +kernel
theorem d_prog_32_m4_32 : decode prog_32_method_4_code 32 = .ok (.invokevirtual 49, 3) := by decide +kernel
theorem pd20 : parseMethodDescriptor "(II)Ljava/lang/String;" = some ⟨[.int, .int], some (.object "java/lang/String")⟩ := by decide +kernel
theorem d_prog_32_m4_35 : decode prog_32_method_4_code 35 = .ok (.invokevirtual 39, 3) := by decide +kernel
theorem d_prog_32_m4_38 : decode prog_32_method_4_code 38 = .ok (.ifCond .eq 7, 3) := by decide +kernel
theorem d_prog_32_m4_41 : decode prog_32_method_4_code 41 = .ok (.iconst 1, 1) := by decide +kernel
theorem d_prog_32_m4_42 : decode prog_32_method_4_code 42 = .ok (.goto 4, 3) := by decide +kernel
theorem d_prog_32_m4_46 : decode prog_32_method_4_code 46 = .ok (.ireturn, 1) := by decide +kernel
theorem d_prog_32_m4_45 : decode prog_32_method_4_code 45 = .ok (.iconst 0, 1) := by decide +kernel
theorem pn6 : plainName "com/example/plugwright/plugwright/platform/Attribute" = true := by first | (simp [plainName, overriddenIn]; done) | decide +kernel
theorem pd21 : parseMethodDescriptor "(I)Lcom/example/plugwright/plugwright/platform/Attribute;" = some ⟨[.int], some (.object "com/example/plugwright/plugwright/platform/Attribute")⟩ := by decide +kernel
theorem pd22 : parseMethodDescriptor "(JI)C" = some ⟨[.long, .int], some .char⟩ := by decide +kernel
theorem pd23 : parseMethodDescriptor "(JIC)C" = some ⟨[.long, .int, .char], some .char⟩ := by decide +kernel
theorem pd24 : parseMethodDescriptor "([CI)Ljava/lang/String;" = some ⟨[(.array .char), .int], some (.object "java/lang/String")⟩ := by decide +kernel
theorem pd25 : parseMethodDescriptor "([CI)I" = some ⟨[(.array .char), .int], some .int⟩ := by decide +kernel
theorem pd26 : parseMethodDescriptor "([CI[CI)Z" = some ⟨[(.array .char), .int, (.array .char), .int], some .boolean⟩ := by decide +kernel
theorem pd27 : parseMethodDescriptor "(Ljava/lang/String;Ljava/lang/String;)Z" = some ⟨[(.object "java/lang/String"), (.object "java/lang/String")], some .boolean⟩ := by decide +kernel
def EL : List (String × Nat) := [("java/lang/String", 7)]
theorem eW {Z : State} {a0 : Array Value} (hw : ∀ d ∈ tables_1, d.before a0 Z = true) : EW Z a0 EL := (EW.cons (w32 hw) (by decide) EW.nil)
theorem sA {Z : State} {a0 : Array Value} (hw : ∀ d ∈ tables_1, d.before a0 Z = true) : ∀ a ∈ Bundle.stringAtoms, a.before a0 Z = true := fun a ha => hw a ((by decide +kernel : ∀ a ∈ Bundle.stringAtoms, a ∈ tables_1) a ha)
set_option maxRecDepth 65536 in
set_option maxHeartbeats 40000000 in
theorem lp_compress {l : Launch} {Z : State} {a0 : Array Value} (hw : ∀ d ∈ tables_1, d.before a0 Z = true) {p : Program} {e : Env} {R : Room} {s : State} {m : MethodId} {args : Array Value} {below : List Frame} {meth : Method} {c : Code} (cs : List Int32) (hN : cs.length ≤ 4000) (a b : Addr) (k kb : ClassId) (hne : a ≠ b) (h0 : Heap) :
    ∀ (d j : Nat), j + d = cs.length → ∀ (hh : Heap) (vs : List Value) (s6 : Slot), One s6 → (∀ i, i < j → ¬ (255 : Int32) < cs.getD i 0) → vs.length = cs.length → (∀ i, i < j → vs.getD i (.int 0) = by8 (cs.getD i 0)) →
      Arv Z hh a k .char (Int32.ofNat cs.length) (cs.map Value.int) (.int 0) → Arv Z hh b kb .byte (Int32.ofNat cs.length) vs (.int 0) → Keep h0 hh [b] →
      Go p l e R s m args below meth c Z a0 EL "java/lang/StringUTF16" jdk_52_method_21_code 7 (some .int) "compress" [b] hh 0 0 3 #[.val (.ref a), .val (.int (Int32.ofNat j)), .val (.ref b), .val (.int (Int32.ofNat j)), .val (.int (Int32.ofNat cs.length)), .val (.int (Int32.ofNat j)), s6] [] (fun v h ws => ∃ (r : Nat) (vs : List Value), v = some (.int (Int32.ofNat r)) ∧ ws = [] ∧ r ≤ cs.length ∧ (r < cs.length → (255 : Int32) < cs.getD r 0) ∧ (∀ i, i < r → ¬ (255 : Int32) < cs.getD i 0) ∧ vs.length = cs.length ∧ (∀ i, i < r → vs.getD i (.int 0) = by8 (cs.getD i 0)) ∧ Keep h0 h [b] ∧ Arv Z h b kb .byte (Int32.ofNat cs.length) vs (.int 0)) := by
  intro d; induction d with
  | zero =>
    intro j hd hh vs s6 h6 hlo hvl hby Aa Ab K
    have hj31 : j < 2147483648 := by omega
    have hN31 : cs.length < 2147483648 := by omega
    refine g_iload d_jdk_52_m21_3 (pc' := 5) rfl rfl ?_
    refine g_iload d_jdk_52_m21_5 (pc' := 7) rfl rfl ?_
    refine g_icmpYes d_jdk_52_m21_7 (pc' := 44) (flt (fun q => by have := (o_lt hj31 hN31).mp q; omega)).2.1 (by decide) (by decide) ?_
    refine g_iload d_jdk_52_m21_44 (pc' := 46) rfl rfl ?_
    exact go_ireturn d_jdk_52_m21_46 rfl (Or.inl rfl) rfl (ws' := []) all0 ⟨cs.length, vs, rfl, rfl, Nat.le_refl _, fun q => absurd q (Nat.lt_irrefl _), fun i hi => hlo i (by omega), hvl, fun i hi => hby i (by omega), K, Ab⟩
  | succ d ih =>
    intro j hd hh vs s6 h6 hlo hvl hby Aa Ab K
    have hj31 : j < 2147483648 := by omega
    have hN31 : cs.length < 2147483648 := by omega
    refine g_iload d_jdk_52_m21_3 (pc' := 5) rfl rfl ?_
    refine g_iload d_jdk_52_m21_5 (pc' := 7) rfl rfl ?_
    refine g_icmpNo d_jdk_52_m21_7 (pc' := 10) rfl (tlt ((o_lt hj31 hN31).mpr (by omega))).2.1 ?_
    refine g_aloadN d_jdk_52_m21_10 (pc' := 11) rfl rfl rfl ?_
    refine g_iloadN d_jdk_52_m21_11 (pc' := 12) rfl rfl ?_
    refine go_caload d_jdk_52_m21_12 Aa (v := (.int (cs.getD j 0))) ⟨o_nn hj31, (o_lt hj31 hN31).mpr (by omega)⟩ (by rw [o_cl hj31]; exact map_getD cs j) (pc' := 13) rfl ?_
    refine g_istore d_jdk_52_m21_13 (pc' := 15) (Ls' := #[.val (.ref a), .val (.int (Int32.ofNat j)), .val (.ref b), .val (.int (Int32.ofNat j)), .val (.int (Int32.ofNat cs.length)), .val (.int (Int32.ofNat j)), .val (.int (cs.getD j 0))]) rfl (XS.store1 rfl h6 rfl) ?_
    refine g_iload d_jdk_52_m21_15 (pc' := 17) rfl rfl ?_
    refine g_sipush d_jdk_52_m21_17 (pc' := 20) rfl (z := 255) rfl ?_
    by_cases hc : (255 : Int32) < (cs.getD j 0)
    · -- hc holds
      refine g_icmpNo d_jdk_52_m21_20 (pc' := 23) rfl (tlt hc).2.2.2 ?_
      refine g_iload d_jdk_52_m21_23 (pc' := 25) rfl rfl ?_
      exact go_ireturn d_jdk_52_m21_25 rfl (Or.inl rfl) rfl (ws' := []) all0 ⟨j, vs, rfl, rfl, by omega, fun _ => hc, hlo, hvl, hby, K, Ab⟩
    · -- hc does not hold
      refine g_icmpYes d_jdk_52_m21_20 (pc' := 26) (flt hc).2.2.2 (by decide) (by decide) ?_
      refine g_aloadN d_jdk_52_m21_26 (pc' := 27) rfl rfl rfl ?_
      refine g_iloadN d_jdk_52_m21_27 (pc' := 28) rfl rfl ?_
      refine g_iload d_jdk_52_m21_28 (pc' := 30) rfl rfl ?_
      refine g_i2b d_jdk_52_m21_30 (pc' := 31) rfl ?_
      refine go_bastore j d_jdk_52_m21_31 Ab ⟨o_nn hj31, (o_lt hj31 hN31).mpr (by omega)⟩ (o_cl hj31) (by omega) (x' := (cs.getD j 0).toInt8.toInt32) (i2b2 _) (List.mem_of_getElem? (i := 0) rfl) (pc' := 32) rfl ?_
      intro h1 W2 A3
      refine g_iinc d_jdk_52_m21_32 (pc' := 35) (Ls' := #[.val (.ref a), .val (.int ((Int32.ofNat j) + (1 : Int32))), .val (.ref b), .val (.int (Int32.ofNat j)), .val (.int (Int32.ofNat cs.length)), .val (.int (Int32.ofNat j)), .val (.int (cs.getD j 0))]) rfl rfl rfl ?_
      refine g_iinc d_jdk_52_m21_35 (pc' := 38) (Ls' := #[.val (.ref a), .val (.int ((Int32.ofNat j) + (1 : Int32))), .val (.ref b), .val (.int ((Int32.ofNat j) + (1 : Int32))), .val (.int (Int32.ofNat cs.length)), .val (.int (Int32.ofNat j)), .val (.int (cs.getD j 0))]) rfl rfl rfl ?_
      refine g_iinc d_jdk_52_m21_38 (pc' := 41) (Ls' := #[.val (.ref a), .val (.int ((Int32.ofNat j) + (1 : Int32))), .val (.ref b), .val (.int ((Int32.ofNat j) + (1 : Int32))), .val (.int (Int32.ofNat cs.length)), .val (.int ((Int32.ofNat j) + (1 : Int32))), .val (.int (cs.getD j 0))]) rfl rfl rfl ?_
      refine g_goto d_jdk_52_m21_41 (pc' := 3) (by decide) (by decide) ?_
      rw [o_inc j]
      refine ih (j + 1) (by omega) _ _ _ (One.val rfl) (fun i hi => ?_) (by rw [List.length_set]; exact hvl) (fun i hi => ?_) (Aa.other W2 hne) A3 (K.wr W2 (Or.inl (List.mem_of_getElem? (i := 0) rfl)))
      · rcases Nat.lt_succ_iff_lt_or_eq.mp hi with q | q
        · exact hlo i q
        · rw [q]; exact hc
      · rcases Nat.lt_succ_iff_lt_or_eq.mp hi with q | q
        · rw [getD_set_ne (by omega)]; exact hby i q
        · rw [q, getD_set_eq (by omega)]; rfl
set_option maxRecDepth 65536 in
set_option maxHeartbeats 40000000 in
theorem rm_compressI {l : Launch} {Z : State} {a0 : Array Value} (hw : ∀ d ∈ tables_1, d.before a0 Z = true) (cs : List Int32) (a b : Addr) (k kb : ClassId) (vs : List Value) (h0 : Heap) (hN : cs.length ≤ 4000) (hne : a ≠ b) (hvl : vs.length = cs.length) (Aa : Arv Z h0 a k .char (Int32.ofNat cs.length) (cs.map Value.int) (.int 0)) (Ab : Arv Z h0 b kb .byte (Int32.ofNat cs.length) vs (.int 0)) :
    Con l Z EL ⟨"java/lang/StringUTF16", "compress", "([CI[BII)I"⟩ jdk_52_method_21_code 7 (some .int) [] { frames := 0, cells := 0, slots := 0, locals := 0 } #[(.ref a), (.int (0 : Int32)), (.ref b), (.int (0 : Int32)), (.int (Int32.ofNat cs.length))] h0 [b] (fun v h ws => ∃ (r : Nat) (vs : List Value), v = some (.int (Int32.ofNat r)) ∧ ws = [] ∧ r ≤ cs.length ∧ (r < cs.length → (255 : Int32) < cs.getD r 0) ∧ (∀ i, i < r → ¬ (255 : Int32) < cs.getD i 0) ∧ vs.length = cs.length ∧ (∀ i, i < r → vs.getD i (.int 0) = by8 (cs.getD i 0)) ∧ Keep h0 h [b] ∧ Arv Z h b kb .byte (Int32.ofNat cs.length) vs (.int 0)) := by
  refine con_of (a0 := a0) (Ls := #[.val (.ref a), .val (.int (0 : Int32)), .val (.ref b), .val (.int (0 : Int32)), .val (.int (Int32.ofNat cs.length)), .unset, .unset]) (plainFor_of_name pn0) (eW hw) (fun m => by first | (simp [entryFrame, mkF, argsToLocals, Value.category]; done) | rfl) ?_
  intro p e s m below meth c
  refine g_iconst d_jdk_52_m21_0 (pc' := 1) rfl (z := 0) rfl ?_
  refine g_istore d_jdk_52_m21_1 (pc' := 3) (Ls' := #[.val (.ref a), .val (.int (0 : Int32)), .val (.ref b), .val (.int (0 : Int32)), .val (.int (Int32.ofNat cs.length)), .val (.int (0 : Int32)), .unset]) rfl rfl ?_
  exact lp_compress hw cs hN a b k kb hne h0 cs.length 0 (by omega) h0 vs .unset One.u (fun i hi => absurd hi (Nat.not_lt_zero _)) hvl (fun i hi => absurd hi (Nat.not_lt_zero _)) Aa Ab (Keep.refl _ _)
set_option maxRecDepth 65536 in
set_option maxHeartbeats 40000000 in
theorem rm_compressLat {l : Launch} {Z : State} {a0 : Array Value} (hw : ∀ d ∈ tables_1, d.before a0 Z = true) (cs : List Int32) (a : Addr) (k : ClassId) (h0 : Heap) (hN : cs.length ≤ 16) (hlat : ∀ c ∈ cs, ¬ (255 : Int32) < c) (Aa : Arv Z h0 a k .char (Int32.ofNat cs.length) (cs.map Value.int) (.int 0)) :
    Con l Z EL ⟨"java/lang/StringUTF16", "compress", "([CII)[B"⟩ jdk_52_method_16_code 6 (some (.array .byte)) [] { frames := 1, cells := 1, slots := 16, locals := 18 } #[(.ref a), (.int (0 : Int32)), (.int (Int32.ofNat cs.length))] h0 [] (fun v h ws => ∃ b kb, v = some (.ref b) ∧ ws = [b] ∧ h0.size ≤ b ∧ Keep h0 h [] ∧ Arv Z h b kb .byte (Int32.ofNat cs.length) (cs.map by8) (.int 0)) := by
  refine con_of (a0 := a0) (Ls := #[.val (.ref a), .val (.int (0 : Int32)), .val (.int (Int32.ofNat cs.length)), .unset, .unset, .unset]) (plainFor_of_name pn0) (eW hw) (fun m => by first | (simp [entryFrame, mkF, argsToLocals, Value.category]; done) | rfl) ?_
  intro p e s m below meth c
  refine g_iloadN d_jdk_52_m16_0 (pc' := 1) rfl rfl ?_
  refine go_newarray d_jdk_52_m16_1 (w33 hw) (o_nn (by omega)) (cap := 16) (by rw [o_cl (by omega)]; exact hN) (by decide) (by decide) (by decide) (ad := "[B") rfl (pc' := 3) rfl ?_
  intro h4 a5 k6 g7 E8 A9 X10
  have A11 := Arv.pad A9 (pad_rep [] (.int 0) cs.length)
  refine g_astoreN d_jdk_52_m16_3 (pc' := 4) (Ls' := #[.val (.ref a), .val (.int (0 : Int32)), .val (.int (Int32.ofNat cs.length)), .val (.ref a5), .unset, .unset]) rfl rfl rfl ?_
  refine g_aloadN d_jdk_52_m16_4 (pc' := 5) rfl rfl rfl ?_
  refine g_iloadN d_jdk_52_m16_5 (pc' := 6) rfl rfl ?_
  refine g_aloadN d_jdk_52_m16_6 (pc' := 7) rfl rfl rfl ?_
  refine g_iconst d_jdk_52_m16_7 (pc' := 8) rfl (z := 0) rfl ?_
  refine g_iloadN d_jdk_52_m16_8 (pc' := 9) rfl rfl ?_
  have ne12 : a ≠ a5 := Nat.ne_of_lt (Nat.lt_of_lt_of_le Aa.lt (Nat.le_of_eq g7.symm))
  refine go_static d_jdk_52_m16_9 (rm_compressI hw cs a a5 k _ _ h4 (by omega) ne12 (by rw [List.length_append, List.length_replicate]; simp) (Aa.ext E8) A11) (fun _ q => q) (w66 hw) (w67 hw) (w64 hw) (w68 hw) (by decide) (argsL := [(.ref a), (.int (0 : Int32)), (.ref a5), (.int (0 : Int32)), (.int (Int32.ofNat cs.length))]) (rest := []) (lenOf pd0 rfl) rfl rfl rfl (W := 0) (Nat.le_of_ble_eq_true rfl) (by decide) (by decide) (by decide) (by decide) (pc' := 12) rfl ?_
  rintro _ h13 _ ⟨r, vs, rfl, rfl, hr, hr2, hr3, hvl, hby, K, Ab⟩ hsz
  have er : r = cs.length := by rcases Nat.lt_or_ge r cs.length with q | q; exact absurd (hr2 q) (getD_lat hlat r); omega
  subst er
  show Go _ _ _ _ _ _ _ _ _ _ _ _ _ _ _ _ _ _ _ _ _ _ _ _ [(.int (Int32.ofNat cs.length))] _
  refine g_istore d_jdk_52_m16_12 (pc' := 14) (Ls' := #[.val (.ref a), .val (.int (0 : Int32)), .val (.int (Int32.ofNat cs.length)), .val (.ref a5), .val (.int (Int32.ofNat cs.length)), .unset]) rfl rfl ?_
  refine g_iload d_jdk_52_m16_14 (pc' := 16) rfl rfl ?_
  refine g_iloadN d_jdk_52_m16_16 (pc' := 17) rfl rfl ?_
  refine g_icmpYes d_jdk_52_m16_17 (pc' := 57) (teq rfl).1 (by decide) (by decide) ?_
  refine g_aloadN d_jdk_52_m16_57 (pc' := 58) rfl rfl rfl ?_
  have K1 := (Keep_of_ext E8).trans K (allS (Or.inr (Nat.le_of_eq g7.symm)) all0)
  have A1 := Arv_congr (vs' := cs.map by8) Ab (fun i hi => by rw [map8_getD]; exact (hby i (by rw [o_cl (by omega)] at hi; exact hi)).symm)
  exact go_areturn d_jdk_52_m16_58 rfl rfl rfl (ws' := [a5]) (fun _ q => q) ⟨_, _, rfl, rfl, (Nat.le_of_eq g7.symm), K1, A1⟩
set_option maxRecDepth 65536 in
set_option maxHeartbeats 40000000 in
theorem rm_coderLat {l : Launch} {Z : State} {a0 : Array Value} (hw : ∀ d ∈ tables_1, d.before a0 Z = true) (b : Addr) (kb : ClassId) (z : Int32) (vs : List Value) (h0 : Heap) (Ab : Arv Z h0 b kb .byte z vs (.int 0)) :
    Con l Z EL ⟨"java/lang/StringUTF16", "coderFromArrayLen", "([BI)B"⟩ jdk_52_method_15_code 2 (some .byte) [] { frames := 0, cells := 0, slots := 0, locals := 0 } #[(.ref b), (.int z)] h0 [] (fun v h ws => v = some (.int 0) ∧ h0 = h ∧ ws = []) := by
  refine con_of (a0 := a0) (Ls := #[.val (.ref b), .val (.int z)]) (plainFor_of_name pn0) (eW hw) (fun m => by first | (simp [entryFrame, mkF, argsToLocals, Value.category]; done) | rfl) ?_
  intro p e s m below meth c
  refine g_iloadN d_jdk_52_m15_0 (pc' := 1) rfl rfl ?_
  refine g_aloadN d_jdk_52_m15_1 (pc' := 2) rfl rfl rfl ?_
  refine go_arraylength d_jdk_52_m15_2 Ab (pc' := 3) rfl ?_
  refine g_isub d_jdk_52_m15_3 (pc' := 4) rfl ?_
  refine g_bipush d_jdk_52_m15_4 (pc' := 6) rfl (z := 31) rfl ?_
  refine g_iushr d_jdk_52_m15_6 (pc' := 7) rfl ?_
  refine g_i2b d_jdk_52_m15_7 (pc' := 8) rfl ?_
  rw [show ((((((z - z)).toUInt32 >>> (((31 : Int32) &&& 31)).toUInt32).toInt32)).toInt8.toInt32) = (0 : Int32) from by rw [Int32.sub_self]; rfl]
  exact go_ireturn d_jdk_52_m15_8 rfl (Or.inr (Or.inr (Or.inl rfl))) rfl (ws' := []) (fun _ q => q) ⟨rfl, rfl, rfl⟩
set_option maxRecDepth 65536 in
set_option maxHeartbeats 40000000 in
theorem rm_initCV {l : Launch} {Z : State} {a0 : Array Value} (hw : ∀ d ∈ tables_1, d.before a0 Z = true) (cs : List Int32) (a ca : Addr) (k : ClassId) (o1 o2 : Value) (co : Int32) (W : List Addr) (h0 : Heap) (hN : cs.length ≤ 16) (hlat : ∀ c ∈ cs, ¬ (255 : Int32) < c) (E : Exa Z h0 a "java/lang/String") (Fv : Fld Z h0 a "java/lang/String" "value" "[B" o1) (Fc : Fld Z h0 a "java/lang/String" "coder" "B" o2) (Aa : Arv Z h0 ca k .char (Int32.ofNat cs.length) (cs.map Value.int) (.int 0)) (Sc : Sta Z Z.heap "java/lang/String" "COMPACT_STRINGS" "Z" (.int co)) (hco : ¬ co = 0) :
    Con l Z EL ⟨"java/lang/String", "<init>", "([CIILjava/lang/Void;)V"⟩ jdk_42_method_149_code 6 none [] { frames := 2, cells := 4, slots := 16, locals := 35 } #[(.ref a), (.ref ca), (.int (0 : Int32)), (.int (Int32.ofNat cs.length)), .null] h0 (a :: W) (fun v h ws => v = none ∧ ∃ b, ws = [] ∧ Keep h0 h [a] ∧ LatB Z h a b cs ∧ (∀ x ∈ a :: W, x ≠ b)) := by
  refine con_of (a0 := a0) (Ls := #[.val (.ref a), .val (.ref ca), .val (.int (0 : Int32)), .val (.int (Int32.ofNat cs.length)), .val .null, .unset]) (plainFor_of_name pn1) (eW hw) (fun m => by first | (simp [entryFrame, mkF, argsToLocals, Value.category]; done) | rfl) ?_
  intro p e s m below meth c
  refine go_safe (fun hsf => ?_)
  refine g_aloadN d_jdk_42_m149_0 (pc' := 1) rfl rfl rfl ?_
  refine go_init d_jdk_42_m149_1 (w29 hw) (w30 hw) (w31 hw) rfl (by decide) (W := 0) (Nat.le_of_ble_eq_true rfl) (by decide) (pc' := 4) rfl ?_
  refine g_iloadN d_jdk_42_m149_4 (pc' := 5) rfl rfl ?_
  by_cases h5 : (Int32.ofNat cs.length) = (0 : Int32)
  · -- h5 holds
    have hz0 : cs.length = 0 := (o_eq (by omega) (by omega)).mp (h5.trans (show (0 : Int32) = Int32.ofNat 0 from rfl))
    refine g_ifNo d_jdk_42_m149_5 (pc' := 8) rfl (teq h5).2 ?_
    refine g_aloadN d_jdk_42_m149_8 (pc' := 9) rfl rfl rfl ?_
    refine go_ldcR d_jdk_42_m149_9 (w32 hw) (sA hw) (vs := []) (z := 0) (by decide) ⟨by decide, by decide⟩ (by decide) (by decide) (n := 0) (by decide) (by decide) (by decide) (by decide) (pc' := 11) rfl ?_
    intro h14 a15 b17 k18 E16 X19 F20 G21 A22 N23
    have L24 : LatB Z h14 a15 b17 [] := LatB.mk X19 F20 G21 A22 rfl rfl
    refine go_getfield d_jdk_42_m149_11 (host := "") (Or.inl (w38 hw)) Via.refl L24.2.2.1 (pc' := 14) rfl ?_
    refine go_putfield d_jdk_42_m149_14 (w38 hw) Via.refl (Fv.ext E16) (E.ext E16) (Or.inr ⟨(w34 hw), rfl, rfl⟩) (w20 hw) (ty := (.array .byte)) (by decide) (v' := (.ref b17)) rfl rfl (List.mem_of_getElem? (i := 0) rfl) (pc' := 17) rfl ?_
    intro h25 W26
    have F27 := Fld.same W26 (Fv.ext E16)
    refine g_aloadN d_jdk_42_m149_17 (pc' := 18) rfl rfl rfl ?_
    refine go_ldcR d_jdk_42_m149_18 (w32 hw) (sA hw) (vs := []) (z := 0) (by decide) ⟨by decide, by decide⟩ (by decide) (by decide) (n := 0) (by decide) (by decide) (by decide) (by decide) (pc' := 20) rfl ?_
    intro h28 a29 b31 k32 E30 X33 F34 G35 A36 N37
    have L38 : LatB Z h28 a29 b31 [] := LatB.mk X33 F34 G35 A36 rfl rfl
    refine go_getfield d_jdk_42_m149_20 (host := "") (Or.inl (w39 hw)) Via.refl L38.2.1 (pc' := 23) rfl ?_
    have f39 := ((Fld.other W26 (Fc.ext E16) (Or.inr (slot_ne (Or.inr (w35 hw)) (Or.inr (w34 hw)) (by decide) (t := .byte) (t' := (.array .byte)) (by decide) (by decide)))).ext E30)
    refine go_putfield d_jdk_42_m149_23 (w39 hw) Via.refl f39 ((Exa.wr W26 (E.ext E16)).ext E30) (Or.inr ⟨(w35 hw), rfl, rfl⟩) (w20 hw) (ty := .byte) (by decide) (v' := (.int (0 : Int32))) rfl rfl (List.mem_of_getElem? (i := 0) rfl) (pc' := 26) rfl ?_
    intro h40 W41
    have F42 := Fld.same W41 f39
    have f43 := (Fld.other W41 (F27.ext E30) (Or.inr (slot_ne (Or.inr (w34 hw)) (Or.inr (w35 hw)) (by decide) (t := (.array .byte)) (t' := .byte) (by decide) (by decide))))
    have f44 := (((L24.other W26 (Ne.symm (N23 a (List.mem_of_getElem? (i := 0) rfl)).1) (Ne.symm (N23 a (List.mem_of_getElem? (i := 0) rfl)).2)).ext E30).other W41 (Ne.symm (N23 a (List.mem_of_getElem? (i := 0) rfl)).1) (Ne.symm (N23 a (List.mem_of_getElem? (i := 0) rfl)).2))
    obtain ⟨kl, Al⟩ := f44.2.2.2
    have K45 : Keep h0 h14 [a] := ((Keep.refl h0 [a]).ext E16)
    have K46 : Keep h0 h25 [a] := (K45.wr W26 (Or.inl (List.mem_of_getElem? (i := 0) rfl)))
    have K47 : Keep h0 h28 [a] := (K46.ext E30)
    have K48 : Keep h0 h40 [a] := (K47.wr W41 (Or.inl (List.mem_of_getElem? (i := 0) rfl)))
    exact go_return d_jdk_42_m149_26 rfl (ws' := []) all0 ⟨rfl, _, rfl, K48, LatB.mk (Exa.wr W41 ((Exa.wr W26 (E.ext E16)).ext E30)) F42 f43 Al (by first | (rw [hz0]; done) | (rw [hz0]; rfl)) (by first | (rw [List.length_eq_zero_iff.mp hz0]; done) | (rw [List.length_eq_zero_iff.mp hz0]; rfl)), fun x hx => (N23 x hx).2⟩
  · -- h5 does not hold
    have hpos : ¬ Int32.ofNat cs.length = 0 := h5
    refine g_ifYes d_jdk_42_m149_5 (pc' := 27) (feq h5).2 (by decide) (by decide) ?_
    refine go_getstatic d_jdk_42_m149_27 (w57 hw) Via.refl Sc (pc' := 30) rfl ?_
    refine g_ifNo d_jdk_42_m149_30 (pc' := 33) rfl (feq hco).1 ?_
    refine g_aloadN d_jdk_42_m149_33 (pc' := 34) rfl rfl rfl ?_
    refine g_iloadN d_jdk_42_m149_34 (pc' := 35) rfl rfl ?_
    refine g_iloadN d_jdk_42_m149_35 (pc' := 36) rfl rfl ?_
    refine go_static d_jdk_42_m149_36 (rm_compressLat hw cs ca k h0 hN hlat Aa) all0 (w62 hw) (w63 hw) (w64 hw) (w65 hw) (by decide) (argsL := [(.ref ca), (.int (0 : Int32)), (.int (Int32.ofNat cs.length))]) (rest := []) (lenOf pd1 rfl) rfl rfl rfl (W := 0) (Nat.le_of_ble_eq_true rfl) (by decide) (by decide) (by decide) (by decide) (pc' := 39) rfl ?_
    rintro _ h49 _ ⟨b, kb, rfl, rfl, hb0, Kc, Ab⟩ hsz
    show Go _ _ _ _ _ _ _ _ _ _ _ _ _ _ _ _ _ _ _ _ _ _ _ _ [(.ref b)] _
    refine g_astore d_jdk_42_m149_39 (pc' := 41) (Ls' := #[.val (.ref a), .val (.ref ca), .val (.int (0 : Int32)), .val (.int (Int32.ofNat cs.length)), .val .null, .val (.ref b)]) rfl rfl rfl ?_
    refine g_aloadN d_jdk_42_m149_41 (pc' := 42) rfl rfl rfl ?_
    refine g_aload d_jdk_42_m149_42 (pc' := 44) rfl rfl rfl ?_
    refine g_iloadN d_jdk_42_m149_44 (pc' := 45) rfl rfl ?_
    refine go_static d_jdk_42_m149_45 (rm_coderLat hw b _ (Int32.ofNat cs.length) _ h49 Ab) all0 (w69 hw) (w70 hw) (w64 hw) (w71 hw) (by decide) (argsL := [(.ref b), (.int (Int32.ofNat cs.length))]) (rest := [(.ref a)]) (lenOf pd2 rfl) rfl rfl rfl (W := 1) (Nat.le_of_ble_eq_true rfl) (by decide) (by decide) (by decide) (by decide) (pc' := 48) rfl ?_
    rintro _ _ _ ⟨rfl, rfl, rfl⟩ z50
    show Go _ _ _ _ _ _ _ _ _ _ _ _ _ _ _ _ _ _ _ _ _ _ _ _ [(.int (0 : Int32)), (.ref a)] _
    refine go_putfield d_jdk_42_m149_48 (w39 hw) Via.refl (Fc.keep Kc nin0) (E.keep Kc) (Or.inr ⟨(w35 hw), rfl, rfl⟩) (w20 hw) (ty := .byte) (by decide) (v' := (.int (0 : Int32))) rfl rfl (List.mem_of_getElem? (i := 1) rfl) (pc' := 51) rfl ?_
    intro h51 W52
    have F53 := Fld.same W52 (Fc.keep Kc nin0)
    refine g_aloadN d_jdk_42_m149_51 (pc' := 52) rfl rfl rfl ?_
    refine g_aload d_jdk_42_m149_52 (pc' := 54) rfl rfl rfl ?_
    have f54 := (Fld.other W52 (Fv.keep Kc nin0) (Or.inr (slot_ne (Or.inr (w34 hw)) (Or.inr (w35 hw)) (by decide) (t := (.array .byte)) (t' := .byte) (by decide) (by decide))))
    refine go_putfield d_jdk_42_m149_54 (w38 hw) Via.refl f54 (Exa.wr W52 (E.keep Kc)) (Or.inr ⟨(w34 hw), rfl, rfl⟩) (w20 hw) (ty := (.array .byte)) (by decide) (v' := (.ref b)) rfl rfl (List.mem_of_getElem? (i := 1) rfl) (pc' := 57) rfl ?_
    intro h55 W56
    have F57 := Fld.same W56 f54
    have K58 : Keep h0 h49 [a] := ((Keep.refl h0 [a]).trans Kc all0)
    have K59 : Keep h0 h51 [a] := (K58.wr W52 (Or.inl (List.mem_of_getElem? (i := 0) rfl)))
    have K60 : Keep h0 h55 [a] := (K59.wr W56 (Or.inl (List.mem_of_getElem? (i := 0) rfl)))
    have f61 := (Fld.other W56 F53 (Or.inr (slot_ne (Or.inr (w35 hw)) (Or.inr (w34 hw)) (by decide) (t := .byte) (t' := (.array .byte)) (by decide) (by decide))))
    have ne62 : b ≠ a := Ne.symm (Nat.ne_of_lt (Nat.lt_of_lt_of_le E.lt hb0))
    exact go_return d_jdk_42_m149_57 rfl (ws' := []) all0 ⟨rfl, b, rfl, K60, LatB.mk (Exa.wr W56 (Exa.wr W52 (E.keep Kc))) f61 F57 ((Ab.other W52 ne62).other W56 ne62) rfl rfl, fun x hx => Nat.ne_of_lt (Nat.lt_of_lt_of_le (hsf x hx).2 hb0)⟩
set_option maxRecDepth 65536 in
set_option maxHeartbeats 40000000 in
theorem rm_initC {l : Launch} {Z : State} {a0 : Array Value} (hw : ∀ d ∈ tables_1, d.before a0 Z = true) (cs : List Int32) (a ca : Addr) (k : ClassId) (o1 o2 : Value) (co : Int32) (W : List Addr) (h0 : Heap) (hN : cs.length ≤ 16) (hlat : ∀ c ∈ cs, ¬ (255 : Int32) < c) (E : Exa Z h0 a "java/lang/String") (Fv : Fld Z h0 a "java/lang/String" "value" "[B" o1) (Fc : Fld Z h0 a "java/lang/String" "coder" "B" o2) (Aa : Arv Z h0 ca k .char (Int32.ofNat cs.length) (cs.map Value.int) (.int 0)) (Sc : Sta Z Z.heap "java/lang/String" "COMPACT_STRINGS" "Z" (.int co)) (hco : ¬ co = 0) :
    Con l Z EL ⟨"java/lang/String", "<init>", "([C)V"⟩ jdk_42_method_3_code 2 none [] { frames := 3, cells := 4, slots := 16, locals := 52 } #[(.ref a), (.ref ca)] h0 (a :: W) (fun v h ws => v = none ∧ ∃ b, ws = [] ∧ Keep h0 h [a] ∧ LatB Z h a b cs ∧ (∀ x ∈ a :: W, x ≠ b)) := by
  refine con_of (a0 := a0) (Ls := #[.val (.ref a), .val (.ref ca)]) (plainFor_of_name pn1) (eW hw) (fun m => by first | (simp [entryFrame, mkF, argsToLocals, Value.category]; done) | rfl) ?_
  intro p e s m below meth c
  refine g_aloadN d_jdk_42_m3_0 (pc' := 1) rfl rfl rfl ?_
  refine g_aloadN d_jdk_42_m3_1 (pc' := 2) rfl rfl rfl ?_
  refine g_iconst d_jdk_42_m3_2 (pc' := 3) rfl (z := 0) rfl ?_
  refine g_aloadN d_jdk_42_m3_3 (pc' := 4) rfl rfl rfl ?_
  refine go_arraylength d_jdk_42_m3_4 Aa (pc' := 5) rfl ?_
  refine g_aconstNull d_jdk_42_m3_5 (pc' := 6) rfl ?_
  refine go_special d_jdk_42_m3_6 (rm_initCV hw cs a ca k _ _ co W h0 hN hlat E Fv Fc Aa Sc hco) (fun _ q => q) rfl (w25 hw) (w26 hw) (w21 hw) (w28 hw) (by decide) (argsL := [(.ref ca), (.int (0 : Int32)), (.int (Int32.ofNat cs.length)), .null]) (rest := []) (lenOf pd3 rfl) rfl rfl rfl (W := 0) (Nat.le_of_ble_eq_true rfl) (by decide) (by decide) (by decide) (by decide) (pc' := 9) rfl ?_
  rintro _ h63 _ ⟨rfl, b, rfl, K, L, hnb⟩ hsz
  show Go _ _ _ _ _ _ _ _ _ _ _ _ _ _ _ _ _ _ _ _ _ _ _ _ [] _
  exact go_return d_jdk_42_m3_9 rfl (ws' := []) all0 ⟨rfl, b, rfl, K, L, hnb⟩
set_option maxRecDepth 65536 in
set_option maxHeartbeats 40000000 in
theorem rm_coder {l : Launch} {Z : State} {a0 : Array Value} (hw : ∀ d ∈ tables_1, d.before a0 Z = true) (a b : Addr) (cs : List Int32) (co : Int32) (h0 : Heap) (L : LatB Z h0 a b cs) (Sc : Sta Z Z.heap "java/lang/String" "COMPACT_STRINGS" "Z" (.int co)) (hco : ¬ co = 0) :
    Con l Z EL ⟨"java/lang/String", "coder", "()B"⟩ jdk_42_method_152_code 1 (some .byte) [] { frames := 0, cells := 0, slots := 0, locals := 0 } #[(.ref a)] h0 [] (fun v h ws => v = some (.int 0) ∧ h0 = h ∧ ws = []) := by
  refine con_of (a0 := a0) (Ls := #[.val (.ref a)]) (plainFor_of_name pn1) (eW hw) (fun m => by first | (simp [entryFrame, mkF, argsToLocals, Value.category]; done) | rfl) ?_
  intro p e s m below meth c
  refine go_getstatic d_jdk_42_m152_0 (w57 hw) Via.refl Sc (pc' := 3) rfl ?_
  refine g_ifNo d_jdk_42_m152_3 (pc' := 6) rfl (feq hco).1 ?_
  refine g_aloadN d_jdk_42_m152_6 (pc' := 7) rfl rfl rfl ?_
  refine go_getfield d_jdk_42_m152_7 (host := "") (Or.inl (w39 hw)) Via.refl L.2.1 (pc' := 10) rfl ?_
  refine g_goto d_jdk_42_m152_10 (pc' := 14) (by decide) (by decide) ?_
  exact go_ireturn d_jdk_42_m152_14 rfl (Or.inr (Or.inr (Or.inl rfl))) rfl (ws' := []) (fun _ q => q) ⟨rfl, rfl, rfl⟩
set_option maxRecDepth 65536 in
set_option maxHeartbeats 40000000 in
theorem rm_length {l : Launch} {Z : State} {a0 : Array Value} (hw : ∀ d ∈ tables_1, d.before a0 Z = true) (a b : Addr) (cs : List Int32) (co : Int32) (h0 : Heap) (L : LatB Z h0 a b cs) (Sc : Sta Z Z.heap "java/lang/String" "COMPACT_STRINGS" "Z" (.int co)) (hco : ¬ co = 0) :
    Con l Z EL ⟨"java/lang/String", "length", "()I"⟩ jdk_42_method_54_code 1 (some .int) [] { frames := 1, cells := 0, slots := 0, locals := 13 } #[(.ref a)] h0 [] (fun v h ws => v = some (.int (Int32.ofNat cs.length)) ∧ h0 = h ∧ ws = []) := by
  refine con_of (a0 := a0) (Ls := #[.val (.ref a)]) (plainFor_of_name pn1) (eW hw) (fun m => by first | (simp [entryFrame, mkF, argsToLocals, Value.category]; done) | rfl) ?_
  intro p e s m below meth c
  obtain ⟨kb, Ab⟩ := L.2.2.2
  refine g_aloadN d_jdk_42_m54_0 (pc' := 1) rfl rfl rfl ?_
  refine go_getfield d_jdk_42_m54_1 (host := "") (Or.inl (w38 hw)) Via.refl L.2.2.1 (pc' := 4) rfl ?_
  refine go_arraylength d_jdk_42_m54_4 Ab (pc' := 5) rfl ?_
  refine g_aloadN d_jdk_42_m54_5 (pc' := 6) rfl rfl rfl ?_
  refine go_virtual d_jdk_42_m54_6 (rm_coder hw a _ _ co h0 L Sc hco) (fun _ q => q) L.1 (w92 hw) (w93 hw) (w95 hw) (nf_sel (w95 hw)) (w94 hw) (w21 hw) (w96 hw) (by decide) (argsL := []) (rest := [(.int (Int32.ofNat cs.length))]) (lenOf pd4 rfl) rfl rfl rfl (W := 1) (Nat.le_of_ble_eq_true rfl) (by decide) (by decide) (by decide) (by decide) (pc' := 9) rfl ?_
  rintro _ _ _ ⟨rfl, rfl, rfl⟩ z64
  show Go _ _ _ _ _ _ _ _ _ _ _ _ _ _ _ _ _ _ _ _ _ _ _ _ [(.int (0 : Int32)), (.int (Int32.ofNat cs.length))] _
  refine g_ishr d_jdk_42_m54_9 (pc' := 10) rfl ?_
  rw [shr0]
  exact go_ireturn d_jdk_42_m54_10 rfl (Or.inl rfl) rfl (ws' := []) (fun _ q => q) ⟨rfl, rfl, rfl⟩
set_option maxRecDepth 65536 in
set_option maxHeartbeats 40000000 in
theorem rm_isLatin1 {l : Launch} {Z : State} {a0 : Array Value} (hw : ∀ d ∈ tables_1, d.before a0 Z = true) (a b : Addr) (cs : List Int32) (co : Int32) (h0 : Heap) (L : LatB Z h0 a b cs) (Sc : Sta Z Z.heap "java/lang/String" "COMPACT_STRINGS" "Z" (.int co)) (hco : ¬ co = 0) :
    Con l Z EL ⟨"java/lang/String", "isLatin1", "()Z"⟩ jdk_42_method_154_code 1 (some .boolean) [] { frames := 0, cells := 0, slots := 0, locals := 0 } #[(.ref a)] h0 [] (fun v h ws => v = some (.int 1) ∧ h0 = h ∧ ws = []) := by
  refine con_of (a0 := a0) (Ls := #[.val (.ref a)]) (plainFor_of_name pn1) (eW hw) (fun m => by first | (simp [entryFrame, mkF, argsToLocals, Value.category]; done) | rfl) ?_
  intro p e s m below meth c
  refine go_getstatic d_jdk_42_m154_0 (w57 hw) Via.refl Sc (pc' := 3) rfl ?_
  refine g_ifNo d_jdk_42_m154_3 (pc' := 6) rfl (feq hco).1 ?_
  refine g_aloadN d_jdk_42_m154_6 (pc' := 7) rfl rfl rfl ?_
  refine go_getfield d_jdk_42_m154_7 (host := "") (Or.inl (w39 hw)) Via.refl L.2.1 (pc' := 10) rfl ?_
  refine g_ifNo d_jdk_42_m154_10 (pc' := 13) rfl (teq (by decide : (0 : Int32) = (0 : Int32))).2 ?_
  refine g_iconst d_jdk_42_m154_13 (pc' := 14) rfl (z := 1) rfl ?_
  refine g_goto d_jdk_42_m154_14 (pc' := 18) (by decide) (by decide) ?_
  exact go_ireturn d_jdk_42_m154_18 rfl (Or.inr (Or.inl rfl)) rfl (ws' := []) (fun _ q => q) ⟨rfl, rfl, rfl⟩
set_option maxRecDepth 65536 in
set_option maxHeartbeats 40000000 in
theorem lp_equals {l : Launch} {Z : State} {a0 : Array Value} (hw : ∀ d ∈ tables_1, d.before a0 Z = true) {p : Program} {e : Env} {R : Room} {s : State} {m : MethodId} {args : Array Value} {below : List Frame} {meth : Method} {c : Code} (cs ds : List Int32) (hN : cs.length ≤ 4000) (hlen : cs.length = ds.length) (hB : Byt cs) (hD : Byt ds) (a b : Addr) (k kb : ClassId) (h0 : Heap) (Aa : Arv Z h0 a k .byte (Int32.ofNat cs.length) (cs.map by8) (.int 0)) (Ab : Arv Z h0 b kb .byte (Int32.ofNat ds.length) (ds.map by8) (.int 0)) :
    ∀ (d j : Nat), j + d = cs.length → (∀ i, i < j → cs.getD i 0 = ds.getD i 0) →
      Go p l e R s m args below meth c Z a0 EL "java/lang/StringLatin1" jdk_43_method_13_code 3 (some .boolean) "equals" [] h0 0 0 9 #[.val (.ref a), .val (.ref b), .val (.int (Int32.ofNat j))] [] (fun v h ws => v = some (.int (if cs = ds then 1 else 0)) ∧ h0 = h ∧ ws = []) := by
  intro d; induction d with
  | zero =>
    intro j hd hsame
    have hj31 : j < 2147483648 := by omega
    have hN31 : cs.length < 2147483648 := by omega
    refine g_iloadN d_jdk_43_m13_9 (pc' := 10) rfl rfl ?_
    refine g_aloadN d_jdk_43_m13_10 (pc' := 11) rfl rfl rfl ?_
    refine go_arraylength d_jdk_43_m13_11 Aa (pc' := 12) rfl ?_
    refine g_icmpYes d_jdk_43_m13_12 (pc' := 32) (flt (fun q => by have := (o_lt hj31 hN31).mp q; omega)).2.1 (by decide) (by decide) ?_
    refine g_iconst d_jdk_43_m13_32 (pc' := 33) rfl (z := 1) rfl ?_
    exact go_ireturn d_jdk_43_m13_33 rfl (Or.inr (Or.inl rfl)) rfl (ws' := []) (fun _ q => q) ⟨by rw [if_pos (list_ext_getD hlen fun i hi => hsame i (by omega))], rfl, rfl⟩
  | succ d ih =>
    intro j hd hsame
    have hj31 : j < 2147483648 := by omega
    have hN31 : cs.length < 2147483648 := by omega
    refine g_iloadN d_jdk_43_m13_9 (pc' := 10) rfl rfl ?_
    refine g_aloadN d_jdk_43_m13_10 (pc' := 11) rfl rfl rfl ?_
    refine go_arraylength d_jdk_43_m13_11 Aa (pc' := 12) rfl ?_
    refine g_icmpNo d_jdk_43_m13_12 (pc' := 15) rfl (tlt ((o_lt hj31 hN31).mpr (by omega))).2.1 ?_
    refine g_aloadN d_jdk_43_m13_15 (pc' := 16) rfl rfl rfl ?_
    refine g_iloadN d_jdk_43_m13_16 (pc' := 17) rfl rfl ?_
    refine go_baload d_jdk_43_m13_17 Aa (v := (.int (cs.getD j 0).toInt8.toInt32)) ⟨o_nn hj31, (o_lt hj31 hN31).mpr (by omega)⟩ (by rw [o_cl hj31]; exact map8_getD cs j) (pc' := 18) rfl ?_
    refine g_aloadN d_jdk_43_m13_18 (pc' := 19) rfl rfl rfl ?_
    refine g_iloadN d_jdk_43_m13_19 (pc' := 20) rfl rfl ?_
    refine go_baload d_jdk_43_m13_20 Ab (v := (.int (ds.getD j 0).toInt8.toInt32)) ⟨o_nn hj31, (o_lt hj31 (by omega)).mpr (by omega)⟩ (by rw [o_cl hj31]; exact map8_getD ds j) (pc' := 21) rfl ?_
    by_cases hc : (cs.getD j 0).toInt8.toInt32 = (ds.getD j 0).toInt8.toInt32
    · -- hc holds
      refine g_icmpYes d_jdk_43_m13_21 (pc' := 26) (teq hc).1 (by decide) (by decide) ?_
      refine g_iinc d_jdk_43_m13_26 (pc' := 29) (Ls' := #[.val (.ref a), .val (.ref b), .val (.int ((Int32.ofNat j) + (1 : Int32)))]) rfl rfl rfl ?_
      refine g_goto d_jdk_43_m13_29 (pc' := 9) (by decide) (by decide) ?_
      rw [o_inc j]
      refine ih (j + 1) (by omega) (fun i hi => ?_)
      rcases Nat.lt_succ_iff_lt_or_eq.mp hi with q | q
      · exact hsame i q
      · rw [q]; exact by8_inj (hB.at j).1 (hB.at j).2 (hD.at j).1 (hD.at j).2 hc
    · -- hc does not hold
      refine g_icmpNo d_jdk_43_m13_21 (pc' := 24) rfl (feq hc).1 ?_
      refine g_iconst d_jdk_43_m13_24 (pc' := 25) rfl (z := 0) rfl ?_
      exact go_ireturn d_jdk_43_m13_25 rfl (Or.inr (Or.inl rfl)) rfl (ws' := []) (fun _ q => q) ⟨by rw [if_neg (fun q => hc (by rw [q]))], rfl, rfl⟩
set_option maxRecDepth 65536 in
set_option maxHeartbeats 40000000 in
theorem rm_equalsL {l : Launch} {Z : State} {a0 : Array Value} (hw : ∀ d ∈ tables_1, d.before a0 Z = true) (cs ds : List Int32) (a b : Addr) (k kb : ClassId) (h0 : Heap) (hN : cs.length ≤ 4000) (hM : ds.length ≤ 4000) (hB : Byt cs) (hD : Byt ds) (Aa : Arv Z h0 a k .byte (Int32.ofNat cs.length) (cs.map by8) (.int 0)) (Ab : Arv Z h0 b kb .byte (Int32.ofNat ds.length) (ds.map by8) (.int 0)) :
    Con l Z EL ⟨"java/lang/StringLatin1", "equals", "([B[B)Z"⟩ jdk_43_method_13_code 3 (some .boolean) [] { frames := 0, cells := 0, slots := 0, locals := 0 } #[(.ref a), (.ref b)] h0 [] (fun v h ws => v = some (.int (if cs = ds then 1 else 0)) ∧ h0 = h ∧ ws = []) := by
  refine con_of (a0 := a0) (Ls := #[.val (.ref a), .val (.ref b), .unset]) (plainFor_of_name pn2) (eW hw) (fun m => by first | (simp [entryFrame, mkF, argsToLocals, Value.category]; done) | rfl) ?_
  intro p e s m below meth c
  refine g_aloadN d_jdk_43_m13_0 (pc' := 1) rfl rfl rfl ?_
  refine go_arraylength d_jdk_43_m13_1 Aa (pc' := 2) rfl ?_
  refine g_aloadN d_jdk_43_m13_2 (pc' := 3) rfl rfl rfl ?_
  refine go_arraylength d_jdk_43_m13_3 Ab (pc' := 4) rfl ?_
  by_cases h4 : (Int32.ofNat cs.length) = (Int32.ofNat ds.length)
  · -- h4 holds
    refine g_icmpNo d_jdk_43_m13_4 (pc' := 7) rfl (teq h4).2 ?_
    refine g_iconst d_jdk_43_m13_7 (pc' := 8) rfl (z := 0) rfl ?_
    refine g_istoreN d_jdk_43_m13_8 (pc' := 9) (Ls' := #[.val (.ref a), .val (.ref b), .val (.int (0 : Int32))]) rfl rfl ?_
    exact lp_equals hw cs ds hN (by exact (o_eq (by omega) (by omega)).mp h4) hB hD a b k kb h0 Aa Ab cs.length 0 (by omega) (fun i hi => absurd hi (Nat.not_lt_zero _))
  · -- h4 does not hold
    refine g_icmpYes d_jdk_43_m13_4 (pc' := 34) (feq h4).2 (by decide) (by decide) ?_
    refine g_iconst d_jdk_43_m13_34 (pc' := 35) rfl (z := 0) rfl ?_
    exact go_ireturn d_jdk_43_m13_35 rfl (Or.inr (Or.inl rfl)) rfl (ws' := []) (fun _ q => q) ⟨by rw [if_neg (fun q => h4 (by rw [q]))], rfl, rfl⟩
set_option maxRecDepth 65536 in
set_option maxHeartbeats 40000000 in
theorem rm_equals {l : Launch} {Z : State} {a0 : Array Value} (hw : ∀ d ∈ tables_1, d.before a0 Z = true) (cs ds : List Int32) (a b a2 b2 : Addr) (co : Int32) (h0 : Heap) (hN : cs.length ≤ 4000) (hM : ds.length ≤ 4000) (hB : Byt cs) (hD : Byt ds) (L : LatB Z h0 a b cs) (M : LatB Z h0 a2 b2 ds) (Sc : Sta Z Z.heap "java/lang/String" "COMPACT_STRINGS" "Z" (.int co)) (hco : ¬ co = 0) :
    Con l Z EL ⟨"java/lang/String", "equals", "(Ljava/lang/Object;)Z"⟩ jdk_42_method_66_code 3 (some .boolean) [] { frames := 1, cells := 0, slots := 0, locals := 14 } #[(.ref a), (.ref a2)] h0 [] (fun v h ws => v = some (.int (if cs = ds then 1 else 0)) ∧ h0 = h ∧ ws = []) := by
  refine con_of (a0 := a0) (Ls := #[.val (.ref a), .val (.ref a2), .unset]) (plainFor_of_name pn1) (eW hw) (fun m => by first | (simp [entryFrame, mkF, argsToLocals, Value.category]; done) | rfl) ?_
  intro p e s m below meth c
  refine g_aloadN d_jdk_42_m66_0 (pc' := 1) rfl rfl rfl ?_
  refine g_aloadN d_jdk_42_m66_1 (pc' := 2) rfl rfl rfl ?_
  by_cases h2 : a = a2
  · -- h2 holds
    refine g_acmp d_jdk_42_m66_2 rfl rfl (same := true) (decide_eq_true (congrArg Value.ref h2)) (by decide) (pc' := 5) rfl ?_
    refine g_iconst d_jdk_42_m66_5 (pc' := 6) rfl (z := 1) rfl ?_
    exact go_ireturn d_jdk_42_m66_6 rfl (Or.inr (Or.inl rfl)) rfl (ws' := []) (fun _ q => q) ⟨by rw [if_pos (LatB.same L (b' := b2) (by rw [h2]; exact M) hB hD hN hM)], rfl, rfl⟩
  · -- h2 does not hold
    refine g_acmp d_jdk_42_m66_2 rfl rfl (same := false) (decide_eq_false (fun q => h2 (Value.ref.inj q))) (by decide) (pc' := 7) rfl ?_
    refine g_aloadN d_jdk_42_m66_7 (pc' := 8) rfl rfl rfl ?_
    refine go_instYes d_jdk_42_m66_8 (w56 hw) (Ins.self M.1) (pc' := 11) rfl ?_
    refine g_ifNo d_jdk_42_m66_11 (pc' := 14) rfl (feq (by decide : ¬ ((1 : Int32) = (0 : Int32)))).1 ?_
    refine g_aloadN d_jdk_42_m66_14 (pc' := 15) rfl rfl rfl ?_
    refine go_checkcast d_jdk_42_m66_15 (w56 hw) (Ins.self M.1) (pc' := 18) rfl ?_
    refine g_astoreN d_jdk_42_m66_18 (pc' := 19) (Ls' := #[.val (.ref a), .val (.ref a2), .val (.ref a2)]) rfl rfl rfl ?_
    refine go_getstatic d_jdk_42_m66_19 (w57 hw) Via.refl Sc (pc' := 22) rfl ?_
    refine g_ifNo d_jdk_42_m66_22 (pc' := 25) rfl (feq hco).1 ?_
    refine g_aloadN d_jdk_42_m66_25 (pc' := 26) rfl rfl rfl ?_
    refine go_getfield d_jdk_42_m66_26 (host := "") (Or.inl (w39 hw)) Via.refl L.2.1 (pc' := 29) rfl ?_
    refine g_aloadN d_jdk_42_m66_29 (pc' := 30) rfl rfl rfl ?_
    refine go_getfield d_jdk_42_m66_30 (host := "") (Or.inl (w39 hw)) Via.refl M.2.1 (pc' := 33) rfl ?_
    refine g_icmpNo d_jdk_42_m66_33 (pc' := 36) rfl (teq (by decide : (0 : Int32) = (0 : Int32))).2 ?_
    refine g_aloadN d_jdk_42_m66_36 (pc' := 37) rfl rfl rfl ?_
    refine go_getfield d_jdk_42_m66_37 (host := "") (Or.inl (w38 hw)) Via.refl L.2.2.1 (pc' := 40) rfl ?_
    refine g_aloadN d_jdk_42_m66_40 (pc' := 41) rfl rfl rfl ?_
    refine go_getfield d_jdk_42_m66_41 (host := "") (Or.inl (w38 hw)) Via.refl M.2.2.1 (pc' := 44) rfl ?_
    obtain ⟨k1, A1⟩ := L.2.2.2
    obtain ⟨k2, A2⟩ := M.2.2.2
    refine go_static d_jdk_42_m66_44 (rm_equalsL hw cs ds b b2 k1 k2 h0 hN hM hB hD A1 A2) (fun _ q => q) (w58 hw) (w59 hw) (w60 hw) (w61 hw) (by decide) (argsL := [(.ref b), (.ref b2)]) (rest := []) (lenOf pd5 rfl) rfl rfl rfl (W := 0) (Nat.le_of_ble_eq_true rfl) (by decide) (by decide) (by decide) (by decide) (pc' := 47) rfl ?_
    rintro _ _ _ ⟨rfl, rfl, rfl⟩ hz
    show Go _ _ _ _ _ _ _ _ _ _ _ _ _ _ _ _ _ _ _ _ _ _ _ _ [(.int (if cs = ds then 1 else 0))] _
    by_cases h47 : (if cs = ds then 1 else 0) = (0 : Int32)
    · -- h47 holds
      refine g_ifYes d_jdk_42_m66_47 (pc' := 54) (teq h47).1 (by decide) (by decide) ?_
      refine g_iconst d_jdk_42_m66_54 (pc' := 55) rfl (z := 0) rfl ?_
      exact go_ireturn d_jdk_42_m66_55 rfl (Or.inr (Or.inl rfl)) rfl (ws' := []) (fun _ q => q) ⟨by rw [if_neg (fun q => absurd h47 (by rw [if_pos q]; decide))], rfl, rfl⟩
    · -- h47 does not hold
      refine g_ifNo d_jdk_42_m66_47 (pc' := 50) rfl (feq h47).1 ?_
      refine g_iconst d_jdk_42_m66_50 (pc' := 51) rfl (z := 1) rfl ?_
      refine g_goto d_jdk_42_m66_51 (pc' := 55) (by decide) (by decide) ?_
      exact go_ireturn d_jdk_42_m66_55 rfl (Or.inr (Or.inl rfl)) rfl (ws' := []) (fun _ q => q) ⟨by rw [if_pos (Decidable.byContradiction fun q => h47 (if_neg q))], rfl, rfl⟩
set_option maxRecDepth 65536 in
set_option maxHeartbeats 40000000 in
theorem rm_max {l : Launch} {Z : State} {a0 : Array Value} (hw : ∀ d ∈ tables_1, d.before a0 Z = true) (x y : Int32) (h0 : Heap) :
    Con l Z EL ⟨"java/lang/Math", "max", "(II)I"⟩ jdk_29_method_65_code 2 (some .int) [] { frames := 0, cells := 0, slots := 0, locals := 0 } #[(.int x), (.int y)] h0 [] (fun v h ws => v = some (.int (if x < y then y else x)) ∧ h0 = h ∧ ws = []) := by
  refine con_of (a0 := a0) (Ls := #[.val (.int x), .val (.int y)]) (Jvm.Free.JP.mathPlain rfl (by decide)) (eW hw) (fun m => by first | (simp [entryFrame, mkF, argsToLocals, Value.category]; done) | rfl) ?_
  intro p e s m below meth c
  refine g_iloadN d_jdk_29_m65_0 (pc' := 1) rfl rfl ?_
  refine g_iloadN d_jdk_29_m65_1 (pc' := 2) rfl rfl ?_
  by_cases h2 : x < y
  · -- h2 holds
    refine g_icmpYes d_jdk_29_m65_2 (pc' := 9) (tlt h2).1 (by decide) (by decide) ?_
    refine g_iloadN d_jdk_29_m65_9 (pc' := 10) rfl rfl ?_
    exact go_ireturn d_jdk_29_m65_10 rfl (Or.inl rfl) rfl (ws' := []) (fun _ q => q) ⟨by first | rw [if_pos h2] | rw [if_neg h2], rfl, rfl⟩
  · -- h2 does not hold
    refine g_icmpNo d_jdk_29_m65_2 (pc' := 5) rfl (flt h2).1 ?_
    refine g_iloadN d_jdk_29_m65_5 (pc' := 6) rfl rfl ?_
    refine g_goto d_jdk_29_m65_6 (pc' := 10) (by decide) (by decide) ?_
    exact go_ireturn d_jdk_29_m65_10 rfl (Or.inl rfl) rfl (ws' := []) (fun _ q => q) ⟨by first | rw [if_pos h2] | rw [if_neg h2], rfl, rfl⟩
set_option maxRecDepth 65536 in
set_option maxHeartbeats 40000000 in
theorem rm_min {l : Launch} {Z : State} {a0 : Array Value} (hw : ∀ d ∈ tables_1, d.before a0 Z = true) (x y : Int32) (h0 : Heap) :
    Con l Z EL ⟨"java/lang/Math", "min", "(II)I"⟩ jdk_29_method_69_code 2 (some .int) [] { frames := 0, cells := 0, slots := 0, locals := 0 } #[(.int x), (.int y)] h0 [] (fun v h ws => v = some (.int (if y < x then y else x)) ∧ h0 = h ∧ ws = []) := by
  refine con_of (a0 := a0) (Ls := #[.val (.int x), .val (.int y)]) (Jvm.Free.JP.mathPlain rfl (by decide)) (eW hw) (fun m => by first | (simp [entryFrame, mkF, argsToLocals, Value.category]; done) | rfl) ?_
  intro p e s m below meth c
  refine g_iloadN d_jdk_29_m69_0 (pc' := 1) rfl rfl ?_
  refine g_iloadN d_jdk_29_m69_1 (pc' := 2) rfl rfl ?_
  by_cases h2 : y < x
  · -- h2 holds
    refine g_icmpYes d_jdk_29_m69_2 (pc' := 9) (tlt h2).2.2.1 (by decide) (by decide) ?_
    refine g_iloadN d_jdk_29_m69_9 (pc' := 10) rfl rfl ?_
    exact go_ireturn d_jdk_29_m69_10 rfl (Or.inl rfl) rfl (ws' := []) (fun _ q => q) ⟨by first | rw [if_pos h2] | rw [if_neg h2], rfl, rfl⟩
  · -- h2 does not hold
    refine g_icmpNo d_jdk_29_m69_2 (pc' := 5) rfl (flt h2).2.2.1 ?_
    refine g_iloadN d_jdk_29_m69_5 (pc' := 6) rfl rfl ?_
    refine g_goto d_jdk_29_m69_6 (pc' := 10) (by decide) (by decide) ?_
    exact go_ireturn d_jdk_29_m69_10 rfl (Or.inl rfl) rfl (ws' := []) (fun _ q => q) ⟨by first | rw [if_pos h2] | rw [if_neg h2], rfl, rfl⟩
set_option maxRecDepth 65536 in
set_option maxHeartbeats 40000000 in
theorem rm_canEncodeI {l : Launch} {Z : State} {a0 : Array Value} (hw : ∀ d ∈ tables_1, d.before a0 Z = true) (x : Int32) (h0 : Heap) (hq : ¬ x < 0 ∧ ¬ (255 : Int32) < x) :
    Con l Z EL ⟨"java/lang/StringLatin1", "canEncode", "(I)Z"⟩ jdk_43_method_4_code 1 (some .boolean) [] { frames := 0, cells := 0, slots := 0, locals := 0 } #[(.int x)] h0 [] (fun v h ws => v = some (.int (1 : Int32)) ∧ h0 = h ∧ ws = []) := by
  refine con_of (a0 := a0) (Ls := #[.val (.int x)]) (plainFor_of_name pn2) (eW hw) (fun m => by first | (simp [entryFrame, mkF, argsToLocals, Value.category]; done) | rfl) ?_
  intro p e s m below meth c
  refine g_iloadN d_jdk_43_m4_0 (pc' := 1) rfl rfl ?_
  refine g_ifNo d_jdk_43_m4_1 (pc' := 4) rfl (flt hq.1).1 ?_
  refine g_iloadN d_jdk_43_m4_4 (pc' := 5) rfl rfl ?_
  refine g_sipush d_jdk_43_m4_5 (pc' := 8) rfl (z := 255) rfl ?_
  refine g_icmpNo d_jdk_43_m4_8 (pc' := 11) rfl (flt hq.2).2.2.1 ?_
  refine g_iconst d_jdk_43_m4_11 (pc' := 12) rfl (z := 1) rfl ?_
  refine g_goto d_jdk_43_m4_12 (pc' := 16) (by decide) (by decide) ?_
  exact go_ireturn d_jdk_43_m4_16 rfl (Or.inr (Or.inl rfl)) rfl (ws' := []) (fun _ q => q) ⟨rfl, rfl, rfl⟩
set_option maxRecDepth 65536 in
set_option maxHeartbeats 40000000 in
theorem lp_ix {l : Launch} {Z : State} {a0 : Array Value} (hw : ∀ d ∈ tables_1, d.before a0 Z = true) {p : Program} {e : Env} {R : Room} {s : State} {m : MethodId} {args : Array Value} {below : List Frame} {meth : Method} {c : Code} (cs : List Int32) (ch : Int32) (b : Addr) (kb : ClassId) (h0 : Heap) (hN : cs.length ≤ 4000) (hB : Byt cs) (hch : ¬ ch < 0 ∧ ¬ (255 : Int32) < ch) (Ab : Arv Z h0 b kb .byte (Int32.ofNat cs.length) (cs.map by8) (.int 0)) :
    ∀ (d j : Nat), j + d = cs.length → (∀ i, i < j → ¬ cs.getD i 0 = ch) →
      Go p l e R s m args below meth c Z a0 EL "java/lang/StringLatin1" jdk_43_method_23_code 6 (some .int) "indexOfChar" [] h0 0 0 7 #[.val (.ref b), .val (.int ch), .val (.int (0 : Int32)), .val (.int (Int32.ofNat cs.length)), .val (.int (ch.toInt8.toInt32)), .val (.int (Int32.ofNat j))] [] (fun v h ws => ∃ r, v = some (.int r) ∧ Ix cs ch r ∧ h0 = h ∧ ws = []) := by
  intro d; induction d with
  | zero =>
    intro j hd hno
    have hj31 : j < 2147483648 := by omega
    have hN31 : cs.length < 2147483648 := by omega
    refine g_iload d_jdk_43_m23_7 (pc' := 9) rfl rfl ?_
    refine g_iloadN d_jdk_43_m23_9 (pc' := 10) rfl rfl ?_
    refine g_icmpYes d_jdk_43_m23_10 (pc' := 31) (flt (fun q => by have := (o_lt hj31 hN31).mp q; omega)).2.1 (by decide) (by decide) ?_
    refine g_iconst d_jdk_43_m23_31 (pc' := 32) rfl (z := (-1)) rfl ?_
    exact go_ireturn d_jdk_43_m23_32 rfl (Or.inl rfl) rfl (ws' := []) (fun _ q => q) ⟨_, rfl, Or.inr ⟨rfl, fun i hi => hno i (by omega)⟩, rfl, rfl⟩
  | succ d ih =>
    intro j hd hno
    have hj31 : j < 2147483648 := by omega
    have hN31 : cs.length < 2147483648 := by omega
    refine g_iload d_jdk_43_m23_7 (pc' := 9) rfl rfl ?_
    refine g_iloadN d_jdk_43_m23_9 (pc' := 10) rfl rfl ?_
    refine g_icmpNo d_jdk_43_m23_10 (pc' := 13) rfl (tlt ((o_lt hj31 hN31).mpr (by omega))).2.1 ?_
    refine g_aloadN d_jdk_43_m23_13 (pc' := 14) rfl rfl rfl ?_
    refine g_iload d_jdk_43_m23_14 (pc' := 16) rfl rfl ?_
    refine go_baload d_jdk_43_m23_16 Ab (v := (.int (cs.getD j 0).toInt8.toInt32)) ⟨o_nn hj31, (o_lt hj31 hN31).mpr (by omega)⟩ (by rw [o_cl hj31]; exact map8_getD cs j) (pc' := 17) rfl ?_
    refine g_iload d_jdk_43_m23_17 (pc' := 19) rfl rfl ?_
    by_cases hc : (cs.getD j 0).toInt8.toInt32 = (ch.toInt8.toInt32)
    · -- hc holds
      refine g_icmpNo d_jdk_43_m23_19 (pc' := 22) rfl (teq hc).2 ?_
      refine g_iload d_jdk_43_m23_22 (pc' := 24) rfl rfl ?_
      exact go_ireturn d_jdk_43_m23_24 rfl (Or.inl rfl) rfl (ws' := []) (fun _ q => q) ⟨_, rfl, Or.inl ⟨j, by omega, rfl, by8_inj (hB.at j).1 (hB.at j).2 hch.1 hch.2 hc, hno⟩, rfl, rfl⟩
    · -- hc does not hold
      refine g_icmpYes d_jdk_43_m23_19 (pc' := 25) (feq hc).2 (by decide) (by decide) ?_
      refine g_iinc d_jdk_43_m23_25 (pc' := 28) (Ls' := #[.val (.ref b), .val (.int ch), .val (.int (0 : Int32)), .val (.int (Int32.ofNat cs.length)), .val (.int (ch.toInt8.toInt32)), .val (.int ((Int32.ofNat j) + (1 : Int32)))]) rfl rfl rfl ?_
      refine g_goto d_jdk_43_m23_28 (pc' := 7) (by decide) (by decide) ?_
      rw [o_inc j]
      refine ih (j + 1) (by omega) (fun i hi => ?_)
      rcases Nat.lt_succ_iff_lt_or_eq.mp hi with q | q
      · exact hno i q
      · subst q; exact fun z => hc (by rw [z])
set_option maxRecDepth 65536 in
set_option maxHeartbeats 40000000 in
theorem rm_ixCharL {l : Launch} {Z : State} {a0 : Array Value} (hw : ∀ d ∈ tables_1, d.before a0 Z = true) (cs : List Int32) (ch : Int32) (b : Addr) (kb : ClassId) (h0 : Heap) (hN : cs.length ≤ 4000) (hB : Byt cs) (hch : ¬ ch < 0 ∧ ¬ (255 : Int32) < ch) (Ab : Arv Z h0 b kb .byte (Int32.ofNat cs.length) (cs.map by8) (.int 0)) :
    Con l Z EL ⟨"java/lang/StringLatin1", "indexOfChar", "([BIII)I"⟩ jdk_43_method_23_code 6 (some .int) [] { frames := 0, cells := 0, slots := 0, locals := 0 } #[(.ref b), (.int ch), (.int (0 : Int32)), (.int (Int32.ofNat cs.length))] h0 [] (fun v h ws => ∃ r, v = some (.int r) ∧ Ix cs ch r ∧ h0 = h ∧ ws = []) := by
  refine con_of (a0 := a0) (Ls := #[.val (.ref b), .val (.int ch), .val (.int (0 : Int32)), .val (.int (Int32.ofNat cs.length)), .unset, .unset]) (plainFor_of_name pn2) (eW hw) (fun m => by first | (simp [entryFrame, mkF, argsToLocals, Value.category]; done) | rfl) ?_
  intro p e s m below meth c
  refine g_iloadN d_jdk_43_m23_0 (pc' := 1) rfl rfl ?_
  refine g_i2b d_jdk_43_m23_1 (pc' := 2) rfl ?_
  refine g_istore d_jdk_43_m23_2 (pc' := 4) (Ls' := #[.val (.ref b), .val (.int ch), .val (.int (0 : Int32)), .val (.int (Int32.ofNat cs.length)), .val (.int ((ch).toInt8.toInt32)), .unset]) rfl rfl ?_
  refine g_iloadN d_jdk_43_m23_4 (pc' := 5) rfl rfl ?_
  refine g_istore d_jdk_43_m23_5 (pc' := 7) (Ls' := #[.val (.ref b), .val (.int ch), .val (.int (0 : Int32)), .val (.int (Int32.ofNat cs.length)), .val (.int ((ch).toInt8.toInt32)), .val (.int (0 : Int32))]) rfl rfl ?_
  exact lp_ix hw cs ch b kb h0 hN hB hch Ab cs.length 0 (by omega) (fun i hi => absurd hi (Nat.not_lt_zero _))
set_option maxRecDepth 65536 in
set_option maxHeartbeats 40000000 in
theorem rm_ixL {l : Launch} {Z : State} {a0 : Array Value} (hw : ∀ d ∈ tables_1, d.before a0 Z = true) (cs : List Int32) (ch : Int32) (b : Addr) (kb : ClassId) (h0 : Heap) (hN : cs.length ≤ 4000) (hB : Byt cs) (hch : ¬ ch < 0 ∧ ¬ (255 : Int32) < ch) (Ab : Arv Z h0 b kb .byte (Int32.ofNat cs.length) (cs.map by8) (.int 0)) :
    Con l Z EL ⟨"java/lang/StringLatin1", "indexOf", "([BIII)I"⟩ jdk_43_method_22_code 4 (some .int) [] { frames := 1, cells := 0, slots := 0, locals := 17 } #[(.ref b), (.int ch), (.int (0 : Int32)), (.int (Int32.ofNat cs.length))] h0 [] (fun v h ws => ∃ r, v = some (.int r) ∧ Ix cs ch r ∧ h0 = h ∧ ws = []) := by
  refine con_of (a0 := a0) (Ls := #[.val (.ref b), .val (.int ch), .val (.int (0 : Int32)), .val (.int (Int32.ofNat cs.length))]) (plainFor_of_name pn2) (eW hw) (fun m => by first | (simp [entryFrame, mkF, argsToLocals, Value.category]; done) | rfl) ?_
  intro p e s m below meth c
  refine g_iloadN d_jdk_43_m22_0 (pc' := 1) rfl rfl ?_
  refine go_static d_jdk_43_m22_1 (rm_canEncodeI hw ch h0 hch) (fun _ q => q) (w100 hw) (w101 hw) (w60 hw) (w102 hw) (by decide) (argsL := [(.int ch)]) (rest := []) (lenOf pd6 rfl) rfl rfl rfl (W := 0) (Nat.le_of_ble_eq_true rfl) (by decide) (by decide) (by decide) (by decide) (pc' := 4) rfl ?_
  rintro _ _ _ ⟨rfl, rfl, rfl⟩ z65
  show Go _ _ _ _ _ _ _ _ _ _ _ _ _ _ _ _ _ _ _ _ _ _ _ _ [(.int (1 : Int32))] _
  refine g_ifYes d_jdk_43_m22_4 (pc' := 9) (feq (by decide : ¬ ((1 : Int32) = (0 : Int32)))).2 (by decide) (by decide) ?_
  refine g_iloadN d_jdk_43_m22_9 (pc' := 10) rfl rfl ?_
  refine g_iconst d_jdk_43_m22_10 (pc' := 11) rfl (z := 0) rfl ?_
  refine go_static d_jdk_43_m22_11 (rm_max hw (0 : Int32) (0 : Int32) h0) (fun _ q => q) (w103 hw) (w104 hw) (w105 hw) (w106 hw) (by decide) (argsL := [(.int (0 : Int32)), (.int (0 : Int32))]) (rest := []) (lenOf pd7 rfl) rfl rfl rfl (W := 0) (Nat.le_of_ble_eq_true rfl) (by decide) (by decide) (by decide) (by decide) (pc' := 14) rfl ?_
  rintro _ _ _ ⟨rfl, rfl, rfl⟩ z66
  rw [show (if (0 : Int32) < (0 : Int32) then (0 : Int32) else (0 : Int32)) = (0 : Int32) from by decide]
  show Go _ _ _ _ _ _ _ _ _ _ _ _ _ _ _ _ _ _ _ _ _ _ _ _ [(.int (0 : Int32))] _
  refine g_istoreN d_jdk_43_m22_14 (pc' := 15) (Ls' := #[.val (.ref b), .val (.int ch), .val (.int (0 : Int32)), .val (.int (Int32.ofNat cs.length))]) rfl rfl ?_
  refine g_iloadN d_jdk_43_m22_15 (pc' := 16) rfl rfl ?_
  refine g_aloadN d_jdk_43_m22_16 (pc' := 17) rfl rfl rfl ?_
  refine go_arraylength d_jdk_43_m22_17 Ab (pc' := 18) rfl ?_
  refine go_static d_jdk_43_m22_18 (rm_min hw (Int32.ofNat cs.length) (Int32.ofNat cs.length) h0) (fun _ q => q) (w107 hw) (w108 hw) (w105 hw) (w109 hw) (by decide) (argsL := [(.int (Int32.ofNat cs.length)), (.int (Int32.ofNat cs.length))]) (rest := []) (lenOf pd7 rfl) rfl rfl rfl (W := 0) (Nat.le_of_ble_eq_true rfl) (by decide) (by decide) (by decide) (by decide) (pc' := 21) rfl ?_
  rintro _ _ _ ⟨rfl, rfl, rfl⟩ z67
  rw [show (if (Int32.ofNat cs.length) < (Int32.ofNat cs.length) then (Int32.ofNat cs.length) else (Int32.ofNat cs.length)) = (Int32.ofNat cs.length) from ite_self _]
  show Go _ _ _ _ _ _ _ _ _ _ _ _ _ _ _ _ _ _ _ _ _ _ _ _ [(.int (Int32.ofNat cs.length))] _
  refine g_istoreN d_jdk_43_m22_21 (pc' := 22) (Ls' := #[.val (.ref b), .val (.int ch), .val (.int (0 : Int32)), .val (.int (Int32.ofNat cs.length))]) rfl rfl ?_
  refine g_iloadN d_jdk_43_m22_22 (pc' := 23) rfl rfl ?_
  refine g_iloadN d_jdk_43_m22_23 (pc' := 24) rfl rfl ?_
  by_cases h24 : (0 : Int32) < (Int32.ofNat cs.length)
  · -- h24 holds
    refine g_icmpYes d_jdk_43_m22_24 (pc' := 29) (tlt h24).1 (by decide) (by decide) ?_
    refine g_aloadN d_jdk_43_m22_29 (pc' := 30) rfl rfl rfl ?_
    refine g_iloadN d_jdk_43_m22_30 (pc' := 31) rfl rfl ?_
    refine g_iloadN d_jdk_43_m22_31 (pc' := 32) rfl rfl ?_
    refine g_iloadN d_jdk_43_m22_32 (pc' := 33) rfl rfl ?_
    refine go_static d_jdk_43_m22_33 (rm_ixCharL hw cs ch b kb h0 hN hB hch Ab) (fun _ q => q) (w110 hw) (w111 hw) (w60 hw) (w112 hw) (by decide) (argsL := [(.ref b), (.int ch), (.int (0 : Int32)), (.int (Int32.ofNat cs.length))]) (rest := []) (lenOf pd8 rfl) rfl rfl rfl (W := 0) (Nat.le_of_ble_eq_true rfl) (by decide) (by decide) (by decide) (by decide) (pc' := 36) rfl ?_
    rintro _ _ _ ⟨r, rfl, hix, rfl, rfl⟩ hz
    show Go _ _ _ _ _ _ _ _ _ _ _ _ _ _ _ _ _ _ _ _ _ _ _ _ [(.int r)] _
    exact go_ireturn d_jdk_43_m22_36 rfl (Or.inl rfl) rfl (ws' := []) (fun _ q => q) ⟨_, rfl, hix, rfl, rfl⟩
  · -- h24 does not hold
    refine g_icmpNo d_jdk_43_m22_24 (pc' := 27) rfl (flt h24).1 ?_
    refine g_iconst d_jdk_43_m22_27 (pc' := 28) rfl (z := (-1)) rfl ?_
    exact go_ireturn d_jdk_43_m22_28 rfl (Or.inl rfl) rfl (ws' := []) (fun _ q => q) ⟨_, rfl, Or.inr ⟨rfl, fun i hi => absurd ((o_lt (i := 0) (by omega) (by omega)).mpr (by omega)) h24⟩, rfl, rfl⟩
theorem rem_nn {x : Int32} (m : Int32) {n : Nat} (hx : 0 ≤ x.toInt) (hm : m.toInt = (n : Int)) (h0 : 0 < n) (h1 : n < 2147483648) : ∃ j, j < n ∧ x % m = Int32.ofNat j := by
  have q := (c_iremV x m).1 hx (by omega)
  refine ⟨(x % m).toInt.toNat, ?_, ?_⟩
  · omega
  · apply Int32.toInt_inj.mp; rw [o_int (by omega)]; omega
theorem and7 (x : Int32) : 0 ≤ (x &&& (7 : Int32)).toInt := (c_and x 7 (by decide)).1
theorem take4 {a0 a1 a2 a3 b0 b1 b2 b3 : Int32} {n : Nat} (hn : n ≤ 4) (h0 : 0 < n → a0 = b0) (h1 : 1 < n → a1 = b1) (h2 : 2 < n → a2 = b2) (h3 : 3 < n → a3 = b3) : [a0, a1, a2, a3].take n = [b0, b1, b2, b3].take n := by
  obtain rfl | rfl | rfl | rfl | rfl : n = 0 ∨ n = 1 ∨ n = 2 ∨ n = 3 ∨ n = 4 := by omega
  · rfl
  · simp [h0]
  · simp [h0, h1]
  · simp [h0, h1, h2]
  · simp [h0, h1, h2, h3]
theorem ntake4 {a0 a1 a2 a3 b0 b1 b2 b3 : Int32} {n : Nat} (hn : n ≤ 4) (h : (0 < n ∧ ¬ a0 = b0) ∨ (1 < n ∧ ¬ a1 = b1) ∨ (2 < n ∧ ¬ a2 = b2) ∨ (3 < n ∧ ¬ a3 = b3)) : ¬ [a0, a1, a2, a3].take n = [b0, b1, b2, b3].take n := by
  obtain rfl | rfl | rfl | rfl | rfl : n = 0 ∨ n = 1 ∨ n = 2 ∨ n = 3 ∨ n = 4 := by omega
  · rcases h with h | h | h | h <;> exact absurd h.1 (by decide)
  · rcases h with h | h | h | h <;> first | exact absurd h.1 (by decide) | (intro q; injection q with q0 q; exact h.2 q0)
  · rcases h with h | h | h | h <;> first | exact absurd h.1 (by decide) | (intro q; injection q with q0 q; injection q with q1 q; first | exact h.2 q0 | exact h.2 q1)
  · rcases h with h | h | h | h <;> first | exact absurd h.1 (by decide) | (intro q; injection q with q0 q; injection q with q1 q; injection q with q2 q; first | exact h.2 q0 | exact h.2 q1 | exact h.2 q2)
  · rcases h with h | h | h | h <;> (intro q; injection q with q0 q; injection q with q1 q; injection q with q2 q; injection q with q3 q; first | exact h.2 q0 | exact h.2 q1 | exact h.2 q2 | exact h.2 q3)
theorem ltake4 {as bs : List Int32} {n m : Nat} (ha : as.length = 4) (hb : bs.length = 4) (hn : n ≤ 4) (hm : m ≤ 4) (h : ¬ n = m) : ¬ as.take n = bs.take m := fun q => by
  have := congrArg List.length q; rw [List.length_take, List.length_take] at this; omega
theorem Byt.take {cs : List Int32} (B : Byt cs) (n : Nat) : Byt (cs.take n) := fun c q => B c (List.mem_of_mem_take q)
theorem Ix.uniq {cs : List Int32} {ch r r' : Int32} (a : Ix cs ch r) (b : Ix cs ch r') : r = r' := by
  rcases a with ⟨j, h1, h2, h3, h4⟩ | ⟨h1, h2⟩ <;> rcases b with ⟨i, g1, g2, g3, g4⟩ | ⟨g1, g2⟩
  · rcases Nat.lt_trichotomy i j with q | q | q
    · exact absurd g3 (h4 i q)
    · rw [h2, g2, q]
    · exact absurd h3 (g4 j q)
  · exact absurd h3 (g2 j h1)
  · exact absurd g3 (h2 i g1)
  · rw [h1, g1]
theorem Ix.pos {cs : List Int32} {ch r : Int32} (a : Ix cs ch r) (h : (0 : Int32) < r) (hN : cs.length ≤ 4000) : ∃ j, 0 < j ∧ j < cs.length ∧ r = Int32.ofNat j := by
  rcases a with ⟨j, h1, h2, -, -⟩ | ⟨h1, -⟩
  · refine ⟨j, ?_, h1, h2⟩
    rcases Nat.eq_zero_or_pos j with q | q
    · subst q; rw [h2] at h; exact absurd h (by decide)
    · exact q
  · rw [h1] at h; exact absurd h (by decide)
theorem ix4 {t0 t1 t2 t3 ch : Int32} {n k : Nat} (hn : n ≤ 4) (hk : k < n) (hc : [t0, t1, t2, t3].getD k 0 = ch) (hb : ∀ i, i < k → ¬ [t0, t1, t2, t3].getD i 0 = ch) : Ix ([t0, t1, t2, t3].take n) ch (Int32.ofNat k) := by
  have e : ∀ i, i < n → ([t0, t1, t2, t3].take n).getD i 0 = [t0, t1, t2, t3].getD i 0 := fun i hi => by simp only [List.getD, List.getElem?_take_of_lt hi]
  exact Or.inl ⟨k, by rw [List.length_take]; simp; omega, rfl, by rw [e k hk]; exact hc, fun i hi => by rw [e i (by omega)]; exact hb i hi⟩
theorem ixN4 {t0 t1 t2 t3 ch : Int32} {n : Nat} (hn : n ≤ 4) (hb : ∀ i, i < n → ¬ [t0, t1, t2, t3].getD i 0 = ch) : Ix ([t0, t1, t2, t3].take n) ch (-1) := by
  have e : ∀ i, i < n → ([t0, t1, t2, t3].take n).getD i 0 = [t0, t1, t2, t3].getD i 0 := fun i hi => by simp only [List.getD, List.getElem?_take_of_lt hi]
  refine Or.inr ⟨rfl, fun i hi => ?_⟩
  have hi' : i < n := by rw [List.length_take] at hi; omega
  rw [e i hi']; exact hb i hi'
set_option maxRecDepth 65536 in
set_option maxHeartbeats 40000000 in
theorem rm_cftP {l : Launch} {Z : State} {a0 : Array Value} (hw : ∀ d ∈ tables_1, d.before a0 Z = true) (i j n : Int32) (fm : Value) (h0 : Heap) (hfm : fm.isRef = true) (hi : ¬ i < 0) (hj : ¬ j < i) (hn : ¬ n < j) :
    Con l Z EL ⟨"jdk/internal/util/Preconditions", "checkFromToIndex", "(IIILjava/util/function/BiFunction;)I"⟩ jdk_41_method_12_code 4 (some .int) [] { frames := 0, cells := 0, slots := 0, locals := 0 } #[(.int i), (.int j), (.int n), fm] h0 [] (fun v h ws => v = some (.int i) ∧ h0 = h ∧ ws = []) := by
  refine con_of (a0 := a0) (Ls := #[.val (.int i), .val (.int j), .val (.int n), .val fm]) (plainFor_of_name pn3) (eW hw) (fun m => by rcases ref_cases hfm with rfl | ⟨_, rfl⟩ <;> first | (simp [entryFrame, mkF, argsToLocals, Value.category]; done) | rfl) ?_
  intro p e s m below meth c
  refine g_iloadN d_jdk_41_m12_0 (pc' := 1) rfl rfl ?_
  refine g_ifNo d_jdk_41_m12_1 (pc' := 4) rfl (flt hi).1 ?_
  refine g_iloadN d_jdk_41_m12_4 (pc' := 5) rfl rfl ?_
  refine g_iloadN d_jdk_41_m12_5 (pc' := 6) rfl rfl ?_
  refine g_icmpNo d_jdk_41_m12_6 (pc' := 9) rfl (flt hj).2.2.1 ?_
  refine g_iloadN d_jdk_41_m12_9 (pc' := 10) rfl rfl ?_
  refine g_iloadN d_jdk_41_m12_10 (pc' := 11) rfl rfl ?_
  refine g_icmpYes d_jdk_41_m12_11 (pc' := 22) (flt hn).2.2.2 (by decide) (by decide) ?_
  refine g_iloadN d_jdk_41_m12_22 (pc' := 23) rfl rfl ?_
  exact go_ireturn d_jdk_41_m12_23 rfl (Or.inl rfl) rfl (ws' := []) (fun _ q => q) ⟨rfl, rfl, rfl⟩
set_option maxRecDepth 65536 in
set_option maxHeartbeats 40000000 in
theorem rm_cbbe {l : Launch} {Z : State} {a0 : Array Value} (hw : ∀ d ∈ tables_1, d.before a0 Z = true) (i j n : Int32) (fm : Value) (h0 : Heap) (Sf : Sta Z Z.heap "jdk/internal/util/Preconditions" "SIOOBE_FORMATTER" "Ljava/util/function/BiFunction;" fm) (hfm : fm.isRef = true) (hi : ¬ i < 0) (hj : ¬ j < i) (hn : ¬ n < j) :
    Con l Z EL ⟨"java/lang/String", "checkBoundsBeginEnd", "(III)V"⟩ jdk_42_method_158_code 3 none [] { frames := 1, cells := 0, slots := 0, locals := 15 } #[(.int i), (.int j), (.int n)] h0 [] (fun v h ws => v = none ∧ h0 = h ∧ ws = []) := by
  refine con_of (a0 := a0) (Ls := #[.val (.int i), .val (.int j), .val (.int n)]) (plainFor_of_name pn1) (eW hw) (fun m => by first | (simp [entryFrame, mkF, argsToLocals, Value.category]; done) | rfl) ?_
  intro p e s m below meth c
  refine g_iloadN d_jdk_42_m158_0 (pc' := 1) rfl rfl ?_
  refine g_iloadN d_jdk_42_m158_1 (pc' := 2) rfl rfl ?_
  refine g_iloadN d_jdk_42_m158_2 (pc' := 3) rfl rfl ?_
  refine go_getstatic d_jdk_42_m158_3 (w128 hw) Via.refl Sf (pc' := 6) rfl ?_
  refine go_static d_jdk_42_m158_6 (rm_cftP hw i j n fm h0 hfm hi hj hn) (fun _ q => q) (w130 hw) (w131 hw) (w129 hw) (w132 hw) (by decide) (argsL := [(.int i), (.int j), (.int n), fm]) (rest := []) (lenOf pd9 rfl) rfl rfl rfl (W := 0) (Nat.le_of_ble_eq_true rfl) (by decide) (by decide) (by decide) (by decide) (pc' := 9) rfl ?_
  rintro _ _ _ ⟨rfl, rfl, rfl⟩ hz
  show Go _ _ _ _ _ _ _ _ _ _ _ _ _ _ _ _ _ _ _ _ _ _ _ _ [(.int i)] _
  refine g_pop d_jdk_42_m158_9 (pc' := 10) rfl rfl ?_
  exact go_return d_jdk_42_m158_10 rfl (ws' := []) (fun _ q => q) ⟨rfl, rfl, rfl⟩
set_option maxRecDepth 65536 in
set_option maxHeartbeats 40000000 in
theorem rm_initBB {l : Launch} {Z : State} {a0 : Array Value} (hw : ∀ d ∈ tables_1, d.before a0 Z = true) (a b : Addr) (x : Int32) (o1 o2 : Value) (h0 : Heap) (hn : narrow .byte (.int x) = .int x) (hf : fits .byte (.int x) = true) (E : Exa Z h0 a "java/lang/String") (Fv : Fld Z h0 a "java/lang/String" "value" "[B" o1) (Fc : Fld Z h0 a "java/lang/String" "coder" "B" o2) :
    Con l Z EL ⟨"java/lang/String", "<init>", "([BB)V"⟩ jdk_42_method_151_code 3 none [] { frames := 1, cells := 0, slots := 0, locals := 12 } #[(.ref a), (.ref b), (.int x)] h0 [a] (fun v h ws => v = none ∧ ws = [] ∧ Keep h0 h [a] ∧ Fld Z h a "java/lang/String" "value" "[B" (.ref b) ∧ Fld Z h a "java/lang/String" "coder" "B" (.int x)) := by
  refine con_of (a0 := a0) (Ls := #[.val (.ref a), .val (.ref b), .val (.int x)]) (plainFor_of_name pn1) (eW hw) (fun m => by first | (simp [entryFrame, mkF, argsToLocals, Value.category]; done) | rfl) ?_
  intro p e s m below meth c
  refine g_aloadN d_jdk_42_m151_0 (pc' := 1) rfl rfl rfl ?_
  refine go_init d_jdk_42_m151_1 (w29 hw) (w30 hw) (w31 hw) rfl (by decide) (W := 0) (Nat.le_of_ble_eq_true rfl) (by decide) (pc' := 4) rfl ?_
  refine g_aloadN d_jdk_42_m151_4 (pc' := 5) rfl rfl rfl ?_
  refine g_aloadN d_jdk_42_m151_5 (pc' := 6) rfl rfl rfl ?_
  refine go_putfield d_jdk_42_m151_6 (w38 hw) Via.refl Fv E (Or.inr ⟨(w34 hw), rfl, rfl⟩) (w20 hw) (ty := (.array .byte)) (by decide) (v' := (.ref b)) rfl rfl (List.mem_of_getElem? (i := 0) rfl) (pc' := 9) rfl ?_
  intro h68 W69
  have F70 := Fld.same W69 Fv
  refine g_aloadN d_jdk_42_m151_9 (pc' := 10) rfl rfl rfl ?_
  refine g_iloadN d_jdk_42_m151_10 (pc' := 11) rfl rfl ?_
  have f71 := (Fld.other W69 Fc (Or.inr (slot_ne (Or.inr (w35 hw)) (Or.inr (w34 hw)) (by decide) (t := .byte) (t' := (.array .byte)) (by decide) (by decide))))
  refine go_putfield d_jdk_42_m151_11 (w39 hw) Via.refl f71 (Exa.wr W69 E) (Or.inr ⟨(w35 hw), rfl, rfl⟩) (w20 hw) (ty := .byte) (by decide) (v' := (.int x)) hn hf (List.mem_of_getElem? (i := 0) rfl) (pc' := 14) rfl ?_
  intro h72 W73
  have F74 := Fld.same W73 f71
  have K75 : Keep h0 h68 [a] := ((Keep.refl h0 [a]).wr W69 (Or.inl (List.mem_of_getElem? (i := 0) rfl)))
  have K76 : Keep h0 h72 [a] := (K75.wr W73 (Or.inl (List.mem_of_getElem? (i := 0) rfl)))
  have f77 := (Fld.other W73 F70 (Or.inr (slot_ne (Or.inr (w34 hw)) (Or.inr (w35 hw)) (by decide) (t := (.array .byte)) (t' := .byte) (by decide) (by decide))))
  exact go_return d_jdk_42_m151_14 rfl (ws' := []) all0 ⟨rfl, rfl, K76, f77, F74⟩
set_option maxRecDepth 65536 in
set_option maxHeartbeats 40000000 in
theorem rm_ixII {l : Launch} {Z : State} {a0 : Array Value} (hw : ∀ d ∈ tables_1, d.before a0 Z = true) (cs : List Int32) (ch : Int32) (a b : Addr) (co : Int32) (h0 : Heap) (L : LatB Z h0 a b cs) (hB : Byt cs) (hN : cs.length ≤ 4000) (hch : ¬ ch < 0 ∧ ¬ (255 : Int32) < ch) (Sc : Sta Z Z.heap "java/lang/String" "COMPACT_STRINGS" "Z" (.int co)) (hco : ¬ co = 0) :
    Con l Z EL ⟨"java/lang/String", "indexOf", "(II)I"⟩ jdk_42_method_80_code 3 (some .int) [] { frames := 2, cells := 0, slots := 0, locals := 32 } #[(.ref a), (.int ch), (.int (0 : Int32))] h0 [] (fun v h ws => ∃ r, v = some (.int r) ∧ Ix cs ch r ∧ h0 = h ∧ ws = []) := by
  refine con_of (a0 := a0) (Ls := #[.val (.ref a), .val (.int ch), .val (.int (0 : Int32))]) (plainFor_of_name pn1) (eW hw) (fun m => by first | (simp [entryFrame, mkF, argsToLocals, Value.category]; done) | rfl) ?_
  intro p e s m below meth c
  obtain ⟨kb, Ab⟩ := L.2.2.2
  refine g_aloadN d_jdk_42_m80_0 (pc' := 1) rfl rfl rfl ?_
  refine go_virtual d_jdk_42_m80_1 (rm_isLatin1 hw a _ _ co h0 L Sc hco) (fun _ q => q) L.1 (w82 hw) (w83 hw) (w85 hw) (nf_sel (w85 hw)) (w84 hw) (w21 hw) (w86 hw) (by decide) (argsL := []) (rest := []) (lenOf pd10 rfl) rfl rfl rfl (W := 0) (Nat.le_of_ble_eq_true rfl) (by decide) (by decide) (by decide) (by decide) (pc' := 4) rfl ?_
  rintro _ _ _ ⟨rfl, rfl, rfl⟩ z78
  show Go _ _ _ _ _ _ _ _ _ _ _ _ _ _ _ _ _ _ _ _ _ _ _ _ [(.int (1 : Int32))] _
  refine g_ifNo d_jdk_42_m80_4 (pc' := 7) rfl (feq (by decide : ¬ ((1 : Int32) = (0 : Int32)))).1 ?_
  refine g_aloadN d_jdk_42_m80_7 (pc' := 8) rfl rfl rfl ?_
  refine go_getfield d_jdk_42_m80_8 (host := "") (Or.inl (w38 hw)) Via.refl L.2.2.1 (pc' := 11) rfl ?_
  refine g_iloadN d_jdk_42_m80_11 (pc' := 12) rfl rfl ?_
  refine g_iloadN d_jdk_42_m80_12 (pc' := 13) rfl rfl ?_
  refine g_aloadN d_jdk_42_m80_13 (pc' := 14) rfl rfl rfl ?_
  refine go_virtual d_jdk_42_m80_14 (rm_length hw a _ cs co h0 L Sc hco) (fun _ q => q) L.1 (w87 hw) (w88 hw) (w90 hw) (nf_sel (w90 hw)) (w89 hw) (w21 hw) (w91 hw) (by decide) (argsL := []) (rest := [(.int (0 : Int32)), (.int ch), (.ref b)]) (lenOf pd11 rfl) rfl rfl rfl (W := 3) (Nat.le_of_ble_eq_true rfl) (by decide) (by decide) (by decide) (by decide) (pc' := 17) rfl ?_
  rintro _ _ _ ⟨rfl, rfl, rfl⟩ z79
  show Go _ _ _ _ _ _ _ _ _ _ _ _ _ _ _ _ _ _ _ _ _ _ _ _ [(.int (Int32.ofNat (cs).length)), (.int (0 : Int32)), (.int ch), (.ref b)] _
  refine go_static d_jdk_42_m80_17 (rm_ixL hw cs ch b kb h0 hN hB hch Ab) (fun _ q => q) (w97 hw) (w98 hw) (w60 hw) (w99 hw) (by decide) (argsL := [(.ref b), (.int ch), (.int (0 : Int32)), (.int (Int32.ofNat (cs).length))]) (rest := []) (lenOf pd8 rfl) rfl rfl rfl (W := 0) (Nat.le_of_ble_eq_true rfl) (by decide) (by decide) (by decide) (by decide) (pc' := 20) rfl ?_
  rintro _ _ _ ⟨r, rfl, hix, rfl, rfl⟩ hz9
  show Go _ _ _ _ _ _ _ _ _ _ _ _ _ _ _ _ _ _ _ _ _ _ _ _ [(.int r)] _
  refine g_goto d_jdk_42_m80_20 (pc' := 36) (by decide) (by decide) ?_
  exact go_ireturn d_jdk_42_m80_36 rfl (Or.inl rfl) rfl (ws' := []) (fun _ q => q) ⟨_, rfl, hix, rfl, rfl⟩
set_option maxRecDepth 65536 in
set_option maxHeartbeats 40000000 in
theorem rm_ixI {l : Launch} {Z : State} {a0 : Array Value} (hw : ∀ d ∈ tables_1, d.before a0 Z = true) (cs : List Int32) (ch : Int32) (a b : Addr) (co : Int32) (h0 : Heap) (L : LatB Z h0 a b cs) (hB : Byt cs) (hN : cs.length ≤ 4000) (hch : ¬ ch < 0 ∧ ¬ (255 : Int32) < ch) (Sc : Sta Z Z.heap "java/lang/String" "COMPACT_STRINGS" "Z" (.int co)) (hco : ¬ co = 0) :
    Con l Z EL ⟨"java/lang/String", "indexOf", "(I)I"⟩ jdk_42_method_79_code 2 (some .int) [] { frames := 3, cells := 0, slots := 0, locals := 46 } #[(.ref a), (.int ch)] h0 [] (fun v h ws => ∃ r, v = some (.int r) ∧ Ix cs ch r ∧ h0 = h ∧ ws = []) := by
  refine con_of (a0 := a0) (Ls := #[.val (.ref a), .val (.int ch)]) (plainFor_of_name pn1) (eW hw) (fun m => by first | (simp [entryFrame, mkF, argsToLocals, Value.category]; done) | rfl) ?_
  intro p e s m below meth c
  refine g_aloadN d_jdk_42_m79_0 (pc' := 1) rfl rfl rfl ?_
  refine g_iloadN d_jdk_42_m79_1 (pc' := 2) rfl rfl ?_
  refine g_iconst d_jdk_42_m79_2 (pc' := 3) rfl (z := 0) rfl ?_
  refine go_virtual d_jdk_42_m79_3 (rm_ixII hw cs ch a b co h0 L hB hN hch Sc hco) (fun _ q => q) L.1 (w77 hw) (w78 hw) (w80 hw) (nf_sel (w80 hw)) (w79 hw) (w21 hw) (w81 hw) (by decide) (argsL := [(.int ch), (.int (0 : Int32))]) (rest := []) (lenOf pd7 rfl) rfl rfl rfl (W := 0) (Nat.le_of_ble_eq_true rfl) (by decide) (by decide) (by decide) (by decide) (pc' := 6) rfl ?_
  rintro _ _ _ ⟨r, rfl, hix, rfl, rfl⟩ hz9
  show Go _ _ _ _ _ _ _ _ _ _ _ _ _ _ _ _ _ _ _ _ _ _ _ _ [(.int r)] _
  exact go_ireturn d_jdk_42_m79_6 rfl (Or.inl rfl) rfl (ws' := []) (fun _ q => q) ⟨_, rfl, hix, rfl, rfl⟩
theorem cp0 {cs : List Int32} {vd : List Value} {p q z0 m i : Nat} (hq : q = p) (hz : z0 = 0) (hi : i < p) : ((cs.take p).map by8).getD i (.int 0) = (vd.take z0 ++ (List.range q).map (fun i => (cs.map by8).getD (z0 + i) (.int 0)) ++ vd.drop m).getD i (.int 0) := by
  subst hq hz
  have e : ((cs.take q).map by8).getD i (.int 0) = (cs.map by8).getD i (.int 0) := by
    rw [map8_getD, map8_getD]; simp only [List.getD, List.getElem?_take_of_lt hi]
  rw [e]
  simp only [List.take_zero, List.nil_append, Nat.zero_add]
  rw [List.getD, List.getD, List.getElem?_append_left (by simpa using hi), List.getElem?_map, List.getElem?_map, List.getElem?_range hi]; simp [List.getD]
set_option maxRecDepth 65536 in
set_option maxHeartbeats 40000000 in
theorem rm_checkLen {l : Launch} {Z : State} {a0 : Array Value} (hw : ∀ d ∈ tables_1, d.before a0 Z = true) (np : Nat) (h0 : Heap) (hp : np ≤ 4000) :
    Con l Z EL ⟨"java/util/Arrays", "checkLength", "(II)V"⟩ jdk_65_method_131_code 2 none [] { frames := 0, cells := 0, slots := 0, locals := 0 } #[(.int (0 : Int32)), (.int (Int32.ofNat np))] h0 [] (fun v h ws => v = none ∧ h0 = h ∧ ws = []) := by
  refine con_of (a0 := a0) (Ls := #[.val (.int (0 : Int32)), .val (.int (Int32.ofNat np))]) (plainFor_of_name pn4) (eW hw) (fun m => by first | (simp [entryFrame, mkF, argsToLocals, Value.category]; done) | rfl) ?_
  intro p e s m below meth c
  refine g_iloadN d_jdk_65_m131_0 (pc' := 1) rfl rfl ?_
  refine g_iloadN d_jdk_65_m131_1 (pc' := 2) rfl rfl ?_
  refine g_icmpYes d_jdk_65_m131_2 (pc' := 37) (flt (o_nn (by omega))).2.1 (by decide) (by decide) ?_
  exact go_return d_jdk_65_m131_37 rfl (ws' := []) (fun _ q => q) ⟨rfl, rfl, rfl⟩
set_option maxRecDepth 65536 in
set_option maxHeartbeats 40000000 in
theorem rm_corb {l : Launch} {Z : State} {a0 : Array Value} (hw : ∀ d ∈ tables_1, d.before a0 Z = true) (cs : List Int32) (np : Nat) (b : Addr) (kb : ClassId) (h0 : Heap) (hN : cs.length ≤ 16) (h0p : 0 < np) (hp : np < cs.length) (Ab : Arv Z h0 b kb .byte (Int32.ofNat cs.length) (cs.map by8) (.int 0)) :
    Con l Z EL ⟨"java/util/Arrays", "copyOfRangeByte", "([BII)[B"⟩ jdk_65_method_133_code 5 (some (.array .byte)) [] { frames := 1, cells := 1, slots := 16, locals := 40 } #[(.ref b), (.int (0 : Int32)), (.int (Int32.ofNat np))] h0 [] (fun v h ws => ∃ nb k, v = some (.ref nb) ∧ ws = [nb] ∧ h0.size ≤ nb ∧ Keep h0 h [] ∧ Arv Z h nb k .byte (Int32.ofNat np) ((cs.take np).map by8) (.int 0)) := by
  refine con_of (a0 := a0) (Ls := #[.val (.ref b), .val (.int (0 : Int32)), .val (.int (Int32.ofNat np)), .unset, .unset]) (plainFor_of_name pn4) (eW hw) (fun m => by first | (simp [entryFrame, mkF, argsToLocals, Value.category]; done) | rfl) ?_
  intro p e s m below meth c
  refine g_iloadN d_jdk_65_m133_0 (pc' := 1) rfl rfl ?_
  refine g_iloadN d_jdk_65_m133_1 (pc' := 2) rfl rfl ?_
  refine go_static d_jdk_65_m133_2 (rm_checkLen hw np h0 (by omega)) (fun _ q => q) (w144 hw) (w145 hw) (w139 hw) (w146 hw) (by decide) (argsL := [(.int (0 : Int32)), (.int (Int32.ofNat np))]) (rest := []) (lenOf pd12 rfl) rfl rfl rfl (W := 0) (Nat.le_of_ble_eq_true rfl) (by decide) (by decide) (by decide) (by decide) (pc' := 5) rfl ?_
  rintro _ _ _ ⟨rfl, rfl, rfl⟩ hz0
  show Go _ _ _ _ _ _ _ _ _ _ _ _ _ _ _ _ _ _ _ _ _ _ _ _ [] _
  refine g_iloadN d_jdk_65_m133_5 (pc' := 6) rfl rfl ?_
  refine g_iloadN d_jdk_65_m133_6 (pc' := 7) rfl rfl ?_
  refine g_isub d_jdk_65_m133_7 (pc' := 8) rfl ?_
  rw [Int32.sub_zero]
  refine g_istoreN d_jdk_65_m133_8 (pc' := 9) (Ls' := #[.val (.ref b), .val (.int (0 : Int32)), .val (.int (Int32.ofNat np)), .val (.int (Int32.ofNat np)), .unset]) rfl rfl ?_
  refine g_iloadN d_jdk_65_m133_9 (pc' := 10) rfl rfl ?_
  refine go_newarray d_jdk_65_m133_10 (w33 hw) (o_nn (by omega)) (cap := 16) (by rw [o_cl (by omega)]; omega) (by decide) (by decide) (by decide) (ad := "[B") rfl (pc' := 12) rfl ?_
  intro h80 a81 k82 g83 E84 A85 X86
  have A87 := Arv.pad A85 (pad_rep [] (.int 0) np)
  refine g_astore d_jdk_65_m133_12 (pc' := 14) (Ls' := #[.val (.ref b), .val (.int (0 : Int32)), .val (.int (Int32.ofNat np)), .val (.int (Int32.ofNat np)), .val (.ref a81)]) rfl rfl rfl ?_
  refine g_aloadN d_jdk_65_m133_14 (pc' := 15) rfl rfl rfl ?_
  refine g_iloadN d_jdk_65_m133_15 (pc' := 16) rfl rfl ?_
  refine g_aload d_jdk_65_m133_16 (pc' := 18) rfl rfl rfl ?_
  refine g_iconst d_jdk_65_m133_18 (pc' := 19) rfl (z := 0) rfl ?_
  refine g_aloadN d_jdk_65_m133_19 (pc' := 20) rfl rfl rfl ?_
  refine go_arraylength d_jdk_65_m133_20 (Ab.ext E84) (pc' := 21) rfl ?_
  refine g_iloadN d_jdk_65_m133_21 (pc' := 22) rfl rfl ?_
  refine g_isub d_jdk_65_m133_22 (pc' := 23) rfl ?_
  rw [Int32.sub_zero]
  refine g_iloadN d_jdk_65_m133_23 (pc' := 24) rfl rfl ?_
  refine go_static d_jdk_65_m133_24 (rm_min hw (Int32.ofNat cs.length) (Int32.ofNat np) h80) all0 (w147 hw) (w108 hw) (w105 hw) (w109 hw) (by decide) (argsL := [(.int (Int32.ofNat cs.length)), (.int (Int32.ofNat np))]) (rest := [(.int (0 : Int32)), (.ref a81), (.int (0 : Int32)), (.ref b)]) (lenOf pd7 rfl) rfl rfl rfl (W := 4) (Nat.le_of_ble_eq_true rfl) (by decide) (by decide) (by decide) (by decide) (pc' := 27) rfl ?_
  rintro _ _ _ ⟨rfl, rfl, rfl⟩ z88
  rw [show (if (Int32.ofNat np) < (Int32.ofNat cs.length) then (Int32.ofNat np) else (Int32.ofNat cs.length)) = (Int32.ofNat np) from (if_pos ((o_lt (by omega) (by omega)).mpr hp))]
  show Go _ _ _ _ _ _ _ _ _ _ _ _ _ _ _ _ _ _ _ _ _ _ _ _ [(.int (Int32.ofNat np)), (.int (0 : Int32)), (.ref a81), (.int (0 : Int32)), (.ref b)] _
  refine go_arraycopy d_jdk_65_m133_27 (w148 hw) (w151 hw) (w149 hw) (w150 hw) (Ab.ext E84) A87 (us := ((List.range (Int32.ofNat np).toNatClampNeg).map fun i => (cs.map by8).getD ((0 : Int32).toNatClampNeg + i) (.int 0))) (Or.inl ⟨rfl, rfl⟩) (by decide) (by decide) (o_nn (by omega)) (by rw [o_cl (i := np) (by omega), o_cl (i := cs.length) (by omega)]; show 0 + np ≤ cs.length; omega) (by rw [o_cl (i := np) (by omega)]; show 0 + np ≤ np; omega) rfl (by rw [o_cl (i := np) (by omega)]; show 0 + np ≤ _; simp) (List.mem_of_getElem? (i := 0) rfl) rfl (by decide) (W := 0) (Nat.le_of_ble_eq_true rfl) (by decide) (pc' := 30) rfl ?_
  intro h89 K90 A91
  refine g_aload d_jdk_65_m133_30 (pc' := 32) rfl rfl rfl ?_
  have A9 := Arv_congr (vs' := (cs.take np).map by8) A91 (fun i hi => cp0 (o_cl (by omega)) rfl (by rw [o_cl (by omega)] at hi; exact hi))
  have K92 : Keep h0 h80 [] := ((Keep.refl h0 []).ext E84)
  have K93 : Keep h0 h89 [] := (K92.trans K90 (allS (Or.inr (Nat.le_of_eq g83.symm)) all0))
  exact go_areturn d_jdk_65_m133_32 rfl rfl rfl (ws' := [a81]) (fun _ q => q) ⟨_, _, rfl, rfl, (Nat.le_of_eq g83.symm), K93, A9⟩
set_option maxRecDepth 65536 in
set_option maxHeartbeats 40000000 in
theorem rm_cor {l : Launch} {Z : State} {a0 : Array Value} (hw : ∀ d ∈ tables_1, d.before a0 Z = true) (cs : List Int32) (np : Nat) (b : Addr) (kb : ClassId) (h0 : Heap) (hN : cs.length ≤ 16) (h0p : 0 < np) (hp : np < cs.length) (Ab : Arv Z h0 b kb .byte (Int32.ofNat cs.length) (cs.map by8) (.int 0)) :
    Con l Z EL ⟨"java/util/Arrays", "copyOfRange", "([BII)[B"⟩ jdk_65_method_132_code 3 (some (.array .byte)) [] { frames := 2, cells := 1, slots := 16, locals := 56 } #[(.ref b), (.int (0 : Int32)), (.int (Int32.ofNat np))] h0 [] (fun v h ws => ∃ nb k, v = some (.ref nb) ∧ ws = [nb] ∧ h0.size ≤ nb ∧ Keep h0 h [] ∧ Arv Z h nb k .byte (Int32.ofNat np) ((cs.take np).map by8) (.int 0)) := by
  refine con_of (a0 := a0) (Ls := #[.val (.ref b), .val (.int (0 : Int32)), .val (.int (Int32.ofNat np))]) (plainFor_of_name pn4) (eW hw) (fun m => by first | (simp [entryFrame, mkF, argsToLocals, Value.category]; done) | rfl) ?_
  intro p e s m below meth c
  refine g_iloadN d_jdk_65_m132_0 (pc' := 1) rfl rfl ?_
  refine g_ifNo d_jdk_65_m132_1 (pc' := 4) rfl (teq (by decide : (0 : Int32) = (0 : Int32))).2 ?_
  refine g_iloadN d_jdk_65_m132_4 (pc' := 5) rfl rfl ?_
  refine g_aloadN d_jdk_65_m132_5 (pc' := 6) rfl rfl rfl ?_
  refine go_arraylength d_jdk_65_m132_6 Ab (pc' := 7) rfl ?_
  refine g_icmpNo d_jdk_65_m132_7 (pc' := 10) rfl (feq (fun q => by have := (o_eq (by omega) (by omega)).mp q; omega)).1 ?_
  refine g_aloadN d_jdk_65_m132_10 (pc' := 11) rfl rfl rfl ?_
  refine g_iloadN d_jdk_65_m132_11 (pc' := 12) rfl rfl ?_
  refine g_iloadN d_jdk_65_m132_12 (pc' := 13) rfl rfl ?_
  refine go_static d_jdk_65_m132_13 (rm_corb hw cs np b kb h0 hN h0p hp Ab) (fun _ q => q) (w141 hw) (w142 hw) (w139 hw) (w143 hw) (by decide) (argsL := [(.ref b), (.int (0 : Int32)), (.int (Int32.ofNat np))]) (rest := []) (lenOf pd13 rfl) rfl rfl rfl (W := 0) (Nat.le_of_ble_eq_true rfl) (by decide) (by decide) (by decide) (by decide) (pc' := 16) rfl ?_
  rintro _ h94 _ ⟨nb, k, rfl, rfl, hnb, Kc, An⟩ hzc
  show Go _ _ _ _ _ _ _ _ _ _ _ _ _ _ _ _ _ _ _ _ _ _ _ _ [(.ref nb)] _
  exact go_areturn d_jdk_65_m132_16 rfl rfl rfl (ws' := [nb]) (fun _ q => q) ⟨_, _, rfl, rfl, hnb, Kc, An⟩
set_option maxRecDepth 65536 in
set_option maxHeartbeats 40000000 in
theorem rm_newString {l : Launch} {Z : State} {a0 : Array Value} (hw : ∀ d ∈ tables_1, d.before a0 Z = true) (cs : List Int32) (np : Nat) (b : Addr) (kb : ClassId) (h0 : Heap) (hN : cs.length ≤ 16) (h0p : 0 < np) (hp : np < cs.length) (Ab : Arv Z h0 b kb .byte (Int32.ofNat cs.length) (cs.map by8) (.int 0)) :
    Con l Z EL ⟨"java/lang/StringLatin1", "newString", "([BII)Ljava/lang/String;"⟩ jdk_43_method_47_code 3 (some (.object "java/lang/String")) [] { frames := 3, cells := 2, slots := 20, locals := 72 } #[(.ref b), (.int (0 : Int32)), (.int (Int32.ofNat np))] h0 [] (fun v h ws => ∃ a nb, v = some (.ref a) ∧ ws = [] ∧ h0.size ≤ a ∧ Keep h0 h [] ∧ LatB Z h a nb (cs.take np)) := by
  refine con_of (a0 := a0) (Ls := #[.val (.ref b), .val (.int (0 : Int32)), .val (.int (Int32.ofNat np))]) (plainFor_of_name pn2) (eW hw) (fun m => by first | (simp [entryFrame, mkF, argsToLocals, Value.category]; done) | rfl) ?_
  intro p e s m below meth c
  refine g_iloadN d_jdk_43_m47_0 (pc' := 1) rfl rfl ?_
  refine g_ifYes d_jdk_43_m47_1 (pc' := 7) (feq (fun q => by have := (o_eq (n := 0) (by omega) (by omega)).mp q; omega)).2 (by decide) (by decide) ?_
  refine go_new d_jdk_43_m47_7 (w136 hw) (w20 hw) (w21 hw) (by decide) (by decide) (pc' := 10) rfl ?_
  intro h95 a96 g97 E98 A99 D100
  have F101 : Fld Z h95 a96 "java/lang/String" "value" "[B" .null := D100 (Or.inr (w34 hw)) (ty := (.array .byte)) (by decide)
  have F102 : Fld Z h95 a96 "java/lang/String" "coder" "B" (.int (0 : Int32)) := D100 (Or.inr (w35 hw)) (ty := .byte) (by decide)
  refine g_dup d_jdk_43_m47_10 (pc' := 11) rfl rfl ?_
  refine g_aloadN d_jdk_43_m47_11 (pc' := 12) rfl rfl rfl ?_
  refine g_iloadN d_jdk_43_m47_12 (pc' := 13) rfl rfl ?_
  refine g_iloadN d_jdk_43_m47_13 (pc' := 14) rfl rfl ?_
  refine g_iloadN d_jdk_43_m47_14 (pc' := 15) rfl rfl ?_
  refine g_iadd d_jdk_43_m47_15 (pc' := 16) rfl ?_
  rw [Int32.zero_add]
  refine go_static d_jdk_43_m47_16 (rm_cor hw cs np b kb h95 hN h0p hp (Ab.ext E98)) all0 (w137 hw) (w138 hw) (w139 hw) (w140 hw) (by decide) (argsL := [(.ref b), (.int (0 : Int32)), (.int (Int32.ofNat np))]) (rest := [(.ref a96), (.ref a96)]) (lenOf pd13 rfl) rfl rfl rfl (W := 2) (Nat.le_of_ble_eq_true rfl) (by decide) (by decide) (by decide) (by decide) (pc' := 19) rfl ?_
  rintro _ h103 _ ⟨nb, k, rfl, rfl, hnb, Kc, An⟩ hzc
  show Go _ _ _ _ _ _ _ _ _ _ _ _ _ _ _ _ _ _ _ _ _ _ _ _ [(.ref nb), (.ref a96), (.ref a96)] _
  refine g_iconst d_jdk_43_m47_19 (pc' := 20) rfl (z := 0) rfl ?_
  refine go_special d_jdk_43_m47_20 (rm_initBB hw a96 nb (0 : Int32) _ _ h103 rfl rfl (A99.keep Kc) (F101.keep Kc nin0) (F102.keep Kc nin0)) (allS (List.mem_of_getElem? (i := 1) rfl) all0) rfl (w152 hw) (w153 hw) (w21 hw) (w154 hw) (by decide) (argsL := [(.ref nb), (.int (0 : Int32))]) (rest := [(.ref a96)]) (lenOf pd14 rfl) rfl rfl rfl (W := 1) (Nat.le_of_ble_eq_true rfl) (by decide) (by decide) (by decide) (by decide) (pc' := 23) rfl ?_
  rintro _ h104 _ ⟨rfl, rfl, K105, F106, G107⟩ z108
  show Go _ _ _ _ _ _ _ _ _ _ _ _ _ _ _ _ _ _ _ _ _ _ _ _ [(.ref a96)] _
  have K109 : Keep h0 h95 [] := ((Keep.refl h0 []).ext E98)
  have K110 : Keep h0 h103 [] := (K109.trans Kc all0)
  have K111 : Keep h0 h104 [] := (K110.trans K105 (allS (Or.inr (Nat.le_of_eq g97.symm)) all0))
  have ne112 : nb ≠ a96 := Ne.symm (Nat.ne_of_lt (Nat.lt_of_lt_of_le A99.lt hnb))
  exact go_areturn d_jdk_43_m47_23 rfl rfl rfl (ws' := []) all0 ⟨_, _, rfl, rfl, (Nat.le_of_eq g97.symm), K111, LatB.mk ((A99.keep Kc).keep K105) G107 F106 (An.keep K105 (ninS ne112 nin0)) (by rw [List.length_take, Nat.min_eq_left (by omega)]) rfl⟩
set_option maxRecDepth 65536 in
set_option maxHeartbeats 40000000 in
theorem rm_substr {l : Launch} {Z : State} {a0 : Array Value} (hw : ∀ d ∈ tables_1, d.before a0 Z = true) (cs : List Int32) (np : Nat) (a b : Addr) (co : Int32) (fm : Value) (h0 : Heap) (hN : cs.length ≤ 16) (h0p : 0 < np) (hp : np < cs.length) (L : LatB Z h0 a b cs) (Sc : Sta Z Z.heap "java/lang/String" "COMPACT_STRINGS" "Z" (.int co)) (hco : ¬ co = 0) (Sf : Sta Z Z.heap "jdk/internal/util/Preconditions" "SIOOBE_FORMATTER" "Ljava/util/function/BiFunction;" fm) (hfm : fm.isRef = true) :
    Con l Z EL ⟨"java/lang/String", "substring", "(II)Ljava/lang/String;"⟩ jdk_42_method_92_code 5 (some (.object "java/lang/String")) [] { frames := 4, cells := 2, slots := 20, locals := 86 } #[(.ref a), (.int (0 : Int32)), (.int (Int32.ofNat np))] h0 [] (fun v h ws => ∃ a nb, v = some (.ref a) ∧ ws = [] ∧ h0.size ≤ a ∧ Keep h0 h [] ∧ LatB Z h a nb (cs.take np)) := by
  refine con_of (a0 := a0) (Ls := #[.val (.ref a), .val (.int (0 : Int32)), .val (.int (Int32.ofNat np)), .unset, .unset]) (plainFor_of_name pn1) (eW hw) (fun m => by first | (simp [entryFrame, mkF, argsToLocals, Value.category]; done) | rfl) ?_
  intro p e s m below meth c
  refine g_aloadN d_jdk_42_m92_0 (pc' := 1) rfl rfl rfl ?_
  refine go_virtual d_jdk_42_m92_1 (rm_length hw a _ cs co h0 L Sc hco) (fun _ q => q) L.1 (w87 hw) (w88 hw) (w90 hw) (nf_sel (w90 hw)) (w89 hw) (w21 hw) (w91 hw) (by decide) (argsL := []) (rest := []) (lenOf pd11 rfl) rfl rfl rfl (W := 0) (Nat.le_of_ble_eq_true rfl) (by decide) (by decide) (by decide) (by decide) (pc' := 4) rfl ?_
  rintro _ _ _ ⟨rfl, rfl, rfl⟩ z113
  show Go _ _ _ _ _ _ _ _ _ _ _ _ _ _ _ _ _ _ _ _ _ _ _ _ [(.int (Int32.ofNat (cs).length))] _
  refine g_istoreN d_jdk_42_m92_4 (pc' := 5) (Ls' := #[.val (.ref a), .val (.int (0 : Int32)), .val (.int (Int32.ofNat np)), .val (.int (Int32.ofNat (cs).length)), .unset]) rfl rfl ?_
  refine g_iloadN d_jdk_42_m92_5 (pc' := 6) rfl rfl ?_
  refine g_iloadN d_jdk_42_m92_6 (pc' := 7) rfl rfl ?_
  refine g_iloadN d_jdk_42_m92_7 (pc' := 8) rfl rfl ?_
  refine go_static d_jdk_42_m92_8 (rm_cbbe hw 0 (Int32.ofNat np) (Int32.ofNat cs.length) fm h0 Sf hfm (by decide) (o_nn (by omega)) (fun q => by have := (o_lt (by omega) (by omega)).mp q; omega)) (fun _ q => q) (w125 hw) (w126 hw) (w21 hw) (w127 hw) (by decide) (argsL := [(.int (0 : Int32)), (.int (Int32.ofNat np)), (.int (Int32.ofNat (cs).length))]) (rest := []) (lenOf pd15 rfl) rfl rfl rfl (W := 0) (Nat.le_of_ble_eq_true rfl) (by decide) (by decide) (by decide) (by decide) (pc' := 11) rfl ?_
  rintro _ _ _ ⟨rfl, rfl, rfl⟩ hzb
  show Go _ _ _ _ _ _ _ _ _ _ _ _ _ _ _ _ _ _ _ _ _ _ _ _ [] _
  refine g_iloadN d_jdk_42_m92_11 (pc' := 12) rfl rfl ?_
  refine g_ifNo d_jdk_42_m92_12 (pc' := 15) rfl (teq (by decide : (0 : Int32) = (0 : Int32))).2 ?_
  refine g_iloadN d_jdk_42_m92_15 (pc' := 16) rfl rfl ?_
  refine g_iloadN d_jdk_42_m92_16 (pc' := 17) rfl rfl ?_
  refine g_icmpYes d_jdk_42_m92_17 (pc' := 22) (feq (fun q => by have := (o_eq (by omega) (by omega)).mp q; omega)).2 (by decide) (by decide) ?_
  refine g_iloadN d_jdk_42_m92_22 (pc' := 23) rfl rfl ?_
  refine g_iloadN d_jdk_42_m92_23 (pc' := 24) rfl rfl ?_
  refine g_isub d_jdk_42_m92_24 (pc' := 25) rfl ?_
  rw [Int32.sub_zero]
  refine g_istore d_jdk_42_m92_25 (pc' := 27) (Ls' := #[.val (.ref a), .val (.int (0 : Int32)), .val (.int (Int32.ofNat np)), .val (.int (Int32.ofNat (cs).length)), .val (.int (Int32.ofNat np))]) rfl rfl ?_
  refine g_aloadN d_jdk_42_m92_27 (pc' := 28) rfl rfl rfl ?_
  refine go_virtual d_jdk_42_m92_28 (rm_isLatin1 hw a _ _ co h0 L Sc hco) (fun _ q => q) L.1 (w82 hw) (w83 hw) (w85 hw) (nf_sel (w85 hw)) (w84 hw) (w21 hw) (w86 hw) (by decide) (argsL := []) (rest := []) (lenOf pd10 rfl) rfl rfl rfl (W := 0) (Nat.le_of_ble_eq_true rfl) (by decide) (by decide) (by decide) (by decide) (pc' := 31) rfl ?_
  rintro _ _ _ ⟨rfl, rfl, rfl⟩ z114
  show Go _ _ _ _ _ _ _ _ _ _ _ _ _ _ _ _ _ _ _ _ _ _ _ _ [(.int (1 : Int32))] _
  refine g_ifNo d_jdk_42_m92_31 (pc' := 34) rfl (feq (by decide : ¬ ((1 : Int32) = (0 : Int32)))).1 ?_
  refine g_aloadN d_jdk_42_m92_34 (pc' := 35) rfl rfl rfl ?_
  refine go_getfield d_jdk_42_m92_35 (host := "") (Or.inl (w38 hw)) Via.refl L.2.2.1 (pc' := 38) rfl ?_
  refine g_iloadN d_jdk_42_m92_38 (pc' := 39) rfl rfl ?_
  refine g_iload d_jdk_42_m92_39 (pc' := 41) rfl rfl ?_
  obtain ⟨kb, Ab⟩ := L.2.2.2
  refine go_static d_jdk_42_m92_41 (rm_newString hw cs np b kb h0 hN h0p hp Ab) (fun _ q => q) (w133 hw) (w134 hw) (w60 hw) (w135 hw) (by decide) (argsL := [(.ref b), (.int (0 : Int32)), (.int (Int32.ofNat np))]) (rest := []) (lenOf pd16 rfl) rfl rfl rfl (W := 0) (Nat.le_of_ble_eq_true rfl) (by decide) (by decide) (by decide) (by decide) (pc' := 44) rfl ?_
  rintro _ h115 _ ⟨sa, nb, rfl, rfl, hsa, Kc, Ls⟩ hzc
  show Go _ _ _ _ _ _ _ _ _ _ _ _ _ _ _ _ _ _ _ _ _ _ _ _ [(.ref sa)] _
  refine g_goto d_jdk_42_m92_44 (pc' := 57) (by decide) (by decide) ?_
  exact go_areturn d_jdk_42_m92_57 rfl rfl rfl (ws' := []) (fun _ q => q) ⟨_, _, rfl, rfl, hsa, Kc, Ls⟩
set_option maxRecDepth 65536 in
set_option maxHeartbeats 40000000 in
theorem rm_tch {l : Launch} {Z : State} {a0 : Array Value} (hw : ∀ d ∈ tables_1, d.before a0 Z = true) (tc : Int64) (i : Int32) (h0 : Heap) :
    Con l Z EL ⟨"com/example/plugwright/plugwright/platform/AttributeFitsPinLaw", "tch", "(JI)C"⟩ method_4_code 3 (some .char) [] { frames := 0, cells := 0, slots := 0, locals := 0 } #[(.long tc), (.int i)] h0 [] (fun v h ws => ∃ x, v = some (.int x) ∧ (¬ x < 0 ∧ ¬ (255 : Int32) < x) ∧ h0 = h ∧ ws = []) := by
  refine con_of (a0 := a0) (Ls := #[.val (.long tc), .second, .val (.int i)]) (plainFor_of_name pn5) (eW hw) (fun m => by first | (simp [entryFrame, mkF, argsToLocals, Value.category]; done) | rfl) ?_
  intro p e s m below meth c
  refine g_lloadN d_m4_0 (pc' := 1) rfl rfl ?_
  refine g_bipush d_m4_1 (pc' := 3) rfl (z := 32) rfl ?_
  refine g_iloadN d_m4_3 (pc' := 4) rfl rfl ?_
  refine g_iadd d_m4_4 (pc' := 5) rfl ?_
  refine g_lushr d_m4_5 (pc' := 6) rfl ?_
  refine g_lconst d_m4_6 (pc' := 7) rfl (z := 1) rfl ?_
  refine g_land d_m4_7 (pc' := 8) rfl ?_
  refine g_lconst d_m4_8 (pc' := 9) rfl (z := 0) rfl ?_
  refine g_lcmp d_m4_9 (pc' := 10) rfl ?_
  by_cases h10 : (if ((((tc).toUInt64 >>> ((((32 : Int32) + i) &&& 0x3f)).toInt64.toUInt64).toInt64) &&& (1 : Int64)) > (0 : Int64) then 1 else if ((((tc).toUInt64 >>> ((((32 : Int32) + i) &&& 0x3f)).toInt64.toUInt64).toInt64) &&& (1 : Int64)) = (0 : Int64) then 0 else -1) = (0 : Int32)
  · -- h10 holds
    refine g_ifYes d_m4_10 (pc' := 16) (teq h10).1 (by decide) (by decide) ?_
    refine g_lloadN d_m4_16 (pc' := 17) rfl rfl ?_
    refine g_bipush d_m4_17 (pc' := 19) rfl (z := 8) rfl ?_
    refine g_iloadN d_m4_19 (pc' := 20) rfl rfl ?_
    refine g_imul d_m4_20 (pc' := 21) rfl ?_
    refine g_lushr d_m4_21 (pc' := 22) rfl ?_
    refine go_ldc2 d_m4_22 (w11 hw) (pc' := 25) rfl ?_
    refine g_land d_m4_25 (pc' := 26) rfl ?_
    refine g_l2i d_m4_26 (pc' := 27) rfl ?_
    refine g_i2c d_m4_27 (pc' := 28) rfl ?_
    exact go_ireturn d_m4_28 rfl (Or.inr (Or.inr (Or.inr (Or.inl rfl)))) (congrArg Value.int (nar_byt (bytL _))) (ws' := []) (fun _ q => q) ⟨_, rfl, (bytL _), rfl, rfl⟩
  · -- h10 does not hold
    refine g_ifNo d_m4_10 (pc' := 13) rfl (feq h10).1 ?_
    refine g_bipush d_m4_13 (pc' := 15) rfl (z := 95) rfl ?_
    exact go_ireturn d_m4_15 rfl (Or.inr (Or.inr (Or.inr (Or.inl rfl)))) (congrArg Value.int (nar_byt ⟨by decide, by decide⟩)) (ws' := []) (fun _ q => q) ⟨_, rfl, ⟨by decide, by decide⟩, rfl, rfl⟩
set_option maxRecDepth 65536 in
set_option maxHeartbeats 40000000 in
theorem rm_lch {l : Launch} {Z : State} {a0 : Array Value} (hw : ∀ d ∈ tables_1, d.before a0 Z = true) (lc : Int64) (i c0 : Int32) (h0 : Heap) (hc : ¬ c0 < 0 ∧ ¬ (255 : Int32) < c0) :
    Con l Z EL ⟨"com/example/plugwright/plugwright/platform/AttributeFitsPinLaw", "lch", "(JIC)C"⟩ method_5_code 5 (some .char) [] { frames := 0, cells := 0, slots := 0, locals := 0 } #[(.long lc), (.int i), (.int c0)] h0 [] (fun v h ws => ∃ x, v = some (.int x) ∧ (¬ x < 0 ∧ ¬ (255 : Int32) < x) ∧ h0 = h ∧ ws = []) := by
  refine con_of (a0 := a0) (Ls := #[.val (.long lc), .second, .val (.int i), .val (.int c0), .unset]) (plainFor_of_name pn5) (eW hw) (fun m => by first | (simp [entryFrame, mkF, argsToLocals, Value.category]; done) | rfl) ?_
  intro p e s m below meth c
  refine g_lloadN d_m5_0 (pc' := 1) rfl rfl ?_
  refine g_bipush d_m5_1 (pc' := 3) rfl (z := 32) rfl ?_
  refine g_iconst d_m5_3 (pc' := 4) rfl (z := 2) rfl ?_
  refine g_iloadN d_m5_4 (pc' := 5) rfl rfl ?_
  refine g_imul d_m5_5 (pc' := 6) rfl ?_
  refine g_iadd d_m5_6 (pc' := 7) rfl ?_
  refine g_lushr d_m5_7 (pc' := 8) rfl ?_
  refine go_ldc2 d_m5_8 (w15 hw) (pc' := 11) rfl ?_
  refine g_land d_m5_11 (pc' := 12) rfl ?_
  refine g_l2i d_m5_12 (pc' := 13) rfl ?_
  refine g_istore d_m5_13 (pc' := 15) (Ls' := #[.val (.long lc), .second, .val (.int i), .val (.int c0), .val (.int ((((((lc).toUInt64 >>> ((((32 : Int32) + ((2 : Int32) * i)) &&& 0x3f)).toInt64.toUInt64).toInt64) &&& (3 : Int64))).toInt32))]) rfl rfl ?_
  refine g_iload d_m5_15 (pc' := 17) rfl rfl ?_
  by_cases h17 : ((((((lc).toUInt64 >>> ((((32 : Int32) + ((2 : Int32) * i)) &&& 0x3f)).toInt64.toUInt64).toInt64) &&& (3 : Int64))).toInt32) = (0 : Int32)
  · -- h17 holds
    refine g_ifNo d_m5_17 (pc' := 20) rfl (teq h17).2 ?_
    refine g_iloadN d_m5_20 (pc' := 21) rfl rfl ?_
    exact go_ireturn d_m5_21 rfl (Or.inr (Or.inr (Or.inr (Or.inl rfl)))) (congrArg Value.int (nar_byt hc)) (ws' := []) (fun _ q => q) ⟨_, rfl, hc, rfl, rfl⟩
  · -- h17 does not hold
    refine g_ifYes d_m5_17 (pc' := 22) (feq h17).2 (by decide) (by decide) ?_
    refine g_iload d_m5_22 (pc' := 24) rfl rfl ?_
    refine g_iconst d_m5_24 (pc' := 25) rfl (z := 1) rfl ?_
    by_cases h25 : ((((((lc).toUInt64 >>> ((((32 : Int32) + ((2 : Int32) * i)) &&& 0x3f)).toInt64.toUInt64).toInt64) &&& (3 : Int64))).toInt32) = (1 : Int32)
    · -- h25 holds
      refine g_icmpNo d_m5_25 (pc' := 28) rfl (teq h25).2 ?_
      refine g_bipush d_m5_28 (pc' := 30) rfl (z := 95) rfl ?_
      exact go_ireturn d_m5_30 rfl (Or.inr (Or.inr (Or.inr (Or.inl rfl)))) (congrArg Value.int (nar_byt ⟨by decide, by decide⟩)) (ws' := []) (fun _ q => q) ⟨_, rfl, ⟨by decide, by decide⟩, rfl, rfl⟩
    · -- h25 does not hold
      refine g_icmpYes d_m5_25 (pc' := 31) (feq h25).2 (by decide) (by decide) ?_
      refine g_lloadN d_m5_31 (pc' := 32) rfl rfl ?_
      refine g_bipush d_m5_32 (pc' := 34) rfl (z := 8) rfl ?_
      refine g_iloadN d_m5_34 (pc' := 35) rfl rfl ?_
      refine g_imul d_m5_35 (pc' := 36) rfl ?_
      refine g_lushr d_m5_36 (pc' := 37) rfl ?_
      refine go_ldc2 d_m5_37 (w11 hw) (pc' := 40) rfl ?_
      refine g_land d_m5_40 (pc' := 41) rfl ?_
      refine g_l2i d_m5_41 (pc' := 42) rfl ?_
      refine g_i2c d_m5_42 (pc' := 43) rfl ?_
      exact go_ireturn d_m5_43 rfl (Or.inr (Or.inr (Or.inr (Or.inl rfl)))) (congrArg Value.int (nar_byt (bytL _))) (ws' := []) (fun _ q => q) ⟨_, rfl, (bytL _), rfl, rfl⟩
theorem by_contra4 (k : Int32) (h1 : ¬ k = 0) (h2 : ¬ k = 1) (h3 : ¬ k = 2) (hk : 0 ≤ k.toInt ∧ k.toInt ≤ 3) : k = 3 := by
  simp only [← Int32.toInt_inj, Int32.reduceToInt] at *; omega
set_option maxRecDepth 65536 in
set_option maxHeartbeats 40000000 in
theorem rm_pick {l : Launch} {Z : State} {a0 : Array Value} (hw : ∀ d ∈ tables_1, d.before a0 Z = true) (k : Int32) (os wd ar nl : Addr) (h0 : Heap) (hk : 0 ≤ k.toInt ∧ k.toInt ≤ 3) (Sos : Sta Z Z.heap "com/example/plugwright/plugwright/platform/Attribute" "OS" "Lcom/example/plugwright/plugwright/platform/Attribute;" (.ref os)) (Swd : Sta Z Z.heap "com/example/plugwright/plugwright/platform/Attribute" "WS" "Lcom/example/plugwright/plugwright/platform/Attribute;" (.ref wd)) (Sar : Sta Z Z.heap "com/example/plugwright/plugwright/platform/Attribute" "ARCH" "Lcom/example/plugwright/plugwright/platform/Attribute;" (.ref ar)) (Snl : Sta Z Z.heap "com/example/plugwright/plugwright/platform/Attribute" "NL" "Lcom/example/plugwright/plugwright/platform/Attribute;" (.ref nl)) (Xos : Exa Z Z.heap os "com/example/plugwright/plugwright/platform/Attribute") (Xwd : Exa Z Z.heap wd "com/example/plugwright/plugwright/platform/Attribute") (Xar : Exa Z Z.heap ar "com/example/plugwright/plugwright/platform/Attribute") (Xnl : Exa Z Z.heap nl "com/example/plugwright/plugwright/platform/Attribute") (ne1 : os ≠ nl) (ne2 : wd ≠ nl) (ne3 : ar ≠ nl) :
    Con l Z EL ⟨"com/example/plugwright/plugwright/platform/AttributeFitsPinLaw", "pick", "(I)Lcom/example/plugwright/plugwright/platform/Attribute;"⟩ method_3_code 1 (some (.object "com/example/plugwright/plugwright/platform/Attribute")) [] { frames := 0, cells := 0, slots := 0, locals := 0 } #[(.int k)] h0 [] (fun v h ws => ∃ at_, v = some (.ref at_) ∧ Exa Z Z.heap at_ "com/example/plugwright/plugwright/platform/Attribute" ∧ ((k = 3 ∧ at_ = nl) ∨ (¬ k = 3 ∧ at_ ≠ nl)) ∧ h0 = h ∧ ws = []) := by
  refine con_of (a0 := a0) (Ls := #[.val (.int k)]) (plainFor_of_name pn5) (eW hw) (fun m => by first | (simp [entryFrame, mkF, argsToLocals, Value.category]; done) | rfl) ?_
  intro p e s m below meth c
  refine g_iloadN d_m3_0 (pc' := 1) rfl rfl ?_
  by_cases h1 : k = (0 : Int32)
  · -- h1 holds
    refine g_ifNo d_m3_1 (pc' := 4) rfl (teq h1).2 ?_
    refine go_getstatic d_m3_4 (w4 hw) Via.refl Sos (pc' := 7) rfl ?_
    exact go_areturn d_m3_7 rfl rfl rfl (ws' := []) (fun _ q => q) ⟨_, rfl, Xos, Or.inr ⟨(by rw [h1]; decide), ne1⟩, rfl, rfl⟩
  · -- h1 does not hold
    refine g_ifYes d_m3_1 (pc' := 8) (feq h1).2 (by decide) (by decide) ?_
    refine g_iloadN d_m3_8 (pc' := 9) rfl rfl ?_
    refine g_iconst d_m3_9 (pc' := 10) rfl (z := 1) rfl ?_
    by_cases h10 : k = (1 : Int32)
    · -- h10 holds
      refine g_icmpNo d_m3_10 (pc' := 13) rfl (teq h10).2 ?_
      refine go_getstatic d_m3_13 (w118 hw) Via.refl Swd (pc' := 16) rfl ?_
      exact go_areturn d_m3_16 rfl rfl rfl (ws' := []) (fun _ q => q) ⟨_, rfl, Xwd, Or.inr ⟨(by rw [h10]; decide), ne2⟩, rfl, rfl⟩
    · -- h10 does not hold
      refine g_icmpYes d_m3_10 (pc' := 17) (feq h10).2 (by decide) (by decide) ?_
      refine g_iloadN d_m3_17 (pc' := 18) rfl rfl ?_
      refine g_iconst d_m3_18 (pc' := 19) rfl (z := 2) rfl ?_
      by_cases h19 : k = (2 : Int32)
      · -- h19 holds
        refine g_icmpNo d_m3_19 (pc' := 22) rfl (teq h19).2 ?_
        refine go_getstatic d_m3_22 (w115 hw) Via.refl Sar (pc' := 25) rfl ?_
        exact go_areturn d_m3_25 rfl rfl rfl (ws' := []) (fun _ q => q) ⟨_, rfl, Xar, Or.inr ⟨(by rw [h19]; decide), ne3⟩, rfl, rfl⟩
      · -- h19 does not hold
        refine g_icmpYes d_m3_19 (pc' := 26) (feq h19).2 (by decide) (by decide) ?_
        refine go_getstatic d_m3_26 (w117 hw) Via.refl Snl (pc' := 29) rfl ?_
        exact go_areturn d_m3_29 rfl rfl rfl (ws' := []) (fun _ q => q) ⟨_, rfl, Xnl, Or.inl ⟨by_contra4 k h1 h10 h19 hk, rfl⟩, rfl, rfl⟩
set_option maxRecDepth 65536 in
set_option maxHeartbeats 40000000 in
theorem rm_mk {l : Launch} {Z : State} {a0 : Array Value} (hw : ∀ d ∈ tables_1, d.before a0 Z = true) (x0 x1 x2 x3 : Int32) (n : Nat) (ca : Addr) (k : ClassId) (co : Int32) (h0 : Heap) (hx0 : ¬ x0 < 0 ∧ ¬ (255 : Int32) < x0) (hx1 : ¬ x1 < 0 ∧ ¬ (255 : Int32) < x1) (hx2 : ¬ x2 < 0 ∧ ¬ (255 : Int32) < x2) (hx3 : ¬ x3 < 0 ∧ ¬ (255 : Int32) < x3) (hn : n ≤ 4) (A : Arv Z h0 ca k .char 4 [.int x0, .int x1, .int x2, .int x3] (.int 0)) (Sc : Sta Z Z.heap "java/lang/String" "COMPACT_STRINGS" "Z" (.int co)) (hco : ¬ co = 0) :
    Con l Z EL ⟨"com/example/plugwright/plugwright/platform/AttributeFitsPinLaw", "mk", "([CI)Ljava/lang/String;"⟩ method_6_code 2 (some (.object "java/lang/String")) [] { frames := 4, cells := 6, slots := 24, locals := 66 } #[(.ref ca), (.int (Int32.ofNat n))] h0 [] (fun v h ws => ∃ a b, v = some (.ref a) ∧ ws = [] ∧ h0.size ≤ a ∧ Keep h0 h [] ∧ LatB Z h a b ([x0, x1, x2, x3].take n)) := by
  refine con_of (a0 := a0) (Ls := #[.val (.ref ca), .val (.int (Int32.ofNat n))]) (plainFor_of_name pn5) (eW hw) (fun m => by first | (simp [entryFrame, mkF, argsToLocals, Value.category]; done) | rfl) ?_
  intro p e s m below meth c
  refine g_iloadN d_m6_0 (pc' := 1) rfl rfl ?_
  by_cases q1 : (Int32.ofNat n) = (0 : Int32)
  · -- q1 holds
    have hn1 : n = 0 := (o_eq (n := 0) (by omega) (by omega)).mp q1
    subst hn1
    refine g_ifNo d_m6_1 (pc' := 4) rfl (teq q1).2 ?_
    refine go_new d_m6_4 (w19 hw) (w20 hw) (w21 hw) (by decide) (by decide) (pc' := 7) rfl ?_
    intro h116 a117 g118 E119 A120 D121
    have F122 : Fld Z h116 a117 "java/lang/String" "value" "[B" .null := D121 (Or.inr (w34 hw)) (ty := (.array .byte)) (by decide)
    have F123 : Fld Z h116 a117 "java/lang/String" "coder" "B" (.int (0 : Int32)) := D121 (Or.inr (w35 hw)) (ty := .byte) (by decide)
    refine g_dup d_m6_7 (pc' := 8) rfl rfl ?_
    refine g_iconst d_m6_8 (pc' := 9) rfl (z := 0) rfl ?_
    refine go_newarray d_m6_9 (w7 hw) (by decide) (cap := 0) (by decide) (by decide) (by decide) (by decide) (ad := "[C") rfl (pc' := 11) rfl ?_
    intro h124 a125 k126 g127 E128 A129 X130
    have A131 : Arv Z h124 a125 k126 .char (0 : Int32) [] (.int 0) := Arv.pad A129 (pad_rep [] (.int 0) 0)
    refine go_special d_m6_11 (rm_initC hw [] a117 a125 _ _ _ co [a125] h124 (Nat.le_of_ble_eq_true rfl) (Byt.lat Byt.nil) (A120.ext E128) (F122.ext E128) (F123.ext E128) A131 Sc hco) (allS (List.mem_of_getElem? (i := 1) rfl) (allS (List.mem_of_getElem? (i := 0) rfl) all0)) rfl (w22 hw) (w23 hw) (w21 hw) (w24 hw) (by decide) (argsL := [(.ref a125)]) (rest := [(.ref a117)]) (lenOf pd17 rfl) rfl rfl rfl (W := 1) (Nat.le_of_ble_eq_true rfl) (by decide) (by decide) (by decide) (by decide) (pc' := 14) rfl ?_
    rintro _ h132 _ ⟨rfl, b133, rfl, K134, L135, N136⟩ z137
    show Go _ _ _ _ _ _ _ _ _ _ _ _ _ _ _ _ _ _ _ _ _ _ _ _ [(.ref a117)] _
    have K138 : Keep h0 h116 [] := ((Keep.refl h0 []).ext E119)
    have K139 : Keep h0 h124 [] := (K138.ext E128)
    have K140 : Keep h0 h132 [] := (K139.trans K134 (allS (Or.inr (Nat.le_of_eq g118.symm)) all0))
    exact go_areturn d_m6_14 rfl rfl rfl (ws' := []) all0 ⟨_, _, rfl, rfl, (Nat.le_of_eq g118.symm), K140, L135⟩
  · -- q1 does not hold
    refine g_ifYes d_m6_1 (pc' := 15) (feq q1).2 (by decide) (by decide) ?_
    refine g_iloadN d_m6_15 (pc' := 16) rfl rfl ?_
    refine g_iconst d_m6_16 (pc' := 17) rfl (z := 1) rfl ?_
    by_cases q17 : (Int32.ofNat n) = (1 : Int32)
    · -- q17 holds
      have hn17 : n = 1 := (o_eq (n := 1) (by omega) (by omega)).mp q17
      subst hn17
      refine g_icmpNo d_m6_17 (pc' := 20) rfl (teq q17).2 ?_
      refine go_new d_m6_20 (w19 hw) (w20 hw) (w21 hw) (by decide) (by decide) (pc' := 23) rfl ?_
      intro h141 a142 g143 E144 A145 D146
      have F147 : Fld Z h141 a142 "java/lang/String" "value" "[B" .null := D146 (Or.inr (w34 hw)) (ty := (.array .byte)) (by decide)
      have F148 : Fld Z h141 a142 "java/lang/String" "coder" "B" (.int (0 : Int32)) := D146 (Or.inr (w35 hw)) (ty := .byte) (by decide)
      refine g_dup d_m6_23 (pc' := 24) rfl rfl ?_
      refine g_iconst d_m6_24 (pc' := 25) rfl (z := 1) rfl ?_
      refine go_newarray d_m6_25 (w7 hw) (by decide) (cap := 1) (by decide) (by decide) (by decide) (by decide) (ad := "[C") rfl (pc' := 27) rfl ?_
      intro h149 a150 k151 g152 E153 A154 X155
      have A156 : Arv Z h149 a150 k151 .char (1 : Int32) [.int 0] (.int 0) := Arv.pad A154 (pad_rep [] (.int 0) 1)
      refine g_dup d_m6_27 (pc' := 28) rfl rfl ?_
      refine g_iconst d_m6_28 (pc' := 29) rfl (z := 0) rfl ?_
      refine g_aloadN d_m6_29 (pc' := 30) rfl rfl rfl ?_
      refine g_iconst d_m6_30 (pc' := 31) rfl (z := 0) rfl ?_
      refine go_caload d_m6_31 ((A.ext E144).ext E153) (v := (.int x0)) ⟨by decide, by decide⟩ rfl (pc' := 32) rfl ?_
      refine go_castore 0 d_m6_32 A156 ⟨by decide, by decide⟩ rfl (Nat.le_of_ble_eq_true rfl) (x' := x0) (nar_byt hx0) (List.mem_of_getElem? (i := 0) rfl) (pc' := 33) rfl ?_
      intro h157 W158 A159
      have ne160 : a142 ≠ a150 := Nat.ne_of_lt (Nat.lt_of_lt_of_le A145.lt (Nat.le_of_eq g152.symm))
      refine go_special d_m6_33 (rm_initC hw [x0] a142 a150 _ _ _ co [a150] h157 (Nat.le_of_ble_eq_true rfl) (Byt.lat (Byt.cons hx0 Byt.nil)) (Exa.wr W158 (A145.ext E153)) (Fld.other W158 (F147.ext E153) (Or.inl ne160)) (Fld.other W158 (F148.ext E153) (Or.inl ne160)) A159 Sc hco) (allS (List.mem_of_getElem? (i := 1) rfl) (allS (List.mem_of_getElem? (i := 0) rfl) all0)) rfl (w22 hw) (w23 hw) (w21 hw) (w24 hw) (by decide) (argsL := [(.ref a150)]) (rest := [(.ref a142)]) (lenOf pd17 rfl) rfl rfl rfl (W := 1) (Nat.le_of_ble_eq_true rfl) (by decide) (by decide) (by decide) (by decide) (pc' := 36) rfl ?_
      rintro _ h161 _ ⟨rfl, b162, rfl, K163, L164, N165⟩ z166
      show Go _ _ _ _ _ _ _ _ _ _ _ _ _ _ _ _ _ _ _ _ _ _ _ _ [(.ref a142)] _
      have K167 : Keep h0 h141 [] := ((Keep.refl h0 []).ext E144)
      have K168 : Keep h0 h149 [] := (K167.ext E153)
      have K169 : Keep h0 h157 [] := (K168.wr W158 (Or.inr (Nat.le_trans (K167).1 (Nat.le_of_eq g152.symm))))
      have K170 : Keep h0 h161 [] := (K169.trans K163 (allS (Or.inr (Nat.le_of_eq g143.symm)) all0))
      exact go_areturn d_m6_36 rfl rfl rfl (ws' := []) all0 ⟨_, _, rfl, rfl, (Nat.le_of_eq g143.symm), K170, L164⟩
    · -- q17 does not hold
      refine g_icmpYes d_m6_17 (pc' := 37) (feq q17).2 (by decide) (by decide) ?_
      refine g_iloadN d_m6_37 (pc' := 38) rfl rfl ?_
      refine g_iconst d_m6_38 (pc' := 39) rfl (z := 2) rfl ?_
      by_cases q39 : (Int32.ofNat n) = (2 : Int32)
      · -- q39 holds
        have hn39 : n = 2 := (o_eq (n := 2) (by omega) (by omega)).mp q39
        subst hn39
        refine g_icmpNo d_m6_39 (pc' := 42) rfl (teq q39).2 ?_
        refine go_new d_m6_42 (w19 hw) (w20 hw) (w21 hw) (by decide) (by decide) (pc' := 45) rfl ?_
        intro h171 a172 g173 E174 A175 D176
        have F177 : Fld Z h171 a172 "java/lang/String" "value" "[B" .null := D176 (Or.inr (w34 hw)) (ty := (.array .byte)) (by decide)
        have F178 : Fld Z h171 a172 "java/lang/String" "coder" "B" (.int (0 : Int32)) := D176 (Or.inr (w35 hw)) (ty := .byte) (by decide)
        refine g_dup d_m6_45 (pc' := 46) rfl rfl ?_
        refine g_iconst d_m6_46 (pc' := 47) rfl (z := 2) rfl ?_
        refine go_newarray d_m6_47 (w7 hw) (by decide) (cap := 2) (by decide) (by decide) (by decide) (by decide) (ad := "[C") rfl (pc' := 49) rfl ?_
        intro h179 a180 k181 g182 E183 A184 X185
        have A186 : Arv Z h179 a180 k181 .char (2 : Int32) [.int 0, .int 0] (.int 0) := Arv.pad A184 (pad_rep [] (.int 0) 2)
        refine g_dup d_m6_49 (pc' := 50) rfl rfl ?_
        refine g_iconst d_m6_50 (pc' := 51) rfl (z := 0) rfl ?_
        refine g_aloadN d_m6_51 (pc' := 52) rfl rfl rfl ?_
        refine g_iconst d_m6_52 (pc' := 53) rfl (z := 0) rfl ?_
        refine go_caload d_m6_53 ((A.ext E174).ext E183) (v := (.int x0)) ⟨by decide, by decide⟩ rfl (pc' := 54) rfl ?_
        refine go_castore 0 d_m6_54 A186 ⟨by decide, by decide⟩ rfl (Nat.le_of_ble_eq_true rfl) (x' := x0) (nar_byt hx0) (List.mem_of_getElem? (i := 0) rfl) (pc' := 55) rfl ?_
        intro h187 W188 A189
        refine g_dup d_m6_55 (pc' := 56) rfl rfl ?_
        refine g_iconst d_m6_56 (pc' := 57) rfl (z := 1) rfl ?_
        refine g_aloadN d_m6_57 (pc' := 58) rfl rfl rfl ?_
        refine g_iconst d_m6_58 (pc' := 59) rfl (z := 1) rfl ?_
        have ne190 : ca ≠ a180 := Nat.ne_of_lt (Nat.lt_of_lt_of_le (A.ext E174).lt (Nat.le_of_eq g182.symm))
        refine go_caload d_m6_59 (((A.ext E174).ext E183).other W188 ne190) (v := (.int x1)) ⟨by decide, by decide⟩ rfl (pc' := 60) rfl ?_
        refine go_castore 1 d_m6_60 A189 ⟨by decide, by decide⟩ rfl (Nat.le_of_ble_eq_true rfl) (x' := x1) (nar_byt hx1) (List.mem_of_getElem? (i := 0) rfl) (pc' := 61) rfl ?_
        intro h191 W192 A193
        have ne194 : a172 ≠ a180 := Nat.ne_of_lt (Nat.lt_of_lt_of_le A175.lt (Nat.le_of_eq g182.symm))
        have f195 := (Fld.other W192 (Fld.other W188 (F177.ext E183) (Or.inl ne194)) (Or.inl ne194))
        have f196 := (Fld.other W192 (Fld.other W188 (F178.ext E183) (Or.inl ne194)) (Or.inl ne194))
        refine go_special d_m6_61 (rm_initC hw [x0, x1] a172 a180 _ _ _ co [a180] h191 (Nat.le_of_ble_eq_true rfl) (Byt.lat (Byt.cons hx0 (Byt.cons hx1 Byt.nil))) (Exa.wr W192 (Exa.wr W188 (A175.ext E183))) f195 f196 A193 Sc hco) (allS (List.mem_of_getElem? (i := 1) rfl) (allS (List.mem_of_getElem? (i := 0) rfl) all0)) rfl (w22 hw) (w23 hw) (w21 hw) (w24 hw) (by decide) (argsL := [(.ref a180)]) (rest := [(.ref a172)]) (lenOf pd17 rfl) rfl rfl rfl (W := 1) (Nat.le_of_ble_eq_true rfl) (by decide) (by decide) (by decide) (by decide) (pc' := 64) rfl ?_
        rintro _ h197 _ ⟨rfl, b198, rfl, K199, L200, N201⟩ z202
        show Go _ _ _ _ _ _ _ _ _ _ _ _ _ _ _ _ _ _ _ _ _ _ _ _ [(.ref a172)] _
        have K203 : Keep h0 h171 [] := ((Keep.refl h0 []).ext E174)
        have K204 : Keep h0 h179 [] := (K203.ext E183)
        have K205 : Keep h0 h187 [] := (K204.wr W188 (Or.inr (Nat.le_trans (K203).1 (Nat.le_of_eq g182.symm))))
        have K206 : Keep h0 h191 [] := (K205.wr W192 (Or.inr (Nat.le_trans (K203).1 (Nat.le_of_eq g182.symm))))
        have K207 : Keep h0 h197 [] := (K206.trans K199 (allS (Or.inr (Nat.le_of_eq g173.symm)) all0))
        exact go_areturn d_m6_64 rfl rfl rfl (ws' := []) all0 ⟨_, _, rfl, rfl, (Nat.le_of_eq g173.symm), K207, L200⟩
      · -- q39 does not hold
        refine g_icmpYes d_m6_39 (pc' := 65) (feq q39).2 (by decide) (by decide) ?_
        refine g_iloadN d_m6_65 (pc' := 66) rfl rfl ?_
        refine g_iconst d_m6_66 (pc' := 67) rfl (z := 3) rfl ?_
        by_cases q67 : (Int32.ofNat n) = (3 : Int32)
        · -- q67 holds
          have hn67 : n = 3 := (o_eq (n := 3) (by omega) (by omega)).mp q67
          subst hn67
          refine g_icmpNo d_m6_67 (pc' := 70) rfl (teq q67).2 ?_
          refine go_new d_m6_70 (w19 hw) (w20 hw) (w21 hw) (by decide) (by decide) (pc' := 73) rfl ?_
          intro h208 a209 g210 E211 A212 D213
          have F214 : Fld Z h208 a209 "java/lang/String" "value" "[B" .null := D213 (Or.inr (w34 hw)) (ty := (.array .byte)) (by decide)
          have F215 : Fld Z h208 a209 "java/lang/String" "coder" "B" (.int (0 : Int32)) := D213 (Or.inr (w35 hw)) (ty := .byte) (by decide)
          refine g_dup d_m6_73 (pc' := 74) rfl rfl ?_
          refine g_iconst d_m6_74 (pc' := 75) rfl (z := 3) rfl ?_
          refine go_newarray d_m6_75 (w7 hw) (by decide) (cap := 3) (by decide) (by decide) (by decide) (by decide) (ad := "[C") rfl (pc' := 77) rfl ?_
          intro h216 a217 k218 g219 E220 A221 X222
          have A223 : Arv Z h216 a217 k218 .char (3 : Int32) [.int 0, .int 0, .int 0] (.int 0) := Arv.pad A221 (pad_rep [] (.int 0) 3)
          refine g_dup d_m6_77 (pc' := 78) rfl rfl ?_
          refine g_iconst d_m6_78 (pc' := 79) rfl (z := 0) rfl ?_
          refine g_aloadN d_m6_79 (pc' := 80) rfl rfl rfl ?_
          refine g_iconst d_m6_80 (pc' := 81) rfl (z := 0) rfl ?_
          refine go_caload d_m6_81 ((A.ext E211).ext E220) (v := (.int x0)) ⟨by decide, by decide⟩ rfl (pc' := 82) rfl ?_
          refine go_castore 0 d_m6_82 A223 ⟨by decide, by decide⟩ rfl (Nat.le_of_ble_eq_true rfl) (x' := x0) (nar_byt hx0) (List.mem_of_getElem? (i := 0) rfl) (pc' := 83) rfl ?_
          intro h224 W225 A226
          refine g_dup d_m6_83 (pc' := 84) rfl rfl ?_
          refine g_iconst d_m6_84 (pc' := 85) rfl (z := 1) rfl ?_
          refine g_aloadN d_m6_85 (pc' := 86) rfl rfl rfl ?_
          refine g_iconst d_m6_86 (pc' := 87) rfl (z := 1) rfl ?_
          have ne227 : ca ≠ a217 := Nat.ne_of_lt (Nat.lt_of_lt_of_le (A.ext E211).lt (Nat.le_of_eq g219.symm))
          refine go_caload d_m6_87 (((A.ext E211).ext E220).other W225 ne227) (v := (.int x1)) ⟨by decide, by decide⟩ rfl (pc' := 88) rfl ?_
          refine go_castore 1 d_m6_88 A226 ⟨by decide, by decide⟩ rfl (Nat.le_of_ble_eq_true rfl) (x' := x1) (nar_byt hx1) (List.mem_of_getElem? (i := 0) rfl) (pc' := 89) rfl ?_
          intro h228 W229 A230
          refine g_dup d_m6_89 (pc' := 90) rfl rfl ?_
          refine g_iconst d_m6_90 (pc' := 91) rfl (z := 2) rfl ?_
          refine g_aloadN d_m6_91 (pc' := 92) rfl rfl rfl ?_
          refine g_iconst d_m6_92 (pc' := 93) rfl (z := 2) rfl ?_
          have f231 := ((((A.ext E211).ext E220).other W225 ne227).other W229 ne227)
          refine go_caload d_m6_93 f231 (v := (.int x2)) ⟨by decide, by decide⟩ rfl (pc' := 94) rfl ?_
          refine go_castore 2 d_m6_94 A230 ⟨by decide, by decide⟩ rfl (Nat.le_of_ble_eq_true rfl) (x' := x2) (nar_byt hx2) (List.mem_of_getElem? (i := 0) rfl) (pc' := 95) rfl ?_
          intro h232 W233 A234
          have ne235 : a209 ≠ a217 := Nat.ne_of_lt (Nat.lt_of_lt_of_le A212.lt (Nat.le_of_eq g219.symm))
          have f236 := (Fld.other W233 (Fld.other W229 (Fld.other W225 (F214.ext E220) (Or.inl ne235)) (Or.inl ne235)) (Or.inl ne235))
          have f237 := (Fld.other W233 (Fld.other W229 (Fld.other W225 (F215.ext E220) (Or.inl ne235)) (Or.inl ne235)) (Or.inl ne235))
          refine go_special d_m6_95 (rm_initC hw [x0, x1, x2] a209 a217 _ _ _ co [a217] h232 (Nat.le_of_ble_eq_true rfl) (Byt.lat (Byt.cons hx0 (Byt.cons hx1 (Byt.cons hx2 Byt.nil)))) (Exa.wr W233 (Exa.wr W229 (Exa.wr W225 (A212.ext E220)))) f236 f237 A234 Sc hco) (allS (List.mem_of_getElem? (i := 1) rfl) (allS (List.mem_of_getElem? (i := 0) rfl) all0)) rfl (w22 hw) (w23 hw) (w21 hw) (w24 hw) (by decide) (argsL := [(.ref a217)]) (rest := [(.ref a209)]) (lenOf pd17 rfl) rfl rfl rfl (W := 1) (Nat.le_of_ble_eq_true rfl) (by decide) (by decide) (by decide) (by decide) (pc' := 98) rfl ?_
          rintro _ h238 _ ⟨rfl, b239, rfl, K240, L241, N242⟩ z243
          show Go _ _ _ _ _ _ _ _ _ _ _ _ _ _ _ _ _ _ _ _ _ _ _ _ [(.ref a209)] _
          have K244 : Keep h0 h208 [] := ((Keep.refl h0 []).ext E211)
          have K245 : Keep h0 h216 [] := (K244.ext E220)
          have K246 : Keep h0 h224 [] := (K245.wr W225 (Or.inr (Nat.le_trans (K244).1 (Nat.le_of_eq g219.symm))))
          have K247 : Keep h0 h228 [] := (K246.wr W229 (Or.inr (Nat.le_trans (K244).1 (Nat.le_of_eq g219.symm))))
          have K248 : Keep h0 h232 [] := (K247.wr W233 (Or.inr (Nat.le_trans (K244).1 (Nat.le_of_eq g219.symm))))
          have K249 : Keep h0 h238 [] := (K248.trans K240 (allS (Or.inr (Nat.le_of_eq g210.symm)) all0))
          exact go_areturn d_m6_98 rfl rfl rfl (ws' := []) all0 ⟨_, _, rfl, rfl, (Nat.le_of_eq g210.symm), K249, L241⟩
        · -- q67 does not hold
          refine g_icmpYes d_m6_67 (pc' := 99) (feq q67).2 (by decide) (by decide) ?_
          refine go_new d_m6_99 (w19 hw) (w20 hw) (w21 hw) (by decide) (by decide) (pc' := 102) rfl ?_
          intro h250 a251 g252 E253 A254 D255
          have F256 : Fld Z h250 a251 "java/lang/String" "value" "[B" .null := D255 (Or.inr (w34 hw)) (ty := (.array .byte)) (by decide)
          have F257 : Fld Z h250 a251 "java/lang/String" "coder" "B" (.int (0 : Int32)) := D255 (Or.inr (w35 hw)) (ty := .byte) (by decide)
          refine g_dup d_m6_102 (pc' := 103) rfl rfl ?_
          refine g_iconst d_m6_103 (pc' := 104) rfl (z := 4) rfl ?_
          refine go_newarray d_m6_104 (w7 hw) (by decide) (cap := 4) (by decide) (by decide) (by decide) (by decide) (ad := "[C") rfl (pc' := 106) rfl ?_
          intro h258 a259 k260 g261 E262 A263 X264
          have A265 : Arv Z h258 a259 k260 .char (4 : Int32) [.int 0, .int 0, .int 0, .int 0] (.int 0) := Arv.pad A263 (pad_rep [] (.int 0) 4)
          refine g_dup d_m6_106 (pc' := 107) rfl rfl ?_
          refine g_iconst d_m6_107 (pc' := 108) rfl (z := 0) rfl ?_
          refine g_aloadN d_m6_108 (pc' := 109) rfl rfl rfl ?_
          refine g_iconst d_m6_109 (pc' := 110) rfl (z := 0) rfl ?_
          refine go_caload d_m6_110 ((A.ext E253).ext E262) (v := (.int x0)) ⟨by decide, by decide⟩ rfl (pc' := 111) rfl ?_
          refine go_castore 0 d_m6_111 A265 ⟨by decide, by decide⟩ rfl (Nat.le_of_ble_eq_true rfl) (x' := x0) (nar_byt hx0) (List.mem_of_getElem? (i := 0) rfl) (pc' := 112) rfl ?_
          intro h266 W267 A268
          refine g_dup d_m6_112 (pc' := 113) rfl rfl ?_
          refine g_iconst d_m6_113 (pc' := 114) rfl (z := 1) rfl ?_
          refine g_aloadN d_m6_114 (pc' := 115) rfl rfl rfl ?_
          refine g_iconst d_m6_115 (pc' := 116) rfl (z := 1) rfl ?_
          have ne269 : ca ≠ a259 := Nat.ne_of_lt (Nat.lt_of_lt_of_le (A.ext E253).lt (Nat.le_of_eq g261.symm))
          refine go_caload d_m6_116 (((A.ext E253).ext E262).other W267 ne269) (v := (.int x1)) ⟨by decide, by decide⟩ rfl (pc' := 117) rfl ?_
          refine go_castore 1 d_m6_117 A268 ⟨by decide, by decide⟩ rfl (Nat.le_of_ble_eq_true rfl) (x' := x1) (nar_byt hx1) (List.mem_of_getElem? (i := 0) rfl) (pc' := 118) rfl ?_
          intro h270 W271 A272
          refine g_dup d_m6_118 (pc' := 119) rfl rfl ?_
          refine g_iconst d_m6_119 (pc' := 120) rfl (z := 2) rfl ?_
          refine g_aloadN d_m6_120 (pc' := 121) rfl rfl rfl ?_
          refine g_iconst d_m6_121 (pc' := 122) rfl (z := 2) rfl ?_
          have f273 := ((((A.ext E253).ext E262).other W267 ne269).other W271 ne269)
          refine go_caload d_m6_122 f273 (v := (.int x2)) ⟨by decide, by decide⟩ rfl (pc' := 123) rfl ?_
          refine go_castore 2 d_m6_123 A272 ⟨by decide, by decide⟩ rfl (Nat.le_of_ble_eq_true rfl) (x' := x2) (nar_byt hx2) (List.mem_of_getElem? (i := 0) rfl) (pc' := 124) rfl ?_
          intro h274 W275 A276
          refine g_dup d_m6_124 (pc' := 125) rfl rfl ?_
          refine g_iconst d_m6_125 (pc' := 126) rfl (z := 3) rfl ?_
          refine g_aloadN d_m6_126 (pc' := 127) rfl rfl rfl ?_
          refine g_iconst d_m6_127 (pc' := 128) rfl (z := 3) rfl ?_
          refine go_caload d_m6_128 (f273.other W275 ne269) (v := (.int x3)) ⟨by decide, by decide⟩ rfl (pc' := 129) rfl ?_
          refine go_castore 3 d_m6_129 A276 ⟨by decide, by decide⟩ rfl (Nat.le_of_ble_eq_true rfl) (x' := x3) (nar_byt hx3) (List.mem_of_getElem? (i := 0) rfl) (pc' := 130) rfl ?_
          intro h277 W278 A279
          have f280 := (Exa.wr W278 (Exa.wr W275 (Exa.wr W271 (Exa.wr W267 (A254.ext E262)))))
          have ne281 : a251 ≠ a259 := Nat.ne_of_lt (Nat.lt_of_lt_of_le A254.lt (Nat.le_of_eq g261.symm))
          have f282 := (Fld.other W278 (Fld.other W275 (Fld.other W271 (Fld.other W267 (F256.ext E262) (Or.inl ne281)) (Or.inl ne281)) (Or.inl ne281)) (Or.inl ne281))
          have f283 := (Fld.other W278 (Fld.other W275 (Fld.other W271 (Fld.other W267 (F257.ext E262) (Or.inl ne281)) (Or.inl ne281)) (Or.inl ne281)) (Or.inl ne281))
          refine go_special d_m6_130 (rm_initC hw [x0, x1, x2, x3] a251 a259 _ _ _ co [a259] h277 (Nat.le_of_ble_eq_true rfl) (Byt.lat (Byt.cons hx0 (Byt.cons hx1 (Byt.cons hx2 (Byt.cons hx3 Byt.nil))))) f280 f282 f283 A279 Sc hco) (allS (List.mem_of_getElem? (i := 1) rfl) (allS (List.mem_of_getElem? (i := 0) rfl) all0)) rfl (w22 hw) (w23 hw) (w21 hw) (w24 hw) (by decide) (argsL := [(.ref a259)]) (rest := [(.ref a251)]) (lenOf pd17 rfl) rfl rfl rfl (W := 1) (Nat.le_of_ble_eq_true rfl) (by decide) (by decide) (by decide) (by decide) (pc' := 133) rfl ?_
          rintro _ h284 _ ⟨rfl, b285, rfl, K286, L287, N288⟩ z289
          show Go _ _ _ _ _ _ _ _ _ _ _ _ _ _ _ _ _ _ _ _ _ _ _ _ [(.ref a251)] _
          obtain rfl : n = 4 := by have z0 : ¬ n = 0 := fun q => q1 (by rw [q]; rfl); have z1 : ¬ n = 1 := fun q => q17 (by rw [q]; rfl); have z2 : ¬ n = 2 := fun q => q39 (by rw [q]; rfl); have z3 : ¬ n = 3 := fun q => q67 (by rw [q]; rfl); omega
          have K290 : Keep h0 h250 [] := ((Keep.refl h0 []).ext E253)
          have K291 : Keep h0 h258 [] := (K290.ext E262)
          have K292 : Keep h0 h266 [] := (K291.wr W267 (Or.inr (Nat.le_trans (K290).1 (Nat.le_of_eq g261.symm))))
          have K293 : Keep h0 h270 [] := (K292.wr W271 (Or.inr (Nat.le_trans (K290).1 (Nat.le_of_eq g261.symm))))
          have K294 : Keep h0 h274 [] := (K293.wr W275 (Or.inr (Nat.le_trans (K290).1 (Nat.le_of_eq g261.symm))))
          have K295 : Keep h0 h277 [] := (K294.wr W278 (Or.inr (Nat.le_trans (K290).1 (Nat.le_of_eq g261.symm))))
          have K296 : Keep h0 h284 [] := (K295.trans K286 (allS (Or.inr (Nat.le_of_eq g252.symm)) all0))
          exact go_areturn d_m6_133 rfl rfl rfl (ws' := []) all0 ⟨_, _, rfl, rfl, (Nat.le_of_eq g252.symm), K296, L287⟩
set_option maxRecDepth 65536 in
set_option maxHeartbeats 40000000 in
theorem rm_first {l : Launch} {Z : State} {a0 : Array Value} (hw : ∀ d ∈ tables_1, d.before a0 Z = true) (x0 x1 x2 x3 : Int32) (n : Nat) (ca : Addr) (k : ClassId) (h0 : Heap) (hn : n ≤ 4) (A : Arv Z h0 ca k .char 4 [.int x0, .int x1, .int x2, .int x3] (.int 0)) :
    Con l Z EL ⟨"com/example/plugwright/plugwright/platform/AttributeFitsPinLaw", "firstUnderscore", "([CI)I"⟩ method_7_code 2 (some .int) [] { frames := 0, cells := 0, slots := 0, locals := 0 } #[(.ref ca), (.int (Int32.ofNat n))] h0 [] (fun v h ws => ∃ r, v = some (.int r) ∧ Ix ([x0, x1, x2, x3].take n) 95 r ∧ h0 = h ∧ ws = []) := by
  refine con_of (a0 := a0) (Ls := #[.val (.ref ca), .val (.int (Int32.ofNat n))]) (plainFor_of_name pn5) (eW hw) (fun m => by first | (simp [entryFrame, mkF, argsToLocals, Value.category]; done) | rfl) ?_
  intro p e s m below meth c
  refine g_iloadN d_m7_0 (pc' := 1) rfl rfl ?_
  by_cases b1 : (0 : Int32) < (Int32.ofNat n)
  · -- b1 holds
    have l0 : 0 < n := (o_lt (i := 0) (by omega) (by omega)).mp b1
    refine g_ifNo d_m7_1 (pc' := 4) rfl (tlt b1).2.2.2 ?_
    refine g_aloadN d_m7_4 (pc' := 5) rfl rfl rfl ?_
    refine g_iconst d_m7_5 (pc' := 6) rfl (z := 0) rfl ?_
    refine go_caload d_m7_6 A (v := (.int x0)) ⟨by decide, by decide⟩ rfl (pc' := 7) rfl ?_
    refine g_bipush d_m7_7 (pc' := 9) rfl (z := 95) rfl ?_
    by_cases c9 : x0 = (95 : Int32)
    · -- c9 holds
      refine g_icmpNo d_m7_9 (pc' := 12) rfl (teq c9).2 ?_
      refine g_iconst d_m7_12 (pc' := 13) rfl (z := 0) rfl ?_
      exact go_ireturn d_m7_13 rfl (Or.inl rfl) rfl (ws' := []) (fun _ q => q) ⟨_, rfl, ix4 (k := 0) hn l0 c9 (fun i hi => match i, hi with  | (i + 0), hi => absurd hi (by omega)), rfl, rfl⟩
    · -- c9 does not hold
      refine g_icmpYes d_m7_9 (pc' := 14) (feq c9).2 (by decide) (by decide) ?_
      refine g_iloadN d_m7_14 (pc' := 15) rfl rfl ?_
      refine g_iconst d_m7_15 (pc' := 16) rfl (z := 1) rfl ?_
      by_cases b16 : (1 : Int32) < (Int32.ofNat n)
      · -- b16 holds
        have l1 : 1 < n := (o_lt (i := 1) (by omega) (by omega)).mp b16
        refine g_icmpNo d_m7_16 (pc' := 19) rfl (tlt b16).2.2.2 ?_
        refine g_aloadN d_m7_19 (pc' := 20) rfl rfl rfl ?_
        refine g_iconst d_m7_20 (pc' := 21) rfl (z := 1) rfl ?_
        refine go_caload d_m7_21 A (v := (.int x1)) ⟨by decide, by decide⟩ rfl (pc' := 22) rfl ?_
        refine g_bipush d_m7_22 (pc' := 24) rfl (z := 95) rfl ?_
        by_cases c24 : x1 = (95 : Int32)
        · -- c24 holds
          refine g_icmpNo d_m7_24 (pc' := 27) rfl (teq c24).2 ?_
          refine g_iconst d_m7_27 (pc' := 28) rfl (z := 1) rfl ?_
          exact go_ireturn d_m7_28 rfl (Or.inl rfl) rfl (ws' := []) (fun _ q => q) ⟨_, rfl, ix4 (k := 1) hn l1 c24 (fun i hi => match i, hi with | 0, hi => c9 | (i + 1), hi => absurd hi (by omega)), rfl, rfl⟩
        · -- c24 does not hold
          refine g_icmpYes d_m7_24 (pc' := 29) (feq c24).2 (by decide) (by decide) ?_
          refine g_iloadN d_m7_29 (pc' := 30) rfl rfl ?_
          refine g_iconst d_m7_30 (pc' := 31) rfl (z := 2) rfl ?_
          by_cases b31 : (2 : Int32) < (Int32.ofNat n)
          · -- b31 holds
            have l2 : 2 < n := (o_lt (i := 2) (by omega) (by omega)).mp b31
            refine g_icmpNo d_m7_31 (pc' := 34) rfl (tlt b31).2.2.2 ?_
            refine g_aloadN d_m7_34 (pc' := 35) rfl rfl rfl ?_
            refine g_iconst d_m7_35 (pc' := 36) rfl (z := 2) rfl ?_
            refine go_caload d_m7_36 A (v := (.int x2)) ⟨by decide, by decide⟩ rfl (pc' := 37) rfl ?_
            refine g_bipush d_m7_37 (pc' := 39) rfl (z := 95) rfl ?_
            by_cases c39 : x2 = (95 : Int32)
            · -- c39 holds
              refine g_icmpNo d_m7_39 (pc' := 42) rfl (teq c39).2 ?_
              refine g_iconst d_m7_42 (pc' := 43) rfl (z := 2) rfl ?_
              exact go_ireturn d_m7_43 rfl (Or.inl rfl) rfl (ws' := []) (fun _ q => q) ⟨_, rfl, ix4 (k := 2) hn l2 c39 (fun i hi => match i, hi with | 0, hi => c9 | 1, hi => c24 | (i + 2), hi => absurd hi (by omega)), rfl, rfl⟩
            · -- c39 does not hold
              refine g_icmpYes d_m7_39 (pc' := 44) (feq c39).2 (by decide) (by decide) ?_
              refine g_iloadN d_m7_44 (pc' := 45) rfl rfl ?_
              refine g_iconst d_m7_45 (pc' := 46) rfl (z := 3) rfl ?_
              by_cases b46 : (3 : Int32) < (Int32.ofNat n)
              · -- b46 holds
                have l3 : 3 < n := (o_lt (i := 3) (by omega) (by omega)).mp b46
                refine g_icmpNo d_m7_46 (pc' := 49) rfl (tlt b46).2.2.2 ?_
                refine g_aloadN d_m7_49 (pc' := 50) rfl rfl rfl ?_
                refine g_iconst d_m7_50 (pc' := 51) rfl (z := 3) rfl ?_
                refine go_caload d_m7_51 A (v := (.int x3)) ⟨by decide, by decide⟩ rfl (pc' := 52) rfl ?_
                refine g_bipush d_m7_52 (pc' := 54) rfl (z := 95) rfl ?_
                by_cases c54 : x3 = (95 : Int32)
                · -- c54 holds
                  refine g_icmpNo d_m7_54 (pc' := 57) rfl (teq c54).2 ?_
                  refine g_iconst d_m7_57 (pc' := 58) rfl (z := 3) rfl ?_
                  exact go_ireturn d_m7_58 rfl (Or.inl rfl) rfl (ws' := []) (fun _ q => q) ⟨_, rfl, ix4 (k := 3) hn l3 c54 (fun i hi => match i, hi with | 0, hi => c9 | 1, hi => c24 | 2, hi => c39 | (i + 3), hi => absurd hi (by omega)), rfl, rfl⟩
                · -- c54 does not hold
                  refine g_icmpYes d_m7_54 (pc' := 59) (feq c54).2 (by decide) (by decide) ?_
                  refine g_iconst d_m7_59 (pc' := 60) rfl (z := (-1)) rfl ?_
                  exact go_ireturn d_m7_60 rfl (Or.inl rfl) rfl (ws' := []) (fun _ q => q) ⟨_, rfl, ixN4 hn (fun i hi => match i, hi with | 0, hi => c9 | 1, hi => c24 | 2, hi => c39 | 3, hi => c54 | (i + 4), hi => absurd hi (by omega)), rfl, rfl⟩
              · -- b46 does not hold
                have l3 : ¬ 3 < n := fun q => b46 ((o_lt (i := 3) (by omega) (by omega)).mpr q)
                refine g_icmpYes d_m7_46 (pc' := 59) (flt b46).2.2.2 (by decide) (by decide) ?_
                refine g_iconst d_m7_59 (pc' := 60) rfl (z := (-1)) rfl ?_
                exact go_ireturn d_m7_60 rfl (Or.inl rfl) rfl (ws' := []) (fun _ q => q) ⟨_, rfl, ixN4 hn (fun i hi => match i, hi with | 0, hi => c9 | 1, hi => c24 | 2, hi => c39 | 3, hi => absurd (show 3 < n by omega) l3 | (i + 4), hi => absurd hi (by omega)), rfl, rfl⟩
          · -- b31 does not hold
            have l2 : ¬ 2 < n := fun q => b31 ((o_lt (i := 2) (by omega) (by omega)).mpr q)
            refine g_icmpYes d_m7_31 (pc' := 44) (flt b31).2.2.2 (by decide) (by decide) ?_
            refine g_iloadN d_m7_44 (pc' := 45) rfl rfl ?_
            refine g_iconst d_m7_45 (pc' := 46) rfl (z := 3) rfl ?_
            by_cases b46 : (3 : Int32) < (Int32.ofNat n)
            · -- b46 holds
              have l3 : 3 < n := (o_lt (i := 3) (by omega) (by omega)).mp b46
              refine g_icmpNo d_m7_46 (pc' := 49) rfl (tlt b46).2.2.2 ?_
              refine g_aloadN d_m7_49 (pc' := 50) rfl rfl rfl ?_
              refine g_iconst d_m7_50 (pc' := 51) rfl (z := 3) rfl ?_
              refine go_caload d_m7_51 A (v := (.int x3)) ⟨by decide, by decide⟩ rfl (pc' := 52) rfl ?_
              refine g_bipush d_m7_52 (pc' := 54) rfl (z := 95) rfl ?_
              by_cases c54 : x3 = (95 : Int32)
              · -- c54 holds
                refine g_icmpNo d_m7_54 (pc' := 57) rfl (teq c54).2 ?_
                refine g_iconst d_m7_57 (pc' := 58) rfl (z := 3) rfl ?_
                exact go_ireturn d_m7_58 rfl (Or.inl rfl) rfl (ws' := []) (fun _ q => q) ⟨_, rfl, ix4 (k := 3) hn l3 c54 (fun i hi => match i, hi with | 0, hi => c9 | 1, hi => c24 | 2, hi => absurd (show 2 < n by omega) l2 | (i + 3), hi => absurd hi (by omega)), rfl, rfl⟩
              · -- c54 does not hold
                refine g_icmpYes d_m7_54 (pc' := 59) (feq c54).2 (by decide) (by decide) ?_
                refine g_iconst d_m7_59 (pc' := 60) rfl (z := (-1)) rfl ?_
                exact go_ireturn d_m7_60 rfl (Or.inl rfl) rfl (ws' := []) (fun _ q => q) ⟨_, rfl, ixN4 hn (fun i hi => match i, hi with | 0, hi => c9 | 1, hi => c24 | 2, hi => absurd (show 2 < n by omega) l2 | 3, hi => c54 | (i + 4), hi => absurd hi (by omega)), rfl, rfl⟩
            · -- b46 does not hold
              have l3 : ¬ 3 < n := fun q => b46 ((o_lt (i := 3) (by omega) (by omega)).mpr q)
              refine g_icmpYes d_m7_46 (pc' := 59) (flt b46).2.2.2 (by decide) (by decide) ?_
              refine g_iconst d_m7_59 (pc' := 60) rfl (z := (-1)) rfl ?_
              exact go_ireturn d_m7_60 rfl (Or.inl rfl) rfl (ws' := []) (fun _ q => q) ⟨_, rfl, ixN4 hn (fun i hi => match i, hi with | 0, hi => c9 | 1, hi => c24 | 2, hi => absurd (show 2 < n by omega) l2 | 3, hi => absurd (show 3 < n by omega) l3 | (i + 4), hi => absurd hi (by omega)), rfl, rfl⟩
      · -- b16 does not hold
        have l1 : ¬ 1 < n := fun q => b16 ((o_lt (i := 1) (by omega) (by omega)).mpr q)
        refine g_icmpYes d_m7_16 (pc' := 29) (flt b16).2.2.2 (by decide) (by decide) ?_
        refine g_iloadN d_m7_29 (pc' := 30) rfl rfl ?_
        refine g_iconst d_m7_30 (pc' := 31) rfl (z := 2) rfl ?_
        by_cases b31 : (2 : Int32) < (Int32.ofNat n)
        · -- b31 holds
          have l2 : 2 < n := (o_lt (i := 2) (by omega) (by omega)).mp b31
          refine g_icmpNo d_m7_31 (pc' := 34) rfl (tlt b31).2.2.2 ?_
          refine g_aloadN d_m7_34 (pc' := 35) rfl rfl rfl ?_
          refine g_iconst d_m7_35 (pc' := 36) rfl (z := 2) rfl ?_
          refine go_caload d_m7_36 A (v := (.int x2)) ⟨by decide, by decide⟩ rfl (pc' := 37) rfl ?_
          refine g_bipush d_m7_37 (pc' := 39) rfl (z := 95) rfl ?_
          by_cases c39 : x2 = (95 : Int32)
          · -- c39 holds
            refine g_icmpNo d_m7_39 (pc' := 42) rfl (teq c39).2 ?_
            refine g_iconst d_m7_42 (pc' := 43) rfl (z := 2) rfl ?_
            exact go_ireturn d_m7_43 rfl (Or.inl rfl) rfl (ws' := []) (fun _ q => q) ⟨_, rfl, ix4 (k := 2) hn l2 c39 (fun i hi => match i, hi with | 0, hi => c9 | 1, hi => absurd (show 1 < n by omega) l1 | (i + 2), hi => absurd hi (by omega)), rfl, rfl⟩
          · -- c39 does not hold
            refine g_icmpYes d_m7_39 (pc' := 44) (feq c39).2 (by decide) (by decide) ?_
            refine g_iloadN d_m7_44 (pc' := 45) rfl rfl ?_
            refine g_iconst d_m7_45 (pc' := 46) rfl (z := 3) rfl ?_
            by_cases b46 : (3 : Int32) < (Int32.ofNat n)
            · -- b46 holds
              have l3 : 3 < n := (o_lt (i := 3) (by omega) (by omega)).mp b46
              refine g_icmpNo d_m7_46 (pc' := 49) rfl (tlt b46).2.2.2 ?_
              refine g_aloadN d_m7_49 (pc' := 50) rfl rfl rfl ?_
              refine g_iconst d_m7_50 (pc' := 51) rfl (z := 3) rfl ?_
              refine go_caload d_m7_51 A (v := (.int x3)) ⟨by decide, by decide⟩ rfl (pc' := 52) rfl ?_
              refine g_bipush d_m7_52 (pc' := 54) rfl (z := 95) rfl ?_
              by_cases c54 : x3 = (95 : Int32)
              · -- c54 holds
                refine g_icmpNo d_m7_54 (pc' := 57) rfl (teq c54).2 ?_
                refine g_iconst d_m7_57 (pc' := 58) rfl (z := 3) rfl ?_
                exact go_ireturn d_m7_58 rfl (Or.inl rfl) rfl (ws' := []) (fun _ q => q) ⟨_, rfl, ix4 (k := 3) hn l3 c54 (fun i hi => match i, hi with | 0, hi => c9 | 1, hi => absurd (show 1 < n by omega) l1 | 2, hi => c39 | (i + 3), hi => absurd hi (by omega)), rfl, rfl⟩
              · -- c54 does not hold
                refine g_icmpYes d_m7_54 (pc' := 59) (feq c54).2 (by decide) (by decide) ?_
                refine g_iconst d_m7_59 (pc' := 60) rfl (z := (-1)) rfl ?_
                exact go_ireturn d_m7_60 rfl (Or.inl rfl) rfl (ws' := []) (fun _ q => q) ⟨_, rfl, ixN4 hn (fun i hi => match i, hi with | 0, hi => c9 | 1, hi => absurd (show 1 < n by omega) l1 | 2, hi => c39 | 3, hi => c54 | (i + 4), hi => absurd hi (by omega)), rfl, rfl⟩
            · -- b46 does not hold
              have l3 : ¬ 3 < n := fun q => b46 ((o_lt (i := 3) (by omega) (by omega)).mpr q)
              refine g_icmpYes d_m7_46 (pc' := 59) (flt b46).2.2.2 (by decide) (by decide) ?_
              refine g_iconst d_m7_59 (pc' := 60) rfl (z := (-1)) rfl ?_
              exact go_ireturn d_m7_60 rfl (Or.inl rfl) rfl (ws' := []) (fun _ q => q) ⟨_, rfl, ixN4 hn (fun i hi => match i, hi with | 0, hi => c9 | 1, hi => absurd (show 1 < n by omega) l1 | 2, hi => c39 | 3, hi => absurd (show 3 < n by omega) l3 | (i + 4), hi => absurd hi (by omega)), rfl, rfl⟩
        · -- b31 does not hold
          have l2 : ¬ 2 < n := fun q => b31 ((o_lt (i := 2) (by omega) (by omega)).mpr q)
          refine g_icmpYes d_m7_31 (pc' := 44) (flt b31).2.2.2 (by decide) (by decide) ?_
          refine g_iloadN d_m7_44 (pc' := 45) rfl rfl ?_
          refine g_iconst d_m7_45 (pc' := 46) rfl (z := 3) rfl ?_
          by_cases b46 : (3 : Int32) < (Int32.ofNat n)
          · -- b46 holds
            have l3 : 3 < n := (o_lt (i := 3) (by omega) (by omega)).mp b46
            refine g_icmpNo d_m7_46 (pc' := 49) rfl (tlt b46).2.2.2 ?_
            refine g_aloadN d_m7_49 (pc' := 50) rfl rfl rfl ?_
            refine g_iconst d_m7_50 (pc' := 51) rfl (z := 3) rfl ?_
            refine go_caload d_m7_51 A (v := (.int x3)) ⟨by decide, by decide⟩ rfl (pc' := 52) rfl ?_
            refine g_bipush d_m7_52 (pc' := 54) rfl (z := 95) rfl ?_
            by_cases c54 : x3 = (95 : Int32)
            · -- c54 holds
              refine g_icmpNo d_m7_54 (pc' := 57) rfl (teq c54).2 ?_
              refine g_iconst d_m7_57 (pc' := 58) rfl (z := 3) rfl ?_
              exact go_ireturn d_m7_58 rfl (Or.inl rfl) rfl (ws' := []) (fun _ q => q) ⟨_, rfl, ix4 (k := 3) hn l3 c54 (fun i hi => match i, hi with | 0, hi => c9 | 1, hi => absurd (show 1 < n by omega) l1 | 2, hi => absurd (show 2 < n by omega) l2 | (i + 3), hi => absurd hi (by omega)), rfl, rfl⟩
            · -- c54 does not hold
              refine g_icmpYes d_m7_54 (pc' := 59) (feq c54).2 (by decide) (by decide) ?_
              refine g_iconst d_m7_59 (pc' := 60) rfl (z := (-1)) rfl ?_
              exact go_ireturn d_m7_60 rfl (Or.inl rfl) rfl (ws' := []) (fun _ q => q) ⟨_, rfl, ixN4 hn (fun i hi => match i, hi with | 0, hi => c9 | 1, hi => absurd (show 1 < n by omega) l1 | 2, hi => absurd (show 2 < n by omega) l2 | 3, hi => c54 | (i + 4), hi => absurd hi (by omega)), rfl, rfl⟩
          · -- b46 does not hold
            have l3 : ¬ 3 < n := fun q => b46 ((o_lt (i := 3) (by omega) (by omega)).mpr q)
            refine g_icmpYes d_m7_46 (pc' := 59) (flt b46).2.2.2 (by decide) (by decide) ?_
            refine g_iconst d_m7_59 (pc' := 60) rfl (z := (-1)) rfl ?_
            exact go_ireturn d_m7_60 rfl (Or.inl rfl) rfl (ws' := []) (fun _ q => q) ⟨_, rfl, ixN4 hn (fun i hi => match i, hi with | 0, hi => c9 | 1, hi => absurd (show 1 < n by omega) l1 | 2, hi => absurd (show 2 < n by omega) l2 | 3, hi => absurd (show 3 < n by omega) l3 | (i + 4), hi => absurd hi (by omega)), rfl, rfl⟩
  · -- b1 does not hold
    have l0 : ¬ 0 < n := fun q => b1 ((o_lt (i := 0) (by omega) (by omega)).mpr q)
    refine g_ifYes d_m7_1 (pc' := 14) (flt b1).2.2.2 (by decide) (by decide) ?_
    refine g_iloadN d_m7_14 (pc' := 15) rfl rfl ?_
    refine g_iconst d_m7_15 (pc' := 16) rfl (z := 1) rfl ?_
    by_cases b16 : (1 : Int32) < (Int32.ofNat n)
    · -- b16 holds
      have l1 : 1 < n := (o_lt (i := 1) (by omega) (by omega)).mp b16
      refine g_icmpNo d_m7_16 (pc' := 19) rfl (tlt b16).2.2.2 ?_
      refine g_aloadN d_m7_19 (pc' := 20) rfl rfl rfl ?_
      refine g_iconst d_m7_20 (pc' := 21) rfl (z := 1) rfl ?_
      refine go_caload d_m7_21 A (v := (.int x1)) ⟨by decide, by decide⟩ rfl (pc' := 22) rfl ?_
      refine g_bipush d_m7_22 (pc' := 24) rfl (z := 95) rfl ?_
      by_cases c24 : x1 = (95 : Int32)
      · -- c24 holds
        refine g_icmpNo d_m7_24 (pc' := 27) rfl (teq c24).2 ?_
        refine g_iconst d_m7_27 (pc' := 28) rfl (z := 1) rfl ?_
        exact go_ireturn d_m7_28 rfl (Or.inl rfl) rfl (ws' := []) (fun _ q => q) ⟨_, rfl, ix4 (k := 1) hn l1 c24 (fun i hi => match i, hi with | 0, hi => absurd (show 0 < n by omega) l0 | (i + 1), hi => absurd hi (by omega)), rfl, rfl⟩
      · -- c24 does not hold
        refine g_icmpYes d_m7_24 (pc' := 29) (feq c24).2 (by decide) (by decide) ?_
        refine g_iloadN d_m7_29 (pc' := 30) rfl rfl ?_
        refine g_iconst d_m7_30 (pc' := 31) rfl (z := 2) rfl ?_
        by_cases b31 : (2 : Int32) < (Int32.ofNat n)
        · -- b31 holds
          have l2 : 2 < n := (o_lt (i := 2) (by omega) (by omega)).mp b31
          refine g_icmpNo d_m7_31 (pc' := 34) rfl (tlt b31).2.2.2 ?_
          refine g_aloadN d_m7_34 (pc' := 35) rfl rfl rfl ?_
          refine g_iconst d_m7_35 (pc' := 36) rfl (z := 2) rfl ?_
          refine go_caload d_m7_36 A (v := (.int x2)) ⟨by decide, by decide⟩ rfl (pc' := 37) rfl ?_
          refine g_bipush d_m7_37 (pc' := 39) rfl (z := 95) rfl ?_
          by_cases c39 : x2 = (95 : Int32)
          · -- c39 holds
            refine g_icmpNo d_m7_39 (pc' := 42) rfl (teq c39).2 ?_
            refine g_iconst d_m7_42 (pc' := 43) rfl (z := 2) rfl ?_
            exact go_ireturn d_m7_43 rfl (Or.inl rfl) rfl (ws' := []) (fun _ q => q) ⟨_, rfl, ix4 (k := 2) hn l2 c39 (fun i hi => match i, hi with | 0, hi => absurd (show 0 < n by omega) l0 | 1, hi => c24 | (i + 2), hi => absurd hi (by omega)), rfl, rfl⟩
          · -- c39 does not hold
            refine g_icmpYes d_m7_39 (pc' := 44) (feq c39).2 (by decide) (by decide) ?_
            refine g_iloadN d_m7_44 (pc' := 45) rfl rfl ?_
            refine g_iconst d_m7_45 (pc' := 46) rfl (z := 3) rfl ?_
            by_cases b46 : (3 : Int32) < (Int32.ofNat n)
            · -- b46 holds
              have l3 : 3 < n := (o_lt (i := 3) (by omega) (by omega)).mp b46
              refine g_icmpNo d_m7_46 (pc' := 49) rfl (tlt b46).2.2.2 ?_
              refine g_aloadN d_m7_49 (pc' := 50) rfl rfl rfl ?_
              refine g_iconst d_m7_50 (pc' := 51) rfl (z := 3) rfl ?_
              refine go_caload d_m7_51 A (v := (.int x3)) ⟨by decide, by decide⟩ rfl (pc' := 52) rfl ?_
              refine g_bipush d_m7_52 (pc' := 54) rfl (z := 95) rfl ?_
              by_cases c54 : x3 = (95 : Int32)
              · -- c54 holds
                refine g_icmpNo d_m7_54 (pc' := 57) rfl (teq c54).2 ?_
                refine g_iconst d_m7_57 (pc' := 58) rfl (z := 3) rfl ?_
                exact go_ireturn d_m7_58 rfl (Or.inl rfl) rfl (ws' := []) (fun _ q => q) ⟨_, rfl, ix4 (k := 3) hn l3 c54 (fun i hi => match i, hi with | 0, hi => absurd (show 0 < n by omega) l0 | 1, hi => c24 | 2, hi => c39 | (i + 3), hi => absurd hi (by omega)), rfl, rfl⟩
              · -- c54 does not hold
                refine g_icmpYes d_m7_54 (pc' := 59) (feq c54).2 (by decide) (by decide) ?_
                refine g_iconst d_m7_59 (pc' := 60) rfl (z := (-1)) rfl ?_
                exact go_ireturn d_m7_60 rfl (Or.inl rfl) rfl (ws' := []) (fun _ q => q) ⟨_, rfl, ixN4 hn (fun i hi => match i, hi with | 0, hi => absurd (show 0 < n by omega) l0 | 1, hi => c24 | 2, hi => c39 | 3, hi => c54 | (i + 4), hi => absurd hi (by omega)), rfl, rfl⟩
            · -- b46 does not hold
              have l3 : ¬ 3 < n := fun q => b46 ((o_lt (i := 3) (by omega) (by omega)).mpr q)
              refine g_icmpYes d_m7_46 (pc' := 59) (flt b46).2.2.2 (by decide) (by decide) ?_
              refine g_iconst d_m7_59 (pc' := 60) rfl (z := (-1)) rfl ?_
              exact go_ireturn d_m7_60 rfl (Or.inl rfl) rfl (ws' := []) (fun _ q => q) ⟨_, rfl, ixN4 hn (fun i hi => match i, hi with | 0, hi => absurd (show 0 < n by omega) l0 | 1, hi => c24 | 2, hi => c39 | 3, hi => absurd (show 3 < n by omega) l3 | (i + 4), hi => absurd hi (by omega)), rfl, rfl⟩
        · -- b31 does not hold
          have l2 : ¬ 2 < n := fun q => b31 ((o_lt (i := 2) (by omega) (by omega)).mpr q)
          refine g_icmpYes d_m7_31 (pc' := 44) (flt b31).2.2.2 (by decide) (by decide) ?_
          refine g_iloadN d_m7_44 (pc' := 45) rfl rfl ?_
          refine g_iconst d_m7_45 (pc' := 46) rfl (z := 3) rfl ?_
          by_cases b46 : (3 : Int32) < (Int32.ofNat n)
          · -- b46 holds
            have l3 : 3 < n := (o_lt (i := 3) (by omega) (by omega)).mp b46
            refine g_icmpNo d_m7_46 (pc' := 49) rfl (tlt b46).2.2.2 ?_
            refine g_aloadN d_m7_49 (pc' := 50) rfl rfl rfl ?_
            refine g_iconst d_m7_50 (pc' := 51) rfl (z := 3) rfl ?_
            refine go_caload d_m7_51 A (v := (.int x3)) ⟨by decide, by decide⟩ rfl (pc' := 52) rfl ?_
            refine g_bipush d_m7_52 (pc' := 54) rfl (z := 95) rfl ?_
            by_cases c54 : x3 = (95 : Int32)
            · -- c54 holds
              refine g_icmpNo d_m7_54 (pc' := 57) rfl (teq c54).2 ?_
              refine g_iconst d_m7_57 (pc' := 58) rfl (z := 3) rfl ?_
              exact go_ireturn d_m7_58 rfl (Or.inl rfl) rfl (ws' := []) (fun _ q => q) ⟨_, rfl, ix4 (k := 3) hn l3 c54 (fun i hi => match i, hi with | 0, hi => absurd (show 0 < n by omega) l0 | 1, hi => c24 | 2, hi => absurd (show 2 < n by omega) l2 | (i + 3), hi => absurd hi (by omega)), rfl, rfl⟩
            · -- c54 does not hold
              refine g_icmpYes d_m7_54 (pc' := 59) (feq c54).2 (by decide) (by decide) ?_
              refine g_iconst d_m7_59 (pc' := 60) rfl (z := (-1)) rfl ?_
              exact go_ireturn d_m7_60 rfl (Or.inl rfl) rfl (ws' := []) (fun _ q => q) ⟨_, rfl, ixN4 hn (fun i hi => match i, hi with | 0, hi => absurd (show 0 < n by omega) l0 | 1, hi => c24 | 2, hi => absurd (show 2 < n by omega) l2 | 3, hi => c54 | (i + 4), hi => absurd hi (by omega)), rfl, rfl⟩
          · -- b46 does not hold
            have l3 : ¬ 3 < n := fun q => b46 ((o_lt (i := 3) (by omega) (by omega)).mpr q)
            refine g_icmpYes d_m7_46 (pc' := 59) (flt b46).2.2.2 (by decide) (by decide) ?_
            refine g_iconst d_m7_59 (pc' := 60) rfl (z := (-1)) rfl ?_
            exact go_ireturn d_m7_60 rfl (Or.inl rfl) rfl (ws' := []) (fun _ q => q) ⟨_, rfl, ixN4 hn (fun i hi => match i, hi with | 0, hi => absurd (show 0 < n by omega) l0 | 1, hi => c24 | 2, hi => absurd (show 2 < n by omega) l2 | 3, hi => absurd (show 3 < n by omega) l3 | (i + 4), hi => absurd hi (by omega)), rfl, rfl⟩
    · -- b16 does not hold
      have l1 : ¬ 1 < n := fun q => b16 ((o_lt (i := 1) (by omega) (by omega)).mpr q)
      refine g_icmpYes d_m7_16 (pc' := 29) (flt b16).2.2.2 (by decide) (by decide) ?_
      refine g_iloadN d_m7_29 (pc' := 30) rfl rfl ?_
      refine g_iconst d_m7_30 (pc' := 31) rfl (z := 2) rfl ?_
      by_cases b31 : (2 : Int32) < (Int32.ofNat n)
      · -- b31 holds
        have l2 : 2 < n := (o_lt (i := 2) (by omega) (by omega)).mp b31
        refine g_icmpNo d_m7_31 (pc' := 34) rfl (tlt b31).2.2.2 ?_
        refine g_aloadN d_m7_34 (pc' := 35) rfl rfl rfl ?_
        refine g_iconst d_m7_35 (pc' := 36) rfl (z := 2) rfl ?_
        refine go_caload d_m7_36 A (v := (.int x2)) ⟨by decide, by decide⟩ rfl (pc' := 37) rfl ?_
        refine g_bipush d_m7_37 (pc' := 39) rfl (z := 95) rfl ?_
        by_cases c39 : x2 = (95 : Int32)
        · -- c39 holds
          refine g_icmpNo d_m7_39 (pc' := 42) rfl (teq c39).2 ?_
          refine g_iconst d_m7_42 (pc' := 43) rfl (z := 2) rfl ?_
          exact go_ireturn d_m7_43 rfl (Or.inl rfl) rfl (ws' := []) (fun _ q => q) ⟨_, rfl, ix4 (k := 2) hn l2 c39 (fun i hi => match i, hi with | 0, hi => absurd (show 0 < n by omega) l0 | 1, hi => absurd (show 1 < n by omega) l1 | (i + 2), hi => absurd hi (by omega)), rfl, rfl⟩
        · -- c39 does not hold
          refine g_icmpYes d_m7_39 (pc' := 44) (feq c39).2 (by decide) (by decide) ?_
          refine g_iloadN d_m7_44 (pc' := 45) rfl rfl ?_
          refine g_iconst d_m7_45 (pc' := 46) rfl (z := 3) rfl ?_
          by_cases b46 : (3 : Int32) < (Int32.ofNat n)
          · -- b46 holds
            have l3 : 3 < n := (o_lt (i := 3) (by omega) (by omega)).mp b46
            refine g_icmpNo d_m7_46 (pc' := 49) rfl (tlt b46).2.2.2 ?_
            refine g_aloadN d_m7_49 (pc' := 50) rfl rfl rfl ?_
            refine g_iconst d_m7_50 (pc' := 51) rfl (z := 3) rfl ?_
            refine go_caload d_m7_51 A (v := (.int x3)) ⟨by decide, by decide⟩ rfl (pc' := 52) rfl ?_
            refine g_bipush d_m7_52 (pc' := 54) rfl (z := 95) rfl ?_
            by_cases c54 : x3 = (95 : Int32)
            · -- c54 holds
              refine g_icmpNo d_m7_54 (pc' := 57) rfl (teq c54).2 ?_
              refine g_iconst d_m7_57 (pc' := 58) rfl (z := 3) rfl ?_
              exact go_ireturn d_m7_58 rfl (Or.inl rfl) rfl (ws' := []) (fun _ q => q) ⟨_, rfl, ix4 (k := 3) hn l3 c54 (fun i hi => match i, hi with | 0, hi => absurd (show 0 < n by omega) l0 | 1, hi => absurd (show 1 < n by omega) l1 | 2, hi => c39 | (i + 3), hi => absurd hi (by omega)), rfl, rfl⟩
            · -- c54 does not hold
              refine g_icmpYes d_m7_54 (pc' := 59) (feq c54).2 (by decide) (by decide) ?_
              refine g_iconst d_m7_59 (pc' := 60) rfl (z := (-1)) rfl ?_
              exact go_ireturn d_m7_60 rfl (Or.inl rfl) rfl (ws' := []) (fun _ q => q) ⟨_, rfl, ixN4 hn (fun i hi => match i, hi with | 0, hi => absurd (show 0 < n by omega) l0 | 1, hi => absurd (show 1 < n by omega) l1 | 2, hi => c39 | 3, hi => c54 | (i + 4), hi => absurd hi (by omega)), rfl, rfl⟩
          · -- b46 does not hold
            have l3 : ¬ 3 < n := fun q => b46 ((o_lt (i := 3) (by omega) (by omega)).mpr q)
            refine g_icmpYes d_m7_46 (pc' := 59) (flt b46).2.2.2 (by decide) (by decide) ?_
            refine g_iconst d_m7_59 (pc' := 60) rfl (z := (-1)) rfl ?_
            exact go_ireturn d_m7_60 rfl (Or.inl rfl) rfl (ws' := []) (fun _ q => q) ⟨_, rfl, ixN4 hn (fun i hi => match i, hi with | 0, hi => absurd (show 0 < n by omega) l0 | 1, hi => absurd (show 1 < n by omega) l1 | 2, hi => c39 | 3, hi => absurd (show 3 < n by omega) l3 | (i + 4), hi => absurd hi (by omega)), rfl, rfl⟩
      · -- b31 does not hold
        have l2 : ¬ 2 < n := fun q => b31 ((o_lt (i := 2) (by omega) (by omega)).mpr q)
        refine g_icmpYes d_m7_31 (pc' := 44) (flt b31).2.2.2 (by decide) (by decide) ?_
        refine g_iloadN d_m7_44 (pc' := 45) rfl rfl ?_
        refine g_iconst d_m7_45 (pc' := 46) rfl (z := 3) rfl ?_
        by_cases b46 : (3 : Int32) < (Int32.ofNat n)
        · -- b46 holds
          have l3 : 3 < n := (o_lt (i := 3) (by omega) (by omega)).mp b46
          refine g_icmpNo d_m7_46 (pc' := 49) rfl (tlt b46).2.2.2 ?_
          refine g_aloadN d_m7_49 (pc' := 50) rfl rfl rfl ?_
          refine g_iconst d_m7_50 (pc' := 51) rfl (z := 3) rfl ?_
          refine go_caload d_m7_51 A (v := (.int x3)) ⟨by decide, by decide⟩ rfl (pc' := 52) rfl ?_
          refine g_bipush d_m7_52 (pc' := 54) rfl (z := 95) rfl ?_
          by_cases c54 : x3 = (95 : Int32)
          · -- c54 holds
            refine g_icmpNo d_m7_54 (pc' := 57) rfl (teq c54).2 ?_
            refine g_iconst d_m7_57 (pc' := 58) rfl (z := 3) rfl ?_
            exact go_ireturn d_m7_58 rfl (Or.inl rfl) rfl (ws' := []) (fun _ q => q) ⟨_, rfl, ix4 (k := 3) hn l3 c54 (fun i hi => match i, hi with | 0, hi => absurd (show 0 < n by omega) l0 | 1, hi => absurd (show 1 < n by omega) l1 | 2, hi => absurd (show 2 < n by omega) l2 | (i + 3), hi => absurd hi (by omega)), rfl, rfl⟩
          · -- c54 does not hold
            refine g_icmpYes d_m7_54 (pc' := 59) (feq c54).2 (by decide) (by decide) ?_
            refine g_iconst d_m7_59 (pc' := 60) rfl (z := (-1)) rfl ?_
            exact go_ireturn d_m7_60 rfl (Or.inl rfl) rfl (ws' := []) (fun _ q => q) ⟨_, rfl, ixN4 hn (fun i hi => match i, hi with | 0, hi => absurd (show 0 < n by omega) l0 | 1, hi => absurd (show 1 < n by omega) l1 | 2, hi => absurd (show 2 < n by omega) l2 | 3, hi => c54 | (i + 4), hi => absurd hi (by omega)), rfl, rfl⟩
        · -- b46 does not hold
          have l3 : ¬ 3 < n := fun q => b46 ((o_lt (i := 3) (by omega) (by omega)).mpr q)
          refine g_icmpYes d_m7_46 (pc' := 59) (flt b46).2.2.2 (by decide) (by decide) ?_
          refine g_iconst d_m7_59 (pc' := 60) rfl (z := (-1)) rfl ?_
          exact go_ireturn d_m7_60 rfl (Or.inl rfl) rfl (ws' := []) (fun _ q => q) ⟨_, rfl, ixN4 hn (fun i hi => match i, hi with | 0, hi => absurd (show 0 < n by omega) l0 | 1, hi => absurd (show 1 < n by omega) l1 | 2, hi => absurd (show 2 < n by omega) l2 | 3, hi => absurd (show 3 < n by omega) l3 | (i + 4), hi => absurd hi (by omega)), rfl, rfl⟩
set_option maxRecDepth 65536 in
set_option maxHeartbeats 40000000 in
theorem rm_same {l : Launch} {Z : State} {a0 : Array Value} (hw : ∀ d ∈ tables_1, d.before a0 Z = true) (x0 x1 x2 x3 y0 y1 y2 y3 : Int32) (n mn : Nat) (ca cb : Addr) (k kb : ClassId) (h0 : Heap) (hn : n ≤ 4) (hm : mn ≤ 4) (A : Arv Z h0 ca k .char 4 [.int x0, .int x1, .int x2, .int x3] (.int 0)) (Ab : Arv Z h0 cb kb .char 4 [.int y0, .int y1, .int y2, .int y3] (.int 0)) :
    Con l Z EL ⟨"com/example/plugwright/plugwright/platform/AttributeFitsPinLaw", "same", "([CI[CI)Z"⟩ method_8_code 4 (some .boolean) [] { frames := 0, cells := 0, slots := 0, locals := 0 } #[(.ref ca), (.int (Int32.ofNat n)), (.ref cb), (.int (Int32.ofNat mn))] h0 [] (fun v h ws => v = some (.int (if [x0, x1, x2, x3].take n = [y0, y1, y2, y3].take mn then 1 else 0)) ∧ h0 = h ∧ ws = []) := by
  refine con_of (a0 := a0) (Ls := #[.val (.ref ca), .val (.int (Int32.ofNat n)), .val (.ref cb), .val (.int (Int32.ofNat mn))]) (plainFor_of_name pn5) (eW hw) (fun m => by first | (simp [entryFrame, mkF, argsToLocals, Value.category]; done) | rfl) ?_
  intro p e s m below meth c
  refine g_iloadN d_m8_0 (pc' := 1) rfl rfl ?_
  refine g_iloadN d_m8_1 (pc' := 2) rfl rfl ?_
  by_cases h2 : (Int32.ofNat n) = (Int32.ofNat mn)
  · -- h2 holds
    have hnm : n = mn := (o_eq (by omega) (by omega)).mp h2
    subst hnm
    refine g_icmpYes d_m8_2 (pc' := 7) (teq h2).1 (by decide) (by decide) ?_
    refine g_iloadN d_m8_7 (pc' := 8) rfl rfl ?_
    refine g_iconst d_m8_8 (pc' := 9) rfl (z := 1) rfl ?_
    by_cases b9 : (Int32.ofNat n) < (1 : Int32)
    · -- b9 holds
      have l0 : ¬ 0 < n := fun q => by have := (o_lt (i := n) (n := 1) (by omega) (by omega)).mp b9; omega
      refine g_icmpYes d_m8_9 (pc' := 21) (tlt b9).1 (by decide) (by decide) ?_
      refine g_iloadN d_m8_21 (pc' := 22) rfl rfl ?_
      refine g_iconst d_m8_22 (pc' := 23) rfl (z := 2) rfl ?_
      by_cases b23 : (Int32.ofNat n) < (2 : Int32)
      · -- b23 holds
        have l1 : ¬ 1 < n := fun q => by have := (o_lt (i := n) (n := 2) (by omega) (by omega)).mp b23; omega
        refine g_icmpYes d_m8_23 (pc' := 35) (tlt b23).1 (by decide) (by decide) ?_
        refine g_iloadN d_m8_35 (pc' := 36) rfl rfl ?_
        refine g_iconst d_m8_36 (pc' := 37) rfl (z := 3) rfl ?_
        by_cases b37 : (Int32.ofNat n) < (3 : Int32)
        · -- b37 holds
          have l2 : ¬ 2 < n := fun q => by have := (o_lt (i := n) (n := 3) (by omega) (by omega)).mp b37; omega
          refine g_icmpYes d_m8_37 (pc' := 49) (tlt b37).1 (by decide) (by decide) ?_
          refine g_iloadN d_m8_49 (pc' := 50) rfl rfl ?_
          refine g_iconst d_m8_50 (pc' := 51) rfl (z := 4) rfl ?_
          by_cases b51 : (Int32.ofNat n) < (4 : Int32)
          · -- b51 holds
            have l3 : ¬ 3 < n := fun q => by have := (o_lt (i := n) (n := 4) (by omega) (by omega)).mp b51; omega
            refine g_icmpYes d_m8_51 (pc' := 63) (tlt b51).1 (by decide) (by decide) ?_
            refine g_iconst d_m8_63 (pc' := 64) rfl (z := 1) rfl ?_
            refine g_goto d_m8_64 (pc' := 68) (by decide) (by decide) ?_
            exact go_ireturn d_m8_68 rfl (Or.inr (Or.inl rfl)) rfl (ws' := []) (fun _ q => q) ⟨by rw [if_pos (take4 hn (fun q => absurd q l0) (fun q => absurd q l1) (fun q => absurd q l2) (fun q => absurd q l3))], rfl, rfl⟩
          · -- b51 does not hold
            have l3 : 3 < n := by rcases Nat.lt_or_ge 3 n with q | q; exact q; exact absurd ((o_lt (i := n) (n := 4) (by omega) (by omega)).mpr (by omega)) b51
            refine g_icmpNo d_m8_51 (pc' := 54) rfl (flt b51).1 ?_
            refine g_aloadN d_m8_54 (pc' := 55) rfl rfl rfl ?_
            refine g_iconst d_m8_55 (pc' := 56) rfl (z := 3) rfl ?_
            refine go_caload d_m8_56 A (v := (.int x3)) ⟨by decide, by decide⟩ rfl (pc' := 57) rfl ?_
            refine g_aloadN d_m8_57 (pc' := 58) rfl rfl rfl ?_
            refine g_iconst d_m8_58 (pc' := 59) rfl (z := 3) rfl ?_
            refine go_caload d_m8_59 Ab (v := (.int y3)) ⟨by decide, by decide⟩ rfl (pc' := 60) rfl ?_
            by_cases e60 : x3 = y3
            · -- e60 holds
              refine g_icmpNo d_m8_60 (pc' := 63) rfl (teq e60).2 ?_
              refine g_iconst d_m8_63 (pc' := 64) rfl (z := 1) rfl ?_
              refine g_goto d_m8_64 (pc' := 68) (by decide) (by decide) ?_
              exact go_ireturn d_m8_68 rfl (Or.inr (Or.inl rfl)) rfl (ws' := []) (fun _ q => q) ⟨by rw [if_pos (take4 hn (fun q => absurd q l0) (fun q => absurd q l1) (fun q => absurd q l2) (fun _ => e60))], rfl, rfl⟩
            · -- e60 does not hold
              refine g_icmpYes d_m8_60 (pc' := 67) (feq e60).2 (by decide) (by decide) ?_
              refine g_iconst d_m8_67 (pc' := 68) rfl (z := 0) rfl ?_
              exact go_ireturn d_m8_68 rfl (Or.inr (Or.inl rfl)) rfl (ws' := []) (fun _ q => q) ⟨by rw [if_neg (ntake4 hn (Or.inr (Or.inr (Or.inr ⟨l3, e60⟩))))], rfl, rfl⟩
        · -- b37 does not hold
          have l2 : 2 < n := by rcases Nat.lt_or_ge 2 n with q | q; exact q; exact absurd ((o_lt (i := n) (n := 3) (by omega) (by omega)).mpr (by omega)) b37
          refine g_icmpNo d_m8_37 (pc' := 40) rfl (flt b37).1 ?_
          refine g_aloadN d_m8_40 (pc' := 41) rfl rfl rfl ?_
          refine g_iconst d_m8_41 (pc' := 42) rfl (z := 2) rfl ?_
          refine go_caload d_m8_42 A (v := (.int x2)) ⟨by decide, by decide⟩ rfl (pc' := 43) rfl ?_
          refine g_aloadN d_m8_43 (pc' := 44) rfl rfl rfl ?_
          refine g_iconst d_m8_44 (pc' := 45) rfl (z := 2) rfl ?_
          refine go_caload d_m8_45 Ab (v := (.int y2)) ⟨by decide, by decide⟩ rfl (pc' := 46) rfl ?_
          by_cases e46 : x2 = y2
          · -- e46 holds
            refine g_icmpNo d_m8_46 (pc' := 49) rfl (teq e46).2 ?_
            refine g_iloadN d_m8_49 (pc' := 50) rfl rfl ?_
            refine g_iconst d_m8_50 (pc' := 51) rfl (z := 4) rfl ?_
            by_cases b51 : (Int32.ofNat n) < (4 : Int32)
            · -- b51 holds
              have l3 : ¬ 3 < n := fun q => by have := (o_lt (i := n) (n := 4) (by omega) (by omega)).mp b51; omega
              refine g_icmpYes d_m8_51 (pc' := 63) (tlt b51).1 (by decide) (by decide) ?_
              refine g_iconst d_m8_63 (pc' := 64) rfl (z := 1) rfl ?_
              refine g_goto d_m8_64 (pc' := 68) (by decide) (by decide) ?_
              exact go_ireturn d_m8_68 rfl (Or.inr (Or.inl rfl)) rfl (ws' := []) (fun _ q => q) ⟨by rw [if_pos (take4 hn (fun q => absurd q l0) (fun q => absurd q l1) (fun _ => e46) (fun q => absurd q l3))], rfl, rfl⟩
            · -- b51 does not hold
              have l3 : 3 < n := by rcases Nat.lt_or_ge 3 n with q | q; exact q; exact absurd ((o_lt (i := n) (n := 4) (by omega) (by omega)).mpr (by omega)) b51
              refine g_icmpNo d_m8_51 (pc' := 54) rfl (flt b51).1 ?_
              refine g_aloadN d_m8_54 (pc' := 55) rfl rfl rfl ?_
              refine g_iconst d_m8_55 (pc' := 56) rfl (z := 3) rfl ?_
              refine go_caload d_m8_56 A (v := (.int x3)) ⟨by decide, by decide⟩ rfl (pc' := 57) rfl ?_
              refine g_aloadN d_m8_57 (pc' := 58) rfl rfl rfl ?_
              refine g_iconst d_m8_58 (pc' := 59) rfl (z := 3) rfl ?_
              refine go_caload d_m8_59 Ab (v := (.int y3)) ⟨by decide, by decide⟩ rfl (pc' := 60) rfl ?_
              by_cases e60 : x3 = y3
              · -- e60 holds
                refine g_icmpNo d_m8_60 (pc' := 63) rfl (teq e60).2 ?_
                refine g_iconst d_m8_63 (pc' := 64) rfl (z := 1) rfl ?_
                refine g_goto d_m8_64 (pc' := 68) (by decide) (by decide) ?_
                exact go_ireturn d_m8_68 rfl (Or.inr (Or.inl rfl)) rfl (ws' := []) (fun _ q => q) ⟨by rw [if_pos (take4 hn (fun q => absurd q l0) (fun q => absurd q l1) (fun _ => e46) (fun _ => e60))], rfl, rfl⟩
              · -- e60 does not hold
                refine g_icmpYes d_m8_60 (pc' := 67) (feq e60).2 (by decide) (by decide) ?_
                refine g_iconst d_m8_67 (pc' := 68) rfl (z := 0) rfl ?_
                exact go_ireturn d_m8_68 rfl (Or.inr (Or.inl rfl)) rfl (ws' := []) (fun _ q => q) ⟨by rw [if_neg (ntake4 hn (Or.inr (Or.inr (Or.inr ⟨l3, e60⟩))))], rfl, rfl⟩
          · -- e46 does not hold
            refine g_icmpYes d_m8_46 (pc' := 67) (feq e46).2 (by decide) (by decide) ?_
            refine g_iconst d_m8_67 (pc' := 68) rfl (z := 0) rfl ?_
            exact go_ireturn d_m8_68 rfl (Or.inr (Or.inl rfl)) rfl (ws' := []) (fun _ q => q) ⟨by rw [if_neg (ntake4 hn (Or.inr (Or.inr (Or.inl ⟨l2, e46⟩))))], rfl, rfl⟩
      · -- b23 does not hold
        have l1 : 1 < n := by rcases Nat.lt_or_ge 1 n with q | q; exact q; exact absurd ((o_lt (i := n) (n := 2) (by omega) (by omega)).mpr (by omega)) b23
        refine g_icmpNo d_m8_23 (pc' := 26) rfl (flt b23).1 ?_
        refine g_aloadN d_m8_26 (pc' := 27) rfl rfl rfl ?_
        refine g_iconst d_m8_27 (pc' := 28) rfl (z := 1) rfl ?_
        refine go_caload d_m8_28 A (v := (.int x1)) ⟨by decide, by decide⟩ rfl (pc' := 29) rfl ?_
        refine g_aloadN d_m8_29 (pc' := 30) rfl rfl rfl ?_
        refine g_iconst d_m8_30 (pc' := 31) rfl (z := 1) rfl ?_
        refine go_caload d_m8_31 Ab (v := (.int y1)) ⟨by decide, by decide⟩ rfl (pc' := 32) rfl ?_
        by_cases e32 : x1 = y1
        · -- e32 holds
          refine g_icmpNo d_m8_32 (pc' := 35) rfl (teq e32).2 ?_
          refine g_iloadN d_m8_35 (pc' := 36) rfl rfl ?_
          refine g_iconst d_m8_36 (pc' := 37) rfl (z := 3) rfl ?_
          by_cases b37 : (Int32.ofNat n) < (3 : Int32)
          · -- b37 holds
            have l2 : ¬ 2 < n := fun q => by have := (o_lt (i := n) (n := 3) (by omega) (by omega)).mp b37; omega
            refine g_icmpYes d_m8_37 (pc' := 49) (tlt b37).1 (by decide) (by decide) ?_
            refine g_iloadN d_m8_49 (pc' := 50) rfl rfl ?_
            refine g_iconst d_m8_50 (pc' := 51) rfl (z := 4) rfl ?_
            by_cases b51 : (Int32.ofNat n) < (4 : Int32)
            · -- b51 holds
              have l3 : ¬ 3 < n := fun q => by have := (o_lt (i := n) (n := 4) (by omega) (by omega)).mp b51; omega
              refine g_icmpYes d_m8_51 (pc' := 63) (tlt b51).1 (by decide) (by decide) ?_
              refine g_iconst d_m8_63 (pc' := 64) rfl (z := 1) rfl ?_
              refine g_goto d_m8_64 (pc' := 68) (by decide) (by decide) ?_
              exact go_ireturn d_m8_68 rfl (Or.inr (Or.inl rfl)) rfl (ws' := []) (fun _ q => q) ⟨by rw [if_pos (take4 hn (fun q => absurd q l0) (fun _ => e32) (fun q => absurd q l2) (fun q => absurd q l3))], rfl, rfl⟩
            · -- b51 does not hold
              have l3 : 3 < n := by rcases Nat.lt_or_ge 3 n with q | q; exact q; exact absurd ((o_lt (i := n) (n := 4) (by omega) (by omega)).mpr (by omega)) b51
              refine g_icmpNo d_m8_51 (pc' := 54) rfl (flt b51).1 ?_
              refine g_aloadN d_m8_54 (pc' := 55) rfl rfl rfl ?_
              refine g_iconst d_m8_55 (pc' := 56) rfl (z := 3) rfl ?_
              refine go_caload d_m8_56 A (v := (.int x3)) ⟨by decide, by decide⟩ rfl (pc' := 57) rfl ?_
              refine g_aloadN d_m8_57 (pc' := 58) rfl rfl rfl ?_
              refine g_iconst d_m8_58 (pc' := 59) rfl (z := 3) rfl ?_
              refine go_caload d_m8_59 Ab (v := (.int y3)) ⟨by decide, by decide⟩ rfl (pc' := 60) rfl ?_
              by_cases e60 : x3 = y3
              · -- e60 holds
                refine g_icmpNo d_m8_60 (pc' := 63) rfl (teq e60).2 ?_
                refine g_iconst d_m8_63 (pc' := 64) rfl (z := 1) rfl ?_
                refine g_goto d_m8_64 (pc' := 68) (by decide) (by decide) ?_
                exact go_ireturn d_m8_68 rfl (Or.inr (Or.inl rfl)) rfl (ws' := []) (fun _ q => q) ⟨by rw [if_pos (take4 hn (fun q => absurd q l0) (fun _ => e32) (fun q => absurd q l2) (fun _ => e60))], rfl, rfl⟩
              · -- e60 does not hold
                refine g_icmpYes d_m8_60 (pc' := 67) (feq e60).2 (by decide) (by decide) ?_
                refine g_iconst d_m8_67 (pc' := 68) rfl (z := 0) rfl ?_
                exact go_ireturn d_m8_68 rfl (Or.inr (Or.inl rfl)) rfl (ws' := []) (fun _ q => q) ⟨by rw [if_neg (ntake4 hn (Or.inr (Or.inr (Or.inr ⟨l3, e60⟩))))], rfl, rfl⟩
          · -- b37 does not hold
            have l2 : 2 < n := by rcases Nat.lt_or_ge 2 n with q | q; exact q; exact absurd ((o_lt (i := n) (n := 3) (by omega) (by omega)).mpr (by omega)) b37
            refine g_icmpNo d_m8_37 (pc' := 40) rfl (flt b37).1 ?_
            refine g_aloadN d_m8_40 (pc' := 41) rfl rfl rfl ?_
            refine g_iconst d_m8_41 (pc' := 42) rfl (z := 2) rfl ?_
            refine go_caload d_m8_42 A (v := (.int x2)) ⟨by decide, by decide⟩ rfl (pc' := 43) rfl ?_
            refine g_aloadN d_m8_43 (pc' := 44) rfl rfl rfl ?_
            refine g_iconst d_m8_44 (pc' := 45) rfl (z := 2) rfl ?_
            refine go_caload d_m8_45 Ab (v := (.int y2)) ⟨by decide, by decide⟩ rfl (pc' := 46) rfl ?_
            by_cases e46 : x2 = y2
            · -- e46 holds
              refine g_icmpNo d_m8_46 (pc' := 49) rfl (teq e46).2 ?_
              refine g_iloadN d_m8_49 (pc' := 50) rfl rfl ?_
              refine g_iconst d_m8_50 (pc' := 51) rfl (z := 4) rfl ?_
              by_cases b51 : (Int32.ofNat n) < (4 : Int32)
              · -- b51 holds
                have l3 : ¬ 3 < n := fun q => by have := (o_lt (i := n) (n := 4) (by omega) (by omega)).mp b51; omega
                refine g_icmpYes d_m8_51 (pc' := 63) (tlt b51).1 (by decide) (by decide) ?_
                refine g_iconst d_m8_63 (pc' := 64) rfl (z := 1) rfl ?_
                refine g_goto d_m8_64 (pc' := 68) (by decide) (by decide) ?_
                exact go_ireturn d_m8_68 rfl (Or.inr (Or.inl rfl)) rfl (ws' := []) (fun _ q => q) ⟨by rw [if_pos (take4 hn (fun q => absurd q l0) (fun _ => e32) (fun _ => e46) (fun q => absurd q l3))], rfl, rfl⟩
              · -- b51 does not hold
                have l3 : 3 < n := by rcases Nat.lt_or_ge 3 n with q | q; exact q; exact absurd ((o_lt (i := n) (n := 4) (by omega) (by omega)).mpr (by omega)) b51
                refine g_icmpNo d_m8_51 (pc' := 54) rfl (flt b51).1 ?_
                refine g_aloadN d_m8_54 (pc' := 55) rfl rfl rfl ?_
                refine g_iconst d_m8_55 (pc' := 56) rfl (z := 3) rfl ?_
                refine go_caload d_m8_56 A (v := (.int x3)) ⟨by decide, by decide⟩ rfl (pc' := 57) rfl ?_
                refine g_aloadN d_m8_57 (pc' := 58) rfl rfl rfl ?_
                refine g_iconst d_m8_58 (pc' := 59) rfl (z := 3) rfl ?_
                refine go_caload d_m8_59 Ab (v := (.int y3)) ⟨by decide, by decide⟩ rfl (pc' := 60) rfl ?_
                by_cases e60 : x3 = y3
                · -- e60 holds
                  refine g_icmpNo d_m8_60 (pc' := 63) rfl (teq e60).2 ?_
                  refine g_iconst d_m8_63 (pc' := 64) rfl (z := 1) rfl ?_
                  refine g_goto d_m8_64 (pc' := 68) (by decide) (by decide) ?_
                  exact go_ireturn d_m8_68 rfl (Or.inr (Or.inl rfl)) rfl (ws' := []) (fun _ q => q) ⟨by rw [if_pos (take4 hn (fun q => absurd q l0) (fun _ => e32) (fun _ => e46) (fun _ => e60))], rfl, rfl⟩
                · -- e60 does not hold
                  refine g_icmpYes d_m8_60 (pc' := 67) (feq e60).2 (by decide) (by decide) ?_
                  refine g_iconst d_m8_67 (pc' := 68) rfl (z := 0) rfl ?_
                  exact go_ireturn d_m8_68 rfl (Or.inr (Or.inl rfl)) rfl (ws' := []) (fun _ q => q) ⟨by rw [if_neg (ntake4 hn (Or.inr (Or.inr (Or.inr ⟨l3, e60⟩))))], rfl, rfl⟩
            · -- e46 does not hold
              refine g_icmpYes d_m8_46 (pc' := 67) (feq e46).2 (by decide) (by decide) ?_
              refine g_iconst d_m8_67 (pc' := 68) rfl (z := 0) rfl ?_
              exact go_ireturn d_m8_68 rfl (Or.inr (Or.inl rfl)) rfl (ws' := []) (fun _ q => q) ⟨by rw [if_neg (ntake4 hn (Or.inr (Or.inr (Or.inl ⟨l2, e46⟩))))], rfl, rfl⟩
        · -- e32 does not hold
          refine g_icmpYes d_m8_32 (pc' := 67) (feq e32).2 (by decide) (by decide) ?_
          refine g_iconst d_m8_67 (pc' := 68) rfl (z := 0) rfl ?_
          exact go_ireturn d_m8_68 rfl (Or.inr (Or.inl rfl)) rfl (ws' := []) (fun _ q => q) ⟨by rw [if_neg (ntake4 hn (Or.inr (Or.inl ⟨l1, e32⟩)))], rfl, rfl⟩
    · -- b9 does not hold
      have l0 : 0 < n := by rcases Nat.lt_or_ge 0 n with q | q; exact q; exact absurd ((o_lt (i := n) (n := 1) (by omega) (by omega)).mpr (by omega)) b9
      refine g_icmpNo d_m8_9 (pc' := 12) rfl (flt b9).1 ?_
      refine g_aloadN d_m8_12 (pc' := 13) rfl rfl rfl ?_
      refine g_iconst d_m8_13 (pc' := 14) rfl (z := 0) rfl ?_
      refine go_caload d_m8_14 A (v := (.int x0)) ⟨by decide, by decide⟩ rfl (pc' := 15) rfl ?_
      refine g_aloadN d_m8_15 (pc' := 16) rfl rfl rfl ?_
      refine g_iconst d_m8_16 (pc' := 17) rfl (z := 0) rfl ?_
      refine go_caload d_m8_17 Ab (v := (.int y0)) ⟨by decide, by decide⟩ rfl (pc' := 18) rfl ?_
      by_cases e18 : x0 = y0
      · -- e18 holds
        refine g_icmpNo d_m8_18 (pc' := 21) rfl (teq e18).2 ?_
        refine g_iloadN d_m8_21 (pc' := 22) rfl rfl ?_
        refine g_iconst d_m8_22 (pc' := 23) rfl (z := 2) rfl ?_
        by_cases b23 : (Int32.ofNat n) < (2 : Int32)
        · -- b23 holds
          have l1 : ¬ 1 < n := fun q => by have := (o_lt (i := n) (n := 2) (by omega) (by omega)).mp b23; omega
          refine g_icmpYes d_m8_23 (pc' := 35) (tlt b23).1 (by decide) (by decide) ?_
          refine g_iloadN d_m8_35 (pc' := 36) rfl rfl ?_
          refine g_iconst d_m8_36 (pc' := 37) rfl (z := 3) rfl ?_
          by_cases b37 : (Int32.ofNat n) < (3 : Int32)
          · -- b37 holds
            have l2 : ¬ 2 < n := fun q => by have := (o_lt (i := n) (n := 3) (by omega) (by omega)).mp b37; omega
            refine g_icmpYes d_m8_37 (pc' := 49) (tlt b37).1 (by decide) (by decide) ?_
            refine g_iloadN d_m8_49 (pc' := 50) rfl rfl ?_
            refine g_iconst d_m8_50 (pc' := 51) rfl (z := 4) rfl ?_
            by_cases b51 : (Int32.ofNat n) < (4 : Int32)
            · -- b51 holds
              have l3 : ¬ 3 < n := fun q => by have := (o_lt (i := n) (n := 4) (by omega) (by omega)).mp b51; omega
              refine g_icmpYes d_m8_51 (pc' := 63) (tlt b51).1 (by decide) (by decide) ?_
              refine g_iconst d_m8_63 (pc' := 64) rfl (z := 1) rfl ?_
              refine g_goto d_m8_64 (pc' := 68) (by decide) (by decide) ?_
              exact go_ireturn d_m8_68 rfl (Or.inr (Or.inl rfl)) rfl (ws' := []) (fun _ q => q) ⟨by rw [if_pos (take4 hn (fun _ => e18) (fun q => absurd q l1) (fun q => absurd q l2) (fun q => absurd q l3))], rfl, rfl⟩
            · -- b51 does not hold
              have l3 : 3 < n := by rcases Nat.lt_or_ge 3 n with q | q; exact q; exact absurd ((o_lt (i := n) (n := 4) (by omega) (by omega)).mpr (by omega)) b51
              refine g_icmpNo d_m8_51 (pc' := 54) rfl (flt b51).1 ?_
              refine g_aloadN d_m8_54 (pc' := 55) rfl rfl rfl ?_
              refine g_iconst d_m8_55 (pc' := 56) rfl (z := 3) rfl ?_
              refine go_caload d_m8_56 A (v := (.int x3)) ⟨by decide, by decide⟩ rfl (pc' := 57) rfl ?_
              refine g_aloadN d_m8_57 (pc' := 58) rfl rfl rfl ?_
              refine g_iconst d_m8_58 (pc' := 59) rfl (z := 3) rfl ?_
              refine go_caload d_m8_59 Ab (v := (.int y3)) ⟨by decide, by decide⟩ rfl (pc' := 60) rfl ?_
              by_cases e60 : x3 = y3
              · -- e60 holds
                refine g_icmpNo d_m8_60 (pc' := 63) rfl (teq e60).2 ?_
                refine g_iconst d_m8_63 (pc' := 64) rfl (z := 1) rfl ?_
                refine g_goto d_m8_64 (pc' := 68) (by decide) (by decide) ?_
                exact go_ireturn d_m8_68 rfl (Or.inr (Or.inl rfl)) rfl (ws' := []) (fun _ q => q) ⟨by rw [if_pos (take4 hn (fun _ => e18) (fun q => absurd q l1) (fun q => absurd q l2) (fun _ => e60))], rfl, rfl⟩
              · -- e60 does not hold
                refine g_icmpYes d_m8_60 (pc' := 67) (feq e60).2 (by decide) (by decide) ?_
                refine g_iconst d_m8_67 (pc' := 68) rfl (z := 0) rfl ?_
                exact go_ireturn d_m8_68 rfl (Or.inr (Or.inl rfl)) rfl (ws' := []) (fun _ q => q) ⟨by rw [if_neg (ntake4 hn (Or.inr (Or.inr (Or.inr ⟨l3, e60⟩))))], rfl, rfl⟩
          · -- b37 does not hold
            have l2 : 2 < n := by rcases Nat.lt_or_ge 2 n with q | q; exact q; exact absurd ((o_lt (i := n) (n := 3) (by omega) (by omega)).mpr (by omega)) b37
            refine g_icmpNo d_m8_37 (pc' := 40) rfl (flt b37).1 ?_
            refine g_aloadN d_m8_40 (pc' := 41) rfl rfl rfl ?_
            refine g_iconst d_m8_41 (pc' := 42) rfl (z := 2) rfl ?_
            refine go_caload d_m8_42 A (v := (.int x2)) ⟨by decide, by decide⟩ rfl (pc' := 43) rfl ?_
            refine g_aloadN d_m8_43 (pc' := 44) rfl rfl rfl ?_
            refine g_iconst d_m8_44 (pc' := 45) rfl (z := 2) rfl ?_
            refine go_caload d_m8_45 Ab (v := (.int y2)) ⟨by decide, by decide⟩ rfl (pc' := 46) rfl ?_
            by_cases e46 : x2 = y2
            · -- e46 holds
              refine g_icmpNo d_m8_46 (pc' := 49) rfl (teq e46).2 ?_
              refine g_iloadN d_m8_49 (pc' := 50) rfl rfl ?_
              refine g_iconst d_m8_50 (pc' := 51) rfl (z := 4) rfl ?_
              by_cases b51 : (Int32.ofNat n) < (4 : Int32)
              · -- b51 holds
                have l3 : ¬ 3 < n := fun q => by have := (o_lt (i := n) (n := 4) (by omega) (by omega)).mp b51; omega
                refine g_icmpYes d_m8_51 (pc' := 63) (tlt b51).1 (by decide) (by decide) ?_
                refine g_iconst d_m8_63 (pc' := 64) rfl (z := 1) rfl ?_
                refine g_goto d_m8_64 (pc' := 68) (by decide) (by decide) ?_
                exact go_ireturn d_m8_68 rfl (Or.inr (Or.inl rfl)) rfl (ws' := []) (fun _ q => q) ⟨by rw [if_pos (take4 hn (fun _ => e18) (fun q => absurd q l1) (fun _ => e46) (fun q => absurd q l3))], rfl, rfl⟩
              · -- b51 does not hold
                have l3 : 3 < n := by rcases Nat.lt_or_ge 3 n with q | q; exact q; exact absurd ((o_lt (i := n) (n := 4) (by omega) (by omega)).mpr (by omega)) b51
                refine g_icmpNo d_m8_51 (pc' := 54) rfl (flt b51).1 ?_
                refine g_aloadN d_m8_54 (pc' := 55) rfl rfl rfl ?_
                refine g_iconst d_m8_55 (pc' := 56) rfl (z := 3) rfl ?_
                refine go_caload d_m8_56 A (v := (.int x3)) ⟨by decide, by decide⟩ rfl (pc' := 57) rfl ?_
                refine g_aloadN d_m8_57 (pc' := 58) rfl rfl rfl ?_
                refine g_iconst d_m8_58 (pc' := 59) rfl (z := 3) rfl ?_
                refine go_caload d_m8_59 Ab (v := (.int y3)) ⟨by decide, by decide⟩ rfl (pc' := 60) rfl ?_
                by_cases e60 : x3 = y3
                · -- e60 holds
                  refine g_icmpNo d_m8_60 (pc' := 63) rfl (teq e60).2 ?_
                  refine g_iconst d_m8_63 (pc' := 64) rfl (z := 1) rfl ?_
                  refine g_goto d_m8_64 (pc' := 68) (by decide) (by decide) ?_
                  exact go_ireturn d_m8_68 rfl (Or.inr (Or.inl rfl)) rfl (ws' := []) (fun _ q => q) ⟨by rw [if_pos (take4 hn (fun _ => e18) (fun q => absurd q l1) (fun _ => e46) (fun _ => e60))], rfl, rfl⟩
                · -- e60 does not hold
                  refine g_icmpYes d_m8_60 (pc' := 67) (feq e60).2 (by decide) (by decide) ?_
                  refine g_iconst d_m8_67 (pc' := 68) rfl (z := 0) rfl ?_
                  exact go_ireturn d_m8_68 rfl (Or.inr (Or.inl rfl)) rfl (ws' := []) (fun _ q => q) ⟨by rw [if_neg (ntake4 hn (Or.inr (Or.inr (Or.inr ⟨l3, e60⟩))))], rfl, rfl⟩
            · -- e46 does not hold
              refine g_icmpYes d_m8_46 (pc' := 67) (feq e46).2 (by decide) (by decide) ?_
              refine g_iconst d_m8_67 (pc' := 68) rfl (z := 0) rfl ?_
              exact go_ireturn d_m8_68 rfl (Or.inr (Or.inl rfl)) rfl (ws' := []) (fun _ q => q) ⟨by rw [if_neg (ntake4 hn (Or.inr (Or.inr (Or.inl ⟨l2, e46⟩))))], rfl, rfl⟩
        · -- b23 does not hold
          have l1 : 1 < n := by rcases Nat.lt_or_ge 1 n with q | q; exact q; exact absurd ((o_lt (i := n) (n := 2) (by omega) (by omega)).mpr (by omega)) b23
          refine g_icmpNo d_m8_23 (pc' := 26) rfl (flt b23).1 ?_
          refine g_aloadN d_m8_26 (pc' := 27) rfl rfl rfl ?_
          refine g_iconst d_m8_27 (pc' := 28) rfl (z := 1) rfl ?_
          refine go_caload d_m8_28 A (v := (.int x1)) ⟨by decide, by decide⟩ rfl (pc' := 29) rfl ?_
          refine g_aloadN d_m8_29 (pc' := 30) rfl rfl rfl ?_
          refine g_iconst d_m8_30 (pc' := 31) rfl (z := 1) rfl ?_
          refine go_caload d_m8_31 Ab (v := (.int y1)) ⟨by decide, by decide⟩ rfl (pc' := 32) rfl ?_
          by_cases e32 : x1 = y1
          · -- e32 holds
            refine g_icmpNo d_m8_32 (pc' := 35) rfl (teq e32).2 ?_
            refine g_iloadN d_m8_35 (pc' := 36) rfl rfl ?_
            refine g_iconst d_m8_36 (pc' := 37) rfl (z := 3) rfl ?_
            by_cases b37 : (Int32.ofNat n) < (3 : Int32)
            · -- b37 holds
              have l2 : ¬ 2 < n := fun q => by have := (o_lt (i := n) (n := 3) (by omega) (by omega)).mp b37; omega
              refine g_icmpYes d_m8_37 (pc' := 49) (tlt b37).1 (by decide) (by decide) ?_
              refine g_iloadN d_m8_49 (pc' := 50) rfl rfl ?_
              refine g_iconst d_m8_50 (pc' := 51) rfl (z := 4) rfl ?_
              by_cases b51 : (Int32.ofNat n) < (4 : Int32)
              · -- b51 holds
                have l3 : ¬ 3 < n := fun q => by have := (o_lt (i := n) (n := 4) (by omega) (by omega)).mp b51; omega
                refine g_icmpYes d_m8_51 (pc' := 63) (tlt b51).1 (by decide) (by decide) ?_
                refine g_iconst d_m8_63 (pc' := 64) rfl (z := 1) rfl ?_
                refine g_goto d_m8_64 (pc' := 68) (by decide) (by decide) ?_
                exact go_ireturn d_m8_68 rfl (Or.inr (Or.inl rfl)) rfl (ws' := []) (fun _ q => q) ⟨by rw [if_pos (take4 hn (fun _ => e18) (fun _ => e32) (fun q => absurd q l2) (fun q => absurd q l3))], rfl, rfl⟩
              · -- b51 does not hold
                have l3 : 3 < n := by rcases Nat.lt_or_ge 3 n with q | q; exact q; exact absurd ((o_lt (i := n) (n := 4) (by omega) (by omega)).mpr (by omega)) b51
                refine g_icmpNo d_m8_51 (pc' := 54) rfl (flt b51).1 ?_
                refine g_aloadN d_m8_54 (pc' := 55) rfl rfl rfl ?_
                refine g_iconst d_m8_55 (pc' := 56) rfl (z := 3) rfl ?_
                refine go_caload d_m8_56 A (v := (.int x3)) ⟨by decide, by decide⟩ rfl (pc' := 57) rfl ?_
                refine g_aloadN d_m8_57 (pc' := 58) rfl rfl rfl ?_
                refine g_iconst d_m8_58 (pc' := 59) rfl (z := 3) rfl ?_
                refine go_caload d_m8_59 Ab (v := (.int y3)) ⟨by decide, by decide⟩ rfl (pc' := 60) rfl ?_
                by_cases e60 : x3 = y3
                · -- e60 holds
                  refine g_icmpNo d_m8_60 (pc' := 63) rfl (teq e60).2 ?_
                  refine g_iconst d_m8_63 (pc' := 64) rfl (z := 1) rfl ?_
                  refine g_goto d_m8_64 (pc' := 68) (by decide) (by decide) ?_
                  exact go_ireturn d_m8_68 rfl (Or.inr (Or.inl rfl)) rfl (ws' := []) (fun _ q => q) ⟨by rw [if_pos (take4 hn (fun _ => e18) (fun _ => e32) (fun q => absurd q l2) (fun _ => e60))], rfl, rfl⟩
                · -- e60 does not hold
                  refine g_icmpYes d_m8_60 (pc' := 67) (feq e60).2 (by decide) (by decide) ?_
                  refine g_iconst d_m8_67 (pc' := 68) rfl (z := 0) rfl ?_
                  exact go_ireturn d_m8_68 rfl (Or.inr (Or.inl rfl)) rfl (ws' := []) (fun _ q => q) ⟨by rw [if_neg (ntake4 hn (Or.inr (Or.inr (Or.inr ⟨l3, e60⟩))))], rfl, rfl⟩
            · -- b37 does not hold
              have l2 : 2 < n := by rcases Nat.lt_or_ge 2 n with q | q; exact q; exact absurd ((o_lt (i := n) (n := 3) (by omega) (by omega)).mpr (by omega)) b37
              refine g_icmpNo d_m8_37 (pc' := 40) rfl (flt b37).1 ?_
              refine g_aloadN d_m8_40 (pc' := 41) rfl rfl rfl ?_
              refine g_iconst d_m8_41 (pc' := 42) rfl (z := 2) rfl ?_
              refine go_caload d_m8_42 A (v := (.int x2)) ⟨by decide, by decide⟩ rfl (pc' := 43) rfl ?_
              refine g_aloadN d_m8_43 (pc' := 44) rfl rfl rfl ?_
              refine g_iconst d_m8_44 (pc' := 45) rfl (z := 2) rfl ?_
              refine go_caload d_m8_45 Ab (v := (.int y2)) ⟨by decide, by decide⟩ rfl (pc' := 46) rfl ?_
              by_cases e46 : x2 = y2
              · -- e46 holds
                refine g_icmpNo d_m8_46 (pc' := 49) rfl (teq e46).2 ?_
                refine g_iloadN d_m8_49 (pc' := 50) rfl rfl ?_
                refine g_iconst d_m8_50 (pc' := 51) rfl (z := 4) rfl ?_
                by_cases b51 : (Int32.ofNat n) < (4 : Int32)
                · -- b51 holds
                  have l3 : ¬ 3 < n := fun q => by have := (o_lt (i := n) (n := 4) (by omega) (by omega)).mp b51; omega
                  refine g_icmpYes d_m8_51 (pc' := 63) (tlt b51).1 (by decide) (by decide) ?_
                  refine g_iconst d_m8_63 (pc' := 64) rfl (z := 1) rfl ?_
                  refine g_goto d_m8_64 (pc' := 68) (by decide) (by decide) ?_
                  exact go_ireturn d_m8_68 rfl (Or.inr (Or.inl rfl)) rfl (ws' := []) (fun _ q => q) ⟨by rw [if_pos (take4 hn (fun _ => e18) (fun _ => e32) (fun _ => e46) (fun q => absurd q l3))], rfl, rfl⟩
                · -- b51 does not hold
                  have l3 : 3 < n := by rcases Nat.lt_or_ge 3 n with q | q; exact q; exact absurd ((o_lt (i := n) (n := 4) (by omega) (by omega)).mpr (by omega)) b51
                  refine g_icmpNo d_m8_51 (pc' := 54) rfl (flt b51).1 ?_
                  refine g_aloadN d_m8_54 (pc' := 55) rfl rfl rfl ?_
                  refine g_iconst d_m8_55 (pc' := 56) rfl (z := 3) rfl ?_
                  refine go_caload d_m8_56 A (v := (.int x3)) ⟨by decide, by decide⟩ rfl (pc' := 57) rfl ?_
                  refine g_aloadN d_m8_57 (pc' := 58) rfl rfl rfl ?_
                  refine g_iconst d_m8_58 (pc' := 59) rfl (z := 3) rfl ?_
                  refine go_caload d_m8_59 Ab (v := (.int y3)) ⟨by decide, by decide⟩ rfl (pc' := 60) rfl ?_
                  by_cases e60 : x3 = y3
                  · -- e60 holds
                    refine g_icmpNo d_m8_60 (pc' := 63) rfl (teq e60).2 ?_
                    refine g_iconst d_m8_63 (pc' := 64) rfl (z := 1) rfl ?_
                    refine g_goto d_m8_64 (pc' := 68) (by decide) (by decide) ?_
                    exact go_ireturn d_m8_68 rfl (Or.inr (Or.inl rfl)) rfl (ws' := []) (fun _ q => q) ⟨by rw [if_pos (take4 hn (fun _ => e18) (fun _ => e32) (fun _ => e46) (fun _ => e60))], rfl, rfl⟩
                  · -- e60 does not hold
                    refine g_icmpYes d_m8_60 (pc' := 67) (feq e60).2 (by decide) (by decide) ?_
                    refine g_iconst d_m8_67 (pc' := 68) rfl (z := 0) rfl ?_
                    exact go_ireturn d_m8_68 rfl (Or.inr (Or.inl rfl)) rfl (ws' := []) (fun _ q => q) ⟨by rw [if_neg (ntake4 hn (Or.inr (Or.inr (Or.inr ⟨l3, e60⟩))))], rfl, rfl⟩
              · -- e46 does not hold
                refine g_icmpYes d_m8_46 (pc' := 67) (feq e46).2 (by decide) (by decide) ?_
                refine g_iconst d_m8_67 (pc' := 68) rfl (z := 0) rfl ?_
                exact go_ireturn d_m8_68 rfl (Or.inr (Or.inl rfl)) rfl (ws' := []) (fun _ q => q) ⟨by rw [if_neg (ntake4 hn (Or.inr (Or.inr (Or.inl ⟨l2, e46⟩))))], rfl, rfl⟩
          · -- e32 does not hold
            refine g_icmpYes d_m8_32 (pc' := 67) (feq e32).2 (by decide) (by decide) ?_
            refine g_iconst d_m8_67 (pc' := 68) rfl (z := 0) rfl ?_
            exact go_ireturn d_m8_68 rfl (Or.inr (Or.inl rfl)) rfl (ws' := []) (fun _ q => q) ⟨by rw [if_neg (ntake4 hn (Or.inr (Or.inl ⟨l1, e32⟩)))], rfl, rfl⟩
      · -- e18 does not hold
        refine g_icmpYes d_m8_18 (pc' := 67) (feq e18).2 (by decide) (by decide) ?_
        refine g_iconst d_m8_67 (pc' := 68) rfl (z := 0) rfl ?_
        exact go_ireturn d_m8_68 rfl (Or.inr (Or.inl rfl)) rfl (ws' := []) (fun _ q => q) ⟨by rw [if_neg (ntake4 hn (Or.inl ⟨l0, e18⟩))], rfl, rfl⟩
  · -- h2 does not hold
    refine g_icmpNo d_m8_2 (pc' := 5) rfl (feq h2).1 ?_
    refine g_iconst d_m8_5 (pc' := 6) rfl (z := 0) rfl ?_
    exact go_ireturn d_m8_6 rfl (Or.inr (Or.inl rfl)) rfl (ws' := []) (fun _ q => q) ⟨by rw [if_neg (ltake4 rfl rfl hn hm (fun q => h2 (by rw [q])))], rfl, rfl⟩
set_option maxRecDepth 65536 in
set_option maxHeartbeats 40000000 in
theorem rm_fits {l : Launch} {Z : State} {a0 : Array Value} (hw : ∀ d ∈ tables_1, d.before a0 Z = true) (cs ds : List Int32) (at_ nl a b a2 b2 : Addr) (r co : Int32) (fm : Value) (h0 : Heap) (hN : cs.length ≤ 16) (hM : ds.length ≤ 16) (hB : Byt cs) (hD : Byt ds) (L : LatB Z h0 a b cs) (M : LatB Z h0 a2 b2 ds) (hr : Ix ds 95 r) (Snl : Sta Z Z.heap "com/example/plugwright/plugwright/platform/Attribute" "NL" "Lcom/example/plugwright/plugwright/platform/Attribute;" (.ref nl)) (Sc : Sta Z Z.heap "java/lang/String" "COMPACT_STRINGS" "Z" (.int co)) (hco : ¬ co = 0) (Sf : Sta Z Z.heap "jdk/internal/util/Preconditions" "SIOOBE_FORMATTER" "Ljava/util/function/BiFunction;" fm) (hfm : fm.isRef = true) :
    Con l Z EL ⟨"com/example/plugwright/plugwright/platform/Attribute", "fits", "(Ljava/lang/String;Ljava/lang/String;)Z"⟩ prog_32_method_4_code 4 (some .boolean) [] { frames := 5, cells := 2, slots := 20, locals := 103 } #[(.ref at_), (.ref a), (.ref a2)] h0 [] (fun v h ws => ∃ z, v = some (.int z) ∧ ((z = 1 ∧ (cs = ds ∨ (at_ = nl ∧ (0 : Int32) < r ∧ cs = ds.take r.toNatClampNeg))) ∨ (z = 0 ∧ ¬ cs = ds ∧ ¬ (at_ = nl ∧ (0 : Int32) < r ∧ cs = ds.take r.toNatClampNeg)))) := by
  refine con_of (a0 := a0) (Ls := #[.val (.ref at_), .val (.ref a), .val (.ref a2), .unset]) (plainFor_of_name pn6) (eW hw) (fun m => by first | (simp [entryFrame, mkF, argsToLocals, Value.category]; done) | rfl) ?_
  intro p e s m below meth c
  refine g_aloadN d_prog_32_m4_0 (pc' := 1) rfl rfl rfl ?_
  refine g_aloadN d_prog_32_m4_1 (pc' := 2) rfl rfl rfl ?_
  refine go_virtual d_prog_32_m4_2 (rm_equals hw cs ds a _ a2 _ co h0 (by omega) (by omega) hB hD L M Sc hco) (fun _ q => q) L.1 (w51 hw) (w52 hw) (w54 hw) (nf_sel (w54 hw)) (w53 hw) (w21 hw) (w55 hw) (by decide) (argsL := [(.ref a2)]) (rest := []) (lenOf pd18 rfl) rfl rfl rfl (W := 0) (Nat.le_of_ble_eq_true rfl) (by decide) (by decide) (by decide) (by decide) (pc' := 5) rfl ?_
  rintro _ _ _ ⟨rfl, rfl, rfl⟩ z297
  show Go _ _ _ _ _ _ _ _ _ _ _ _ _ _ _ _ _ _ _ _ _ _ _ _ [(.int (if cs = ds then 1 else 0))] _
  by_cases e1 : cs = ds
  · -- True
    rw [if_pos e1]
    refine g_ifNo d_prog_32_m4_5 (pc' := 8) rfl (feq (by decide : ¬ ((1 : Int32) = (0 : Int32)))).1 ?_
    refine g_iconst d_prog_32_m4_8 (pc' := 9) rfl (z := 1) rfl ?_
    exact go_ireturn d_prog_32_m4_9 rfl (Or.inr (Or.inl rfl)) rfl (ws' := []) (fun _ q => q) ⟨_, rfl, Or.inl ⟨rfl, Or.inl e1⟩⟩
  · -- False
    rw [if_neg e1]
    refine g_ifYes d_prog_32_m4_5 (pc' := 10) (teq (by decide : (0 : Int32) = (0 : Int32))).1 (by decide) (by decide) ?_
    refine g_aloadN d_prog_32_m4_10 (pc' := 11) rfl rfl rfl ?_
    refine g_bipush d_prog_32_m4_11 (pc' := 13) rfl (z := 95) rfl ?_
    refine go_virtual d_prog_32_m4_13 (rm_ixI hw ds 95 a2 b2 co h0 M hD (by omega) ⟨by decide, by decide⟩ Sc hco) (fun _ q => q) M.1 (w72 hw) (w73 hw) (w75 hw) (nf_sel (w75 hw)) (w74 hw) (w21 hw) (w76 hw) (by decide) (argsL := [(.int (95 : Int32))]) (rest := []) (lenOf pd19 rfl) rfl rfl rfl (W := 0) (Nat.le_of_ble_eq_true rfl) (by decide) (by decide) (by decide) (by decide) (pc' := 16) rfl ?_
    rintro _ _ _ ⟨r0, rfl, hix, rfl, rfl⟩ hzi
    obtain rfl := Ix.uniq hr hix
    show Go _ _ _ _ _ _ _ _ _ _ _ _ _ _ _ _ _ _ _ _ _ _ _ _ [(.int r)] _
    refine g_istoreN d_prog_32_m4_16 (pc' := 17) (Ls' := #[.val (.ref at_), .val (.ref a), .val (.ref a2), .val (.int r)]) rfl rfl ?_
    refine g_aloadN d_prog_32_m4_17 (pc' := 18) rfl rfl rfl ?_
    refine go_getstatic d_prog_32_m4_18 (w113 hw) Via.refl Snl (pc' := 21) rfl ?_
    by_cases h21 : at_ = nl
    · -- True
      refine g_acmp d_prog_32_m4_21 rfl rfl (same := true) (decide_eq_true (congrArg Value.ref h21)) (by decide) (pc' := 24) rfl ?_
      refine g_iloadN d_prog_32_m4_24 (pc' := 25) rfl rfl ?_
      by_cases h25 : (0 : Int32) < r
      · -- h25 holds
        obtain ⟨j, h0j, hj, rfl⟩ := Ix.pos hr h25 (by omega)
        refine g_ifNo d_prog_32_m4_25 (pc' := 28) rfl (tlt h25).2.2.2 ?_
        refine g_aloadN d_prog_32_m4_28 (pc' := 29) rfl rfl rfl ?_
        refine g_aloadN d_prog_32_m4_29 (pc' := 30) rfl rfl rfl ?_
        refine g_iconst d_prog_32_m4_30 (pc' := 31) rfl (z := 0) rfl ?_
        refine g_iloadN d_prog_32_m4_31 (pc' := 32) rfl rfl ?_
        refine go_virtual d_prog_32_m4_32 (rm_substr hw ds j a2 b2 co fm h0 hM h0j hj M Sc hco Sf hfm) (fun _ q => q) M.1 (w120 hw) (w121 hw) (w123 hw) (nf_sel (w123 hw)) (w122 hw) (w21 hw) (w124 hw) (by decide) (argsL := [(.int (0 : Int32)), (.int (Int32.ofNat j))]) (rest := [(.ref a)]) (lenOf pd20 rfl) rfl rfl rfl (W := 1) (Nat.le_of_ble_eq_true rfl) (by decide) (by decide) (by decide) (by decide) (pc' := 35) rfl ?_
        rintro _ h298 _ ⟨sa, nb, rfl, rfl, hsa, Kc, Ls⟩ hzs
        show Go _ _ _ _ _ _ _ _ _ _ _ _ _ _ _ _ _ _ _ _ _ _ _ _ [(.ref sa), (.ref a)] _
        refine go_virtual d_prog_32_m4_35 (rm_equals hw cs (ds.take j) a _ sa _ co h298 (by omega) (by rw [List.length_take]; omega) hB (Byt.take hD j) (L.keep Kc nin0 nin0) Ls Sc hco) (fun _ q => q) (L.keep Kc nin0 nin0).1 (w51 hw) (w52 hw) (w54 hw) (nf_sel (w54 hw)) (w53 hw) (w21 hw) (w55 hw) (by decide) (argsL := [(.ref sa)]) (rest := []) (lenOf pd18 rfl) rfl rfl rfl (W := 0) (Nat.le_of_ble_eq_true rfl) (by decide) (by decide) (by decide) (by decide) (pc' := 38) rfl ?_
        rintro _ _ _ ⟨rfl, rfl, rfl⟩ z299
        show Go _ _ _ _ _ _ _ _ _ _ _ _ _ _ _ _ _ _ _ _ _ _ _ _ [(.int (if cs = (ds.take j) then 1 else 0))] _
        by_cases e2 : cs = (ds.take j)
        · -- True
          rw [if_pos e2]
          refine g_ifNo d_prog_32_m4_38 (pc' := 41) rfl (feq (by decide : ¬ ((1 : Int32) = (0 : Int32)))).1 ?_
          refine g_iconst d_prog_32_m4_41 (pc' := 42) rfl (z := 1) rfl ?_
          refine g_goto d_prog_32_m4_42 (pc' := 46) (by decide) (by decide) ?_
          exact go_ireturn d_prog_32_m4_46 rfl (Or.inr (Or.inl rfl)) rfl (ws' := []) (fun _ q => q) ⟨_, rfl, Or.inl ⟨rfl, Or.inr ⟨h21, h25, by rw [o_cl (by omega)]; exact e2⟩⟩⟩
        · -- False
          rw [if_neg e2]
          refine g_ifYes d_prog_32_m4_38 (pc' := 45) (teq (by decide : (0 : Int32) = (0 : Int32))).1 (by decide) (by decide) ?_
          refine g_iconst d_prog_32_m4_45 (pc' := 46) rfl (z := 0) rfl ?_
          exact go_ireturn d_prog_32_m4_46 rfl (Or.inr (Or.inl rfl)) rfl (ws' := []) (fun _ q => q) ⟨_, rfl, Or.inr ⟨rfl, e1, fun q => e2 (by have := q.2.2; rw [o_cl (by omega)] at this; exact this)⟩⟩
      · -- h25 does not hold
        refine g_ifYes d_prog_32_m4_25 (pc' := 45) (flt h25).2.2.2 (by decide) (by decide) ?_
        refine g_iconst d_prog_32_m4_45 (pc' := 46) rfl (z := 0) rfl ?_
        exact go_ireturn d_prog_32_m4_46 rfl (Or.inr (Or.inl rfl)) rfl (ws' := []) (fun _ q => q) ⟨_, rfl, Or.inr ⟨rfl, e1, fun q => absurd q.2.1 h25⟩⟩
    · -- False
      refine g_acmp d_prog_32_m4_21 rfl rfl (same := false) (decide_eq_false (fun q => h21 (Value.ref.inj q))) (by decide) (pc' := 45) rfl ?_
      refine g_iconst d_prog_32_m4_45 (pc' := 46) rfl (z := 0) rfl ?_
      exact go_ireturn d_prog_32_m4_46 rfl (Or.inr (Or.inl rfl)) rfl (ws' := []) (fun _ q => q) ⟨_, rfl, Or.inr ⟨rfl, e1, fun q => absurd q.1 h21⟩⟩
set_option maxRecDepth 65536 in
set_option maxHeartbeats 40000000 in
theorem law_con {l : Launch} {Z : State} {a0 : Array Value} (hw : ∀ d ∈ tables_1, d.before a0 Z = true) (sel : Int32) (tc lc : Int64) (co : Int32) (fm : Value) (os wd ar nl : Addr) (h0 : Heap) (Sc : Sta Z Z.heap "java/lang/String" "COMPACT_STRINGS" "Z" (.int co)) (hco : ¬ co = 0) (Sf : Sta Z Z.heap "jdk/internal/util/Preconditions" "SIOOBE_FORMATTER" "Ljava/util/function/BiFunction;" fm) (hfm : fm.isRef = true) (Sos : Sta Z Z.heap "com/example/plugwright/plugwright/platform/Attribute" "OS" "Lcom/example/plugwright/plugwright/platform/Attribute;" (.ref os)) (Swd : Sta Z Z.heap "com/example/plugwright/plugwright/platform/Attribute" "WS" "Lcom/example/plugwright/plugwright/platform/Attribute;" (.ref wd)) (Sar : Sta Z Z.heap "com/example/plugwright/plugwright/platform/Attribute" "ARCH" "Lcom/example/plugwright/plugwright/platform/Attribute;" (.ref ar)) (Snl : Sta Z Z.heap "com/example/plugwright/plugwright/platform/Attribute" "NL" "Lcom/example/plugwright/plugwright/platform/Attribute;" (.ref nl)) (Xos : Exa Z Z.heap os "com/example/plugwright/plugwright/platform/Attribute") (Xwd : Exa Z Z.heap wd "com/example/plugwright/plugwright/platform/Attribute") (Xar : Exa Z Z.heap ar "com/example/plugwright/plugwright/platform/Attribute") (Xnl : Exa Z Z.heap nl "com/example/plugwright/plugwright/platform/Attribute") (ne1 : os ≠ nl) (ne2 : wd ≠ nl) (ne3 : ar ≠ nl) :
    Con l Z EL ⟨"com/example/plugwright/plugwright/platform/AttributeFitsPinLaw", "law", "(IJJ)Z"⟩ code 16 ret tables_1 room_1 #[(.int sel), (.long tc), (.long lc)] h0 [] (fun v h ws => v = some (.int 1)) := by
  refine con_of (a0 := a0) (Ls := #[.val (.int sel), .val (.long tc), .second, .val (.long lc), .second, .unset, .unset, .unset, .unset, .unset, .unset, .unset, .unset, .unset, .unset, .unset]) (plainFor_of_name pn5) (eW hw) (fun m => by first | (simp [entryFrame, mkF, argsToLocals, Value.category, maxLocals]; done) | rfl) ?_
  intro p e s m below meth c
  refine go_old (fun EX => ?_)
  refine g_iloadN at_0 (pc' := 1) rfl rfl ?_
  refine g_iconst at_1 (pc' := 2) rfl (z := 3) rfl ?_
  refine g_iand at_2 (pc' := 3) rfl ?_
  refine g_istore at_3 (pc' := 5) (Ls' := #[.val (.int sel), .val (.long tc), .second, .val (.long lc), .second, .val (.int (sel &&& (3 : Int32))), .unset, .unset, .unset, .unset, .unset, .unset, .unset, .unset, .unset, .unset]) rfl rfl ?_
  refine g_iload at_5 (pc' := 7) rfl rfl ?_
  refine go_static at_7 (rm_pick hw (sel &&& (3 : Int32)) os wd ar nl h0 (c_and sel 3 (by decide)) Sos Swd Sar Snl Xos Xwd Xar Xnl ne1 ne2 ne3) (fun _ q => q) (w0 hw) (w1 hw) (w2 hw) (w3 hw) (by decide) (argsL := [(.int (sel &&& (3 : Int32)))]) (rest := []) (lenOf pd21 rfl) rfl rfl rfl (W := 0) (Nat.le_of_ble_eq_true rfl) (by decide) (by decide) (by decide) (by decide) (pc' := 10) rfl ?_
  rintro _ _ _ ⟨at_, rfl, Xat, hat, rfl, rfl⟩ hzp
  show Go _ _ _ _ _ _ _ _ _ _ _ _ _ _ _ _ _ _ _ _ _ _ _ _ [(.ref at_)] _
  refine g_astore at_10 (pc' := 12) (Ls' := #[.val (.int sel), .val (.long tc), .second, .val (.long lc), .second, .val (.int (sel &&& (3 : Int32))), .val (.ref at_), .unset, .unset, .unset, .unset, .unset, .unset, .unset, .unset, .unset]) rfl rfl rfl ?_
  refine g_iload at_12 (pc' := 14) rfl rfl ?_
  refine g_iconst at_14 (pc' := 15) rfl (z := 3) rfl ?_
  by_cases h15 : (sel &&& (3 : Int32)) = (3 : Int32)
  · -- h15 holds
    have hatnl : at_ = nl := by rcases hat with q | q; exact q.2; exact absurd h15 q.1
    refine g_icmpNo at_15 (pc' := 18) rfl (teq h15).2 ?_
    refine g_iconst at_18 (pc' := 19) rfl (z := 1) rfl ?_
    refine g_goto at_19 (pc' := 23) (by decide) (by decide) ?_
    refine g_istore at_23 (pc' := 25) (Ls' := #[.val (.int sel), .val (.long tc), .second, .val (.long lc), .second, .val (.int (sel &&& (3 : Int32))), .val (.ref at_), .val (.int (1 : Int32)), .unset, .unset, .unset, .unset, .unset, .unset, .unset, .unset]) rfl rfl ?_
    refine g_iloadN at_25 (pc' := 26) rfl rfl ?_
    refine g_iconst at_26 (pc' := 27) rfl (z := 2) rfl ?_
    refine g_iushr at_27 (pc' := 28) rfl ?_
    refine g_bipush at_28 (pc' := 30) rfl (z := 7) rfl ?_
    refine g_iand at_30 (pc' := 31) rfl ?_
    refine g_iconst at_31 (pc' := 32) rfl (z := 5) rfl ?_
    refine g_irem at_32 (pc' := 33) rfl (by decide) ?_
    obtain ⟨tl, htl, etl⟩ := rem_nn (x := ((((sel).toUInt32 >>> (((2 : Int32) &&& 31)).toUInt32).toInt32) &&& (7 : Int32))) 5 (n := 5) (and7 _) (by decide) (by decide) (by decide)
    rw [etl]
    refine g_istore at_33 (pc' := 35) (Ls' := #[.val (.int sel), .val (.long tc), .second, .val (.long lc), .second, .val (.int (sel &&& (3 : Int32))), .val (.ref at_), .val (.int (1 : Int32)), .val (.int (Int32.ofNat tl)), .unset, .unset, .unset, .unset, .unset, .unset, .unset]) rfl rfl ?_
    refine g_iloadN at_35 (pc' := 36) rfl rfl ?_
    refine g_iconst at_36 (pc' := 37) rfl (z := 5) rfl ?_
    refine g_iushr at_37 (pc' := 38) rfl ?_
    refine g_bipush at_38 (pc' := 40) rfl (z := 7) rfl ?_
    refine g_iand at_40 (pc' := 41) rfl ?_
    refine g_iconst at_41 (pc' := 42) rfl (z := 5) rfl ?_
    refine g_irem at_42 (pc' := 43) rfl (by decide) ?_
    obtain ⟨ll, hll, ell⟩ := rem_nn (x := ((((sel).toUInt32 >>> (((5 : Int32) &&& 31)).toUInt32).toInt32) &&& (7 : Int32))) 5 (n := 5) (and7 _) (by decide) (by decide) (by decide)
    rw [ell]
    refine g_istore at_43 (pc' := 45) (Ls' := #[.val (.int sel), .val (.long tc), .second, .val (.long lc), .second, .val (.int (sel &&& (3 : Int32))), .val (.ref at_), .val (.int (1 : Int32)), .val (.int (Int32.ofNat tl)), .val (.int (Int32.ofNat ll)), .unset, .unset, .unset, .unset, .unset, .unset]) rfl rfl ?_
    refine g_iconst at_45 (pc' := 46) rfl (z := 4) rfl ?_
    refine go_newarray at_46 (w7 hw) (by decide) (cap := 4) (by decide) (by decide) (by decide) (by decide) (ad := "[C") rfl (pc' := 48) rfl ?_
    intro h300 a301 k302 g303 E304 A305 X306
    have A307 : Arv Z h300 a301 k302 .char (4 : Int32) [.int 0, .int 0, .int 0, .int 0] (.int 0) := Arv.pad A305 (pad_rep [] (.int 0) 4)
    refine g_astore at_48 (pc' := 50) (Ls' := #[.val (.int sel), .val (.long tc), .second, .val (.long lc), .second, .val (.int (sel &&& (3 : Int32))), .val (.ref at_), .val (.int (1 : Int32)), .val (.int (Int32.ofNat tl)), .val (.int (Int32.ofNat ll)), .val (.ref a301), .unset, .unset, .unset, .unset, .unset]) rfl rfl rfl ?_
    refine g_aload at_50 (pc' := 52) rfl rfl rfl ?_
    refine g_iconst at_52 (pc' := 53) rfl (z := 0) rfl ?_
    refine g_lloadN at_53 (pc' := 54) rfl rfl ?_
    refine g_iconst at_54 (pc' := 55) rfl (z := 0) rfl ?_
    refine go_static at_55 (rm_tch hw tc (0 : Int32) h300) all0 (w8 hw) (w9 hw) (w2 hw) (w10 hw) (by decide) (argsL := [(.long tc), (.int (0 : Int32))]) (rest := [(.int (0 : Int32)), (.ref a301)]) (lenOf pd22 rfl) rfl rfl rfl (W := 2) (Nat.le_of_ble_eq_true rfl) (by decide) (by decide) (by decide) (by decide) (pc' := 58) rfl ?_
    rintro _ _ _ ⟨t0, rfl, ht0, rfl, rfl⟩ hzt0
    show Go _ _ _ _ _ _ _ _ _ _ _ _ _ _ _ _ _ _ _ _ _ _ _ _ [(.int t0), (.int (0 : Int32)), (.ref a301)] _
    refine go_castore 0 at_58 A307 ⟨by decide, by decide⟩ rfl (Nat.le_of_ble_eq_true rfl) (x' := t0) (nar_byt ht0) (List.mem_of_getElem? (i := 0) rfl) (pc' := 59) rfl ?_
    intro h308 W309 A310
    refine g_aload at_59 (pc' := 61) rfl rfl rfl ?_
    refine g_iconst at_61 (pc' := 62) rfl (z := 1) rfl ?_
    refine g_lloadN at_62 (pc' := 63) rfl rfl ?_
    refine g_iconst at_63 (pc' := 64) rfl (z := 1) rfl ?_
    refine go_static at_64 (rm_tch hw tc (1 : Int32) h308) all0 (w8 hw) (w9 hw) (w2 hw) (w10 hw) (by decide) (argsL := [(.long tc), (.int (1 : Int32))]) (rest := [(.int (1 : Int32)), (.ref a301)]) (lenOf pd22 rfl) rfl rfl rfl (W := 2) (Nat.le_of_ble_eq_true rfl) (by decide) (by decide) (by decide) (by decide) (pc' := 67) rfl ?_
    rintro _ _ _ ⟨t1, rfl, ht1, rfl, rfl⟩ hzt1
    show Go _ _ _ _ _ _ _ _ _ _ _ _ _ _ _ _ _ _ _ _ _ _ _ _ [(.int t1), (.int (1 : Int32)), (.ref a301)] _
    refine go_castore 1 at_67 A310 ⟨by decide, by decide⟩ rfl (Nat.le_of_ble_eq_true rfl) (x' := t1) (nar_byt ht1) (List.mem_of_getElem? (i := 0) rfl) (pc' := 68) rfl ?_
    intro h311 W312 A313
    refine g_aload at_68 (pc' := 70) rfl rfl rfl ?_
    refine g_iconst at_70 (pc' := 71) rfl (z := 2) rfl ?_
    refine g_lloadN at_71 (pc' := 72) rfl rfl ?_
    refine g_iconst at_72 (pc' := 73) rfl (z := 2) rfl ?_
    refine go_static at_73 (rm_tch hw tc (2 : Int32) h311) all0 (w8 hw) (w9 hw) (w2 hw) (w10 hw) (by decide) (argsL := [(.long tc), (.int (2 : Int32))]) (rest := [(.int (2 : Int32)), (.ref a301)]) (lenOf pd22 rfl) rfl rfl rfl (W := 2) (Nat.le_of_ble_eq_true rfl) (by decide) (by decide) (by decide) (by decide) (pc' := 76) rfl ?_
    rintro _ _ _ ⟨t2, rfl, ht2, rfl, rfl⟩ hzt2
    show Go _ _ _ _ _ _ _ _ _ _ _ _ _ _ _ _ _ _ _ _ _ _ _ _ [(.int t2), (.int (2 : Int32)), (.ref a301)] _
    refine go_castore 2 at_76 A313 ⟨by decide, by decide⟩ rfl (Nat.le_of_ble_eq_true rfl) (x' := t2) (nar_byt ht2) (List.mem_of_getElem? (i := 0) rfl) (pc' := 77) rfl ?_
    intro h314 W315 A316
    refine g_aload at_77 (pc' := 79) rfl rfl rfl ?_
    refine g_iconst at_79 (pc' := 80) rfl (z := 3) rfl ?_
    refine g_lloadN at_80 (pc' := 81) rfl rfl ?_
    refine g_iconst at_81 (pc' := 82) rfl (z := 3) rfl ?_
    refine go_static at_82 (rm_tch hw tc (3 : Int32) h314) all0 (w8 hw) (w9 hw) (w2 hw) (w10 hw) (by decide) (argsL := [(.long tc), (.int (3 : Int32))]) (rest := [(.int (3 : Int32)), (.ref a301)]) (lenOf pd22 rfl) rfl rfl rfl (W := 2) (Nat.le_of_ble_eq_true rfl) (by decide) (by decide) (by decide) (by decide) (pc' := 85) rfl ?_
    rintro _ _ _ ⟨t3, rfl, ht3, rfl, rfl⟩ hzt3
    show Go _ _ _ _ _ _ _ _ _ _ _ _ _ _ _ _ _ _ _ _ _ _ _ _ [(.int t3), (.int (3 : Int32)), (.ref a301)] _
    refine go_castore 3 at_85 A316 ⟨by decide, by decide⟩ rfl (Nat.le_of_ble_eq_true rfl) (x' := t3) (nar_byt ht3) (List.mem_of_getElem? (i := 0) rfl) (pc' := 86) rfl ?_
    intro h317 W318 A319
    refine g_iconst at_86 (pc' := 87) rfl (z := 4) rfl ?_
    refine go_newarray at_87 (w7 hw) (by decide) (cap := 4) (by decide) (by decide) (by decide) (by decide) (ad := "[C") rfl (pc' := 89) rfl ?_
    intro h320 a321 k322 g323 E324 A325 X326
    have A327 : Arv Z h320 a321 k322 .char (4 : Int32) [.int 0, .int 0, .int 0, .int 0] (.int 0) := Arv.pad A325 (pad_rep [] (.int 0) 4)
    refine g_astore at_89 (pc' := 91) (Ls' := #[.val (.int sel), .val (.long tc), .second, .val (.long lc), .second, .val (.int (sel &&& (3 : Int32))), .val (.ref at_), .val (.int (1 : Int32)), .val (.int (Int32.ofNat tl)), .val (.int (Int32.ofNat ll)), .val (.ref a301), .val (.ref a321), .unset, .unset, .unset, .unset]) rfl rfl rfl ?_
    refine g_aload at_91 (pc' := 93) rfl rfl rfl ?_
    refine g_iconst at_93 (pc' := 94) rfl (z := 0) rfl ?_
    refine g_lloadN at_94 (pc' := 95) rfl rfl ?_
    refine g_iconst at_95 (pc' := 96) rfl (z := 0) rfl ?_
    refine g_aload at_96 (pc' := 98) rfl rfl rfl ?_
    refine g_iconst at_98 (pc' := 99) rfl (z := 0) rfl ?_
    refine go_caload at_99 (A319.ext E324) (v := (.int t0)) ⟨by decide, by decide⟩ rfl (pc' := 100) rfl ?_
    refine go_static at_100 (rm_lch hw lc (0 : Int32) t0 h320 ht0) all0 (w12 hw) (w13 hw) (w2 hw) (w14 hw) (by decide) (argsL := [(.long lc), (.int (0 : Int32)), (.int t0)]) (rest := [(.int (0 : Int32)), (.ref a321)]) (lenOf pd23 rfl) rfl rfl rfl (W := 2) (Nat.le_of_ble_eq_true rfl) (by decide) (by decide) (by decide) (by decide) (pc' := 103) rfl ?_
    rintro _ _ _ ⟨l0, rfl, hl0, rfl, rfl⟩ hzl0
    show Go _ _ _ _ _ _ _ _ _ _ _ _ _ _ _ _ _ _ _ _ _ _ _ _ [(.int l0), (.int (0 : Int32)), (.ref a321)] _
    refine go_castore 0 at_103 A327 ⟨by decide, by decide⟩ rfl (Nat.le_of_ble_eq_true rfl) (x' := l0) (nar_byt hl0) (List.mem_of_getElem? (i := 0) rfl) (pc' := 104) rfl ?_
    intro h328 W329 A330
    refine g_aload at_104 (pc' := 106) rfl rfl rfl ?_
    refine g_iconst at_106 (pc' := 107) rfl (z := 1) rfl ?_
    refine g_lloadN at_107 (pc' := 108) rfl rfl ?_
    refine g_iconst at_108 (pc' := 109) rfl (z := 1) rfl ?_
    refine g_aload at_109 (pc' := 111) rfl rfl rfl ?_
    refine g_iconst at_111 (pc' := 112) rfl (z := 1) rfl ?_
    have ne331 : a301 ≠ a321 := Nat.ne_of_lt (Nat.lt_of_lt_of_le (Exa.wr W318 (Exa.wr W315 (Exa.wr W312 (Exa.wr W309 X306)))).lt (Nat.le_of_eq g323.symm))
    refine go_caload at_112 ((A319.ext E324).other W329 ne331) (v := (.int t1)) ⟨by decide, by decide⟩ rfl (pc' := 113) rfl ?_
    refine go_static at_113 (rm_lch hw lc (1 : Int32) t1 h328 ht1) all0 (w12 hw) (w13 hw) (w2 hw) (w14 hw) (by decide) (argsL := [(.long lc), (.int (1 : Int32)), (.int t1)]) (rest := [(.int (1 : Int32)), (.ref a321)]) (lenOf pd23 rfl) rfl rfl rfl (W := 2) (Nat.le_of_ble_eq_true rfl) (by decide) (by decide) (by decide) (by decide) (pc' := 116) rfl ?_
    rintro _ _ _ ⟨l1, rfl, hl1, rfl, rfl⟩ hzl1
    show Go _ _ _ _ _ _ _ _ _ _ _ _ _ _ _ _ _ _ _ _ _ _ _ _ [(.int l1), (.int (1 : Int32)), (.ref a321)] _
    refine go_castore 1 at_116 A330 ⟨by decide, by decide⟩ rfl (Nat.le_of_ble_eq_true rfl) (x' := l1) (nar_byt hl1) (List.mem_of_getElem? (i := 0) rfl) (pc' := 117) rfl ?_
    intro h332 W333 A334
    refine g_aload at_117 (pc' := 119) rfl rfl rfl ?_
    refine g_iconst at_119 (pc' := 120) rfl (z := 2) rfl ?_
    refine g_lloadN at_120 (pc' := 121) rfl rfl ?_
    refine g_iconst at_121 (pc' := 122) rfl (z := 2) rfl ?_
    refine g_aload at_122 (pc' := 124) rfl rfl rfl ?_
    refine g_iconst at_124 (pc' := 125) rfl (z := 2) rfl ?_
    refine go_caload at_125 (((A319.ext E324).other W329 ne331).other W333 ne331) (v := (.int t2)) ⟨by decide, by decide⟩ rfl (pc' := 126) rfl ?_
    refine go_static at_126 (rm_lch hw lc (2 : Int32) t2 h332 ht2) all0 (w12 hw) (w13 hw) (w2 hw) (w14 hw) (by decide) (argsL := [(.long lc), (.int (2 : Int32)), (.int t2)]) (rest := [(.int (2 : Int32)), (.ref a321)]) (lenOf pd23 rfl) rfl rfl rfl (W := 2) (Nat.le_of_ble_eq_true rfl) (by decide) (by decide) (by decide) (by decide) (pc' := 129) rfl ?_
    rintro _ _ _ ⟨l2, rfl, hl2, rfl, rfl⟩ hzl2
    show Go _ _ _ _ _ _ _ _ _ _ _ _ _ _ _ _ _ _ _ _ _ _ _ _ [(.int l2), (.int (2 : Int32)), (.ref a321)] _
    refine go_castore 2 at_129 A334 ⟨by decide, by decide⟩ rfl (Nat.le_of_ble_eq_true rfl) (x' := l2) (nar_byt hl2) (List.mem_of_getElem? (i := 0) rfl) (pc' := 130) rfl ?_
    intro h335 W336 A337
    refine g_aload at_130 (pc' := 132) rfl rfl rfl ?_
    refine g_iconst at_132 (pc' := 133) rfl (z := 3) rfl ?_
    refine g_lloadN at_133 (pc' := 134) rfl rfl ?_
    refine g_iconst at_134 (pc' := 135) rfl (z := 3) rfl ?_
    refine g_aload at_135 (pc' := 137) rfl rfl rfl ?_
    refine g_iconst at_137 (pc' := 138) rfl (z := 3) rfl ?_
    have f338 := ((((A319.ext E324).other W329 ne331).other W333 ne331).other W336 ne331)
    refine go_caload at_138 f338 (v := (.int t3)) ⟨by decide, by decide⟩ rfl (pc' := 139) rfl ?_
    refine go_static at_139 (rm_lch hw lc (3 : Int32) t3 h335 ht3) all0 (w12 hw) (w13 hw) (w2 hw) (w14 hw) (by decide) (argsL := [(.long lc), (.int (3 : Int32)), (.int t3)]) (rest := [(.int (3 : Int32)), (.ref a321)]) (lenOf pd23 rfl) rfl rfl rfl (W := 2) (Nat.le_of_ble_eq_true rfl) (by decide) (by decide) (by decide) (by decide) (pc' := 142) rfl ?_
    rintro _ _ _ ⟨l3, rfl, hl3, rfl, rfl⟩ hzl3
    show Go _ _ _ _ _ _ _ _ _ _ _ _ _ _ _ _ _ _ _ _ _ _ _ _ [(.int l3), (.int (3 : Int32)), (.ref a321)] _
    refine go_castore 3 at_142 A337 ⟨by decide, by decide⟩ rfl (Nat.le_of_ble_eq_true rfl) (x' := l3) (nar_byt hl3) (List.mem_of_getElem? (i := 0) rfl) (pc' := 143) rfl ?_
    intro h339 W340 A341
    refine g_aload at_143 (pc' := 145) rfl rfl rfl ?_
    refine g_iload at_145 (pc' := 147) rfl rfl ?_
    refine go_static at_147 (rm_mk hw t0 t1 t2 t3 tl a301 _ co h339 ht0 ht1 ht2 ht3 (by omega) (f338.other W340 ne331) Sc hco) all0 (w16 hw) (w17 hw) (w2 hw) (w18 hw) (by decide) (argsL := [(.ref a301), (.int (Int32.ofNat tl))]) (rest := []) (lenOf pd24 rfl) rfl rfl rfl (W := 0) (Nat.le_of_ble_eq_true rfl) (by decide) (by decide) (by decide) (by decide) (pc' := 150) rfl ?_
    rintro _ h342 _ ⟨st, bt, rfl, rfl, hst, Kt, Lt⟩ hzmt
    show Go _ _ _ _ _ _ _ _ _ _ _ _ _ _ _ _ _ _ _ _ _ _ _ _ [(.ref st)] _
    refine g_astore at_150 (pc' := 152) (Ls' := #[.val (.int sel), .val (.long tc), .second, .val (.long lc), .second, .val (.int (sel &&& (3 : Int32))), .val (.ref at_), .val (.int (1 : Int32)), .val (.int (Int32.ofNat tl)), .val (.int (Int32.ofNat ll)), .val (.ref a301), .val (.ref a321), .val (.ref st), .unset, .unset, .unset]) rfl rfl rfl ?_
    refine g_aload at_152 (pc' := 154) rfl rfl rfl ?_
    refine g_iload at_154 (pc' := 156) rfl rfl ?_
    refine go_static at_156 (rm_mk hw l0 l1 l2 l3 ll a321 _ co h342 hl0 hl1 hl2 hl3 (by omega) (A341.keep Kt nin0) Sc hco) all0 (w16 hw) (w17 hw) (w2 hw) (w18 hw) (by decide) (argsL := [(.ref a321), (.int (Int32.ofNat ll))]) (rest := []) (lenOf pd24 rfl) rfl rfl rfl (W := 0) (Nat.le_of_ble_eq_true rfl) (by decide) (by decide) (by decide) (by decide) (pc' := 159) rfl ?_
    rintro _ h343 _ ⟨sl, bl, rfl, rfl, hsl, Kl, Ll⟩ hzml
    show Go _ _ _ _ _ _ _ _ _ _ _ _ _ _ _ _ _ _ _ _ _ _ _ _ [(.ref sl)] _
    refine g_astore at_159 (pc' := 161) (Ls' := #[.val (.int sel), .val (.long tc), .second, .val (.long lc), .second, .val (.int (sel &&& (3 : Int32))), .val (.ref at_), .val (.int (1 : Int32)), .val (.int (Int32.ofNat tl)), .val (.int (Int32.ofNat ll)), .val (.ref a301), .val (.ref a321), .val (.ref st), .val (.ref sl), .unset, .unset]) rfl rfl rfl ?_
    refine g_aload at_161 (pc' := 163) rfl rfl rfl ?_
    refine g_iload at_163 (pc' := 165) rfl rfl ?_
    refine go_static at_165 (rm_first hw t0 t1 t2 t3 tl a301 _ h343 (by omega) (((f338.other W340 ne331).keep Kt nin0).keep Kl nin0)) all0 (w40 hw) (w41 hw) (w2 hw) (w42 hw) (by decide) (argsL := [(.ref a301), (.int (Int32.ofNat tl))]) (rest := []) (lenOf pd25 rfl) rfl rfl rfl (W := 0) (Nat.le_of_ble_eq_true rfl) (by decide) (by decide) (by decide) (by decide) (pc' := 168) rfl ?_
    rintro _ _ _ ⟨r, rfl, hr, rfl, rfl⟩ hzf
    show Go _ _ _ _ _ _ _ _ _ _ _ _ _ _ _ _ _ _ _ _ _ _ _ _ [(.int r)] _
    refine g_istore at_168 (pc' := 170) (Ls' := #[.val (.int sel), .val (.long tc), .second, .val (.long lc), .second, .val (.int (sel &&& (3 : Int32))), .val (.ref at_), .val (.int (1 : Int32)), .val (.int (Int32.ofNat tl)), .val (.int (Int32.ofNat ll)), .val (.ref a301), .val (.ref a321), .val (.ref st), .val (.ref sl), .val (.int r), .unset]) rfl rfl ?_
    refine g_aload at_170 (pc' := 172) rfl rfl rfl ?_
    refine g_iload at_172 (pc' := 174) rfl rfl ?_
    refine g_aload at_174 (pc' := 176) rfl rfl rfl ?_
    refine g_iload at_176 (pc' := 178) rfl rfl ?_
    refine go_static at_178 (rm_same hw l0 l1 l2 l3 t0 t1 t2 t3 ll tl a321 a301 _ _ h343 (by omega) (by omega) ((A341.keep Kt nin0).keep Kl nin0) (((f338.other W340 ne331).keep Kt nin0).keep Kl nin0)) all0 (w43 hw) (w44 hw) (w2 hw) (w45 hw) (by decide) (argsL := [(.ref a321), (.int (Int32.ofNat ll)), (.ref a301), (.int (Int32.ofNat tl))]) (rest := []) (lenOf pd26 rfl) rfl rfl rfl (W := 0) (Nat.le_of_ble_eq_true rfl) (by decide) (by decide) (by decide) (by decide) (pc' := 181) rfl ?_
    rintro _ _ _ ⟨rfl, rfl, rfl⟩ z344
    show Go _ _ _ _ _ _ _ _ _ _ _ _ _ _ _ _ _ _ _ _ _ _ _ _ [(.int (if [l0, l1, l2, l3].take ll = [t0, t1, t2, t3].take tl then 1 else 0))] _
    by_cases u1 : [l0, l1, l2, l3].take ll = [t0, t1, t2, t3].take tl
    · -- True
      rw [if_pos u1]
      refine g_ifYes at_181 (pc' := 208) (feq (by decide : ¬ ((1 : Int32) = (0 : Int32)))).2 (by decide) (by decide) ?_
      refine g_iconst at_208 (pc' := 209) rfl (z := 1) rfl ?_
      refine g_goto at_209 (pc' := 213) (by decide) (by decide) ?_
      refine g_istore at_213 (pc' := 215) (Ls' := #[.val (.int sel), .val (.long tc), .second, .val (.long lc), .second, .val (.int (sel &&& (3 : Int32))), .val (.ref at_), .val (.int (1 : Int32)), .val (.int (Int32.ofNat tl)), .val (.int (Int32.ofNat ll)), .val (.ref a301), .val (.ref a321), .val (.ref st), .val (.ref sl), .val (.int r), .val (.int (1 : Int32))]) rfl rfl ?_
      refine g_aload at_215 (pc' := 217) rfl rfl rfl ?_
      refine g_aload at_217 (pc' := 219) rfl rfl rfl ?_
      refine g_aload at_219 (pc' := 221) rfl rfl rfl ?_
      have f345 := (((Exa.wr W340 (Exa.wr W336 (Exa.wr W333 (Exa.wr W329 ((Exa.wr W318 (Exa.wr W315 (Exa.wr W312 (Exa.wr W309 ((Xat.ext EX).ext E304))))).ext E324))))).keep Kt).keep Kl)
      refine go_virtual at_221 (rm_fits hw ([l0, l1, l2, l3].take ll) ([t0, t1, t2, t3].take tl) at_ nl sl bl st bt r co fm h343 (by rw [List.length_take]; omega) (by rw [List.length_take]; omega) (Byt.take (Byt.cons hl0 (Byt.cons hl1 (Byt.cons hl2 (Byt.cons hl3 Byt.nil)))) ll) (Byt.take (Byt.cons ht0 (Byt.cons ht1 (Byt.cons ht2 (Byt.cons ht3 Byt.nil)))) tl) Ll (Lt.keep Kl nin0 nin0) hr Snl Sc hco Sf hfm) all0 f345 (w46 hw) (w47 hw) (w49 hw) (nf_sel (w49 hw)) (w48 hw) (w5 hw) (w50 hw) (by decide) (argsL := [(.ref sl), (.ref st)]) (rest := []) (lenOf pd27 rfl) rfl rfl rfl (W := 0) (Nat.le_of_ble_eq_true rfl) (by decide) (by decide) (by decide) (by decide) (pc' := 224) rfl ?_
      rintro _ h346 _ ⟨z, rfl, hz⟩ hzx
      have hz1 : z = 1 := by
        rcases hz with ⟨q, -⟩ | ⟨-, q1, q2⟩
        · exact q
        · exact (Or.inl u1 : _ ∨ _).elim (fun q => absurd q q1) (fun q => absurd q q2)
      subst hz1
      show Go _ _ _ _ _ _ _ _ _ _ _ _ _ _ _ _ _ _ _ _ _ _ _ _ [(.int (1 : Int32))] _
      refine g_iload at_224 (pc' := 226) rfl rfl ?_
      refine g_icmpNo at_226 (pc' := 229) rfl (teq (by decide : (1 : Int32) = (1 : Int32))).2 ?_
      refine g_iconst at_229 (pc' := 230) rfl (z := 1) rfl ?_
      refine g_goto at_230 (pc' := 234) (by decide) (by decide) ?_
      exact go_ireturn at_234 rfl (Or.inr (Or.inl rfl)) rfl (ws' := []) all0 rfl
    · -- False
      rw [if_neg u1]
      refine g_ifNo at_181 (pc' := 184) rfl (teq (by decide : (0 : Int32) = (0 : Int32))).2 ?_
      refine g_iload at_184 (pc' := 186) rfl rfl ?_
      refine g_ifNo at_186 (pc' := 189) rfl (feq (by decide : ¬ ((1 : Int32) = (0 : Int32)))).1 ?_
      refine g_iload at_189 (pc' := 191) rfl rfl ?_
      by_cases h191 : (0 : Int32) < r
      · -- h191 holds
        obtain ⟨j, h0j, hj0, ej⟩ := Ix.pos hr h191 (by rw [List.length_take]; simp; omega)
        have hj : j < tl := by rw [List.length_take] at hj0; omega
        subst ej
        refine g_ifNo at_191 (pc' := 194) rfl (tlt h191).2.2.2 ?_
        refine g_aload at_194 (pc' := 196) rfl rfl rfl ?_
        refine g_iload at_196 (pc' := 198) rfl rfl ?_
        refine g_aload at_198 (pc' := 200) rfl rfl rfl ?_
        refine g_iload at_200 (pc' := 202) rfl rfl ?_
        refine go_static at_202 (rm_same hw l0 l1 l2 l3 t0 t1 t2 t3 ll j a321 a301 _ _ h343 (by omega) (by omega) ((A341.keep Kt nin0).keep Kl nin0) (((f338.other W340 ne331).keep Kt nin0).keep Kl nin0)) all0 (w43 hw) (w44 hw) (w2 hw) (w45 hw) (by decide) (argsL := [(.ref a321), (.int (Int32.ofNat ll)), (.ref a301), (.int (Int32.ofNat j))]) (rest := []) (lenOf pd26 rfl) rfl rfl rfl (W := 0) (Nat.le_of_ble_eq_true rfl) (by decide) (by decide) (by decide) (by decide) (pc' := 205) rfl ?_
        rintro _ _ _ ⟨rfl, rfl, rfl⟩ z347
        show Go _ _ _ _ _ _ _ _ _ _ _ _ _ _ _ _ _ _ _ _ _ _ _ _ [(.int (if [l0, l1, l2, l3].take ll = [t0, t1, t2, t3].take j then 1 else 0))] _
        by_cases u2 : [l0, l1, l2, l3].take ll = [t0, t1, t2, t3].take j
        · -- True
          rw [if_pos u2]
          refine g_ifNo at_205 (pc' := 208) rfl (feq (by decide : ¬ ((1 : Int32) = (0 : Int32)))).1 ?_
          refine g_iconst at_208 (pc' := 209) rfl (z := 1) rfl ?_
          refine g_goto at_209 (pc' := 213) (by decide) (by decide) ?_
          refine g_istore at_213 (pc' := 215) (Ls' := #[.val (.int sel), .val (.long tc), .second, .val (.long lc), .second, .val (.int (sel &&& (3 : Int32))), .val (.ref at_), .val (.int (1 : Int32)), .val (.int (Int32.ofNat tl)), .val (.int (Int32.ofNat ll)), .val (.ref a301), .val (.ref a321), .val (.ref st), .val (.ref sl), .val (.int (Int32.ofNat j)), .val (.int (1 : Int32))]) rfl rfl ?_
          refine g_aload at_215 (pc' := 217) rfl rfl rfl ?_
          refine g_aload at_217 (pc' := 219) rfl rfl rfl ?_
          refine g_aload at_219 (pc' := 221) rfl rfl rfl ?_
          have f348 := (((Exa.wr W340 (Exa.wr W336 (Exa.wr W333 (Exa.wr W329 ((Exa.wr W318 (Exa.wr W315 (Exa.wr W312 (Exa.wr W309 ((Xat.ext EX).ext E304))))).ext E324))))).keep Kt).keep Kl)
          refine go_virtual at_221 (rm_fits hw ([l0, l1, l2, l3].take ll) ([t0, t1, t2, t3].take tl) at_ nl sl bl st bt (Int32.ofNat j) co fm h343 (by rw [List.length_take]; omega) (by rw [List.length_take]; omega) (Byt.take (Byt.cons hl0 (Byt.cons hl1 (Byt.cons hl2 (Byt.cons hl3 Byt.nil)))) ll) (Byt.take (Byt.cons ht0 (Byt.cons ht1 (Byt.cons ht2 (Byt.cons ht3 Byt.nil)))) tl) Ll (Lt.keep Kl nin0 nin0) hr Snl Sc hco Sf hfm) all0 f348 (w46 hw) (w47 hw) (w49 hw) (nf_sel (w49 hw)) (w48 hw) (w5 hw) (w50 hw) (by decide) (argsL := [(.ref sl), (.ref st)]) (rest := []) (lenOf pd27 rfl) rfl rfl rfl (W := 0) (Nat.le_of_ble_eq_true rfl) (by decide) (by decide) (by decide) (by decide) (pc' := 224) rfl ?_
          rintro _ h349 _ ⟨z, rfl, hz⟩ hzx
          have hz1 : z = 1 := by
            rcases hz with ⟨q, -⟩ | ⟨-, q1, q2⟩
            · exact q
            · exact (Or.inr ⟨hatnl, h191, by rw [o_cl (by omega), List.take_take, Nat.min_eq_left (by omega)]; exact u2⟩ : _ ∨ _).elim (fun q => absurd q q1) (fun q => absurd q q2)
          subst hz1
          show Go _ _ _ _ _ _ _ _ _ _ _ _ _ _ _ _ _ _ _ _ _ _ _ _ [(.int (1 : Int32))] _
          refine g_iload at_224 (pc' := 226) rfl rfl ?_
          refine g_icmpNo at_226 (pc' := 229) rfl (teq (by decide : (1 : Int32) = (1 : Int32))).2 ?_
          refine g_iconst at_229 (pc' := 230) rfl (z := 1) rfl ?_
          refine g_goto at_230 (pc' := 234) (by decide) (by decide) ?_
          exact go_ireturn at_234 rfl (Or.inr (Or.inl rfl)) rfl (ws' := []) all0 rfl
        · -- False
          rw [if_neg u2]
          refine g_ifYes at_205 (pc' := 212) (teq (by decide : (0 : Int32) = (0 : Int32))).1 (by decide) (by decide) ?_
          refine g_iconst at_212 (pc' := 213) rfl (z := 0) rfl ?_
          refine g_istore at_213 (pc' := 215) (Ls' := #[.val (.int sel), .val (.long tc), .second, .val (.long lc), .second, .val (.int (sel &&& (3 : Int32))), .val (.ref at_), .val (.int (1 : Int32)), .val (.int (Int32.ofNat tl)), .val (.int (Int32.ofNat ll)), .val (.ref a301), .val (.ref a321), .val (.ref st), .val (.ref sl), .val (.int (Int32.ofNat j)), .val (.int (0 : Int32))]) rfl rfl ?_
          refine g_aload at_215 (pc' := 217) rfl rfl rfl ?_
          refine g_aload at_217 (pc' := 219) rfl rfl rfl ?_
          refine g_aload at_219 (pc' := 221) rfl rfl rfl ?_
          have f350 := (((Exa.wr W340 (Exa.wr W336 (Exa.wr W333 (Exa.wr W329 ((Exa.wr W318 (Exa.wr W315 (Exa.wr W312 (Exa.wr W309 ((Xat.ext EX).ext E304))))).ext E324))))).keep Kt).keep Kl)
          refine go_virtual at_221 (rm_fits hw ([l0, l1, l2, l3].take ll) ([t0, t1, t2, t3].take tl) at_ nl sl bl st bt (Int32.ofNat j) co fm h343 (by rw [List.length_take]; omega) (by rw [List.length_take]; omega) (Byt.take (Byt.cons hl0 (Byt.cons hl1 (Byt.cons hl2 (Byt.cons hl3 Byt.nil)))) ll) (Byt.take (Byt.cons ht0 (Byt.cons ht1 (Byt.cons ht2 (Byt.cons ht3 Byt.nil)))) tl) Ll (Lt.keep Kl nin0 nin0) hr Snl Sc hco Sf hfm) all0 f350 (w46 hw) (w47 hw) (w49 hw) (nf_sel (w49 hw)) (w48 hw) (w5 hw) (w50 hw) (by decide) (argsL := [(.ref sl), (.ref st)]) (rest := []) (lenOf pd27 rfl) rfl rfl rfl (W := 0) (Nat.le_of_ble_eq_true rfl) (by decide) (by decide) (by decide) (by decide) (pc' := 224) rfl ?_
          rintro _ h351 _ ⟨z, rfl, hz⟩ hzx
          have hz1 : z = 0 := by
            rcases hz with ⟨-, q⟩ | ⟨q, -⟩
            · exact q.elim (fun q => absurd q u1) (fun q => absurd (by have q2 := q.2.2; rw [o_cl (by omega), List.take_take, Nat.min_eq_left (by omega)] at q2; exact q2) u2)
            · exact q
          subst hz1
          show Go _ _ _ _ _ _ _ _ _ _ _ _ _ _ _ _ _ _ _ _ _ _ _ _ [(.int (0 : Int32))] _
          refine g_iload at_224 (pc' := 226) rfl rfl ?_
          refine g_icmpNo at_226 (pc' := 229) rfl (teq (by decide : (0 : Int32) = (0 : Int32))).2 ?_
          refine g_iconst at_229 (pc' := 230) rfl (z := 1) rfl ?_
          refine g_goto at_230 (pc' := 234) (by decide) (by decide) ?_
          exact go_ireturn at_234 rfl (Or.inr (Or.inl rfl)) rfl (ws' := []) all0 rfl
      · -- h191 does not hold
        refine g_ifYes at_191 (pc' := 212) (flt h191).2.2.2 (by decide) (by decide) ?_
        refine g_iconst at_212 (pc' := 213) rfl (z := 0) rfl ?_
        refine g_istore at_213 (pc' := 215) (Ls' := #[.val (.int sel), .val (.long tc), .second, .val (.long lc), .second, .val (.int (sel &&& (3 : Int32))), .val (.ref at_), .val (.int (1 : Int32)), .val (.int (Int32.ofNat tl)), .val (.int (Int32.ofNat ll)), .val (.ref a301), .val (.ref a321), .val (.ref st), .val (.ref sl), .val (.int r), .val (.int (0 : Int32))]) rfl rfl ?_
        refine g_aload at_215 (pc' := 217) rfl rfl rfl ?_
        refine g_aload at_217 (pc' := 219) rfl rfl rfl ?_
        refine g_aload at_219 (pc' := 221) rfl rfl rfl ?_
        have f352 := (((Exa.wr W340 (Exa.wr W336 (Exa.wr W333 (Exa.wr W329 ((Exa.wr W318 (Exa.wr W315 (Exa.wr W312 (Exa.wr W309 ((Xat.ext EX).ext E304))))).ext E324))))).keep Kt).keep Kl)
        refine go_virtual at_221 (rm_fits hw ([l0, l1, l2, l3].take ll) ([t0, t1, t2, t3].take tl) at_ nl sl bl st bt r co fm h343 (by rw [List.length_take]; omega) (by rw [List.length_take]; omega) (Byt.take (Byt.cons hl0 (Byt.cons hl1 (Byt.cons hl2 (Byt.cons hl3 Byt.nil)))) ll) (Byt.take (Byt.cons ht0 (Byt.cons ht1 (Byt.cons ht2 (Byt.cons ht3 Byt.nil)))) tl) Ll (Lt.keep Kl nin0 nin0) hr Snl Sc hco Sf hfm) all0 f352 (w46 hw) (w47 hw) (w49 hw) (nf_sel (w49 hw)) (w48 hw) (w5 hw) (w50 hw) (by decide) (argsL := [(.ref sl), (.ref st)]) (rest := []) (lenOf pd27 rfl) rfl rfl rfl (W := 0) (Nat.le_of_ble_eq_true rfl) (by decide) (by decide) (by decide) (by decide) (pc' := 224) rfl ?_
        rintro _ h353 _ ⟨z, rfl, hz⟩ hzx
        have hz1 : z = 0 := by
          rcases hz with ⟨-, q⟩ | ⟨q, -⟩
          · exact q.elim (fun q => absurd q u1) (fun q => absurd q.2.1 h191)
          · exact q
        subst hz1
        show Go _ _ _ _ _ _ _ _ _ _ _ _ _ _ _ _ _ _ _ _ _ _ _ _ [(.int (0 : Int32))] _
        refine g_iload at_224 (pc' := 226) rfl rfl ?_
        refine g_icmpNo at_226 (pc' := 229) rfl (teq (by decide : (0 : Int32) = (0 : Int32))).2 ?_
        refine g_iconst at_229 (pc' := 230) rfl (z := 1) rfl ?_
        refine g_goto at_230 (pc' := 234) (by decide) (by decide) ?_
        exact go_ireturn at_234 rfl (Or.inr (Or.inl rfl)) rfl (ws' := []) all0 rfl
  · -- h15 does not hold
    have hatno : ¬ at_ = nl := by rcases hat with q | q; exact absurd q.1 h15; exact q.2
    refine g_icmpYes at_15 (pc' := 22) (feq h15).2 (by decide) (by decide) ?_
    refine g_iconst at_22 (pc' := 23) rfl (z := 0) rfl ?_
    refine g_istore at_23 (pc' := 25) (Ls' := #[.val (.int sel), .val (.long tc), .second, .val (.long lc), .second, .val (.int (sel &&& (3 : Int32))), .val (.ref at_), .val (.int (0 : Int32)), .unset, .unset, .unset, .unset, .unset, .unset, .unset, .unset]) rfl rfl ?_
    refine g_iloadN at_25 (pc' := 26) rfl rfl ?_
    refine g_iconst at_26 (pc' := 27) rfl (z := 2) rfl ?_
    refine g_iushr at_27 (pc' := 28) rfl ?_
    refine g_bipush at_28 (pc' := 30) rfl (z := 7) rfl ?_
    refine g_iand at_30 (pc' := 31) rfl ?_
    refine g_iconst at_31 (pc' := 32) rfl (z := 5) rfl ?_
    refine g_irem at_32 (pc' := 33) rfl (by decide) ?_
    obtain ⟨tl, htl, etl⟩ := rem_nn (x := ((((sel).toUInt32 >>> (((2 : Int32) &&& 31)).toUInt32).toInt32) &&& (7 : Int32))) 5 (n := 5) (and7 _) (by decide) (by decide) (by decide)
    rw [etl]
    refine g_istore at_33 (pc' := 35) (Ls' := #[.val (.int sel), .val (.long tc), .second, .val (.long lc), .second, .val (.int (sel &&& (3 : Int32))), .val (.ref at_), .val (.int (0 : Int32)), .val (.int (Int32.ofNat tl)), .unset, .unset, .unset, .unset, .unset, .unset, .unset]) rfl rfl ?_
    refine g_iloadN at_35 (pc' := 36) rfl rfl ?_
    refine g_iconst at_36 (pc' := 37) rfl (z := 5) rfl ?_
    refine g_iushr at_37 (pc' := 38) rfl ?_
    refine g_bipush at_38 (pc' := 40) rfl (z := 7) rfl ?_
    refine g_iand at_40 (pc' := 41) rfl ?_
    refine g_iconst at_41 (pc' := 42) rfl (z := 5) rfl ?_
    refine g_irem at_42 (pc' := 43) rfl (by decide) ?_
    obtain ⟨ll, hll, ell⟩ := rem_nn (x := ((((sel).toUInt32 >>> (((5 : Int32) &&& 31)).toUInt32).toInt32) &&& (7 : Int32))) 5 (n := 5) (and7 _) (by decide) (by decide) (by decide)
    rw [ell]
    refine g_istore at_43 (pc' := 45) (Ls' := #[.val (.int sel), .val (.long tc), .second, .val (.long lc), .second, .val (.int (sel &&& (3 : Int32))), .val (.ref at_), .val (.int (0 : Int32)), .val (.int (Int32.ofNat tl)), .val (.int (Int32.ofNat ll)), .unset, .unset, .unset, .unset, .unset, .unset]) rfl rfl ?_
    refine g_iconst at_45 (pc' := 46) rfl (z := 4) rfl ?_
    refine go_newarray at_46 (w7 hw) (by decide) (cap := 4) (by decide) (by decide) (by decide) (by decide) (ad := "[C") rfl (pc' := 48) rfl ?_
    intro h354 a355 k356 g357 E358 A359 X360
    have A361 : Arv Z h354 a355 k356 .char (4 : Int32) [.int 0, .int 0, .int 0, .int 0] (.int 0) := Arv.pad A359 (pad_rep [] (.int 0) 4)
    refine g_astore at_48 (pc' := 50) (Ls' := #[.val (.int sel), .val (.long tc), .second, .val (.long lc), .second, .val (.int (sel &&& (3 : Int32))), .val (.ref at_), .val (.int (0 : Int32)), .val (.int (Int32.ofNat tl)), .val (.int (Int32.ofNat ll)), .val (.ref a355), .unset, .unset, .unset, .unset, .unset]) rfl rfl rfl ?_
    refine g_aload at_50 (pc' := 52) rfl rfl rfl ?_
    refine g_iconst at_52 (pc' := 53) rfl (z := 0) rfl ?_
    refine g_lloadN at_53 (pc' := 54) rfl rfl ?_
    refine g_iconst at_54 (pc' := 55) rfl (z := 0) rfl ?_
    refine go_static at_55 (rm_tch hw tc (0 : Int32) h354) all0 (w8 hw) (w9 hw) (w2 hw) (w10 hw) (by decide) (argsL := [(.long tc), (.int (0 : Int32))]) (rest := [(.int (0 : Int32)), (.ref a355)]) (lenOf pd22 rfl) rfl rfl rfl (W := 2) (Nat.le_of_ble_eq_true rfl) (by decide) (by decide) (by decide) (by decide) (pc' := 58) rfl ?_
    rintro _ _ _ ⟨t0, rfl, ht0, rfl, rfl⟩ hzt0
    show Go _ _ _ _ _ _ _ _ _ _ _ _ _ _ _ _ _ _ _ _ _ _ _ _ [(.int t0), (.int (0 : Int32)), (.ref a355)] _
    refine go_castore 0 at_58 A361 ⟨by decide, by decide⟩ rfl (Nat.le_of_ble_eq_true rfl) (x' := t0) (nar_byt ht0) (List.mem_of_getElem? (i := 0) rfl) (pc' := 59) rfl ?_
    intro h362 W363 A364
    refine g_aload at_59 (pc' := 61) rfl rfl rfl ?_
    refine g_iconst at_61 (pc' := 62) rfl (z := 1) rfl ?_
    refine g_lloadN at_62 (pc' := 63) rfl rfl ?_
    refine g_iconst at_63 (pc' := 64) rfl (z := 1) rfl ?_
    refine go_static at_64 (rm_tch hw tc (1 : Int32) h362) all0 (w8 hw) (w9 hw) (w2 hw) (w10 hw) (by decide) (argsL := [(.long tc), (.int (1 : Int32))]) (rest := [(.int (1 : Int32)), (.ref a355)]) (lenOf pd22 rfl) rfl rfl rfl (W := 2) (Nat.le_of_ble_eq_true rfl) (by decide) (by decide) (by decide) (by decide) (pc' := 67) rfl ?_
    rintro _ _ _ ⟨t1, rfl, ht1, rfl, rfl⟩ hzt1
    show Go _ _ _ _ _ _ _ _ _ _ _ _ _ _ _ _ _ _ _ _ _ _ _ _ [(.int t1), (.int (1 : Int32)), (.ref a355)] _
    refine go_castore 1 at_67 A364 ⟨by decide, by decide⟩ rfl (Nat.le_of_ble_eq_true rfl) (x' := t1) (nar_byt ht1) (List.mem_of_getElem? (i := 0) rfl) (pc' := 68) rfl ?_
    intro h365 W366 A367
    refine g_aload at_68 (pc' := 70) rfl rfl rfl ?_
    refine g_iconst at_70 (pc' := 71) rfl (z := 2) rfl ?_
    refine g_lloadN at_71 (pc' := 72) rfl rfl ?_
    refine g_iconst at_72 (pc' := 73) rfl (z := 2) rfl ?_
    refine go_static at_73 (rm_tch hw tc (2 : Int32) h365) all0 (w8 hw) (w9 hw) (w2 hw) (w10 hw) (by decide) (argsL := [(.long tc), (.int (2 : Int32))]) (rest := [(.int (2 : Int32)), (.ref a355)]) (lenOf pd22 rfl) rfl rfl rfl (W := 2) (Nat.le_of_ble_eq_true rfl) (by decide) (by decide) (by decide) (by decide) (pc' := 76) rfl ?_
    rintro _ _ _ ⟨t2, rfl, ht2, rfl, rfl⟩ hzt2
    show Go _ _ _ _ _ _ _ _ _ _ _ _ _ _ _ _ _ _ _ _ _ _ _ _ [(.int t2), (.int (2 : Int32)), (.ref a355)] _
    refine go_castore 2 at_76 A367 ⟨by decide, by decide⟩ rfl (Nat.le_of_ble_eq_true rfl) (x' := t2) (nar_byt ht2) (List.mem_of_getElem? (i := 0) rfl) (pc' := 77) rfl ?_
    intro h368 W369 A370
    refine g_aload at_77 (pc' := 79) rfl rfl rfl ?_
    refine g_iconst at_79 (pc' := 80) rfl (z := 3) rfl ?_
    refine g_lloadN at_80 (pc' := 81) rfl rfl ?_
    refine g_iconst at_81 (pc' := 82) rfl (z := 3) rfl ?_
    refine go_static at_82 (rm_tch hw tc (3 : Int32) h368) all0 (w8 hw) (w9 hw) (w2 hw) (w10 hw) (by decide) (argsL := [(.long tc), (.int (3 : Int32))]) (rest := [(.int (3 : Int32)), (.ref a355)]) (lenOf pd22 rfl) rfl rfl rfl (W := 2) (Nat.le_of_ble_eq_true rfl) (by decide) (by decide) (by decide) (by decide) (pc' := 85) rfl ?_
    rintro _ _ _ ⟨t3, rfl, ht3, rfl, rfl⟩ hzt3
    show Go _ _ _ _ _ _ _ _ _ _ _ _ _ _ _ _ _ _ _ _ _ _ _ _ [(.int t3), (.int (3 : Int32)), (.ref a355)] _
    refine go_castore 3 at_85 A370 ⟨by decide, by decide⟩ rfl (Nat.le_of_ble_eq_true rfl) (x' := t3) (nar_byt ht3) (List.mem_of_getElem? (i := 0) rfl) (pc' := 86) rfl ?_
    intro h371 W372 A373
    refine g_iconst at_86 (pc' := 87) rfl (z := 4) rfl ?_
    refine go_newarray at_87 (w7 hw) (by decide) (cap := 4) (by decide) (by decide) (by decide) (by decide) (ad := "[C") rfl (pc' := 89) rfl ?_
    intro h374 a375 k376 g377 E378 A379 X380
    have A381 : Arv Z h374 a375 k376 .char (4 : Int32) [.int 0, .int 0, .int 0, .int 0] (.int 0) := Arv.pad A379 (pad_rep [] (.int 0) 4)
    refine g_astore at_89 (pc' := 91) (Ls' := #[.val (.int sel), .val (.long tc), .second, .val (.long lc), .second, .val (.int (sel &&& (3 : Int32))), .val (.ref at_), .val (.int (0 : Int32)), .val (.int (Int32.ofNat tl)), .val (.int (Int32.ofNat ll)), .val (.ref a355), .val (.ref a375), .unset, .unset, .unset, .unset]) rfl rfl rfl ?_
    refine g_aload at_91 (pc' := 93) rfl rfl rfl ?_
    refine g_iconst at_93 (pc' := 94) rfl (z := 0) rfl ?_
    refine g_lloadN at_94 (pc' := 95) rfl rfl ?_
    refine g_iconst at_95 (pc' := 96) rfl (z := 0) rfl ?_
    refine g_aload at_96 (pc' := 98) rfl rfl rfl ?_
    refine g_iconst at_98 (pc' := 99) rfl (z := 0) rfl ?_
    refine go_caload at_99 (A373.ext E378) (v := (.int t0)) ⟨by decide, by decide⟩ rfl (pc' := 100) rfl ?_
    refine go_static at_100 (rm_lch hw lc (0 : Int32) t0 h374 ht0) all0 (w12 hw) (w13 hw) (w2 hw) (w14 hw) (by decide) (argsL := [(.long lc), (.int (0 : Int32)), (.int t0)]) (rest := [(.int (0 : Int32)), (.ref a375)]) (lenOf pd23 rfl) rfl rfl rfl (W := 2) (Nat.le_of_ble_eq_true rfl) (by decide) (by decide) (by decide) (by decide) (pc' := 103) rfl ?_
    rintro _ _ _ ⟨l0, rfl, hl0, rfl, rfl⟩ hzl0
    show Go _ _ _ _ _ _ _ _ _ _ _ _ _ _ _ _ _ _ _ _ _ _ _ _ [(.int l0), (.int (0 : Int32)), (.ref a375)] _
    refine go_castore 0 at_103 A381 ⟨by decide, by decide⟩ rfl (Nat.le_of_ble_eq_true rfl) (x' := l0) (nar_byt hl0) (List.mem_of_getElem? (i := 0) rfl) (pc' := 104) rfl ?_
    intro h382 W383 A384
    refine g_aload at_104 (pc' := 106) rfl rfl rfl ?_
    refine g_iconst at_106 (pc' := 107) rfl (z := 1) rfl ?_
    refine g_lloadN at_107 (pc' := 108) rfl rfl ?_
    refine g_iconst at_108 (pc' := 109) rfl (z := 1) rfl ?_
    refine g_aload at_109 (pc' := 111) rfl rfl rfl ?_
    refine g_iconst at_111 (pc' := 112) rfl (z := 1) rfl ?_
    have ne385 : a355 ≠ a375 := Nat.ne_of_lt (Nat.lt_of_lt_of_le (Exa.wr W372 (Exa.wr W369 (Exa.wr W366 (Exa.wr W363 X360)))).lt (Nat.le_of_eq g377.symm))
    refine go_caload at_112 ((A373.ext E378).other W383 ne385) (v := (.int t1)) ⟨by decide, by decide⟩ rfl (pc' := 113) rfl ?_
    refine go_static at_113 (rm_lch hw lc (1 : Int32) t1 h382 ht1) all0 (w12 hw) (w13 hw) (w2 hw) (w14 hw) (by decide) (argsL := [(.long lc), (.int (1 : Int32)), (.int t1)]) (rest := [(.int (1 : Int32)), (.ref a375)]) (lenOf pd23 rfl) rfl rfl rfl (W := 2) (Nat.le_of_ble_eq_true rfl) (by decide) (by decide) (by decide) (by decide) (pc' := 116) rfl ?_
    rintro _ _ _ ⟨l1, rfl, hl1, rfl, rfl⟩ hzl1
    show Go _ _ _ _ _ _ _ _ _ _ _ _ _ _ _ _ _ _ _ _ _ _ _ _ [(.int l1), (.int (1 : Int32)), (.ref a375)] _
    refine go_castore 1 at_116 A384 ⟨by decide, by decide⟩ rfl (Nat.le_of_ble_eq_true rfl) (x' := l1) (nar_byt hl1) (List.mem_of_getElem? (i := 0) rfl) (pc' := 117) rfl ?_
    intro h386 W387 A388
    refine g_aload at_117 (pc' := 119) rfl rfl rfl ?_
    refine g_iconst at_119 (pc' := 120) rfl (z := 2) rfl ?_
    refine g_lloadN at_120 (pc' := 121) rfl rfl ?_
    refine g_iconst at_121 (pc' := 122) rfl (z := 2) rfl ?_
    refine g_aload at_122 (pc' := 124) rfl rfl rfl ?_
    refine g_iconst at_124 (pc' := 125) rfl (z := 2) rfl ?_
    refine go_caload at_125 (((A373.ext E378).other W383 ne385).other W387 ne385) (v := (.int t2)) ⟨by decide, by decide⟩ rfl (pc' := 126) rfl ?_
    refine go_static at_126 (rm_lch hw lc (2 : Int32) t2 h386 ht2) all0 (w12 hw) (w13 hw) (w2 hw) (w14 hw) (by decide) (argsL := [(.long lc), (.int (2 : Int32)), (.int t2)]) (rest := [(.int (2 : Int32)), (.ref a375)]) (lenOf pd23 rfl) rfl rfl rfl (W := 2) (Nat.le_of_ble_eq_true rfl) (by decide) (by decide) (by decide) (by decide) (pc' := 129) rfl ?_
    rintro _ _ _ ⟨l2, rfl, hl2, rfl, rfl⟩ hzl2
    show Go _ _ _ _ _ _ _ _ _ _ _ _ _ _ _ _ _ _ _ _ _ _ _ _ [(.int l2), (.int (2 : Int32)), (.ref a375)] _
    refine go_castore 2 at_129 A388 ⟨by decide, by decide⟩ rfl (Nat.le_of_ble_eq_true rfl) (x' := l2) (nar_byt hl2) (List.mem_of_getElem? (i := 0) rfl) (pc' := 130) rfl ?_
    intro h389 W390 A391
    refine g_aload at_130 (pc' := 132) rfl rfl rfl ?_
    refine g_iconst at_132 (pc' := 133) rfl (z := 3) rfl ?_
    refine g_lloadN at_133 (pc' := 134) rfl rfl ?_
    refine g_iconst at_134 (pc' := 135) rfl (z := 3) rfl ?_
    refine g_aload at_135 (pc' := 137) rfl rfl rfl ?_
    refine g_iconst at_137 (pc' := 138) rfl (z := 3) rfl ?_
    have f392 := ((((A373.ext E378).other W383 ne385).other W387 ne385).other W390 ne385)
    refine go_caload at_138 f392 (v := (.int t3)) ⟨by decide, by decide⟩ rfl (pc' := 139) rfl ?_
    refine go_static at_139 (rm_lch hw lc (3 : Int32) t3 h389 ht3) all0 (w12 hw) (w13 hw) (w2 hw) (w14 hw) (by decide) (argsL := [(.long lc), (.int (3 : Int32)), (.int t3)]) (rest := [(.int (3 : Int32)), (.ref a375)]) (lenOf pd23 rfl) rfl rfl rfl (W := 2) (Nat.le_of_ble_eq_true rfl) (by decide) (by decide) (by decide) (by decide) (pc' := 142) rfl ?_
    rintro _ _ _ ⟨l3, rfl, hl3, rfl, rfl⟩ hzl3
    show Go _ _ _ _ _ _ _ _ _ _ _ _ _ _ _ _ _ _ _ _ _ _ _ _ [(.int l3), (.int (3 : Int32)), (.ref a375)] _
    refine go_castore 3 at_142 A391 ⟨by decide, by decide⟩ rfl (Nat.le_of_ble_eq_true rfl) (x' := l3) (nar_byt hl3) (List.mem_of_getElem? (i := 0) rfl) (pc' := 143) rfl ?_
    intro h393 W394 A395
    refine g_aload at_143 (pc' := 145) rfl rfl rfl ?_
    refine g_iload at_145 (pc' := 147) rfl rfl ?_
    refine go_static at_147 (rm_mk hw t0 t1 t2 t3 tl a355 _ co h393 ht0 ht1 ht2 ht3 (by omega) (f392.other W394 ne385) Sc hco) all0 (w16 hw) (w17 hw) (w2 hw) (w18 hw) (by decide) (argsL := [(.ref a355), (.int (Int32.ofNat tl))]) (rest := []) (lenOf pd24 rfl) rfl rfl rfl (W := 0) (Nat.le_of_ble_eq_true rfl) (by decide) (by decide) (by decide) (by decide) (pc' := 150) rfl ?_
    rintro _ h396 _ ⟨st, bt, rfl, rfl, hst, Kt, Lt⟩ hzmt
    show Go _ _ _ _ _ _ _ _ _ _ _ _ _ _ _ _ _ _ _ _ _ _ _ _ [(.ref st)] _
    refine g_astore at_150 (pc' := 152) (Ls' := #[.val (.int sel), .val (.long tc), .second, .val (.long lc), .second, .val (.int (sel &&& (3 : Int32))), .val (.ref at_), .val (.int (0 : Int32)), .val (.int (Int32.ofNat tl)), .val (.int (Int32.ofNat ll)), .val (.ref a355), .val (.ref a375), .val (.ref st), .unset, .unset, .unset]) rfl rfl rfl ?_
    refine g_aload at_152 (pc' := 154) rfl rfl rfl ?_
    refine g_iload at_154 (pc' := 156) rfl rfl ?_
    refine go_static at_156 (rm_mk hw l0 l1 l2 l3 ll a375 _ co h396 hl0 hl1 hl2 hl3 (by omega) (A395.keep Kt nin0) Sc hco) all0 (w16 hw) (w17 hw) (w2 hw) (w18 hw) (by decide) (argsL := [(.ref a375), (.int (Int32.ofNat ll))]) (rest := []) (lenOf pd24 rfl) rfl rfl rfl (W := 0) (Nat.le_of_ble_eq_true rfl) (by decide) (by decide) (by decide) (by decide) (pc' := 159) rfl ?_
    rintro _ h397 _ ⟨sl, bl, rfl, rfl, hsl, Kl, Ll⟩ hzml
    show Go _ _ _ _ _ _ _ _ _ _ _ _ _ _ _ _ _ _ _ _ _ _ _ _ [(.ref sl)] _
    refine g_astore at_159 (pc' := 161) (Ls' := #[.val (.int sel), .val (.long tc), .second, .val (.long lc), .second, .val (.int (sel &&& (3 : Int32))), .val (.ref at_), .val (.int (0 : Int32)), .val (.int (Int32.ofNat tl)), .val (.int (Int32.ofNat ll)), .val (.ref a355), .val (.ref a375), .val (.ref st), .val (.ref sl), .unset, .unset]) rfl rfl rfl ?_
    refine g_aload at_161 (pc' := 163) rfl rfl rfl ?_
    refine g_iload at_163 (pc' := 165) rfl rfl ?_
    refine go_static at_165 (rm_first hw t0 t1 t2 t3 tl a355 _ h397 (by omega) (((f392.other W394 ne385).keep Kt nin0).keep Kl nin0)) all0 (w40 hw) (w41 hw) (w2 hw) (w42 hw) (by decide) (argsL := [(.ref a355), (.int (Int32.ofNat tl))]) (rest := []) (lenOf pd25 rfl) rfl rfl rfl (W := 0) (Nat.le_of_ble_eq_true rfl) (by decide) (by decide) (by decide) (by decide) (pc' := 168) rfl ?_
    rintro _ _ _ ⟨r, rfl, hr, rfl, rfl⟩ hzf
    show Go _ _ _ _ _ _ _ _ _ _ _ _ _ _ _ _ _ _ _ _ _ _ _ _ [(.int r)] _
    refine g_istore at_168 (pc' := 170) (Ls' := #[.val (.int sel), .val (.long tc), .second, .val (.long lc), .second, .val (.int (sel &&& (3 : Int32))), .val (.ref at_), .val (.int (0 : Int32)), .val (.int (Int32.ofNat tl)), .val (.int (Int32.ofNat ll)), .val (.ref a355), .val (.ref a375), .val (.ref st), .val (.ref sl), .val (.int r), .unset]) rfl rfl ?_
    refine g_aload at_170 (pc' := 172) rfl rfl rfl ?_
    refine g_iload at_172 (pc' := 174) rfl rfl ?_
    refine g_aload at_174 (pc' := 176) rfl rfl rfl ?_
    refine g_iload at_176 (pc' := 178) rfl rfl ?_
    refine go_static at_178 (rm_same hw l0 l1 l2 l3 t0 t1 t2 t3 ll tl a375 a355 _ _ h397 (by omega) (by omega) ((A395.keep Kt nin0).keep Kl nin0) (((f392.other W394 ne385).keep Kt nin0).keep Kl nin0)) all0 (w43 hw) (w44 hw) (w2 hw) (w45 hw) (by decide) (argsL := [(.ref a375), (.int (Int32.ofNat ll)), (.ref a355), (.int (Int32.ofNat tl))]) (rest := []) (lenOf pd26 rfl) rfl rfl rfl (W := 0) (Nat.le_of_ble_eq_true rfl) (by decide) (by decide) (by decide) (by decide) (pc' := 181) rfl ?_
    rintro _ _ _ ⟨rfl, rfl, rfl⟩ z398
    show Go _ _ _ _ _ _ _ _ _ _ _ _ _ _ _ _ _ _ _ _ _ _ _ _ [(.int (if [l0, l1, l2, l3].take ll = [t0, t1, t2, t3].take tl then 1 else 0))] _
    by_cases u1 : [l0, l1, l2, l3].take ll = [t0, t1, t2, t3].take tl
    · -- True
      rw [if_pos u1]
      refine g_ifYes at_181 (pc' := 208) (feq (by decide : ¬ ((1 : Int32) = (0 : Int32)))).2 (by decide) (by decide) ?_
      refine g_iconst at_208 (pc' := 209) rfl (z := 1) rfl ?_
      refine g_goto at_209 (pc' := 213) (by decide) (by decide) ?_
      refine g_istore at_213 (pc' := 215) (Ls' := #[.val (.int sel), .val (.long tc), .second, .val (.long lc), .second, .val (.int (sel &&& (3 : Int32))), .val (.ref at_), .val (.int (0 : Int32)), .val (.int (Int32.ofNat tl)), .val (.int (Int32.ofNat ll)), .val (.ref a355), .val (.ref a375), .val (.ref st), .val (.ref sl), .val (.int r), .val (.int (1 : Int32))]) rfl rfl ?_
      refine g_aload at_215 (pc' := 217) rfl rfl rfl ?_
      refine g_aload at_217 (pc' := 219) rfl rfl rfl ?_
      refine g_aload at_219 (pc' := 221) rfl rfl rfl ?_
      have f399 := (((Exa.wr W394 (Exa.wr W390 (Exa.wr W387 (Exa.wr W383 ((Exa.wr W372 (Exa.wr W369 (Exa.wr W366 (Exa.wr W363 ((Xat.ext EX).ext E358))))).ext E378))))).keep Kt).keep Kl)
      refine go_virtual at_221 (rm_fits hw ([l0, l1, l2, l3].take ll) ([t0, t1, t2, t3].take tl) at_ nl sl bl st bt r co fm h397 (by rw [List.length_take]; omega) (by rw [List.length_take]; omega) (Byt.take (Byt.cons hl0 (Byt.cons hl1 (Byt.cons hl2 (Byt.cons hl3 Byt.nil)))) ll) (Byt.take (Byt.cons ht0 (Byt.cons ht1 (Byt.cons ht2 (Byt.cons ht3 Byt.nil)))) tl) Ll (Lt.keep Kl nin0 nin0) hr Snl Sc hco Sf hfm) all0 f399 (w46 hw) (w47 hw) (w49 hw) (nf_sel (w49 hw)) (w48 hw) (w5 hw) (w50 hw) (by decide) (argsL := [(.ref sl), (.ref st)]) (rest := []) (lenOf pd27 rfl) rfl rfl rfl (W := 0) (Nat.le_of_ble_eq_true rfl) (by decide) (by decide) (by decide) (by decide) (pc' := 224) rfl ?_
      rintro _ h400 _ ⟨z, rfl, hz⟩ hzx
      have hz1 : z = 1 := by
        rcases hz with ⟨q, -⟩ | ⟨-, q1, q2⟩
        · exact q
        · exact (Or.inl u1 : _ ∨ _).elim (fun q => absurd q q1) (fun q => absurd q q2)
      subst hz1
      show Go _ _ _ _ _ _ _ _ _ _ _ _ _ _ _ _ _ _ _ _ _ _ _ _ [(.int (1 : Int32))] _
      refine g_iload at_224 (pc' := 226) rfl rfl ?_
      refine g_icmpNo at_226 (pc' := 229) rfl (teq (by decide : (1 : Int32) = (1 : Int32))).2 ?_
      refine g_iconst at_229 (pc' := 230) rfl (z := 1) rfl ?_
      refine g_goto at_230 (pc' := 234) (by decide) (by decide) ?_
      exact go_ireturn at_234 rfl (Or.inr (Or.inl rfl)) rfl (ws' := []) all0 rfl
    · -- False
      rw [if_neg u1]
      refine g_ifNo at_181 (pc' := 184) rfl (teq (by decide : (0 : Int32) = (0 : Int32))).2 ?_
      refine g_iload at_184 (pc' := 186) rfl rfl ?_
      refine g_ifYes at_186 (pc' := 212) (teq (by decide : (0 : Int32) = (0 : Int32))).1 (by decide) (by decide) ?_
      refine g_iconst at_212 (pc' := 213) rfl (z := 0) rfl ?_
      refine g_istore at_213 (pc' := 215) (Ls' := #[.val (.int sel), .val (.long tc), .second, .val (.long lc), .second, .val (.int (sel &&& (3 : Int32))), .val (.ref at_), .val (.int (0 : Int32)), .val (.int (Int32.ofNat tl)), .val (.int (Int32.ofNat ll)), .val (.ref a355), .val (.ref a375), .val (.ref st), .val (.ref sl), .val (.int r), .val (.int (0 : Int32))]) rfl rfl ?_
      refine g_aload at_215 (pc' := 217) rfl rfl rfl ?_
      refine g_aload at_217 (pc' := 219) rfl rfl rfl ?_
      refine g_aload at_219 (pc' := 221) rfl rfl rfl ?_
      have f401 := (((Exa.wr W394 (Exa.wr W390 (Exa.wr W387 (Exa.wr W383 ((Exa.wr W372 (Exa.wr W369 (Exa.wr W366 (Exa.wr W363 ((Xat.ext EX).ext E358))))).ext E378))))).keep Kt).keep Kl)
      refine go_virtual at_221 (rm_fits hw ([l0, l1, l2, l3].take ll) ([t0, t1, t2, t3].take tl) at_ nl sl bl st bt r co fm h397 (by rw [List.length_take]; omega) (by rw [List.length_take]; omega) (Byt.take (Byt.cons hl0 (Byt.cons hl1 (Byt.cons hl2 (Byt.cons hl3 Byt.nil)))) ll) (Byt.take (Byt.cons ht0 (Byt.cons ht1 (Byt.cons ht2 (Byt.cons ht3 Byt.nil)))) tl) Ll (Lt.keep Kl nin0 nin0) hr Snl Sc hco Sf hfm) all0 f401 (w46 hw) (w47 hw) (w49 hw) (nf_sel (w49 hw)) (w48 hw) (w5 hw) (w50 hw) (by decide) (argsL := [(.ref sl), (.ref st)]) (rest := []) (lenOf pd27 rfl) rfl rfl rfl (W := 0) (Nat.le_of_ble_eq_true rfl) (by decide) (by decide) (by decide) (by decide) (pc' := 224) rfl ?_
      rintro _ h402 _ ⟨z, rfl, hz⟩ hzx
      have hz1 : z = 0 := by
        rcases hz with ⟨-, q⟩ | ⟨q, -⟩
        · exact q.elim (fun q => absurd q u1) (fun q => absurd q.1 hatno)
        · exact q
      subst hz1
      show Go _ _ _ _ _ _ _ _ _ _ _ _ _ _ _ _ _ _ _ _ _ _ _ _ [(.int (0 : Int32))] _
      refine g_iload at_224 (pc' := 226) rfl rfl ?_
      refine g_icmpNo at_226 (pc' := 229) rfl (teq (by decide : (0 : Int32) = (0 : Int32))).2 ?_
      refine g_iconst at_229 (pc' := 230) rfl (z := 1) rfl ?_
      refine g_goto at_230 (pc' := 234) (by decide) (by decide) ?_
      exact go_ireturn at_234 rfl (Or.inr (Or.inl rfl)) rfl (ws' := []) all0 rfl
set_option maxRecDepth 65536 in
set_option maxHeartbeats 40000000 in
theorem comes_1 {Post : Tables → Env → Array Value → State → Outcome → State → Prop} (hpost : ∀ tb e args s v u, (limb_1_1.after args s (.returned v) u = true ∧ limb_1_2.after args s (.returned v) u = true ∧ True) → FramedW s (.returned v) u (Jvm.fieldLocs frame_1_writes args s ++ Jvm.arrayLocs frame_1_arrays args s ++ Jvm.staticLocs frame_1_statics s) 32 1216 → Post tb e args s (.returned v) u) :
    ArmFor flags0 classFile x code maxLocals ret World_1 tables_1 room_1 Calls_1 rest_1 Pre_1 Post := by
  intro l hfl _ _ p e ha hc hk s m args below hf hA hF happ hP
  obtain ⟨hcalls, hrest, hpre⟩ := hP
  obtain ⟨-, -, -, hnamed, -, -, -, hat⟩ := (Spec.applies_iff hf).mp happ
  obtain ⟨hg, hn⟩ := and_e (Cond.before_iff.mp (show (Jvm.Cond.and given_1 narrow_1).before args s = true from hpre))
  obtain ⟨hcnt, hg0⟩ := and_e hg
  obtain ⟨ga0, hg1⟩ := and_e hg0
  obtain ⟨ga1, hg2⟩ := and_e hg1
  have ga2 := hg2
  obtain ⟨w0, w1, w2, rfl⟩ : ∃ w0 w1 w2 : Value, args = #[w0, w1, w2] := by
    have hs : args.size = 3 := by simpa [Cond.value, given_1] using hcnt
    obtain ⟨L⟩ := args
    match L, hs with
    | [w0, w1, w2], _ => exact ⟨w0, w1, w2, rfl⟩
  have hw := fun d (hd : d ∈ tables_1) => atoms_spec (ws := Jvm.Cond.code x code maxLocals ret :: tables_1) hat d (List.mem_cons_of_mem _ hd)
  obtain ⟨hsets, hown0⟩ := atoms_of _ (rest_1_c_eq ▸ (show rest_1_c.before _ s = true from hrest))
  obtain ⟨i0, e0⟩ := is_v ga0
  obtain rfl : w0 = (.int i0) := Option.some.inj e0
  obtain ⟨i1, e1⟩ := isL_v ga1
  obtain rfl : w1 = (.long i1) := Option.some.inj e1
  obtain ⟨i2, e2⟩ := isL_v ga2
  obtain rfl : w2 = (.long i2) := Option.some.inj e2
  obtain ⟨co, eco⟩ := is_v (Cond.before_iff.mp (hsets _ (List.mem_of_getElem? (i := 1) rfl)))
  have Sc : Sta s s.heap "java/lang/String" "COMPACT_STRINGS" "Z" (.int co) := Sta.start eco (Or.inl (hsets _ (List.mem_of_getElem? (i := 0) rfl)))
  have hco : ¬ (co = (0 : Int32)) := gotF (Cond.eq_ints eco (Term.int_eval (0))) (not_v (Cond.before_iff.mp (hsets _ (List.mem_of_getElem? (i := 2) rfl))))
  obtain ⟨fm, efm, hfm⟩ := isR_v (Cond.before_iff.mp (hsets _ (List.mem_of_getElem? (i := 8) rfl)))
  have Sf : Sta s s.heap "jdk/internal/util/Preconditions" "SIOOBE_FORMATTER" "Ljava/util/function/BiFunction;" fm := Sta.start efm (Or.inl (hsets _ (List.mem_of_getElem? (i := 7) rfl)))
  obtain ⟨n0, nr0⟩ := and_e hn
  obtain ⟨n1, nr1⟩ := and_e nr0
  obtain ⟨n2, nr2⟩ := and_e nr1
  obtain ⟨n3, nr3⟩ := and_e nr2
  obtain ⟨n4, nr4⟩ := and_e nr3
  obtain ⟨n5, nr5⟩ := and_e nr4
  obtain ⟨n6, nr6⟩ := and_e nr5
  have n7 := nr6
  obtain ⟨ob0, oe0⟩ := exa_v n0
  have oS0 := Sta.start oe0 (Or.inr ⟨(w5 hw), (w6 hw)⟩)
  have oX0 := Exa.start oe0 n0
  obtain ⟨ob1, oe1⟩ := exa_v n1
  have oS1 := Sta.start oe1 (Or.inr ⟨(w5 hw), (w114 hw)⟩)
  have oX1 := Exa.start oe1 n1
  obtain ⟨ob4, oe4⟩ := exa_v n4
  have oS4 := Sta.start oe4 (Or.inr ⟨(w5 hw), (w116 hw)⟩)
  have oX4 := Exa.start oe4 n4
  obtain ⟨ob6, oe6⟩ := exa_v n6
  have oS6 := Sta.start oe6 (Or.inr ⟨(w5 hw), (w119 hw)⟩)
  have oX6 := Exa.start oe6 n6
  have oF2 := Fld.start (fld_eq oe0 n2)
  have oF3 := Fld.start (fld_eq oe1 n3)
  have oF5 := Fld.start (fld_eq oe4 n5)
  have oF7 := Fld.start (fld_eq oe6 n7)
  have ne1 := Fld.ne oF2 oF3 (by decide)
  have ne2 := Fld.ne oF7 oF3 (by decide)
  have ne3 := Fld.ne oF5 oF3 (by decide)
  obtain ⟨n, o, g1, g2, g3, v, L, ws', rfl, rfl, N, -, -, W⟩ := (law_con hw i0 i1 i2 co fm ob0 ob6 ob4 ob1 s.heap Sc hco Sf hfm oS0 oS6 oS4 oS1 oX0 oX6 oX4 oX1 ne1 ne2 ne3) p e ha hc hk s m _ below hf ((Spec.applies_iff_loose hf).mp happ).1 ⟨rfl, State.Warmed39.refl s, rfl, ⟨CHv.start (eW hw) (fun p hp => hcalls.1 p hp) (hsets _ (List.mem_of_getElem? (i := 2) rfl)) (hw _ (List.mem_of_getElem? (i := 33) rfl)) (hw _ (List.mem_of_getElem? (i := 20) rfl)), ⟨Nat.le_refl _, fun _ _ q => q⟩, all0⟩⟩ trivial
  refine ⟨n, _, g1, g2, g3, hpost _ _ _ _ _ _ ⟨Cond.after_iff.mpr rfl, Cond.after_iff.mpr (eq_i res_at (Term.int_eval (1)) rfl), trivial⟩ ⟨W.1, W.2.1, W.2.2.1, (W.2.2.2.sift fun y hy => Or.inr (N y hy)).mono (by decide) (by decide)⟩⟩
theorem main_1_1 : Claimed_1_1 := comes_1 fun _ _ _ _ _ _ h hF => ⟨h.1, hF⟩
theorem main_1_2 : Claimed_1_2 := comes_1 fun _ _ _ _ _ _ h hF => ⟨h.2.1, hF⟩
end Jvm.Pilot.@@N@@
namespace Jvm.Pilot.@@N@@
open Jvm Jvm.ClassFile Sem Op Lib Jvm.Free Jvm.Stand Jvm.Pilot.@@N@@.Jvm.D
/-! MADE BY PROGRAM (witnessworld.py) out of the Statement's table words and the real class files: 24 classes; the members and pool entries that the words name. The judged class is class 1, her method 1. -/
namespace start1
open Jvm.ClassFile
def u (s : String) : CpInfo := .utf8 (stringToUtf16 s)
/-- a pool by its gaps: so many unusable entries, then the entry; so many at the end -/
def gap : Nat → List CpInfo → List CpInfo
  | 0, r => r
  | n + 1, r => .unusable :: gap n r
def poolList (es : List (Nat × CpInfo)) (last : Nat) : List CpInfo := es.foldr (fun e r => gap e.1 (e.2 :: r)) (gap last [])
def pool (es : List (Nat × CpInfo)) (last : Nat) : Array CpInfo := ⟨poolList es last⟩
def fileOf (pool : Array CpInfo) (this : Nat) (attrs : Array Attribute := #[]) (ms : Array MethodInfo := #[]) (fl : Nat := 33) (sup : Nat := 0) (ifs : Array Nat := #[]) (fds : Array FieldInfo := #[]) : ClassFile where
  minorVersion := 0
  majorVersion := 65
  constantPool := pool
  accessFlags := fl
  thisClass := this
  superClass := sup
  interfaces := ifs
  fields := fds
  methods := ms
  attributes := attrs
def plain (name : String) (sup : Option ClassId) : Class where
  name := name
  kind := .ordinary
  loader := none
  accessFlags := 33
  super := sup
  interfaces := #[]
  cf := none
  fields := #[]
  methods := #[]
  instanceTypes := #[]
  staticTypes := #[]
  resolved := #[]
  callSites := []
  init := .initialized
  statics := none
  mirror := none

def pool0 : Array CpInfo := pool [(5, u "<init>"), (0, u "()V"), (1, .class_ 10), (1, u "java/lang/Object")] 113

def k0c0 : Code := { maxStack := 0, maxLocals := 1, code := object_method_1_code, exceptionTable := #[], attributes := #[] }
def k0m0 : Method := { name := "<init>", desc := "()V", sig := { parameters := [], returnType := none }, accessFlags := 1, code := some k0c0 }
/-- java/lang/Object -/
def k0 : Class := { plain "java/lang/Object" none with
  accessFlags := 33
  interfaces := #[]
  cf := some (fileOf pool0 8 #[] #[{ accessFlags := 1, nameIndex := 5, descriptorIndex := 6, attributes := #[] }] 33 0 #[] #[])
  fields := #[]
  methods := #[k0m0]
  instanceTypes := #[]
  staticTypes := #[]
  resolved := Array.replicate 124 none
  statics := none }

def pool1 : Array CpInfo := pool [(2, .class_ 4), (1, u "java/lang/Object"), (0, u "<init>"), (0, u "()V"), (0, .methodref 8 9), (0, .class_ 10), (0, .nameAndType 11 12), (0, u "com/example/plugwright/plugwright/platform/AttributeFitsPinLaw"), (0, u "pick"), (0, u "(I)Lcom/example/plugwright/plugwright/platform/Attribute;"), (0, .methodref 8 14), (0, .nameAndType 15 16), (0, u "tch"), (0, u "(JI)C"), (0, .methodref 8 18), (0, .nameAndType 19 20), (0, u "lch"), (0, u "(JIC)C"), (0, .methodref 8 22), (0, .nameAndType 23 24), (0, u "mk"), (0, u "([CI)Ljava/lang/String;"), (0, .methodref 8 26), (0, .nameAndType 27 28), (0, u "firstUnderscore"), (0, u "([CI)I"), (0, .methodref 8 30), (0, .nameAndType 31 32), (0, u "same"), (0, u "([CI[CI)Z"), (0, .methodref 34 35), (0, .class_ 36), (0, .nameAndType 37 38), (0, u "com/example/plugwright/plugwright/platform/Attribute"), (0, u "fits"), (0, u "(Ljava/lang/String;Ljava/lang/String;)Z"), (0, .fieldref 34 40), (0, .nameAndType 41 42), (0, u "OS"), (0, u "Lcom/example/plugwright/plugwright/platform/Attribute;"), (0, .fieldref 34 44), (0, .nameAndType 45 42), (0, u "WS"), (0, .fieldref 34 47), (0, .nameAndType 48 42), (0, u "ARCH"), (0, .fieldref 34 50), (0, .nameAndType 51 42), (0, u "NL"), (0, .long 255), (1, .long 3), (1, .class_ 57), (0, u "java/lang/String"), (0, .methodref 56 59), (0, .nameAndType 5 60), (0, u "([C)V"), (2, u "law"), (0, u "(IJJ)Z")] 5

def k1m0 : Method := { name := "<init>", desc := "()V", sig := { parameters := [], returnType := none }, accessFlags := 1, code := none }
def k1c1 : Code := { maxStack := 7, maxLocals := 16, code := code, exceptionTable := #[], attributes := #[] }
def k1m1 : Method := { name := "law", desc := "(IJJ)Z", sig := { parameters := [.int, .long, .long], returnType := some .boolean }, accessFlags := 9, code := some k1c1 }
def k1c2 : Code := { maxStack := 2, maxLocals := 1, code := method_3_code, exceptionTable := #[], attributes := #[] }
def k1m2 : Method := { name := "pick", desc := "(I)Lcom/example/plugwright/plugwright/platform/Attribute;", sig := { parameters := [.int], returnType := some (.object "com/example/plugwright/plugwright/platform/Attribute") }, accessFlags := 10, code := some k1c2 }
def k1c3 : Code := { maxStack := 4, maxLocals := 3, code := method_4_code, exceptionTable := #[], attributes := #[] }
def k1m3 : Method := { name := "tch", desc := "(JI)C", sig := { parameters := [.long, .int], returnType := some .char }, accessFlags := 10, code := some k1c3 }
def k1c4 : Code := { maxStack := 5, maxLocals := 5, code := method_5_code, exceptionTable := #[], attributes := #[] }
def k1m4 : Method := { name := "lch", desc := "(JIC)C", sig := { parameters := [.long, .int, .char], returnType := some .char }, accessFlags := 10, code := some k1c4 }
def k1c5 : Code := { maxStack := 7, maxLocals := 2, code := method_6_code, exceptionTable := #[], attributes := #[] }
def k1m5 : Method := { name := "mk", desc := "([CI)Ljava/lang/String;", sig := { parameters := [(.array .char), .int], returnType := some (.object "java/lang/String") }, accessFlags := 10, code := some k1c5 }
def k1c6 : Code := { maxStack := 2, maxLocals := 2, code := method_7_code, exceptionTable := #[], attributes := #[] }
def k1m6 : Method := { name := "firstUnderscore", desc := "([CI)I", sig := { parameters := [(.array .char), .int], returnType := some .int }, accessFlags := 10, code := some k1c6 }
def k1c7 : Code := { maxStack := 3, maxLocals := 4, code := method_8_code, exceptionTable := #[], attributes := #[] }
def k1m7 : Method := { name := "same", desc := "([CI[CI)Z", sig := { parameters := [(.array .char), .int, (.array .char), .int], returnType := some .boolean }, accessFlags := 10, code := some k1c7 }
/-- com/example/plugwright/plugwright/platform/AttributeFitsPinLaw -/
def k1 : Class := { plain "com/example/plugwright/plugwright/platform/AttributeFitsPinLaw" (some 0) with
  accessFlags := 49
  interfaces := #[]
  cf := some (fileOf pool1 8 #[] #[{ accessFlags := 1, nameIndex := 5, descriptorIndex := 6, attributes := #[] }, { accessFlags := 9, nameIndex := 63, descriptorIndex := 64, attributes := #[] }, { accessFlags := 10, nameIndex := 11, descriptorIndex := 12, attributes := #[] }, { accessFlags := 10, nameIndex := 15, descriptorIndex := 16, attributes := #[] }, { accessFlags := 10, nameIndex := 19, descriptorIndex := 20, attributes := #[] }, { accessFlags := 10, nameIndex := 23, descriptorIndex := 24, attributes := #[] }, { accessFlags := 10, nameIndex := 27, descriptorIndex := 28, attributes := #[] }, { accessFlags := 10, nameIndex := 31, descriptorIndex := 32, attributes := #[] }] 49 2 #[] #[])
  fields := #[]
  methods := #[k1m0, k1m1, k1m2, k1m3, k1m4, k1m5, k1m6, k1m7]
  instanceTypes := #[]
  staticTypes := #[]
  resolved := Array.replicate 70 none
  statics := none }

def pool2 : Array CpInfo := pool [(1, .class_ 2), (0, u "java/lang/constant/Constable"), (0, .class_ 4), (0, u "java/lang/Object")] 6

/-- java/lang/constant/Constable -/
def k2 : Class := { plain "java/lang/constant/Constable" (some 0) with
  accessFlags := 1537
  interfaces := #[]
  cf := some (fileOf pool2 1 #[] #[] 1537 3 #[] #[])
  fields := #[]
  methods := #[]
  instanceTypes := #[]
  staticTypes := #[]
  resolved := Array.replicate 11 none
  statics := none }

def pool3 : Array CpInfo := pool [(1, .class_ 2), (0, u "java/lang/Comparable"), (0, .class_ 4), (0, u "java/lang/Object")] 7

/-- java/lang/Comparable -/
def k3 : Class := { plain "java/lang/Comparable" (some 0) with
  accessFlags := 1537
  interfaces := #[]
  cf := some (fileOf pool3 1 #[] #[] 1537 3 #[] #[])
  fields := #[]
  methods := #[]
  instanceTypes := #[]
  staticTypes := #[]
  resolved := Array.replicate 12 none
  statics := none }

def pool4 : Array CpInfo := pool [(1, .class_ 2), (0, u "java/io/Serializable"), (0, .class_ 4), (0, u "java/lang/Object")] 2

/-- java/io/Serializable -/
def k4 : Class := { plain "java/io/Serializable" (some 0) with
  accessFlags := 1537
  interfaces := #[]
  cf := some (fileOf pool4 1 #[] #[] 1537 3 #[] #[])
  fields := #[]
  methods := #[]
  instanceTypes := #[]
  staticTypes := #[]
  resolved := Array.replicate 7 none
  statics := none }

def pool5 : Array CpInfo := pool [(2, .class_ 4), (1, u "java/lang/Enum"), (0, u "name"), (0, u "Ljava/lang/String;"), (2, u "ordinal"), (0, u "I"), (1, .class_ 14), (1, u "java/lang/Object"), (4, u "hash"), (86, .class_ 108), (1, u "java/lang/Enum$EnumDesc"), (2, .class_ 112), (0, u "java/lang/constant/Constable"), (0, .class_ 114), (0, u "java/lang/Comparable"), (0, .class_ 116), (0, u "java/io/Serializable")] 87

/-- java/lang/Enum -/
def k5 : Class := { plain "java/lang/Enum" (some 0) with
  accessFlags := 1057
  interfaces := #[2, 3, 4]
  cf := some (fileOf pool5 2 #[.nestMembers #[106]] #[] 1057 12 #[111, 113, 115] #[{ accessFlags := 18, nameIndex := 5, descriptorIndex := 6, attributes := #[] }, { accessFlags := 18, nameIndex := 9, descriptorIndex := 10, attributes := #[] }, { accessFlags := 2, nameIndex := 19, descriptorIndex := 10, attributes := #[] }])
  fields := #[{ name := "name", type := (.object "java/lang/String"), accessFlags := 18, slot := 0, constantValue := 0 }, { name := "ordinal", type := .int, accessFlags := 18, slot := 1, constantValue := 0 }, { name := "hash", type := .int, accessFlags := 2, slot := 2, constantValue := 0 }]
  methods := #[]
  instanceTypes := #[(.object "java/lang/String"), .int, .int]
  staticTypes := #[]
  resolved := Array.replicate 204 none
  statics := none }

def pool6 : Array CpInfo := pool [(1, .class_ 2), (0, u "com/example/plugwright/plugwright/platform/Attribute"), (2, u "OS"), (0, u "Lcom/example/plugwright/plugwright/platform/Attribute;"), (2, u "WS"), (2, u "ARCH"), (0, .fieldref 1 14), (0, .nameAndType 15 6), (0, u "NL"), (2, u "$VALUES"), (0, u "[Lcom/example/plugwright/plugwright/platform/Attribute;"), (6, .class_ 28), (1, u "java/lang/Enum"), (8, u "attributeName"), (0, u "Ljava/lang/String;"), (0, .methodref 40 41), (0, .class_ 42), (0, .nameAndType 43 44), (0, u "java/lang/String"), (0, u "equals"), (0, u "(Ljava/lang/Object;)Z"), (0, .methodref 40 46), (0, .nameAndType 47 48), (0, u "indexOf"), (0, u "(I)I"), (0, .methodref 40 50), (0, .nameAndType 51 52), (0, u "substring"), (0, u "(II)Ljava/lang/String;"), (26, u "fits"), (0, u "(Ljava/lang/String;Ljava/lang/String;)Z")] 8

def k6c0 : Code := { maxStack := 4, maxLocals := 4, code := prog_32_method_4_code, exceptionTable := #[], attributes := #[] }
def k6m0 : Method := { name := "fits", desc := "(Ljava/lang/String;Ljava/lang/String;)Z", sig := { parameters := [(.object "java/lang/String"), (.object "java/lang/String")], returnType := some .boolean }, accessFlags := 0, code := some k6c0 }
/-- com/example/plugwright/plugwright/platform/Attribute -/
def k6 : Class := { plain "com/example/plugwright/plugwright/platform/Attribute" (some 5) with
  accessFlags := 16433
  interfaces := #[]
  cf := some (fileOf pool6 1 #[] #[{ accessFlags := 0, nameIndex := 79, descriptorIndex := 80, attributes := #[] }] 16433 26 #[] #[{ accessFlags := 16409, nameIndex := 5, descriptorIndex := 6, attributes := #[] }, { accessFlags := 16409, nameIndex := 9, descriptorIndex := 6, attributes := #[] }, { accessFlags := 16409, nameIndex := 12, descriptorIndex := 6, attributes := #[] }, { accessFlags := 16409, nameIndex := 15, descriptorIndex := 6, attributes := #[] }, { accessFlags := 18, nameIndex := 37, descriptorIndex := 38, attributes := #[] }, { accessFlags := 4122, nameIndex := 18, descriptorIndex := 19, attributes := #[] }])
  fields := #[{ name := "OS", type := (.object "com/example/plugwright/plugwright/platform/Attribute"), accessFlags := 16409, slot := 0, constantValue := 0 }, { name := "WS", type := (.object "com/example/plugwright/plugwright/platform/Attribute"), accessFlags := 16409, slot := 1, constantValue := 0 }, { name := "ARCH", type := (.object "com/example/plugwright/plugwright/platform/Attribute"), accessFlags := 16409, slot := 2, constantValue := 0 }, { name := "NL", type := (.object "com/example/plugwright/plugwright/platform/Attribute"), accessFlags := 16409, slot := 3, constantValue := 0 }, { name := "attributeName", type := (.object "java/lang/String"), accessFlags := 18, slot := 3, constantValue := 0 }, { name := "$VALUES", type := (.array (.object "com/example/plugwright/plugwright/platform/Attribute")), accessFlags := 4122, slot := 4, constantValue := 0 }]
  methods := #[k6m0]
  instanceTypes := #[(.object "java/lang/String"), .int, .int, (.object "java/lang/String")]
  staticTypes := #[(.object "com/example/plugwright/plugwright/platform/Attribute"), (.object "com/example/plugwright/plugwright/platform/Attribute"), (.object "com/example/plugwright/plugwright/platform/Attribute"), (.object "com/example/plugwright/plugwright/platform/Attribute"), (.array (.object "com/example/plugwright/plugwright/platform/Attribute"))]
  resolved := Array.replicate 89 none
  statics := some 0 }

def pool7 : Array CpInfo := pool [(2, .class_ 4), (1, u "java/lang/CharSequence"), (42, .class_ 48), (0, u "java/lang/CharSequence$1CodePointIterator"), (10, .class_ 60), (0, u "java/lang/CharSequence$1CharIterator"), (5, .class_ 67), (0, u "java/lang/Object")] 63

/-- java/lang/CharSequence -/
def k7 : Class := { plain "java/lang/CharSequence" (some 0) with
  accessFlags := 1537
  interfaces := #[]
  cf := some (fileOf pool7 2 #[.nestMembers #[47, 59]] #[] 1537 66 #[] #[])
  fields := #[]
  methods := #[]
  instanceTypes := #[]
  staticTypes := #[]
  resolved := Array.replicate 131 none
  statics := none }

def pool8 : Array CpInfo := pool [(1, .class_ 2), (0, u "java/lang/constant/ConstantDesc"), (0, .class_ 4), (0, u "java/lang/Object")] 32

/-- java/lang/constant/ConstantDesc -/
def k8 : Class := { plain "java/lang/constant/ConstantDesc" (some 0) with
  accessFlags := 1537
  interfaces := #[]
  cf := some (fileOf pool8 1 #[] #[] 1537 3 #[] #[])
  fields := #[]
  methods := #[]
  instanceTypes := #[]
  staticTypes := #[]
  resolved := Array.replicate 37 none
  statics := none }

def pool9 : Array CpInfo := pool [(1, .methodref 2 3), (0, .class_ 4), (0, .nameAndType 5 6), (0, u "java/lang/Object"), (0, u "<init>"), (0, u "()V"), (0, .string 8), (0, u ""), (0, .fieldref 10 11), (0, .class_ 12), (0, .nameAndType 13 14), (0, u "java/lang/String"), (0, u "value"), (0, u "[B"), (0, .fieldref 10 16), (0, .nameAndType 17 18), (0, u "coder"), (0, u "B"), (2, u "hash"), (0, u "I"), (2, u "hashIsZero"), (0, u "Z"), (0, .methodref 10 28), (0, .nameAndType 5 29), (0, u "([CIILjava/lang/Void;)V"), (8, .fieldref 10 39), (0, .nameAndType 40 26), (0, u "COMPACT_STRINGS"), (1, .class_ 44), (1, u "java/lang/StringUTF16"), (0, u "compress"), (1, .methodref 42 48), (0, .nameAndType 49 50), (0, u "coderFromArrayLen"), (0, u "([BI)B"), (56, .class_ 109), (1, u "java/lang/StringLatin1"), (32, u "()Z"), (34, .methodref 42 178), (0, .nameAndType 45 179), (0, u "([CII)[B"), (31, u "([BB)V"), (122, u "()I"), (0, .methodref 10 336), (0, .nameAndType 17 337), (0, u "()B"), (154, .methodref 10 493), (0, .nameAndType 494 142), (0, u "isLatin1"), (10, .methodref 10 506), (0, .nameAndType 507 334), (0, u "length"), (5, u "checkFromToIndex"), (7, .methodref 10 522), (0, .nameAndType 523 524), (0, u "checkBoundsBeginEnd"), (0, u "(III)V"), (16, .methodref 107 542), (0, .nameAndType 543 544), (0, u "equals"), (0, u "([B[B)Z"), (28, u "(Ljava/lang/Object;)Z"), (1, .class_ 576), (0, u "java/lang/CharSequence"), (22, u "CASE_INSENSITIVE_ORDER"), (0, u "Ljava/util/Comparator;"), (32, .methodref 10 634), (0, .nameAndType 635 636), (0, u "indexOf"), (0, u "(II)I"), (0, .methodref 107 638), (0, .nameAndType 635 639), (0, u "([BIII)I"), (43, u "substring"), (0, u "(II)Ljava/lang/String;"), (0, .methodref 107 686), (0, .nameAndType 687 688), (0, u "newString"), (0, u "([BII)Ljava/lang/String;"), (76, u "(I)I"), (244, u "([C)V"), (42, .fieldref 1054 1055), (0, .class_ 1056), (0, .nameAndType 1057 1058), (0, u "jdk/internal/util/Preconditions"), (0, u "SIOOBE_FORMATTER"), (0, u "Ljava/util/function/BiFunction;"), (3, .methodref 1054 1063), (0, .nameAndType 513 1064), (0, u "(IIILjava/util/function/BiFunction;)I"), (36, u "serialPersistentFields"), (0, u "[Ljava/io/ObjectStreamField;"), (0, .class_ 1104), (0, u "java/lang/String$CaseInsensitiveComparator"), (1, .class_ 1107), (0, u "java/io/Serializable"), (0, .class_ 1109), (0, u "java/lang/Comparable"), (0, .class_ 1111), (0, u "java/lang/constant/Constable"), (0, .class_ 1113), (0, u "java/lang/constant/ConstantDesc"), (2, u "serialVersionUID"), (0, u "J"), (3, u "REPL"), (0, u "C"), (2, u "LATIN1"), (1, u "UTF16")] 323

def k9m0 : Method := { name := "<init>", desc := "()V", sig := { parameters := [], returnType := none }, accessFlags := 1, code := none }
def k9c1 : Code := { maxStack := 5, maxLocals := 2, code := jdk_42_method_3_code, exceptionTable := #[], attributes := #[] }
def k9m1 : Method := { name := "<init>", desc := "([C)V", sig := { parameters := [(.array .char)], returnType := none }, accessFlags := 1, code := some k9c1 }
def k9c2 : Code := { maxStack := 2, maxLocals := 1, code := jdk_42_method_54_code, exceptionTable := #[], attributes := #[] }
def k9m2 : Method := { name := "length", desc := "()I", sig := { parameters := [], returnType := some .int }, accessFlags := 1, code := some k9c2 }
def k9c3 : Code := { maxStack := 2, maxLocals := 3, code := jdk_42_method_66_code, exceptionTable := #[], attributes := #[] }
def k9m3 : Method := { name := "equals", desc := "(Ljava/lang/Object;)Z", sig := { parameters := [(.object "java/lang/Object")], returnType := some .boolean }, accessFlags := 1, code := some k9c3 }
def k9c4 : Code := { maxStack := 3, maxLocals := 2, code := jdk_42_method_79_code, exceptionTable := #[], attributes := #[] }
def k9m4 : Method := { name := "indexOf", desc := "(I)I", sig := { parameters := [.int], returnType := some .int }, accessFlags := 1, code := some k9c4 }
def k9c5 : Code := { maxStack := 4, maxLocals := 3, code := jdk_42_method_80_code, exceptionTable := #[], attributes := #[] }
def k9m5 : Method := { name := "indexOf", desc := "(II)I", sig := { parameters := [.int, .int], returnType := some .int }, accessFlags := 1, code := some k9c5 }
def k9c6 : Code := { maxStack := 3, maxLocals := 5, code := jdk_42_method_92_code, exceptionTable := #[], attributes := #[] }
def k9m6 : Method := { name := "substring", desc := "(II)Ljava/lang/String;", sig := { parameters := [.int, .int], returnType := some (.object "java/lang/String") }, accessFlags := 1, code := some k9c6 }
def k9c7 : Code := { maxStack := 4, maxLocals := 6, code := jdk_42_method_149_code, exceptionTable := #[], attributes := #[] }
def k9m7 : Method := { name := "<init>", desc := "([CIILjava/lang/Void;)V", sig := { parameters := [(.array .char), .int, .int, (.object "java/lang/Void")], returnType := none }, accessFlags := 2, code := some k9c7 }
def k9c8 : Code := { maxStack := 2, maxLocals := 3, code := jdk_42_method_151_code, exceptionTable := #[], attributes := #[] }
def k9m8 : Method := { name := "<init>", desc := "([BB)V", sig := { parameters := [(.array .byte), .byte], returnType := none }, accessFlags := 0, code := some k9c8 }
def k9c9 : Code := { maxStack := 1, maxLocals := 1, code := jdk_42_method_152_code, exceptionTable := #[], attributes := #[] }
def k9m9 : Method := { name := "coder", desc := "()B", sig := { parameters := [], returnType := some .byte }, accessFlags := 0, code := some k9c9 }
def k9c10 : Code := { maxStack := 1, maxLocals := 1, code := jdk_42_method_154_code, exceptionTable := #[], attributes := #[] }
def k9m10 : Method := { name := "isLatin1", desc := "()Z", sig := { parameters := [], returnType := some .boolean }, accessFlags := 0, code := some k9c10 }
def k9c11 : Code := { maxStack := 4, maxLocals := 3, code := jdk_42_method_158_code, exceptionTable := #[], attributes := #[] }
def k9m11 : Method := { name := "checkBoundsBeginEnd", desc := "(III)V", sig := { parameters := [.int, .int, .int], returnType := none }, accessFlags := 8, code := some k9c11 }
/-- java/lang/String -/
def k9 : Class := { plain "java/lang/String" (some 0) with
  accessFlags := 49
  interfaces := #[4, 3, 7, 2, 8]
  cf := some (fileOf pool9 10 #[.nestMembers #[1103]] #[{ accessFlags := 1, nameIndex := 5, descriptorIndex := 6, attributes := #[] }, { accessFlags := 1, nameIndex := 5, descriptorIndex := 1010, attributes := #[] }, { accessFlags := 1, nameIndex := 507, descriptorIndex := 334, attributes := #[] }, { accessFlags := 1, nameIndex := 543, descriptorIndex := 573, attributes := #[] }, { accessFlags := 1, nameIndex := 635, descriptorIndex := 765, attributes := #[] }, { accessFlags := 1, nameIndex := 635, descriptorIndex := 636, attributes := #[] }, { accessFlags := 1, nameIndex := 683, descriptorIndex := 684, attributes := #[] }, { accessFlags := 2, nameIndex := 5, descriptorIndex := 29, attributes := #[] }, { accessFlags := 0, nameIndex := 5, descriptorIndex := 211, attributes := #[] }, { accessFlags := 0, nameIndex := 17, descriptorIndex := 337, attributes := #[] }, { accessFlags := 0, nameIndex := 494, descriptorIndex := 142, attributes := #[] }, { accessFlags := 8, nameIndex := 523, descriptorIndex := 524, attributes := #[] }] 49 2 #[1106, 1108, 575, 1110, 1112] #[{ accessFlags := 18, nameIndex := 13, descriptorIndex := 14, attributes := #[] }, { accessFlags := 18, nameIndex := 17, descriptorIndex := 18, attributes := #[] }, { accessFlags := 2, nameIndex := 21, descriptorIndex := 22, attributes := #[] }, { accessFlags := 2, nameIndex := 25, descriptorIndex := 26, attributes := #[] }, { accessFlags := 26, nameIndex := 1116, descriptorIndex := 1117, attributes := #[] }, { accessFlags := 24, nameIndex := 40, descriptorIndex := 26, attributes := #[] }, { accessFlags := 26, nameIndex := 1101, descriptorIndex := 1102, attributes := #[] }, { accessFlags := 26, nameIndex := 1121, descriptorIndex := 1122, attributes := #[] }, { accessFlags := 25, nameIndex := 599, descriptorIndex := 600, attributes := #[] }, { accessFlags := 24, nameIndex := 1125, descriptorIndex := 18, attributes := #[] }, { accessFlags := 24, nameIndex := 1127, descriptorIndex := 18, attributes := #[] }])
  fields := #[{ name := "value", type := (.array .byte), accessFlags := 18, slot := 0, constantValue := 0 }, { name := "coder", type := .byte, accessFlags := 18, slot := 1, constantValue := 0 }, { name := "hash", type := .int, accessFlags := 2, slot := 2, constantValue := 0 }, { name := "hashIsZero", type := .boolean, accessFlags := 2, slot := 3, constantValue := 0 }, { name := "serialVersionUID", type := .long, accessFlags := 26, slot := 0, constantValue := 0 }, { name := "COMPACT_STRINGS", type := .boolean, accessFlags := 24, slot := 1, constantValue := 0 }, { name := "serialPersistentFields", type := (.array (.object "java/io/ObjectStreamField")), accessFlags := 26, slot := 2, constantValue := 0 }, { name := "REPL", type := .char, accessFlags := 26, slot := 3, constantValue := 0 }, { name := "CASE_INSENSITIVE_ORDER", type := (.object "java/util/Comparator"), accessFlags := 25, slot := 4, constantValue := 0 }, { name := "LATIN1", type := .byte, accessFlags := 24, slot := 5, constantValue := 0 }, { name := "UTF16", type := .byte, accessFlags := 24, slot := 6, constantValue := 0 }]
  methods := #[k9m0, k9m1, k9m2, k9m3, k9m4, k9m5, k9m6, k9m7, k9m8, k9m9, k9m10, k9m11]
  instanceTypes := #[(.array .byte), .byte, .int, .boolean]
  staticTypes := #[.long, .boolean, (.array (.object "java/io/ObjectStreamField")), .char, (.object "java/util/Comparator"), .byte, .byte]
  resolved := Array.replicate 1451 none
  statics := some 1 }

def pool10 : Array CpInfo := pool [(1, .class_ 2), (0, u "java/lang/String"), (1, .class_ 6), (1, u "java/lang/Object"), (0, u "<init>"), (0, u "()V"), (5, .class_ 16), (1, u "java/lang/StringLatin1"), (21, .methodref 39 40), (0, .class_ 41), (0, .nameAndType 42 43), (0, u "java/lang/Math"), (0, u "min"), (0, u "(II)I"), (44, .methodref 14 89), (0, .nameAndType 90 91), (0, u "canEncode"), (0, u "(I)Z"), (0, .methodref 39 93), (0, .nameAndType 94 43), (0, u "max"), (0, .methodref 14 96), (0, .nameAndType 97 98), (0, u "indexOfChar"), (0, u "([BIII)I"), (2, u "indexOf"), (10, .methodref 1 113), (0, .nameAndType 7 114), (0, u "([BB)V"), (6, u "$assertionsDisabled"), (0, u "Z"), (8, .class_ 133), (1, u "java/util/Arrays"), (62, u "newString"), (0, u "([BII)Ljava/lang/String;"), (23, .class_ 223), (1, u "java/lang/StringLatin1$LinesSpliterator"), (8, .methodref 131 233), (0, .nameAndType 234 235), (0, u "copyOfRange"), (0, u "([BII)[B"), (45, u "equals"), (0, u "([B[B)Z"), (107, .class_ 391), (0, u "java/lang/StringLatin1$CharsSpliterator")] 3

def k10m0 : Method := { name := "<init>", desc := "()V", sig := { parameters := [], returnType := none }, accessFlags := 0, code := none }
def k10c1 : Code := { maxStack := 2, maxLocals := 1, code := jdk_43_method_4_code, exceptionTable := #[], attributes := #[] }
def k10m1 : Method := { name := "canEncode", desc := "(I)Z", sig := { parameters := [.int], returnType := some .boolean }, accessFlags := 9, code := some k10c1 }
def k10c2 : Code := { maxStack := 3, maxLocals := 3, code := jdk_43_method_13_code, exceptionTable := #[], attributes := #[] }
def k10m2 : Method := { name := "equals", desc := "([B[B)Z", sig := { parameters := [(.array .byte), (.array .byte)], returnType := some .boolean }, accessFlags := 9, code := some k10c2 }
def k10c3 : Code := { maxStack := 4, maxLocals := 4, code := jdk_43_method_22_code, exceptionTable := #[], attributes := #[] }
def k10m3 : Method := { name := "indexOf", desc := "([BIII)I", sig := { parameters := [(.array .byte), .int, .int, .int], returnType := some .int }, accessFlags := 9, code := some k10c3 }
def k10c4 : Code := { maxStack := 2, maxLocals := 6, code := jdk_43_method_23_code, exceptionTable := #[], attributes := #[] }
def k10m4 : Method := { name := "indexOfChar", desc := "([BIII)I", sig := { parameters := [(.array .byte), .int, .int, .int], returnType := some .int }, accessFlags := 10, code := some k10c4 }
def k10c5 : Code := { maxStack := 6, maxLocals := 3, code := jdk_43_method_47_code, exceptionTable := #[], attributes := #[] }
def k10m5 : Method := { name := "newString", desc := "([BII)Ljava/lang/String;", sig := { parameters := [(.array .byte), .int, .int], returnType := some (.object "java/lang/String") }, accessFlags := 9, code := some k10c5 }
/-- java/lang/StringLatin1 -/
def k10 : Class := { plain "java/lang/StringLatin1" (some 0) with
  accessFlags := 48
  interfaces := #[]
  cf := some (fileOf pool10 14 #[.nestMembers #[390, 221]] #[{ accessFlags := 0, nameIndex := 7, descriptorIndex := 8, attributes := #[] }, { accessFlags := 9, nameIndex := 90, descriptorIndex := 91, attributes := #[] }, { accessFlags := 9, nameIndex := 281, descriptorIndex := 282, attributes := #[] }, { accessFlags := 9, nameIndex := 101, descriptorIndex := 98, attributes := #[] }, { accessFlags := 10, nameIndex := 97, descriptorIndex := 98, attributes := #[] }, { accessFlags := 9, nameIndex := 196, descriptorIndex := 197, attributes := #[] }] 48 4 #[] #[{ accessFlags := 4120, nameIndex := 121, descriptorIndex := 122, attributes := #[] }])
  fields := #[{ name := "$assertionsDisabled", type := .boolean, accessFlags := 4120, slot := 0, constantValue := 0 }]
  methods := #[k10m0, k10m1, k10m2, k10m3, k10m4, k10m5]
  instanceTypes := #[]
  staticTypes := #[.boolean]
  resolved := Array.replicate 395 none
  statics := none }

def pool11 : Array CpInfo := pool [(6, .class_ 8), (1, u "java/lang/Object"), (0, u "<init>"), (0, u "()V"), (1, .class_ 14), (1, u "java/lang/StringUTF16"), (31, u "$assertionsDisabled"), (0, u "Z"), (13, u "HI_BYTE_SHIFT"), (0, u "I"), (2, u "LO_BYTE_SHIFT"), (49, .methodref 12 116), (0, .nameAndType 117 118), (0, u "compress"), (0, u "([CI[BII)I"), (3, u "([CII)[B"), (138, u "coderFromArrayLen"), (0, u "([BI)B"), (106, .class_ 371), (1, u "java/lang/StringUTF16$LinesSpliterator"), (58, u "MAX_LENGTH"), (196, .class_ 628), (0, u "java/lang/StringUTF16$CodePointsSpliterator"), (0, .class_ 630), (0, u "java/lang/StringUTF16$CharsSpliterator")] 4

def k11m0 : Method := { name := "<init>", desc := "()V", sig := { parameters := [], returnType := none }, accessFlags := 0, code := none }
def k11c1 : Code := { maxStack := 2, maxLocals := 2, code := jdk_52_method_15_code, exceptionTable := #[], attributes := #[] }
def k11m1 : Method := { name := "coderFromArrayLen", desc := "([BI)B", sig := { parameters := [(.array .byte), .int], returnType := some .byte }, accessFlags := 8, code := some k11c1 }
def k11c2 : Code := { maxStack := 5, maxLocals := 6, code := jdk_52_method_16_code, exceptionTable := #[], attributes := #[] }
def k11m2 : Method := { name := "compress", desc := "([CII)[B", sig := { parameters := [(.array .char), .int, .int], returnType := some (.array .byte) }, accessFlags := 9, code := some k11c2 }
def k11c3 : Code := { maxStack := 3, maxLocals := 7, code := jdk_52_method_21_code, exceptionTable := #[], attributes := #[] }
def k11m3 : Method := { name := "compress", desc := "([CI[BII)I", sig := { parameters := [(.array .char), .int, (.array .byte), .int, .int], returnType := some .int }, accessFlags := 9, code := some k11c3 }
/-- java/lang/StringUTF16 -/
def k11 : Class := { plain "java/lang/StringUTF16" (some 0) with
  accessFlags := 48
  interfaces := #[]
  cf := some (fileOf pool11 12 #[.nestMembers #[627, 629, 369]] #[{ accessFlags := 0, nameIndex := 9, descriptorIndex := 10, attributes := #[] }, { accessFlags := 8, nameIndex := 261, descriptorIndex := 262, attributes := #[] }, { accessFlags := 9, nameIndex := 117, descriptorIndex := 122, attributes := #[] }, { accessFlags := 9, nameIndex := 117, descriptorIndex := 118, attributes := #[] }] 48 6 #[] #[{ accessFlags := 26, nameIndex := 61, descriptorIndex := 62, attributes := #[] }, { accessFlags := 26, nameIndex := 65, descriptorIndex := 62, attributes := #[] }, { accessFlags := 24, nameIndex := 430, descriptorIndex := 62, attributes := #[] }, { accessFlags := 4120, nameIndex := 46, descriptorIndex := 47, attributes := #[] }])
  fields := #[{ name := "HI_BYTE_SHIFT", type := .int, accessFlags := 26, slot := 0, constantValue := 0 }, { name := "LO_BYTE_SHIFT", type := .int, accessFlags := 26, slot := 1, constantValue := 0 }, { name := "MAX_LENGTH", type := .int, accessFlags := 24, slot := 2, constantValue := 0 }, { name := "$assertionsDisabled", type := .boolean, accessFlags := 4120, slot := 3, constantValue := 0 }]
  methods := #[k11m0, k11m1, k11m2, k11m3]
  instanceTypes := #[]
  staticTypes := #[.int, .int, .int, .boolean]
  resolved := Array.replicate 635 none
  statics := none }

def pool12 : Array CpInfo := pool [(1, .class_ 2), (0, u "java/lang/Math"), (1, .class_ 6), (1, u "java/lang/Object"), (0, u "<init>"), (0, u "()V"), (89, .class_ 100), (1, u "java/lang/Math$RandomNumberGeneratorHolder"), (71, u "negativeZeroFloatBits"), (0, u "J"), (2, u "negativeZeroDoubleBits"), (21, u "max"), (2, u "min"), (43, u "$assertionsDisabled"), (0, u "Z"), (88, u "(II)I"), (2, u "twoToTheDoubleScaleDown"), (0, u "D"), (4, u "twoToTheDoubleScaleUp"), (9, u "E"), (3, u "PI"), (2, u "TAU"), (2, u "DEGREES_TO_RADIANS"), (0, u "RADIANS_TO_DEGREES")] 94

def k12m0 : Method := { name := "<init>", desc := "()V", sig := { parameters := [], returnType := none }, accessFlags := 2, code := none }
def k12c1 : Code := { maxStack := 2, maxLocals := 2, code := jdk_29_method_65_code, exceptionTable := #[], attributes := #[] }
def k12m1 : Method := { name := "max", desc := "(II)I", sig := { parameters := [.int, .int], returnType := some .int }, accessFlags := 9, code := some k12c1 }
def k12c2 : Code := { maxStack := 2, maxLocals := 2, code := jdk_29_method_69_code, exceptionTable := #[], attributes := #[] }
def k12m2 : Method := { name := "min", desc := "(II)I", sig := { parameters := [.int, .int], returnType := some .int }, accessFlags := 9, code := some k12c2 }
/-- java/lang/Math -/
def k12 : Class := { plain "java/lang/Math" (some 0) with
  accessFlags := 49
  interfaces := #[]
  cf := some (fileOf pool12 1 #[.nestMembers #[98]] #[{ accessFlags := 2, nameIndex := 7, descriptorIndex := 8, attributes := #[] }, { accessFlags := 9, nameIndex := 198, descriptorIndex := 335, attributes := #[] }, { accessFlags := 9, nameIndex := 201, descriptorIndex := 335, attributes := #[] }] 49 4 #[] #[{ accessFlags := 25, nameIndex := 354, descriptorIndex := 339, attributes := #[] }, { accessFlags := 25, nameIndex := 358, descriptorIndex := 339, attributes := #[] }, { accessFlags := 25, nameIndex := 361, descriptorIndex := 339, attributes := #[] }, { accessFlags := 26, nameIndex := 364, descriptorIndex := 339, attributes := #[] }, { accessFlags := 26, nameIndex := 365, descriptorIndex := 339, attributes := #[] }, { accessFlags := 26, nameIndex := 172, descriptorIndex := 173, attributes := #[] }, { accessFlags := 26, nameIndex := 176, descriptorIndex := 173, attributes := #[] }, { accessFlags := 8, nameIndex := 344, descriptorIndex := 339, attributes := #[] }, { accessFlags := 8, nameIndex := 338, descriptorIndex := 339, attributes := #[] }, { accessFlags := 4120, nameIndex := 245, descriptorIndex := 246, attributes := #[] }])
  fields := #[{ name := "E", type := .double, accessFlags := 25, slot := 0, constantValue := 0 }, { name := "PI", type := .double, accessFlags := 25, slot := 1, constantValue := 0 }, { name := "TAU", type := .double, accessFlags := 25, slot := 2, constantValue := 0 }, { name := "DEGREES_TO_RADIANS", type := .double, accessFlags := 26, slot := 3, constantValue := 0 }, { name := "RADIANS_TO_DEGREES", type := .double, accessFlags := 26, slot := 4, constantValue := 0 }, { name := "negativeZeroFloatBits", type := .long, accessFlags := 26, slot := 5, constantValue := 0 }, { name := "negativeZeroDoubleBits", type := .long, accessFlags := 26, slot := 6, constantValue := 0 }, { name := "twoToTheDoubleScaleUp", type := .double, accessFlags := 8, slot := 7, constantValue := 0 }, { name := "twoToTheDoubleScaleDown", type := .double, accessFlags := 8, slot := 8, constantValue := 0 }, { name := "$assertionsDisabled", type := .boolean, accessFlags := 4120, slot := 9, constantValue := 0 }]
  methods := #[k12m0, k12m1, k12m2]
  instanceTypes := #[]
  staticTypes := #[.double, .double, .double, .double, .double, .long, .long, .double, .double, .boolean]
  resolved := Array.replicate 460 none
  statics := none }

def pool13 : Array CpInfo := pool [(2, .class_ 4), (1, u "java/lang/Object"), (0, u "<init>"), (0, u "()V"), (17, .class_ 26), (1, u "jdk/internal/util/Preconditions"), (20, u "checkFromToIndex"), (7, .class_ 56), (0, u "jdk/internal/util/Preconditions$4"), (57, .class_ 115), (0, u "jdk/internal/util/Preconditions$1"), (7, u "SIOOBE_FORMATTER"), (0, u "Ljava/util/function/BiFunction;"), (0, .class_ 126), (0, u "jdk/internal/util/Preconditions$2"), (3, u "AIOOBE_FORMATTER"), (0, .class_ 132), (0, u "jdk/internal/util/Preconditions$3"), (3, u "IOOBE_FORMATTER"), (46, u "(IIILjava/util/function/BiFunction;)I")] 10

def k13m0 : Method := { name := "<init>", desc := "()V", sig := { parameters := [], returnType := none }, accessFlags := 1, code := none }
def k13c1 : Code := { maxStack := 4, maxLocals := 4, code := jdk_41_method_12_code, exceptionTable := #[], attributes := #[] }
def k13m1 : Method := { name := "checkFromToIndex", desc := "(IIILjava/util/function/BiFunction;)I", sig := { parameters := [.int, .int, .int, (.object "java/util/function/BiFunction")], returnType := some .int }, accessFlags := 9, code := some k13c1 }
/-- jdk/internal/util/Preconditions -/
def k13 : Class := { plain "jdk/internal/util/Preconditions" (some 0) with
  accessFlags := 33
  interfaces := #[]
  cf := some (fileOf pool13 24 #[.nestMembers #[55, 131, 125, 114]] #[{ accessFlags := 1, nameIndex := 5, descriptorIndex := 6, attributes := #[] }, { accessFlags := 9, nameIndex := 47, descriptorIndex := 183, attributes := #[] }] 33 2 #[] #[{ accessFlags := 25, nameIndex := 123, descriptorIndex := 124, attributes := #[] }, { accessFlags := 25, nameIndex := 130, descriptorIndex := 124, attributes := #[] }, { accessFlags := 25, nameIndex := 136, descriptorIndex := 124, attributes := #[] }])
  fields := #[{ name := "SIOOBE_FORMATTER", type := (.object "java/util/function/BiFunction"), accessFlags := 25, slot := 0, constantValue := 0 }, { name := "AIOOBE_FORMATTER", type := (.object "java/util/function/BiFunction"), accessFlags := 25, slot := 1, constantValue := 0 }, { name := "IOOBE_FORMATTER", type := (.object "java/util/function/BiFunction"), accessFlags := 25, slot := 2, constantValue := 0 }]
  methods := #[k13m0, k13m1]
  instanceTypes := #[]
  staticTypes := #[(.object "java/util/function/BiFunction"), (.object "java/util/function/BiFunction"), (.object "java/util/function/BiFunction")]
  resolved := Array.replicate 194 none
  statics := some 2 }

def pool14 : Array CpInfo := pool [(2, .class_ 4), (1, u "java/lang/Object"), (0, u "<init>"), (0, u "()V"), (7, .class_ 16), (1, u "java/util/Arrays"), (57, .class_ 76), (1, u "java/util/Arrays$NaturalOrder"), (36, .class_ 115), (1, u "java/util/Arrays$LegacyMergeSort"), (1, u "Z"), (21, u "copyOfRange"), (10, .methodref 151 152), (0, .class_ 153), (0, .nameAndType 154 155), (0, u "java/lang/System"), (0, u "arraycopy"), (0, u "(Ljava/lang/Object;ILjava/lang/Object;II)V"), (148, .methodref 305 306), (0, .class_ 307), (0, .nameAndType 308 309), (0, u "java/lang/Math"), (0, u "min"), (0, u "(II)I"), (29, .methodref 14 340), (0, .nameAndType 341 342), (0, u "copyOfRangeByte"), (0, u "([BII)[B"), (0, .methodref 14 344), (0, .nameAndType 345 346), (0, u "checkLength"), (0, u "(II)V"), (28, .class_ 376), (0, u "java/util/Arrays$ArrayList"), (68, u "$assertionsDisabled"), (269, u "MIN_ARRAY_SORT_GRAN"), (0, u "I"), (2, u "INSERTIONSORT_THRESHOLD"), (255, .class_ 976), (0, u "java/util/Arrays$ArrayItr")] 52

def k14m0 : Method := { name := "<init>", desc := "()V", sig := { parameters := [], returnType := none }, accessFlags := 2, code := none }
def k14c1 : Code := { maxStack := 4, maxLocals := 2, code := jdk_65_method_131_code, exceptionTable := #[], attributes := #[] }
def k14m1 : Method := { name := "checkLength", desc := "(II)V", sig := { parameters := [.int, .int], returnType := none }, accessFlags := 10, code := some k14c1 }
def k14c2 : Code := { maxStack := 3, maxLocals := 3, code := jdk_65_method_132_code, exceptionTable := #[], attributes := #[] }
def k14m2 : Method := { name := "copyOfRange", desc := "([BII)[B", sig := { parameters := [(.array .byte), .int, .int], returnType := some (.array .byte) }, accessFlags := 9, code := some k14c2 }
def k14c3 : Code := { maxStack := 6, maxLocals := 5, code := jdk_65_method_133_code, exceptionTable := #[], attributes := #[] }
def k14m3 : Method := { name := "copyOfRangeByte", desc := "([BII)[B", sig := { parameters := [(.array .byte), .int, .int], returnType := some (.array .byte) }, accessFlags := 10, code := some k14c3 }
/-- java/util/Arrays -/
def k14 : Class := { plain "java/util/Arrays" (some 0) with
  accessFlags := 49
  interfaces := #[]
  cf := some (fileOf pool14 14 #[.nestMembers #[975, 375, 113, 74]] #[{ accessFlags := 2, nameIndex := 5, descriptorIndex := 6, attributes := #[] }, { accessFlags := 10, nameIndex := 345, descriptorIndex := 346, attributes := #[] }, { accessFlags := 9, nameIndex := 139, descriptorIndex := 342, attributes := #[] }, { accessFlags := 10, nameIndex := 341, descriptorIndex := 342, attributes := #[] }] 49 2 #[] #[{ accessFlags := 26, nameIndex := 715, descriptorIndex := 716, attributes := #[] }, { accessFlags := 26, nameIndex := 719, descriptorIndex := 716, attributes := #[] }, { accessFlags := 4120, nameIndex := 445, descriptorIndex := 117, attributes := #[] }])
  fields := #[{ name := "MIN_ARRAY_SORT_GRAN", type := .int, accessFlags := 26, slot := 0, constantValue := 0 }, { name := "INSERTIONSORT_THRESHOLD", type := .int, accessFlags := 26, slot := 1, constantValue := 0 }, { name := "$assertionsDisabled", type := .boolean, accessFlags := 4120, slot := 2, constantValue := 0 }]
  methods := #[k14m0, k14m1, k14m2, k14m3]
  instanceTypes := #[]
  staticTypes := #[.int, .int, .boolean]
  resolved := Array.replicate 1029 none
  statics := none }

def pool15 : Array CpInfo := pool [(2, .class_ 4), (1, u "java/lang/Object"), (0, u "<init>"), (0, u "()V"), (1, .class_ 10), (1, u "java/lang/System"), (0, u "allowSecurityManager"), (0, u "I"), (16, u "cons"), (0, u "Ljava/io/Console;"), (77, .class_ 110), (1, u "java/lang/System$CallersHolder"), (43, u "initialErrStream"), (0, u "Ljava/io/PrintStream;"), (19, u "security"), (0, u "Ljava/lang/SecurityManager;"), (31, .class_ 209), (0, u "java/lang/System$1"), (7, u "props"), (0, u "Ljava/util/Properties;"), (2, u "lineSeparator"), (0, u "Ljava/lang/String;"), (96, .class_ 321), (1, u "java/lang/System$LoggerFinder"), (5, .class_ 328), (0, u "java/lang/System$Logger"), (67, u "err"), (2, u "out"), (91, u "notSupportedJnuEncoding"), (15, u "in"), (17, u "initialIn"), (0, u "Ljava/io/InputStream;"), (35, u "bootLayer"), (0, u "Ljava/lang/ModuleLayer;"), (99, .class_ 664), (0, u "java/lang/System$2"), (9, u "NEVER"), (2, u "MAYBE"), (49, u "arraycopy"), (0, u "(Ljava/lang/Object;ILjava/lang/Object;II)V"), (72, .class_ 802), (0, u "java/lang/System$Logger$Level")] 31

def k15m0 : Method := { name := "<init>", desc := "()V", sig := { parameters := [], returnType := none }, accessFlags := 2, code := none }
def k15m1 : Method := { name := "arraycopy", desc := "(Ljava/lang/Object;ILjava/lang/Object;II)V", sig := { parameters := [(.object "java/lang/Object"), .int, (.object "java/lang/Object"), .int, .int], returnType := none }, accessFlags := 265, code := none }
/-- java/lang/System -/
def k15 : Class := { plain "java/lang/System" (some 0) with
  accessFlags := 49
  interfaces := #[]
  cf := some (fileOf pool15 8 #[.nestMembers #[319, 327, 801, 108, 663, 208]] #[{ accessFlags := 2, nameIndex := 5, descriptorIndex := 6, attributes := #[] }, { accessFlags := 265, nameIndex := 727, descriptorIndex := 728, attributes := #[] }] 49 2 #[] #[{ accessFlags := 25, nameIndex := 507, descriptorIndex := 526, attributes := #[] }, { accessFlags := 25, nameIndex := 399, descriptorIndex := 155, attributes := #[] }, { accessFlags := 25, nameIndex := 396, descriptorIndex := 155, attributes := #[] }, { accessFlags := 10, nameIndex := 525, descriptorIndex := 526, attributes := #[] }, { accessFlags := 26, nameIndex := 674, descriptorIndex := 12, attributes := #[] }, { accessFlags := 26, nameIndex := 677, descriptorIndex := 12, attributes := #[] }, { accessFlags := 10, nameIndex := 11, descriptorIndex := 12, attributes := #[] }, { accessFlags := 74, nameIndex := 175, descriptorIndex := 176, attributes := #[] }, { accessFlags := 10, nameIndex := 491, descriptorIndex := 222, attributes := #[] }, { accessFlags := 74, nameIndex := 29, descriptorIndex := 30, attributes := #[] }, { accessFlags := 74, nameIndex := 154, descriptorIndex := 155, attributes := #[] }, { accessFlags := 10, nameIndex := 217, descriptorIndex := 218, attributes := #[] }, { accessFlags := 10, nameIndex := 221, descriptorIndex := 222, attributes := #[] }, { accessFlags := 8, nameIndex := 562, descriptorIndex := 563, attributes := #[] }])
  fields := #[{ name := "in", type := (.object "java/io/InputStream"), accessFlags := 25, slot := 0, constantValue := 0 }, { name := "out", type := (.object "java/io/PrintStream"), accessFlags := 25, slot := 1, constantValue := 0 }, { name := "err", type := (.object "java/io/PrintStream"), accessFlags := 25, slot := 2, constantValue := 0 }, { name := "initialIn", type := (.object "java/io/InputStream"), accessFlags := 10, slot := 3, constantValue := 0 }, { name := "NEVER", type := .int, accessFlags := 26, slot := 4, constantValue := 0 }, { name := "MAYBE", type := .int, accessFlags := 26, slot := 5, constantValue := 0 }, { name := "allowSecurityManager", type := .int, accessFlags := 10, slot := 6, constantValue := 0 }, { name := "security", type := (.object "java/lang/SecurityManager"), accessFlags := 74, slot := 7, constantValue := 0 }, { name := "notSupportedJnuEncoding", type := (.object "java/lang/String"), accessFlags := 10, slot := 8, constantValue := 0 }, { name := "cons", type := (.object "java/io/Console"), accessFlags := 74, slot := 9, constantValue := 0 }, { name := "initialErrStream", type := (.object "java/io/PrintStream"), accessFlags := 74, slot := 10, constantValue := 0 }, { name := "props", type := (.object "java/util/Properties"), accessFlags := 10, slot := 11, constantValue := 0 }, { name := "lineSeparator", type := (.object "java/lang/String"), accessFlags := 10, slot := 12, constantValue := 0 }, { name := "bootLayer", type := (.object "java/lang/ModuleLayer"), accessFlags := 8, slot := 13, constantValue := 0 }]
  methods := #[k15m0, k15m1]
  instanceTypes := #[]
  staticTypes := #[(.object "java/io/InputStream"), (.object "java/io/PrintStream"), (.object "java/io/PrintStream"), (.object "java/io/InputStream"), .int, .int, .int, (.object "java/lang/SecurityManager"), (.object "java/lang/String"), (.object "java/io/Console"), (.object "java/io/PrintStream"), (.object "java/util/Properties"), (.object "java/lang/String"), (.object "java/lang/ModuleLayer")]
  resolved := Array.replicate 834 none
  statics := none }

def pool16 : Array CpInfo := pool [(9, u "<init>"), (6, .class_ 18), (1, u "java/lang/Object"), (0, u "()V"), (1, .class_ 23), (1, u "jdk/internal/util/ArraysSupport"), (0, u "LOG2_ARRAY_LONG_INDEX_SCALE"), (0, u "I"), (2, u "U"), (0, u "Ljdk/internal/misc/Unsafe;"), (8, u "BIG_ENDIAN"), (0, u "Z"), (8, u "LOG2_BYTE_BIT_SIZE"), (4, u "LOG2_ARRAY_INT_INDEX_SCALE"), (54, u "JLA"), (0, u "Ljdk/internal/access/JavaLangAccess;"), (11, u "LOG2_ARRAY_BOOLEAN_INDEX_SCALE"), (9, u "LOG2_ARRAY_BYTE_INDEX_SCALE"), (5, u "LOG2_ARRAY_CHAR_INDEX_SCALE"), (5, u "LOG2_ARRAY_SHORT_INDEX_SCALE"), (18, u "LOG2_ARRAY_FLOAT_INDEX_SCALE"), (24, u "LOG2_ARRAY_DOUBLE_INDEX_SCALE"), (89, u "T_BOOLEAN"), (2, u "T_CHAR"), (1, u "T_FLOAT"), (1, u "T_DOUBLE"), (1, u "T_BYTE"), (1, u "T_SHORT"), (1, u "T_INT"), (1, u "T_LONG"), (1, u "SOFT_MAX_ARRAY_LENGTH")] 83

def k16m0 : Method := { name := "<init>", desc := "()V", sig := { parameters := [], returnType := none }, accessFlags := 2, code := none }
/-- jdk/internal/util/ArraysSupport -/
def k16 : Class := { plain "jdk/internal/util/ArraysSupport" (some 0) with
  accessFlags := 33
  interfaces := #[]
  cf := some (fileOf pool16 21 #[] #[{ accessFlags := 2, nameIndex := 9, descriptorIndex := 19, attributes := #[] }] 33 16 #[] #[{ accessFlags := 24, nameIndex := 28, descriptorIndex := 29, attributes := #[] }, { accessFlags := 26, nameIndex := 38, descriptorIndex := 39, attributes := #[] }, { accessFlags := 25, nameIndex := 121, descriptorIndex := 25, attributes := #[] }, { accessFlags := 25, nameIndex := 131, descriptorIndex := 25, attributes := #[] }, { accessFlags := 25, nameIndex := 137, descriptorIndex := 25, attributes := #[] }, { accessFlags := 25, nameIndex := 143, descriptorIndex := 25, attributes := #[] }, { accessFlags := 25, nameIndex := 53, descriptorIndex := 25, attributes := #[] }, { accessFlags := 25, nameIndex := 24, descriptorIndex := 25, attributes := #[] }, { accessFlags := 25, nameIndex := 162, descriptorIndex := 25, attributes := #[] }, { accessFlags := 25, nameIndex := 187, descriptorIndex := 25, attributes := #[] }, { accessFlags := 26, nameIndex := 48, descriptorIndex := 25, attributes := #[] }, { accessFlags := 25, nameIndex := 277, descriptorIndex := 25, attributes := #[] }, { accessFlags := 25, nameIndex := 280, descriptorIndex := 25, attributes := #[] }, { accessFlags := 25, nameIndex := 282, descriptorIndex := 25, attributes := #[] }, { accessFlags := 25, nameIndex := 284, descriptorIndex := 25, attributes := #[] }, { accessFlags := 25, nameIndex := 286, descriptorIndex := 25, attributes := #[] }, { accessFlags := 25, nameIndex := 288, descriptorIndex := 25, attributes := #[] }, { accessFlags := 25, nameIndex := 290, descriptorIndex := 25, attributes := #[] }, { accessFlags := 25, nameIndex := 292, descriptorIndex := 25, attributes := #[] }, { accessFlags := 26, nameIndex := 108, descriptorIndex := 109, attributes := #[] }, { accessFlags := 25, nameIndex := 294, descriptorIndex := 25, attributes := #[] }])
  fields := #[{ name := "U", type := (.object "jdk/internal/misc/Unsafe"), accessFlags := 24, slot := 0, constantValue := 0 }, { name := "BIG_ENDIAN", type := .boolean, accessFlags := 26, slot := 1, constantValue := 0 }, { name := "LOG2_ARRAY_BOOLEAN_INDEX_SCALE", type := .int, accessFlags := 25, slot := 2, constantValue := 0 }, { name := "LOG2_ARRAY_BYTE_INDEX_SCALE", type := .int, accessFlags := 25, slot := 3, constantValue := 0 }, { name := "LOG2_ARRAY_CHAR_INDEX_SCALE", type := .int, accessFlags := 25, slot := 4, constantValue := 0 }, { name := "LOG2_ARRAY_SHORT_INDEX_SCALE", type := .int, accessFlags := 25, slot := 5, constantValue := 0 }, { name := "LOG2_ARRAY_INT_INDEX_SCALE", type := .int, accessFlags := 25, slot := 6, constantValue := 0 }, { name := "LOG2_ARRAY_LONG_INDEX_SCALE", type := .int, accessFlags := 25, slot := 7, constantValue := 0 }, { name := "LOG2_ARRAY_FLOAT_INDEX_SCALE", type := .int, accessFlags := 25, slot := 8, constantValue := 0 }, { name := "LOG2_ARRAY_DOUBLE_INDEX_SCALE", type := .int, accessFlags := 25, slot := 9, constantValue := 0 }, { name := "LOG2_BYTE_BIT_SIZE", type := .int, accessFlags := 26, slot := 10, constantValue := 0 }, { name := "T_BOOLEAN", type := .int, accessFlags := 25, slot := 11, constantValue := 0 }, { name := "T_CHAR", type := .int, accessFlags := 25, slot := 12, constantValue := 0 }, { name := "T_FLOAT", type := .int, accessFlags := 25, slot := 13, constantValue := 0 }, { name := "T_DOUBLE", type := .int, accessFlags := 25, slot := 14, constantValue := 0 }, { name := "T_BYTE", type := .int, accessFlags := 25, slot := 15, constantValue := 0 }, { name := "T_SHORT", type := .int, accessFlags := 25, slot := 16, constantValue := 0 }, { name := "T_INT", type := .int, accessFlags := 25, slot := 17, constantValue := 0 }, { name := "T_LONG", type := .int, accessFlags := 25, slot := 18, constantValue := 0 }, { name := "JLA", type := (.object "jdk/internal/access/JavaLangAccess"), accessFlags := 26, slot := 19, constantValue := 0 }, { name := "SOFT_MAX_ARRAY_LENGTH", type := .int, accessFlags := 25, slot := 20, constantValue := 0 }]
  methods := #[k16m0]
  instanceTypes := #[]
  staticTypes := #[(.object "jdk/internal/misc/Unsafe"), .boolean, .int, .int, .int, .int, .int, .int, .int, .int, .int, .int, .int, .int, .int, .int, .int, .int, .int, (.object "jdk/internal/access/JavaLangAccess"), .int]
  resolved := Array.replicate 378 none
  statics := none }

def pool17 : Array CpInfo := pool [(1, u "java/lang/Cloneable"), (0, .class_ 1), (0, u "java/lang/Object"), (0, .class_ 3)] 3

/-- java/lang/Cloneable -/
def k17 : Class := { plain "java/lang/Cloneable" (some 0) with
  accessFlags := 1537
  interfaces := #[]
  cf := some (fileOf pool17 2 #[] #[] 1537 4 #[] #[])
  fields := #[]
  methods := #[]
  instanceTypes := #[]
  staticTypes := #[]
  resolved := Array.replicate 8 none
  statics := none }

/-- the primitive byte -/
def k18 : Class := { plain "byte" none with kind := .primitive 'B', accessFlags := 0x411 }
/-- [B -/
def k19 : Class := { plain "[B" (some 0) with kind := .array 18 .byte, interfaces := #[17, 4], accessFlags := 1041 }

/-- the primitive char -/
def k20 : Class := { plain "char" none with kind := .primitive 'C', accessFlags := 0x411 }
/-- [C -/
def k21 : Class := { plain "[C" (some 0) with kind := .array 20 .char, interfaces := #[17, 4], accessFlags := 1041 }

/-- the primitive int -/
def k22 : Class := { plain "int" none with kind := .primitive 'I', accessFlags := 0x411 }
/-- [I -/
def k23 : Class := { plain "[I" (some 0) with kind := .array 22 .int, interfaces := #[17, 4], accessFlags := 1041 }

def heap : Heap := #[{ cls := 6, slots := #[.ref 3, .ref 6, .ref 5, .ref 4, .null], vm := .statics 6 },
  { cls := 9, slots := #[.long 0, .int 1, .null, .int 0, .null, .int 0, .int 0], vm := .statics 9 },
  { cls := 13, slots := #[.null, .null, .null], vm := .statics 13 },
  { cls := 6, slots := #[.null, .int 0, .int 0, .null], vm := .none },
  { cls := 6, slots := #[.null, .int 3, .int 0, .null], vm := .none },
  { cls := 6, slots := #[.null, .int 2, .int 0, .null], vm := .none },
  { cls := 6, slots := #[.null, .int 1, .int 0, .null], vm := .none }]
def classes : Array Class := #[k0, k1, k2, k3, k4, k5, k6, k7, k8, k9, k10, k11, k12, k13, k14, k15, k16, k17, k18, k19, k20, k21, k22, k23]
def interned : List (Array UInt16 × Addr) := []
def slotsUsed : Nat := 31
def theMethod : MethodId := ⟨1, 1⟩
def args0 : Array Value := #[.int 5, .long 5, .long 5]
def aboutOver (below : List Frame) : State where
  vm := { classes := classes, interned := interned.toArray }
  heap := heap
  slotsUsed := slotsUsed
  threads := #[{ frames := .invoking theMethod args0 :: below }]
def below0 : List Frame := [.native { method := ⟨0, 0⟩, args := #[] }]
def about1 : State := aboutOver below0
def p0 : Program := .bare "" "" ""
def e0 : Env := launch0.env 0 0 0
theorem w_frames : about1.frames = Frame.invoking theMethod args0 :: below0 := rfl
set_option maxRecDepth 65536 in
theorem w_args : argsFit about1.vm theMethod args0 = true := by decide +kernel
set_option maxRecDepth 65536 in
theorem w_heap : heapFits about1 = true := by decide +kernel
set_option maxRecDepth 65536 in
theorem w_runnable : about1.curStatus? = some .runnable := by decide +kernel
set_option maxRecDepth 65536 in
theorem w_alone : about1.alone = true := by decide +kernel
set_option maxRecDepth 65536 in
theorem w_named : about1.methodNamed? x = some theMethod := by decide +kernel
set_option maxRecDepth 65536 in
theorem w_hears : about1.hears theMethod below0 = true := by decide +kernel
set_option maxRecDepth 65536 in
theorem w_ripe : about1.ripe theMethod args0 below0 = true := by decide +kernel
theorem w_running : about1.status = .running := rfl
set_option maxRecDepth 65536 in
theorem w_room : about1.hasRoom e0.platform room_1 = true :=
  launch0.hasRoom_least _ room_1 (by decide +kernel) (by decide +kernel) (by decide +kernel) (by decide +kernel) (by decide +kernel) (by decide +kernel)
theorem allAtoms_all (ts : List Jvm.Cond) (a : Array Jvm.Value) (st : Jvm.State) : (allAtoms ts).before a st = ts.all (fun c => c.before a st) := by
  induction ts with
  | nil => rfl
  | cons c t ih =>
    show (Jvm.Cond.and c (allAtoms t)).before a st = _
    rw [Jvm.Cond.before_and, ih, List.all_cons]
def words1 : List Jvm.Cond := Jvm.Cond.code x code maxLocals ret :: tables_1
/-- a 'code' word, met by the world's own term for the bytes: nothing is compared byte by byte -/
theorem code_word {y : MethodName} {bytes : ByteArray} {mx : Nat} {rt : Option FieldType} {a : Array Value} {s : State} {m : MethodId} {meth : Method} {c : Code} (h1 : s.methodNamed? y = some m) (h2 : s.vm.method? m = some meth) (h3 : meth.code = some c) (h4 : c.code = bytes)
    (h5 : (c.maxLocals == mx && c.exceptionTable.isEmpty && decide (c.maxStack ≤ mostOperands) && decide (meth.sig.returnType = rt) && !meth.locks && decide (parseMethodDescriptor y.desc = some meth.sig)) = true) : (Jvm.Cond.code y bytes mx rt).before a s = true := by
  simp only [Bool.and_eq_true, beq_iff_eq, Bool.not_eq_true', decide_eq_true_eq] at h5
  obtain ⟨⟨⟨⟨⟨g1, g2⟩, g3⟩, g4⟩, g5⟩, g6⟩ := h5
  simp [Cond.before, Cond.holds, Cond.value, h1, h2, h3, h4, g1, g2, g3, g4, g5, g6]
def isCode : Jvm.Cond → Bool
  | .code _ _ _ _ => true
  | _ => false
theorem all_split {L : List Jvm.Cond} {P : Jvm.Cond → Bool} (h1 : L.all (fun c => isCode c || P c) = true) (h2 : ∀ c ∈ L.filter isCode, P c = true) : L.all P = true := by
  refine List.all_eq_true.mpr fun c hc => ?_
  have h := List.all_eq_true.mp h1 c hc
  rcases Bool.eq_false_or_eq_true (isCode c) with hi | hi
  · exact h2 c (List.mem_filter.mpr ⟨hc, hi⟩)
  · simpa [hi] using h
set_option maxRecDepth 65536 in
theorem w_c0 : (Jvm.Cond.code x code maxLocals ret).before args0 about1 = true := code_word (m := ⟨1, 1⟩) (meth := k1m1) (c := k1c1) (by decide +kernel) rfl rfl rfl (by decide +kernel)
set_option maxRecDepth 65536 in
theorem w_c1 : (Jvm.Cond.code ({ cls := "com/example/plugwright/plugwright/platform/AttributeFitsPinLaw", name := "pick", desc := "(I)Lcom/example/plugwright/plugwright/platform/Attribute;" } : Jvm.MethodName) method_3_code (1 : Nat) (Option.some (Jvm.ClassFile.FieldType.object "com/example/plugwright/plugwright/platform/Attribute"))).before args0 about1 = true := code_word (m := ⟨1, 2⟩) (meth := k1m2) (c := k1c2) (by decide +kernel) rfl rfl rfl (by decide +kernel)
set_option maxRecDepth 65536 in
theorem w_c2 : (Jvm.Cond.code ({ cls := "com/example/plugwright/plugwright/platform/AttributeFitsPinLaw", name := "tch", desc := "(JI)C" } : Jvm.MethodName) method_4_code (3 : Nat) (Option.some Jvm.ClassFile.FieldType.char)).before args0 about1 = true := code_word (m := ⟨1, 3⟩) (meth := k1m3) (c := k1c3) (by decide +kernel) rfl rfl rfl (by decide +kernel)
set_option maxRecDepth 65536 in
theorem w_c3 : (Jvm.Cond.code ({ cls := "com/example/plugwright/plugwright/platform/AttributeFitsPinLaw", name := "lch", desc := "(JIC)C" } : Jvm.MethodName) method_5_code (5 : Nat) (Option.some Jvm.ClassFile.FieldType.char)).before args0 about1 = true := code_word (m := ⟨1, 4⟩) (meth := k1m4) (c := k1c4) (by decide +kernel) rfl rfl rfl (by decide +kernel)
set_option maxRecDepth 65536 in
theorem w_c4 : (Jvm.Cond.code ({ cls := "com/example/plugwright/plugwright/platform/AttributeFitsPinLaw", name := "mk", desc := "([CI)Ljava/lang/String;" } : Jvm.MethodName) method_6_code (2 : Nat) (Option.some (Jvm.ClassFile.FieldType.object "java/lang/String"))).before args0 about1 = true := code_word (m := ⟨1, 5⟩) (meth := k1m5) (c := k1c5) (by decide +kernel) rfl rfl rfl (by decide +kernel)
set_option maxRecDepth 65536 in
theorem w_c5 : (Jvm.Cond.code ({ cls := "java/lang/String", name := "<init>", desc := "([C)V" } : Jvm.MethodName) jdk_42_method_3_code (2 : Nat) (Option.none : Option Jvm.ClassFile.FieldType)).before args0 about1 = true := code_word (m := ⟨9, 1⟩) (meth := k9m1) (c := k9c1) (by decide +kernel) rfl rfl rfl (by decide +kernel)
set_option maxRecDepth 65536 in
theorem w_c6 : (Jvm.Cond.code ({ cls := "java/lang/String", name := "<init>", desc := "([CIILjava/lang/Void;)V" } : Jvm.MethodName) jdk_42_method_149_code (6 : Nat) (Option.none : Option Jvm.ClassFile.FieldType)).before args0 about1 = true := code_word (m := ⟨9, 7⟩) (meth := k9m7) (c := k9c7) (by decide +kernel) rfl rfl rfl (by decide +kernel)
set_option maxRecDepth 65536 in
theorem w_c7 : (Jvm.Cond.code ({ cls := "java/lang/Object", name := "<init>", desc := "()V" } : Jvm.MethodName) object_method_1_code (1 : Nat) (Option.none : Option Jvm.ClassFile.FieldType)).before args0 about1 = true := code_word (m := ⟨0, 0⟩) (meth := k0m0) (c := k0c0) (by decide +kernel) rfl rfl rfl (by decide +kernel)
set_option maxRecDepth 65536 in
theorem w_c8 : (Jvm.Cond.code ({ cls := "com/example/plugwright/plugwright/platform/AttributeFitsPinLaw", name := "firstUnderscore", desc := "([CI)I" } : Jvm.MethodName) method_7_code (2 : Nat) (Option.some Jvm.ClassFile.FieldType.int)).before args0 about1 = true := code_word (m := ⟨1, 6⟩) (meth := k1m6) (c := k1c6) (by decide +kernel) rfl rfl rfl (by decide +kernel)
set_option maxRecDepth 65536 in
theorem w_c9 : (Jvm.Cond.code ({ cls := "com/example/plugwright/plugwright/platform/AttributeFitsPinLaw", name := "same", desc := "([CI[CI)Z" } : Jvm.MethodName) method_8_code (4 : Nat) (Option.some Jvm.ClassFile.FieldType.boolean)).before args0 about1 = true := code_word (m := ⟨1, 7⟩) (meth := k1m7) (c := k1c7) (by decide +kernel) rfl rfl rfl (by decide +kernel)
set_option maxRecDepth 65536 in
theorem w_c10 : (Jvm.Cond.code ({ cls := "com/example/plugwright/plugwright/platform/Attribute", name := "fits", desc := "(Ljava/lang/String;Ljava/lang/String;)Z" } : Jvm.MethodName) prog_32_method_4_code (4 : Nat) (Option.some Jvm.ClassFile.FieldType.boolean)).before args0 about1 = true := code_word (m := ⟨6, 0⟩) (meth := k6m0) (c := k6c0) (by decide +kernel) rfl rfl rfl (by decide +kernel)
set_option maxRecDepth 65536 in
theorem w_c11 : (Jvm.Cond.code ({ cls := "java/lang/String", name := "equals", desc := "(Ljava/lang/Object;)Z" } : Jvm.MethodName) jdk_42_method_66_code (3 : Nat) (Option.some Jvm.ClassFile.FieldType.boolean)).before args0 about1 = true := code_word (m := ⟨9, 3⟩) (meth := k9m3) (c := k9c3) (by decide +kernel) rfl rfl rfl (by decide +kernel)
set_option maxRecDepth 65536 in
theorem w_c12 : (Jvm.Cond.code ({ cls := "java/lang/StringLatin1", name := "equals", desc := "([B[B)Z" } : Jvm.MethodName) jdk_43_method_13_code (3 : Nat) (Option.some Jvm.ClassFile.FieldType.boolean)).before args0 about1 = true := code_word (m := ⟨10, 2⟩) (meth := k10m2) (c := k10c2) (by decide +kernel) rfl rfl rfl (by decide +kernel)
set_option maxRecDepth 65536 in
theorem w_c13 : (Jvm.Cond.code ({ cls := "java/lang/StringUTF16", name := "compress", desc := "([CII)[B" } : Jvm.MethodName) jdk_52_method_16_code (6 : Nat) (Option.some (Jvm.ClassFile.FieldType.array Jvm.ClassFile.FieldType.byte))).before args0 about1 = true := code_word (m := ⟨11, 2⟩) (meth := k11m2) (c := k11c2) (by decide +kernel) rfl rfl rfl (by decide +kernel)
set_option maxRecDepth 65536 in
theorem w_c14 : (Jvm.Cond.code ({ cls := "java/lang/StringUTF16", name := "compress", desc := "([CI[BII)I" } : Jvm.MethodName) jdk_52_method_21_code (7 : Nat) (Option.some Jvm.ClassFile.FieldType.int)).before args0 about1 = true := code_word (m := ⟨11, 3⟩) (meth := k11m3) (c := k11c3) (by decide +kernel) rfl rfl rfl (by decide +kernel)
set_option maxRecDepth 65536 in
theorem w_c15 : (Jvm.Cond.code ({ cls := "java/lang/StringUTF16", name := "coderFromArrayLen", desc := "([BI)B" } : Jvm.MethodName) jdk_52_method_15_code (2 : Nat) (Option.some Jvm.ClassFile.FieldType.byte)).before args0 about1 = true := code_word (m := ⟨11, 1⟩) (meth := k11m1) (c := k11c1) (by decide +kernel) rfl rfl rfl (by decide +kernel)
set_option maxRecDepth 65536 in
theorem w_c16 : (Jvm.Cond.code ({ cls := "java/lang/String", name := "indexOf", desc := "(I)I" } : Jvm.MethodName) jdk_42_method_79_code (2 : Nat) (Option.some Jvm.ClassFile.FieldType.int)).before args0 about1 = true := code_word (m := ⟨9, 4⟩) (meth := k9m4) (c := k9c4) (by decide +kernel) rfl rfl rfl (by decide +kernel)
set_option maxRecDepth 65536 in
theorem w_c17 : (Jvm.Cond.code ({ cls := "java/lang/String", name := "indexOf", desc := "(II)I" } : Jvm.MethodName) jdk_42_method_80_code (3 : Nat) (Option.some Jvm.ClassFile.FieldType.int)).before args0 about1 = true := code_word (m := ⟨9, 5⟩) (meth := k9m5) (c := k9c5) (by decide +kernel) rfl rfl rfl (by decide +kernel)
set_option maxRecDepth 65536 in
theorem w_c18 : (Jvm.Cond.code ({ cls := "java/lang/String", name := "isLatin1", desc := "()Z" } : Jvm.MethodName) jdk_42_method_154_code (1 : Nat) (Option.some Jvm.ClassFile.FieldType.boolean)).before args0 about1 = true := code_word (m := ⟨9, 10⟩) (meth := k9m10) (c := k9c10) (by decide +kernel) rfl rfl rfl (by decide +kernel)
set_option maxRecDepth 65536 in
theorem w_c19 : (Jvm.Cond.code ({ cls := "java/lang/String", name := "length", desc := "()I" } : Jvm.MethodName) jdk_42_method_54_code (1 : Nat) (Option.some Jvm.ClassFile.FieldType.int)).before args0 about1 = true := code_word (m := ⟨9, 2⟩) (meth := k9m2) (c := k9c2) (by decide +kernel) rfl rfl rfl (by decide +kernel)
set_option maxRecDepth 65536 in
theorem w_c20 : (Jvm.Cond.code ({ cls := "java/lang/String", name := "coder", desc := "()B" } : Jvm.MethodName) jdk_42_method_152_code (1 : Nat) (Option.some Jvm.ClassFile.FieldType.byte)).before args0 about1 = true := code_word (m := ⟨9, 9⟩) (meth := k9m9) (c := k9c9) (by decide +kernel) rfl rfl rfl (by decide +kernel)
set_option maxRecDepth 65536 in
theorem w_c21 : (Jvm.Cond.code ({ cls := "java/lang/StringLatin1", name := "indexOf", desc := "([BIII)I" } : Jvm.MethodName) jdk_43_method_22_code (4 : Nat) (Option.some Jvm.ClassFile.FieldType.int)).before args0 about1 = true := code_word (m := ⟨10, 3⟩) (meth := k10m3) (c := k10c3) (by decide +kernel) rfl rfl rfl (by decide +kernel)
set_option maxRecDepth 65536 in
theorem w_c22 : (Jvm.Cond.code ({ cls := "java/lang/StringLatin1", name := "canEncode", desc := "(I)Z" } : Jvm.MethodName) jdk_43_method_4_code (1 : Nat) (Option.some Jvm.ClassFile.FieldType.boolean)).before args0 about1 = true := code_word (m := ⟨10, 1⟩) (meth := k10m1) (c := k10c1) (by decide +kernel) rfl rfl rfl (by decide +kernel)
set_option maxRecDepth 65536 in
theorem w_c23 : (Jvm.Cond.code ({ cls := "java/lang/Math", name := "max", desc := "(II)I" } : Jvm.MethodName) jdk_29_method_65_code (2 : Nat) (Option.some Jvm.ClassFile.FieldType.int)).before args0 about1 = true := code_word (m := ⟨12, 1⟩) (meth := k12m1) (c := k12c1) (by decide +kernel) rfl rfl rfl (by decide +kernel)
set_option maxRecDepth 65536 in
theorem w_c24 : (Jvm.Cond.code ({ cls := "java/lang/Math", name := "min", desc := "(II)I" } : Jvm.MethodName) jdk_29_method_69_code (2 : Nat) (Option.some Jvm.ClassFile.FieldType.int)).before args0 about1 = true := code_word (m := ⟨12, 2⟩) (meth := k12m2) (c := k12c2) (by decide +kernel) rfl rfl rfl (by decide +kernel)
set_option maxRecDepth 65536 in
theorem w_c25 : (Jvm.Cond.code ({ cls := "java/lang/StringLatin1", name := "indexOfChar", desc := "([BIII)I" } : Jvm.MethodName) jdk_43_method_23_code (6 : Nat) (Option.some Jvm.ClassFile.FieldType.int)).before args0 about1 = true := code_word (m := ⟨10, 4⟩) (meth := k10m4) (c := k10c4) (by decide +kernel) rfl rfl rfl (by decide +kernel)
set_option maxRecDepth 65536 in
theorem w_c26 : (Jvm.Cond.code ({ cls := "java/lang/String", name := "substring", desc := "(II)Ljava/lang/String;" } : Jvm.MethodName) jdk_42_method_92_code (5 : Nat) (Option.some (Jvm.ClassFile.FieldType.object "java/lang/String"))).before args0 about1 = true := code_word (m := ⟨9, 6⟩) (meth := k9m6) (c := k9c6) (by decide +kernel) rfl rfl rfl (by decide +kernel)
set_option maxRecDepth 65536 in
theorem w_c27 : (Jvm.Cond.code ({ cls := "java/lang/String", name := "checkBoundsBeginEnd", desc := "(III)V" } : Jvm.MethodName) jdk_42_method_158_code (3 : Nat) (Option.none : Option Jvm.ClassFile.FieldType)).before args0 about1 = true := code_word (m := ⟨9, 11⟩) (meth := k9m11) (c := k9c11) (by decide +kernel) rfl rfl rfl (by decide +kernel)
set_option maxRecDepth 65536 in
theorem w_c28 : (Jvm.Cond.code ({ cls := "jdk/internal/util/Preconditions", name := "checkFromToIndex", desc := "(IIILjava/util/function/BiFunction;)I" } : Jvm.MethodName) jdk_41_method_12_code (4 : Nat) (Option.some Jvm.ClassFile.FieldType.int)).before args0 about1 = true := code_word (m := ⟨13, 1⟩) (meth := k13m1) (c := k13c1) (by decide +kernel) rfl rfl rfl (by decide +kernel)
set_option maxRecDepth 65536 in
theorem w_c29 : (Jvm.Cond.code ({ cls := "java/lang/StringLatin1", name := "newString", desc := "([BII)Ljava/lang/String;" } : Jvm.MethodName) jdk_43_method_47_code (3 : Nat) (Option.some (Jvm.ClassFile.FieldType.object "java/lang/String"))).before args0 about1 = true := code_word (m := ⟨10, 5⟩) (meth := k10m5) (c := k10c5) (by decide +kernel) rfl rfl rfl (by decide +kernel)
set_option maxRecDepth 65536 in
theorem w_c30 : (Jvm.Cond.code ({ cls := "java/util/Arrays", name := "copyOfRange", desc := "([BII)[B" } : Jvm.MethodName) jdk_65_method_132_code (3 : Nat) (Option.some (Jvm.ClassFile.FieldType.array Jvm.ClassFile.FieldType.byte))).before args0 about1 = true := code_word (m := ⟨14, 2⟩) (meth := k14m2) (c := k14c2) (by decide +kernel) rfl rfl rfl (by decide +kernel)
set_option maxRecDepth 65536 in
theorem w_c31 : (Jvm.Cond.code ({ cls := "java/util/Arrays", name := "copyOfRangeByte", desc := "([BII)[B" } : Jvm.MethodName) jdk_65_method_133_code (5 : Nat) (Option.some (Jvm.ClassFile.FieldType.array Jvm.ClassFile.FieldType.byte))).before args0 about1 = true := code_word (m := ⟨14, 3⟩) (meth := k14m3) (c := k14c3) (by decide +kernel) rfl rfl rfl (by decide +kernel)
set_option maxRecDepth 65536 in
theorem w_c32 : (Jvm.Cond.code ({ cls := "java/util/Arrays", name := "checkLength", desc := "(II)V" } : Jvm.MethodName) jdk_65_method_131_code (2 : Nat) (Option.none : Option Jvm.ClassFile.FieldType)).before args0 about1 = true := code_word (m := ⟨14, 1⟩) (meth := k14m1) (c := k14c1) (by decide +kernel) rfl rfl rfl (by decide +kernel)
set_option maxRecDepth 65536 in
theorem w_c33 : (Jvm.Cond.code ({ cls := "java/lang/String", name := "<init>", desc := "([BB)V" } : Jvm.MethodName) jdk_42_method_151_code (3 : Nat) (Option.none : Option Jvm.ClassFile.FieldType)).before args0 about1 = true := code_word (m := ⟨9, 8⟩) (meth := k9m8) (c := k9c8) (by decide +kernel) rfl rfl rfl (by decide +kernel)
def codes1 : List Jvm.Cond := [Jvm.Cond.code x code maxLocals ret, Jvm.Cond.code ({ cls := "com/example/plugwright/plugwright/platform/AttributeFitsPinLaw", name := "pick", desc := "(I)Lcom/example/plugwright/plugwright/platform/Attribute;" } : Jvm.MethodName) method_3_code (1 : Nat) (Option.some (Jvm.ClassFile.FieldType.object "com/example/plugwright/plugwright/platform/Attribute")), Jvm.Cond.code ({ cls := "com/example/plugwright/plugwright/platform/AttributeFitsPinLaw", name := "tch", desc := "(JI)C" } : Jvm.MethodName) method_4_code (3 : Nat) (Option.some Jvm.ClassFile.FieldType.char), Jvm.Cond.code ({ cls := "com/example/plugwright/plugwright/platform/AttributeFitsPinLaw", name := "lch", desc := "(JIC)C" } : Jvm.MethodName) method_5_code (5 : Nat) (Option.some Jvm.ClassFile.FieldType.char), Jvm.Cond.code ({ cls := "com/example/plugwright/plugwright/platform/AttributeFitsPinLaw", name := "mk", desc := "([CI)Ljava/lang/String;" } : Jvm.MethodName) method_6_code (2 : Nat) (Option.some (Jvm.ClassFile.FieldType.object "java/lang/String")), Jvm.Cond.code ({ cls := "java/lang/String", name := "<init>", desc := "([C)V" } : Jvm.MethodName) jdk_42_method_3_code (2 : Nat) (Option.none : Option Jvm.ClassFile.FieldType), Jvm.Cond.code ({ cls := "java/lang/String", name := "<init>", desc := "([CIILjava/lang/Void;)V" } : Jvm.MethodName) jdk_42_method_149_code (6 : Nat) (Option.none : Option Jvm.ClassFile.FieldType), Jvm.Cond.code ({ cls := "java/lang/Object", name := "<init>", desc := "()V" } : Jvm.MethodName) object_method_1_code (1 : Nat) (Option.none : Option Jvm.ClassFile.FieldType), Jvm.Cond.code ({ cls := "com/example/plugwright/plugwright/platform/AttributeFitsPinLaw", name := "firstUnderscore", desc := "([CI)I" } : Jvm.MethodName) method_7_code (2 : Nat) (Option.some Jvm.ClassFile.FieldType.int), Jvm.Cond.code ({ cls := "com/example/plugwright/plugwright/platform/AttributeFitsPinLaw", name := "same", desc := "([CI[CI)Z" } : Jvm.MethodName) method_8_code (4 : Nat) (Option.some Jvm.ClassFile.FieldType.boolean), Jvm.Cond.code ({ cls := "com/example/plugwright/plugwright/platform/Attribute", name := "fits", desc := "(Ljava/lang/String;Ljava/lang/String;)Z" } : Jvm.MethodName) prog_32_method_4_code (4 : Nat) (Option.some Jvm.ClassFile.FieldType.boolean), Jvm.Cond.code ({ cls := "java/lang/String", name := "equals", desc := "(Ljava/lang/Object;)Z" } : Jvm.MethodName) jdk_42_method_66_code (3 : Nat) (Option.some Jvm.ClassFile.FieldType.boolean), Jvm.Cond.code ({ cls := "java/lang/StringLatin1", name := "equals", desc := "([B[B)Z" } : Jvm.MethodName) jdk_43_method_13_code (3 : Nat) (Option.some Jvm.ClassFile.FieldType.boolean), Jvm.Cond.code ({ cls := "java/lang/StringUTF16", name := "compress", desc := "([CII)[B" } : Jvm.MethodName) jdk_52_method_16_code (6 : Nat) (Option.some (Jvm.ClassFile.FieldType.array Jvm.ClassFile.FieldType.byte)), Jvm.Cond.code ({ cls := "java/lang/StringUTF16", name := "compress", desc := "([CI[BII)I" } : Jvm.MethodName) jdk_52_method_21_code (7 : Nat) (Option.some Jvm.ClassFile.FieldType.int), Jvm.Cond.code ({ cls := "java/lang/StringUTF16", name := "coderFromArrayLen", desc := "([BI)B" } : Jvm.MethodName) jdk_52_method_15_code (2 : Nat) (Option.some Jvm.ClassFile.FieldType.byte), Jvm.Cond.code ({ cls := "java/lang/String", name := "indexOf", desc := "(I)I" } : Jvm.MethodName) jdk_42_method_79_code (2 : Nat) (Option.some Jvm.ClassFile.FieldType.int), Jvm.Cond.code ({ cls := "java/lang/String", name := "indexOf", desc := "(II)I" } : Jvm.MethodName) jdk_42_method_80_code (3 : Nat) (Option.some Jvm.ClassFile.FieldType.int), Jvm.Cond.code ({ cls := "java/lang/String", name := "isLatin1", desc := "()Z" } : Jvm.MethodName) jdk_42_method_154_code (1 : Nat) (Option.some Jvm.ClassFile.FieldType.boolean), Jvm.Cond.code ({ cls := "java/lang/String", name := "length", desc := "()I" } : Jvm.MethodName) jdk_42_method_54_code (1 : Nat) (Option.some Jvm.ClassFile.FieldType.int), Jvm.Cond.code ({ cls := "java/lang/String", name := "coder", desc := "()B" } : Jvm.MethodName) jdk_42_method_152_code (1 : Nat) (Option.some Jvm.ClassFile.FieldType.byte), Jvm.Cond.code ({ cls := "java/lang/StringLatin1", name := "indexOf", desc := "([BIII)I" } : Jvm.MethodName) jdk_43_method_22_code (4 : Nat) (Option.some Jvm.ClassFile.FieldType.int), Jvm.Cond.code ({ cls := "java/lang/StringLatin1", name := "canEncode", desc := "(I)Z" } : Jvm.MethodName) jdk_43_method_4_code (1 : Nat) (Option.some Jvm.ClassFile.FieldType.boolean), Jvm.Cond.code ({ cls := "java/lang/Math", name := "max", desc := "(II)I" } : Jvm.MethodName) jdk_29_method_65_code (2 : Nat) (Option.some Jvm.ClassFile.FieldType.int), Jvm.Cond.code ({ cls := "java/lang/Math", name := "min", desc := "(II)I" } : Jvm.MethodName) jdk_29_method_69_code (2 : Nat) (Option.some Jvm.ClassFile.FieldType.int), Jvm.Cond.code ({ cls := "java/lang/StringLatin1", name := "indexOfChar", desc := "([BIII)I" } : Jvm.MethodName) jdk_43_method_23_code (6 : Nat) (Option.some Jvm.ClassFile.FieldType.int), Jvm.Cond.code ({ cls := "java/lang/String", name := "substring", desc := "(II)Ljava/lang/String;" } : Jvm.MethodName) jdk_42_method_92_code (5 : Nat) (Option.some (Jvm.ClassFile.FieldType.object "java/lang/String")), Jvm.Cond.code ({ cls := "java/lang/String", name := "checkBoundsBeginEnd", desc := "(III)V" } : Jvm.MethodName) jdk_42_method_158_code (3 : Nat) (Option.none : Option Jvm.ClassFile.FieldType), Jvm.Cond.code ({ cls := "jdk/internal/util/Preconditions", name := "checkFromToIndex", desc := "(IIILjava/util/function/BiFunction;)I" } : Jvm.MethodName) jdk_41_method_12_code (4 : Nat) (Option.some Jvm.ClassFile.FieldType.int), Jvm.Cond.code ({ cls := "java/lang/StringLatin1", name := "newString", desc := "([BII)Ljava/lang/String;" } : Jvm.MethodName) jdk_43_method_47_code (3 : Nat) (Option.some (Jvm.ClassFile.FieldType.object "java/lang/String")), Jvm.Cond.code ({ cls := "java/util/Arrays", name := "copyOfRange", desc := "([BII)[B" } : Jvm.MethodName) jdk_65_method_132_code (3 : Nat) (Option.some (Jvm.ClassFile.FieldType.array Jvm.ClassFile.FieldType.byte)), Jvm.Cond.code ({ cls := "java/util/Arrays", name := "copyOfRangeByte", desc := "([BII)[B" } : Jvm.MethodName) jdk_65_method_133_code (5 : Nat) (Option.some (Jvm.ClassFile.FieldType.array Jvm.ClassFile.FieldType.byte)), Jvm.Cond.code ({ cls := "java/util/Arrays", name := "checkLength", desc := "(II)V" } : Jvm.MethodName) jdk_65_method_131_code (2 : Nat) (Option.none : Option Jvm.ClassFile.FieldType), Jvm.Cond.code ({ cls := "java/lang/String", name := "<init>", desc := "([BB)V" } : Jvm.MethodName) jdk_42_method_151_code (3 : Nat) (Option.none : Option Jvm.ClassFile.FieldType)]
set_option maxRecDepth 65536 in
theorem codes_eq : words1.filter isCode = codes1 := rfl
theorem w_codes : ∀ c ∈ words1.filter isCode, c.before args0 about1 = true := by
  rw [codes_eq]
  intro c hc
  simp only [codes1, List.mem_cons, List.not_mem_nil, or_false] at hc
  rcases hc with rfl | rfl | rfl | rfl | rfl | rfl | rfl | rfl | rfl | rfl | rfl | rfl | rfl | rfl | rfl | rfl | rfl | rfl | rfl | rfl | rfl | rfl | rfl | rfl | rfl | rfl | rfl | rfl | rfl | rfl | rfl | rfl | rfl | rfl
  · exact w_c0
  · exact w_c1
  · exact w_c2
  · exact w_c3
  · exact w_c4
  · exact w_c5
  · exact w_c6
  · exact w_c7
  · exact w_c8
  · exact w_c9
  · exact w_c10
  · exact w_c11
  · exact w_c12
  · exact w_c13
  · exact w_c14
  · exact w_c15
  · exact w_c16
  · exact w_c17
  · exact w_c18
  · exact w_c19
  · exact w_c20
  · exact w_c21
  · exact w_c22
  · exact w_c23
  · exact w_c24
  · exact w_c25
  · exact w_c26
  · exact w_c27
  · exact w_c28
  · exact w_c29
  · exact w_c30
  · exact w_c31
  · exact w_c32
  · exact w_c33
set_option maxRecDepth 65536 in
theorem w_t1 : (words1.take 24).all (fun c => isCode c || c.before args0 about1) = true := by decide +kernel
set_option maxRecDepth 65536 in
theorem w_t2 : ((words1.drop 24).take 24).all (fun c => isCode c || c.before args0 about1) = true := by decide +kernel
set_option maxRecDepth 65536 in
theorem w_t3 : (((words1.drop 24).drop 24).take 24).all (fun c => isCode c || c.before args0 about1) = true := by decide +kernel
set_option maxRecDepth 65536 in
theorem w_t4 : ((((words1.drop 24).drop 24).drop 24).take 24).all (fun c => isCode c || c.before args0 about1) = true := by decide +kernel
set_option maxRecDepth 65536 in
theorem w_t5 : (((((words1.drop 24).drop 24).drop 24).drop 24).take 24).all (fun c => isCode c || c.before args0 about1) = true := by decide +kernel
set_option maxRecDepth 65536 in
theorem w_t6 : ((((((words1.drop 24).drop 24).drop 24).drop 24).drop 24).take 24).all (fun c => isCode c || c.before args0 about1) = true := by decide +kernel
set_option maxRecDepth 65536 in
theorem w_t7 : ((((((words1.drop 24).drop 24).drop 24).drop 24).drop 24).drop 24).all (fun c => isCode c || c.before args0 about1) = true := by decide +kernel
theorem w_tables : (allAtoms (Jvm.Cond.code x code maxLocals ret :: tables_1)).before args0 about1 = true := by
  rw [allAtoms_all]
  show words1.all (fun c => c.before args0 about1) = true
  refine all_split ?_ w_codes
  rw [← List.take_append_drop 24 words1, List.all_append, w_t1, ← List.take_append_drop 24 (words1.drop 24), List.all_append, w_t2, ← List.take_append_drop 24 ((words1.drop 24).drop 24), List.all_append, w_t3, ← List.take_append_drop 24 (((words1.drop 24).drop 24).drop 24), List.all_append, w_t4, ← List.take_append_drop 24 ((((words1.drop 24).drop 24).drop 24).drop 24), List.all_append, w_t5, ← List.take_append_drop 24 (((((words1.drop 24).drop 24).drop 24).drop 24).drop 24), List.all_append, w_t6, w_t7]
  rfl
set_option maxRecDepth 65536 in
theorem w_rest : rest_1_c.before args0 about1 = true := by decide +kernel
set_option maxRecDepth 65536 in
theorem w_case : (Jvm.Cond.and given_1 narrow_1).before args0 about1 = true := by decide +kernel
set_option maxRecDepth 65536 in
theorem w_consts : constsHeld consts_1 about1 := Jvm.Lit.constsHeldB_iff.mp (by decide +kernel)
theorem w_applies : (headSpec (Jvm.Cond.code x code maxLocals ret :: tables_1) room_1).applies x e0.platform about1 = true :=
  (Spec.applies_iff w_frames).mpr ⟨w_running, w_runnable, w_alone, w_named, w_hears, w_ripe, w_room, w_tables⟩
theorem atStart : AtStart classFile x code maxLocals ret World_1 tables_1 room_1 Calls_1 rest_1 Pre_1 launch0 p0 e0 about1 theMethod args0 below0 :=
  ⟨lists_1, trivial, launch0.admits_env _ _ _, launch0.least_env, fairChoices_fair.cas, fairChoices_fair.clock, w_frames, w_args, w_heap, w_applies, ⟨w_consts, trivial⟩, w_rest, w_case⟩
end start1
theorem witness_1 : WitnessClaimed_1 := ⟨start1.p0, start1.e0, start1.about1, start1.theMethod, start1.args0, start1.below0, start1.atStart⟩
end Jvm.Pilot.@@N@@
