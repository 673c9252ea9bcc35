import JvmDerived
import JvmDerived.Pilot.@@N@@Statement
import JvmDerived.Pilot.@@N@@Code
set_option linter.unusedVariables false
set_option linter.unusedSimpArgs false
namespace Jvm.Own
open Sem ClassFile Op Lib Bundle Jvm.Stand Jvm.Free Jvm.LawKit Jvm.RoadKit
/-! A small calculus of weakest conditions over the library's walks: 'Go' says that from here the body comes to its end with Q; each rule goes back over one instruction. -/
/-- what is kept up at every point: the constants of EL say their texts; the cells of the start stand; the cells in ws are new and no constant's -/
def Inv (Z : State) (EL : List (String × Nat)) (ws : List Addr) (vm : Vm) (h : Heap) : Prop :=
  CHv Z EL vm h ∧ Ext Z.heap h ∧ ∀ x ∈ ws, Z.heap.size ≤ x ∧ x < h.size ∧ Safe Z EL vm h x
section Facts
variable {Z : State} {a0 : Array Value} {EL : List (String × Nat)} {ws ws' : List Addr} {vm vm1 : Vm} {h h' : Heap} {a : Addr} {sl : Nat} {v : Value}
theorem Inv.ext (I : Inv Z EL ws vm h) (E : Ext h h') : Inv Z EL ws vm h' :=
  ⟨I.1.ext E, ⟨Nat.le_trans I.2.1.1 E.1, fun x c q => E.2 x c (I.2.1.2 x c q)⟩, fun x hx => ⟨(I.2.2 x hx).1, Nat.lt_of_lt_of_le (I.2.2 x hx).2.1 E.1, Safe.ext E I.1 (I.2.2 x hx).2.2⟩⟩
theorem Inv.new (I : Inv Z EL ws vm h) (E : Ext h h') (ha : a = h.size) (hl : a < h'.size) : Inv Z EL (a :: ws) vm h' :=
  ⟨(I.ext E).1, (I.ext E).2.1, fun x hx => by
    rcases List.mem_cons.mp hx with rfl | hx
    · exact ⟨by rw [ha]; exact I.2.1.1, hl, Safe.ext E I.1 (Safe.new (Nat.le_of_eq ha.symm))⟩
    · exact (I.ext E).2.2 x hx⟩
theorem Inv.wr (I : Inv Z EL ws vm h) (W : Wr h h' a sl v) (ha : a ∈ ws) : Inv Z EL ws vm h' :=
  have S := (I.2.2 a ha).2.2
  ⟨I.1.wr W S, (Old.wr (n0 := Z.heap.size) ⟨rfl, I.2.1⟩ W (I.2.2 a ha).1).2, fun x hx => ⟨(I.2.2 x hx).1, by rw [W.size]; exact (I.2.2 x hx).2.1, Safe.wr W S I.1 (I.2.2 x hx).2.2⟩⟩
theorem Inv.keep {xs : List Addr} (I : Inv Z EL ws vm h) (K : Keep h h' xs) (hs : ∀ x ∈ xs, x ∈ ws) : Inv Z EL ws vm h' :=
  have S : ∀ x ∈ xs, Safe Z EL vm h x := fun x hx => (I.2.2 x (hs x hx)).2.2
  ⟨I.1.keep K S, (Old.keep (n0 := Z.heap.size) ⟨rfl, I.2.1⟩ K fun x hx => (I.2.2 x (hs x hx)).1).2, fun x hx => ⟨(I.2.2 x hx).1, Nat.lt_of_lt_of_le (I.2.2 x hx).2.1 K.1, Safe.keep K S I.1 (I.2.2 x hx).2.2⟩⟩
theorem Inv.sub (I : Inv Z EL ws vm h) (hs : ∀ x ∈ ws', x ∈ ws) : Inv Z EL ws' vm h := ⟨I.1, I.2.1, fun x hx => I.2.2 x (hs x hx)⟩
/-- behind an end: what was writable is writable still, and what the end says besides -/
theorem Inv.later (I : Inv Z EL ws vm h) (C : CHr Z EL vm h vm1 h') (J : Inv Z EL ws' vm1 h') : Inv Z EL (ws' ++ ws) vm1 h' :=
  ⟨C.1, J.2.1, fun x hx => (List.mem_append.mp hx).elim (J.2.2 x) fun q => ⟨(I.2.2 x q).1, Nat.lt_of_lt_of_le (I.2.2 x q).2.1 C.2.1, C.safe (I.2.2 x q).2.1 (I.2.2 x q).2.2⟩⟩
theorem Inv.moved (I : Inv Z EL ws vm h) (C : CHr Z EL vm h vm1 h) : Inv Z EL ws vm1 h :=
  ⟨C.1, I.2.1, fun x q => ⟨(I.2.2 x q).1, (I.2.2 x q).2.1, C.safe (I.2.2 x q).2.1 (I.2.2 x q).2.2⟩⟩
theorem Inv.ld (I : Inv Z EL ws vm h) (C : CHr Z EL vm h vm1 h') (E : Ext h h') : Inv Z EL ws vm1 h' :=
  ⟨C.1, (I.ext E).2.1, fun x q => ⟨(I.2.2 x q).1, Nat.lt_of_lt_of_le (I.2.2 x q).2.1 C.2.1, C.safe (I.2.2 x q).2.1 (I.2.2 x q).2.2⟩⟩
end Facts
/-- what a body's walk may lean on, all along -/
def Cst (p : Program) (meth : Method) (c : Code) (Z : State) (a0 : Array Value) (EL : List (String × Nat)) (bytes : ByteArray) (maxL : Nat) (ret : Option FieldType) (nm : String) : Prop :=
  p.tables.exec = Jvm.exec ∧ c.code = bytes ∧ c.maxLocals = maxL ∧ meth.sig.returnType = ret ∧ meth.locks = false ∧ meth.name = nm ∧ EW Z a0 EL
/-- the walk stands at T -/
def Pos (p : Program) (l : Launch) (e : Env) (R : Room) (s : State) (m : MethodId) (args : Array Value) (below : List Frame) (meth : Method) (c : Code) (Z : State) (EL : List (String × Nat)) (own : String) (ws : List Addr) (h : Heap) (cells slots : Nat) (T : State) : Prop :=
  ∃ (vm0 : Vm) (k0 : Nat) (locs : List Loc), Stand p l e R (s.setVm vm0) m args below meth c T locs cells slots ∧ T.heap = h ∧ s.Since vm0 k0 ∧ k0 ≤ h.size ∧ Z.Warmed39 vm0 ∧ vm0.findClass own = some m.cls ∧ Fr Z.heap.size locs ∧ Inv Z EL ws vm0 h ∧ CHr Z EL s.vm s.heap vm0 h ∧ cells ≤ R.cells ∧ slots ≤ R.slots
/-- the body has come to its end -/
def Done (s : State) (below : List Frame) (R : Room) (Z : State) (EL : List (String × Nat)) (Q : Option Value → Heap → List Addr → Prop) (u : State) : Prop :=
  u.status = .running ∧ ∃ (v : Option Value) (L : List Loc) (ws' : List Addr), Ended u below (.returned v) ∧ Q v u.heap ws' ∧ Fr Z.heap.size L ∧ Inv Z EL ws' u.vm u.heap ∧ CHr Z EL s.vm s.heap u.vm u.heap ∧ ReturnedEndW s (.returned v) u L R.cells R.slots
def Go (p : Program) (l : Launch) (e : Env) (R : Room) (s : State) (m : MethodId) (args : Array Value) (below : List Frame) (meth : Method) (c : Code) (Z : State) (a0 : Array Value) (EL : List (String × Nat)) (own : String) (bytes : ByteArray) (maxL : Nat) (ret : Option FieldType) (nm : String)
    (ws : List Addr) (h : Heap) (cells slots : Nat) (pc : Nat) (Ls : Array Slot) (st : List Value) (Q : Option Value → Heap → List Addr → Prop) : Prop :=
  Cst p meth c Z a0 EL bytes maxL ret nm → ∀ T : State, Pos p l e R s m args below meth c Z EL own ws h cells slots T → ∃ u, Steps p.tables e below (T.setTop (mkF m pc Ls st)) u ∧ Done s below R Z EL Q u
/-- a method's contract: for these arguments, over the heap h, ws writable: it returns, with Q -/
def Con (l : Launch) (Z : State) (EL : List (String × Nat)) (y : MethodName) (bytes : ByteArray) (maxL : Nat) (ret : Option FieldType) (cs : List Cond) (rm : Room) (as' : Array Value) (h : Heap) (ws : List Addr) (Q : Option Value → Heap → List Addr → Prop) : Prop :=
  MetFree l y (head1 (Cond.code y bytes maxL ret :: cs) rm) (fun a U => a = as' ∧ Z.Warmed39 U.vm ∧ U.heap = h ∧ Inv Z EL ws U.vm h) (fun _ _ _ _ _ => True)
    (fun _ U o U' => ∃ (v : Option Value) (L : List Loc) (ws' : List Addr), o = .returned v ∧ Q v U'.heap ws' ∧ Fr Z.heap.size L ∧ Inv Z EL ws' U'.vm U'.heap ∧ CHr Z EL U.vm U.heap U'.vm U'.heap ∧ ReturnedEndW U o U' L rm.cells rm.slots)
section Rules
variable {p : Program} {l : Launch} {e : Env} {R : Room} {s : State} {m : MethodId} {args : Array Value} {below : List Frame} {meth : Method} {c : Code} {Z : State} {a0 : Array Value} {EL : List (String × Nat)} {own : String} {bytes : ByteArray} {maxL : Nat} {ret : Option FieldType} {nm : String}
  {ws : List Addr} {h : Heap} {cells slots : Nat} {pc pc' : Nat} {Ls Ls' : Array Slot} {st st' rest : List Value} {Q Q' : Option Value → Heap → List Addr → Prop}
theorem con_of {y : MethodName} {rm : Room} {as' : Array Value} {cs : List Cond} (hn : plainFor y = true) (hEL : EW Z a0 EL) (hef : ∀ m, entryFrame m as' maxL = mkF m 0 Ls [])
    (go : ∀ p e s m below meth c, Go p l e rm s m as' below meth c Z a0 EL y.cls bytes maxL ret y.name ws h 0 0 0 Ls [] Q) : Con l Z EL y bytes maxL ret cs rm as' h ws Q := by
  refine MetFree.of_bodySF hn hisR ?_
  intro p e s m args below meth c s₁ Bd hml hP hK
  obtain ⟨rfl, hZ, hh, I⟩ := hP
  have X0 : Stand p l e rm s m args below meth c s₁ [] 0 0 := Stand.of_body Bd
  have e0 : s₁.heap = h := by rw [← hh, Bd.state]; rfl
  obtain ⟨u, S2, hrun, v, L, ws', hend, q, N, I2, C, W⟩ := go p e s m below meth c ⟨Bd.exec, Bd.bytes, hml, Bd.returns, Bd.notSynchronized, (name_of_methodNamed Bd.named Bd.method).1, hEL⟩ s₁
    ⟨s.vm, 0, [], X0, e0, (State.WarmedH.refl s).since _, Nat.zero_le _, hZ, findClass_of_methodNamed Bd.named, Fr.nil _, I, by rw [hh]; exact CHr.refl I.1, Nat.zero_le _, Nat.zero_le _⟩
  exact ⟨u, _, castTop (hef m) S2, hrun, hend, v, L, ws', rfl, q, N, I2, C, W⟩
theorem Con.mono {y : MethodName} {rm : Room} {as' : Array Value} {cs : List Cond} (K : Con l Z EL y bytes maxL ret cs rm as' h ws Q) (hq : ∀ v h ws, Q v h ws → Q' v h ws) : Con l Z EL y bytes maxL ret cs rm as' h ws Q' := by
  intro p e h1 h2 h3 s m args below hf ha hP hK
  obtain ⟨n, o, g1, g2, g3, v, L, ws', e1, q, r⟩ := K p e h1 h2 h3 s m args below hf ha hP hK
  exact ⟨n, o, g1, g2, g3, v, L, ws', e1, hq _ _ _ q, r⟩
/-- the payer of a call -/
theorem backC {vm0 : Vm} {y : MethodName} {bY : ByteArray} {mY : Nat} {rY : Option FieldType} {rm : Room} {len W : Nat} {as' : Array Value} {ws0 : List Addr} (hM : Con l Z EL y bY mY rY [] rm as' h ws0 Q)
    (hZ : Z.Warmed39 vm0) (wc : (Cond.code y bY mY rY).before a0 Z = true) (wz : (Cond.initialized y.cls).before a0 Z = true) (hf : rm.frames + 1 ≤ R.frames) (hl : W + (mY + 11) + rm.locals ≤ R.locals) (hEL : EW Z a0 EL) (I : Inv Z EL ws vm0 h) (hs : ∀ x ∈ ws0, x ∈ ws) :
    BackS l R p e below (s.setVm vm0) args y len W (fun A a => a = as' ∧ A.U.heap = h ∧ A.cells + rm.cells ≤ R.cells ∧ A.slots + rm.slots ≤ R.slots)
      (fun A _ v B => ∃ (L : List Loc) (ws' : List Addr), Q v B.U.heap ws' ∧ Fr Z.heap.size L ∧ B.locs = A.locs ++ L ∧ B.cells = A.cells + rm.cells ∧ B.slots = A.slots + rm.slots ∧ CHr Z EL vm0 h B.U.vm B.U.heap ∧ Inv Z EL (ws' ++ ws) B.U.vm B.U.heap) :=
  BackS.of_freeW (bytes := bY) (maxL := mY) (ret := rY) (E := fun _ first o t L k n => k = rm.cells ∧ n = rm.slots ∧ ∃ (v : Option Value) (ws' : List Addr), o = .returned v ∧ Q v t.heap ws' ∧ Fr Z.heap.size L ∧ Inv Z EL ws' t.vm t.heap ∧ CHr Z EL first.vm first.heap t.vm t.heap) hM hf hl
    (fun m meth c A a Y hp => have hU : Z.Warmed39 A.U.vm := wtrans (s := s.setVm vm0) hZ Y.warmed
      ⟨by show (Cond.and _ .tt).before a A.U = true; rw [Cond.before_and, mv hU wc]; rfl, mv hU wc, mv hU wz, hp.2.2.1, hp.2.2.2⟩)
    (fun m meth c A a g mk Y hp => ⟨hp.1, wtrans (s := s.setVm vm0) hZ Y.warmed, hp.2.1, show Inv Z EL ws0 A.U.vm h from (I.sub hs).moved (CHv.at Y hZ hEL I.1)⟩) (fun _ _ _ _ _ _ _ _ _ => trivial)
    (fun _ _ _ _ ⟨v, L, ws', h1, h2, h3, h4, h5, h6⟩ => ⟨L, _, _, h6, rfl, rfl, v, ws', h1, h2, h3, h4, h5⟩)
    (fun m meth c A a g mk v t L k n Y hp _ _ ⟨e1, e2, v', ws', e3, e4, e5, e6, e7⟩ => by
      cases e3; subst e1 e2
      have C : CHr Z EL vm0 h t.vm t.heap := (CHv.at Y hZ hEL I.1).trans (by rw [← hp.2.1]; exact e7)
      exact ⟨L, ws', e4, e5, rfl, rfl, rfl, C, I.later C e6⟩)
theorem go_step (hs : p.tables.exec = Jvm.exec → c.code = bytes → ∀ T : State, At T m c below → ∀ t, Steps p.tables e below (T.setTop (mkF m pc' Ls' st')) t → Steps p.tables e below (T.setTop (mkF m pc Ls st)) t)
    (n : Go p l e R s m args below meth c Z a0 EL own bytes maxL ret nm ws h cells slots pc' Ls' st' Q) : Go p l e R s m args below meth c Z a0 EL own bytes maxL ret nm ws h cells slots pc Ls st Q := fun K T P => by
  obtain ⟨u, S, E⟩ := n K T P
  obtain ⟨vm0, k0, locs, X, -⟩ := P
  exact ⟨u, hs K.1 K.2.1 T X.here _ S, E⟩
theorem go_mono (hq : ∀ v h ws, Q v h ws → Q' v h ws) (n : Go p l e R s m args below meth c Z a0 EL own bytes maxL ret nm ws h cells slots pc Ls st Q) : Go p l e R s m args below meth c Z a0 EL own bytes maxL ret nm ws h cells slots pc Ls st Q' := fun K T P => by
  obtain ⟨u, S, r, v, L, ws', e1, q, x⟩ := n K T P
  exact ⟨u, S, r, v, L, ws', e1, hq _ _ _ q, x⟩
theorem go_old (n : Ext Z.heap h → Go p l e R s m args below meth c Z a0 EL own bytes maxL ret nm ws h cells slots pc Ls st Q) : Go p l e R s m args below meth c Z a0 EL own bytes maxL ret nm ws h cells slots pc Ls st Q := fun K T P => by
  obtain ⟨vm0, k0, locs, X, eT, hS, hk, hZ, hown, N, I, C, r⟩ := id P
  exact n I.2.1 K T P
theorem go_safe (n : (∀ x ∈ ws, Z.heap.size ≤ x ∧ x < h.size) → Go p l e R s m args below meth c Z a0 EL own bytes maxL ret nm ws h cells slots pc Ls st Q) : Go p l e R s m args below meth c Z a0 EL own bytes maxL ret nm ws h cells slots pc Ls st Q := fun K T P => by
  obtain ⟨vm0, k0, locs, X, eT, hS, hk, hZ, hown, N, I, C, r⟩ := id P
  exact n (fun x hx => ⟨(I.2.2 x hx).1, (I.2.2 x hx).2.1⟩) K T P
theorem go_room (n : cells ≤ R.cells → slots ≤ R.slots → Go p l e R s m args below meth c Z a0 EL own bytes maxL ret nm ws h cells slots pc Ls st Q) : Go p l e R s m args below meth c Z a0 EL own bytes maxL ret nm ws h cells slots pc Ls st Q := fun K T P => by
  obtain ⟨vm0, k0, locs, X, eT, hS, hk, hZ, hown, N, I, C, r1, r2⟩ := id P
  exact n r1 r2 K T P
/-- fewer writable cells, more made: the same walk -/
theorem go_less {ws' : List Addr} {cells' slots' : Nat} (hs : ∀ x ∈ ws', x ∈ ws) (hc : cells ≤ cells') (hl : slots ≤ slots') (hc' : cells' ≤ R.cells) (hl' : slots' ≤ R.slots) (n : Go p l e R s m args below meth c Z a0 EL own bytes maxL ret nm ws' h cells' slots' pc Ls st Q) :
    Go p l e R s m args below meth c Z a0 EL own bytes maxL ret nm ws h cells slots pc Ls st Q := fun K T P => by
  obtain ⟨vm0, k0, locs, X, eT, hS, hk, hZ, hown, N, I, C, r1, r2⟩ := P
  exact n K T ⟨vm0, k0, locs, X.mono hc hl, eT, hS, hk, hZ, hown, N, I.sub hs, C, hc', hl'⟩
/-! ## returns -/
theorem go_ret {i : Instr} {w : Value} {t : FieldType} (hd : decode bytes pc = .ok (i, 1)) (ht : ret = some t) (hn : narrow t w = w)
    (hi : (i = .ireturn ∧ (t = .int ∨ t = .boolean ∨ t = .byte ∨ t = .char ∨ t = .short) ∧ ∃ z, w = .int z) ∨ (i = .lreturn ∧ t = .long ∧ ∃ z, w = .long z) ∨ (i = .dreturn ∧ t = .double ∧ ∃ z, w = .double z) ∨ (i = .freturn ∧ t = .float ∧ ∃ z, w = .float z) ∨ (i = .areturn ∧ t.isReference = true ∧ w.isRef = true))
    {ws' : List Addr} (hs : ∀ x ∈ ws', x ∈ ws) (q : Q (some w) h ws') : Go p l e R s m args below meth c Z a0 EL own bytes maxL ret nm ws h cells slots pc Ls (w :: rest) Q := fun K T P => by
  obtain ⟨vm0, k0, locs, X, eT, hS, hk, hZ, hown, N, I, C, r1, r2⟩ := P
  obtain ⟨hx, hby, hml, hrt, hlk, hnm, hEL⟩ := K
  obtain ⟨fs, hr, hrun, hended, hW⟩ := X.leaveW hS (by rw [eT]; exact hk) (v := some w) (fun h => by rw [hrt, ht] at h; cases h) hlk
  have D := CHv.at X hZ hEL I.1
  refine ⟨T.setFrames fs, retOut X hx (hrt.trans ht) hn hi (hb hby hd) hr, hrun, some w, locs, ws', hended, ?_, N, ?_, ?_, hW.1, hW.2.1, hW.2.2.1, hW.2.2.2.mono r1 r2⟩
  · show Q (some w) T.heap ws'; rw [eT]; exact q
  · show Inv Z EL ws' T.vm T.heap; rw [eT]; exact (I.sub hs).moved D
  · show CHr Z EL s.vm s.heap T.vm T.heap; rw [eT]; exact C.trans D
theorem go_ireturn {z : Int32} {t : FieldType} (hd : decode bytes pc = .ok (.ireturn, 1)) (ht : ret = some t) (ht' : t = .int ∨ t = .boolean ∨ t = .byte ∨ t = .char ∨ t = .short) (hn : narrow t (.int z) = .int z) {ws' : List Addr} (hs : ∀ x ∈ ws', x ∈ ws) (q : Q (some (.int z)) h ws') :
    Go p l e R s m args below meth c Z a0 EL own bytes maxL ret nm ws h cells slots pc Ls (.int z :: rest) Q := go_ret hd ht hn (Or.inl ⟨rfl, ht', z, rfl⟩) hs q
theorem go_areturn {w : Value} {t : FieldType} (hd : decode bytes pc = .ok (.areturn, 1)) (ht : ret = some t) (ht' : t.isReference = true) (hw : w.isRef = true) {ws' : List Addr} (hs : ∀ x ∈ ws', x ∈ ws) (q : Q (some w) h ws') :
    Go p l e R s m args below meth c Z a0 EL own bytes maxL ret nm ws h cells slots pc Ls (w :: rest) Q := go_ret hd ht (by cases t <;> first | (cases ht'; done) | (cases w <;> first | rfl | (cases hw; done))) (Or.inr (Or.inr (Or.inr (Or.inr ⟨rfl, ht', hw⟩)))) hs q
theorem go_return (hd : decode bytes pc = .ok (.return_, 1)) (ht : ret = none) {ws' : List Addr} (hs : ∀ x ∈ ws', x ∈ ws) (q : Q none h ws') : Go p l e R s m args below meth c Z a0 EL own bytes maxL ret nm ws h cells slots pc Ls [] Q := fun K T P => by
  obtain ⟨vm0, k0, locs, X, eT, hS, hk, hZ, hown, N, I, C, r1, r2⟩ := P
  obtain ⟨hx, hby, hml, hrt, hlk, hnm, hEL⟩ := K
  obtain ⟨fs, hr, hrun, hended, hW⟩ := X.leaveW hS (by rw [eT]; exact hk) (v := none) (fun _ => rfl) hlk
  have D := CHv.at X hZ hEL I.1
  refine ⟨T.setFrames fs, X.returnOut hx (hrt.trans ht) (hb hby hd) hr, hrun, none, locs, ws', hended, ?_, N, ?_, ?_, hW.1, hW.2.1, hW.2.2.1, hW.2.2.2.mono r1 r2⟩
  · show Q none T.heap ws'; rw [eT]; exact q
  · show Inv Z EL ws' T.vm T.heap; rw [eT]; exact (I.sub hs).moved D
  · show CHr Z EL s.vm s.heap T.vm T.heap; rw [eT]; exact C.trans D
/-! ## fields, statics -/
theorem go_getstatic {R0 O n d : String} {idx : Nat} {v : Value} (hd : decode bytes pc = .ok (.getstatic idx, 3)) (w : (Cond.fieldLink own idx R0 n d).before a0 Z = true) (via : Via Z R0 O n d) (F : Sta Z Z.heap O n d v) (hp : pc + 3 = pc')
    (nx : Go p l e R s m args below meth c Z a0 EL own bytes maxL ret nm ws h cells slots pc' Ls (v :: st) Q) : Go p l e R s m args below meth c Z a0 EL own bytes maxL ret nm ws h cells slots pc Ls st Q := fun K T P => by
  obtain ⟨vm0, k0, locs, X, eT, hS, hk, hZ, hown, N, I, C, r⟩ := P
  obtain ⟨T', X', e', stp⟩ := getS (host := "") X K.1 hZ hown w via eT (F.ext I.2.1) (g := mkF m pc Ls st) rfl (hb K.2.1 hd)
  subst hp
  obtain ⟨u, S2, E⟩ := nx K T' ⟨vm0, k0, locs, X', e', hS, hk, hZ, hown, N, I, C, r⟩
  exact ⟨u, stp _ S2, E⟩
theorem go_getstaticN {R0 O n d host : String} {idx : Nat} {v : Value} (hd : decode bytes pc = .ok (.getstatic idx, 3)) (w : (Cond.fieldLinkNest own idx R0 n d host).before a0 Z = true) (via : Via Z R0 O n d) (F : Sta Z Z.heap O n d v) (hp : pc + 3 = pc')
    (nx : Go p l e R s m args below meth c Z a0 EL own bytes maxL ret nm ws h cells slots pc' Ls (v :: st) Q) : Go p l e R s m args below meth c Z a0 EL own bytes maxL ret nm ws h cells slots pc Ls st Q := fun K T P => by
  obtain ⟨vm0, k0, locs, X, eT, hS, hk, hZ, hown, N, I, C, r⟩ := P
  obtain ⟨T', X', e', stp⟩ := getS2 X K.1 hZ hown (Or.inr w) via eT (F.ext I.2.1) (g := mkF m pc Ls st) rfl (hb K.2.1 hd)
  subst hp
  obtain ⟨u, S2, E⟩ := nx K T' ⟨vm0, k0, locs, X', e', hS, hk, hZ, hown, N, I, C, r⟩
  exact ⟨u, stp _ S2, E⟩
theorem go_getfield {R0 O n d host : String} {idx : Nat} {a : Addr} {v : Value} (hd : decode bytes pc = .ok (.getfield idx, 3)) (w : (Cond.fieldLink own idx R0 n d).before a0 Z = true ∨ (Cond.fieldLinkNest own idx R0 n d host).before a0 Z = true) (via : Via Z R0 O n d) (F : Fld Z h a O n d v) (hp : pc + 3 = pc')
    (nx : Go p l e R s m args below meth c Z a0 EL own bytes maxL ret nm ws h cells slots pc' Ls (v :: rest) Q) : Go p l e R s m args below meth c Z a0 EL own bytes maxL ret nm ws h cells slots pc Ls (.ref a :: rest) Q := fun K T P => by
  obtain ⟨vm0, k0, locs, X, eT, hS, hk, hZ, hown, N, I, C, r⟩ := P
  obtain ⟨T', X', e', stp⟩ := getF X K.1 hZ hown w via eT F (g := mkF m pc Ls (.ref a :: rest)) rfl rfl (hb K.2.1 hd)
  subst hp
  obtain ⟨u, S2, E⟩ := nx K T' ⟨vm0, k0, locs, X', e', hS, hk, hZ, hown, N, I, C, r⟩
  exact ⟨u, stp _ S2, E⟩
/-- a store into a field of a new object; of the narrow kinds too -/
theorem go_putfield {R0 O n d C0 : String} {idx kk : Nat} {a : Addr} {v v' old : Value} {ty : FieldType} (hd : decode bytes pc = .ok (.putfield idx, 3)) (w : (Cond.fieldLink own idx R0 n d).before a0 Z = true) (via : Via Z R0 O n d) (F : Fld Z h a O n d old) (E : Exa Z h a C0)
    (L : (Cond.lays C0 O n d).before a0 Z = true ∨ ((Cond.laysFinal C0 O n d).before a0 Z = true ∧ own = O ∧ nm = "<init>")) (wi : (Cond.instantiable C0 kk).before a0 Z = true) (hty : parseFieldDescriptor d = some ty) (hn : narrow ty v = v') (hf : fits ty v' = true) (ha : a ∈ ws) (hp : pc + 3 = pc')
    (nx : ∀ h', Wr h h' a (Jvm.RoadKit.slotOf Z O n d) v' → Go p l e R s m args below meth c Z a0 EL own bytes maxL ret nm ws h' cells slots pc' Ls rest Q) : Go p l e R s m args below meth c Z a0 EL own bytes maxL ret nm ws h cells slots pc Ls (v :: .ref a :: rest) Q := fun K T P => by
  obtain ⟨vm0, k0, locs, X, eT, hS, hk, hZ, hown, N, I, C, r⟩ := P
  obtain ⟨T', h', X', e', W, stp⟩ := putFN X K.1 hZ hown w via eT F E (L.imp id fun q => ⟨q.1, q.2.1, K.2.2.2.2.2.1.trans q.2.2⟩) wi hty hn hf (g := mkF m pc Ls (v :: .ref a :: rest)) rfl rfl (hb K.2.1 hd)
  subst hp
  obtain ⟨u, S2, E⟩ := nx h' W K T' ⟨vm0, k0, _, X', e', hS, by rw [W.size]; exact hk, hZ, hown, Fr.snoc X' N (I.2.2 a ha).1, I.wr W ha, C.trans (CHr.wr W (I.2.2 a ha).2.2 I.1), r⟩
  exact ⟨u, stp _ S2, E⟩
/-! ## new objects and arrays -/
theorem go_new {C0 : String} {idx k : Nat} (hd : decode bytes pc = .ok (.new idx, 3)) (w : (Cond.classLink own idx C0).before a0 Z = true) (wi : (Cond.instantiable C0 k).before a0 Z = true) (wz : (Cond.initialized C0).before a0 Z = true) (hc : cells + 1 ≤ R.cells) (hl : slots + k ≤ R.slots) (hp : pc + 3 = pc')
    (nx : ∀ h' a, a = h.size → Ext h h' → Exa Z h' a C0 → (∀ {O n d : String} {ty : FieldType}, Laid Z a0 C0 O n d → parseFieldDescriptor d = some ty → Fld Z h' a O n d (defaultValue ty)) → Go p l e R s m args below meth c Z a0 EL own bytes maxL ret nm (a :: ws) h' (cells + 1) (slots + k) pc' Ls (.ref a :: st) Q) :
    Go p l e R s m args below meth c Z a0 EL own bytes maxL ret nm ws h cells slots pc Ls st Q := fun K T P => by
  obtain ⟨vm0, k0, locs, X, eT, hS, hk, hZ, hown, N, I, C, r⟩ := P
  obtain ⟨T', h', X', e', E', A', D', -, stp⟩ := newO X K.1 hZ hown w wi wz eT (g := mkF m pc Ls st) rfl (hb K.2.1 hd) hc hl
  subst hp
  obtain ⟨u, S2, E⟩ := nx h' h.size rfl E' A' D' K T' ⟨vm0, k0, _, X', e', hS, Nat.le_trans hk E'.1, hZ, hown, N, I.new E' rfl A'.lt, C.trans (CHr.ext E' I.1), hc, hl⟩
  exact ⟨u, stp _ S2, E⟩
theorem go_newarray {aty : ArrayType} {z : Int32} {cap : Nat} (hd : decode bytes pc = .ok (.newarray aty, 2)) (w : (Cond.arrayClass (newarray.typeOf aty)).before a0 Z = true) (hz : ¬ z < 0) (hcap : z.toNatClampNeg ≤ cap) (hb8 : cap * 8 ≤ 536870912) (hc : cells + 1 ≤ R.cells) (hl : slots + cap ≤ R.slots) {ad : String} (had : "[" ++ (newarray.typeOf aty).toString = ad) (hp : pc + 2 = pc')
    (nx : ∀ h' a k, a = h.size → Ext h h' → Arv Z h' a k (newarray.typeOf aty) z [] (defaultValue (newarray.typeOf aty)) → Exa Z h' a ad → Go p l e R s m args below meth c Z a0 EL own bytes maxL ret nm (a :: ws) h' (cells + 1) (slots + cap) pc' Ls (.ref a :: rest) Q) :
    Go p l e R s m args below meth c Z a0 EL own bytes maxL ret nm ws h cells slots pc Ls (.int z :: rest) Q := fun K T P => by
  obtain ⟨vm0, k0, locs, X, eT, hS, hk, hZ, hown, N, I, C, r⟩ := P
  obtain ⟨T', h', k, X', e', E', A', D', stp⟩ := newPE X K.1 hZ w eT (g := mkF m pc Ls (.int z :: rest)) rfl (hb K.2.1 hd) rfl hz hcap hb8 hc hl had
  subst hp
  obtain ⟨u, S2, E⟩ := nx h' h.size k rfl E' (Arv.new A' hz) D' K T' ⟨vm0, k0, _, X', e', hS, Nat.le_trans hk E'.1, hZ, hown, N, I.new E' rfl A'.lt, C.trans (CHr.ext E' I.1), hc, hl⟩
  exact ⟨u, stp _ S2, E⟩
theorem go_anewarray {C0 : String} {idx : Nat} {z : Int32} {cap : Nat} (hd : decode bytes pc = .ok (.anewarray idx, 3)) (w : (Cond.classLink own idx C0).before a0 Z = true) (w2 : (Cond.arrayOver (.object C0)).before a0 Z = true) (hz : ¬ z < 0) (hcap : z.toNatClampNeg ≤ cap) (hb8 : cap * 8 ≤ 536870912) (hc : cells + 1 ≤ R.cells) (hl : slots + cap ≤ R.slots) {ad : String} (had : "[" ++ (FieldType.object C0).toString = ad) (hp : pc + 3 = pc')
    (nx : ∀ h' a k, a = h.size → Ext h h' → Arv Z h' a k (.object C0) z [] .null → Exa Z h' a ad → Ovr Z k C0 → Go p l e R s m args below meth c Z a0 EL own bytes maxL ret nm (a :: ws) h' (cells + 1) (slots + cap) pc' Ls (.ref a :: rest) Q) :
    Go p l e R s m args below meth c Z a0 EL own bytes maxL ret nm ws h cells slots pc Ls (.int z :: rest) Q := fun K T P => by
  obtain ⟨vm0, k0, locs, X, eT, hS, hk, hZ, hown, N, I, C, r⟩ := P
  obtain ⟨T', h', k, X', e', E', A', D', O', stp⟩ := newRE X K.1 hZ hown w w2 eT (g := mkF m pc Ls (.int z :: rest)) rfl (hb K.2.1 hd) rfl hz hcap hb8 hc hl had
  subst hp
  obtain ⟨u, S2, E⟩ := nx h' h.size k rfl E' (Arv.new A' hz) D' O' K T' ⟨vm0, k0, _, X', e', hS, Nat.le_trans hk E'.1, hZ, hown, N, I.new E' rfl A'.lt, C.trans (CHr.ext E' I.1), hc, hl⟩
  exact ⟨u, stp _ S2, E⟩
/-! ## arrays: length, loads, stores -/
theorem go_arraylength {a : Addr} {k : ClassId} {ty : FieldType} {z : Int32} {vs : List Value} {dv : Value} (hd : decode bytes pc = .ok (.arraylength, 1)) (F : Arv Z h a k ty z vs dv) (hp : pc + 1 = pc')
    (nx : Go p l e R s m args below meth c Z a0 EL own bytes maxL ret nm ws h cells slots pc' Ls (.int z :: rest) Q) : Go p l e R s m args below meth c Z a0 EL own bytes maxL ret nm ws h cells slots pc Ls (.ref a :: rest) Q := fun K T P => by
  obtain ⟨u, S2, E⟩ := nx K T P
  obtain ⟨vm0, k0, locs, X, eT, hS, hk, hZ, hown, N, I, C, r⟩ := P
  obtain ⟨cl, A, q1, S, q3, H, G⟩ := F
  subst hp
  refine ⟨u, X.arraylength K.1 (cell := cl) (by rw [eT]; exact A.1) (State.isArrayOf_alike hZ.alike A.2.1) (g := mkF m pc Ls (.ref a :: rest)) rfl rfl (hb K.2.1 hd) _ ?_, E⟩
  rw [len_of S q3]; exact S2
theorem go_caload {a : Addr} {k : ClassId} {z j : Int32} {vs : List Value} {dv v : Value} (hd : decode bytes pc = .ok (.caload, 1)) (F : Arv Z h a k .char z vs dv) (hj : ¬ j < 0 ∧ j < z) (hv : vs.getD j.toNatClampNeg dv = v) (hp : pc + 1 = pc')
    (nx : Go p l e R s m args below meth c Z a0 EL own bytes maxL ret nm ws h cells slots pc' Ls (v :: rest) Q) : Go p l e R s m args below meth c Z a0 EL own bytes maxL ret nm ws h cells slots pc Ls (.int j :: .ref a :: rest) Q := fun K T P => by
  obtain ⟨u, S2, E⟩ := nx K T P
  obtain ⟨vm0, k0, locs, X, eT, hS, hk, hZ, hown, N, I, C, r⟩ := P
  obtain ⟨cl, A, q1, S, q3, H, G⟩ := F
  subst hp
  exact ⟨u, X.caload K.1 (j := j) (v := v) (by rw [eT]; exact A.1) (State.isArrayOf_alike hZ.alike A.2.1) A.2.2 (inb_of S hj) (H.at (inb_of S hj) hv) (g := mkF m pc Ls (.int j :: .ref a :: rest)) rfl rfl (hb K.2.1 hd) _ S2, E⟩
theorem go_baload {a : Addr} {k : ClassId} {z j : Int32} {vs : List Value} {dv v : Value} (hd : decode bytes pc = .ok (.baload, 1)) (F : Arv Z h a k .byte z vs dv) (hj : ¬ j < 0 ∧ j < z) (hv : vs.getD j.toNatClampNeg dv = v) (hp : pc + 1 = pc')
    (nx : Go p l e R s m args below meth c Z a0 EL own bytes maxL ret nm ws h cells slots pc' Ls (v :: rest) Q) : Go p l e R s m args below meth c Z a0 EL own bytes maxL ret nm ws h cells slots pc Ls (.int j :: .ref a :: rest) Q := fun K T P => by
  obtain ⟨u, S2, E⟩ := nx K T P
  obtain ⟨vm0, k0, locs, X, eT, hS, hk, hZ, hown, N, I, C, r⟩ := P
  obtain ⟨cl, A, q1, S, q3, H, G⟩ := F
  subst hp
  exact ⟨u, X.baloadBytes K.1 (j := j) (v := v) (by rw [eT]; exact A.1) (State.isArrayOf_alike hZ.alike A.2.1) A.2.2 (inb_of S hj) (H.at (inb_of S hj) hv) (g := mkF m pc Ls (.int j :: .ref a :: rest)) rfl rfl (hb K.2.1 hd) _ S2, E⟩
theorem go_aaload {a : Addr} {k : ClassId} {ty : FieldType} {z j : Int32} {vs : List Value} {dv v : Value} (hd : decode bytes pc = .ok (.aaload, 1)) (hty : ty.isReference = true) (F : Arv Z h a k ty z vs dv) (hj : ¬ j < 0 ∧ j < z) (hv : vs.getD j.toNatClampNeg dv = v) (hp : pc + 1 = pc')
    (nx : Go p l e R s m args below meth c Z a0 EL own bytes maxL ret nm ws h cells slots pc' Ls (v :: rest) Q) : Go p l e R s m args below meth c Z a0 EL own bytes maxL ret nm ws h cells slots pc Ls (.int j :: .ref a :: rest) Q := fun K T P => by
  obtain ⟨u, S2, E⟩ := nx K T P
  obtain ⟨vm0, k0, locs, X, eT, hS, hk, hZ, hown, N, I, C, r⟩ := P
  obtain ⟨cl, A, q1, S, q3, H, G⟩ := F
  subst hp
  exact ⟨u, X.aaload K.1 (j := j) (v := v) (by rw [eT]; exact A.1) (State.isArrayOf_alike hZ.alike A.2.1) hty A.2.2 (inb_of S hj) (H.at (inb_of S hj) hv) (g := mkF m pc Ls (.int j :: .ref a :: rest)) rfl rfl (hb K.2.1 hd) _ S2, E⟩
/-- a char stored: as the array keeps it -/
theorem go_castore {a : Addr} {k : ClassId} {z j x x' : Int32} {vs : List Value} {dv : Value} (i : Nat) (hd : decode bytes pc = .ok (.castore, 1)) (F : Arv Z h a k .char z vs dv) (hj : ¬ j < 0 ∧ j < z) (hi : j.toNatClampNeg = i) (hl : i < vs.length) (hx' : nar .char x = x') (ha : a ∈ ws) (hp : pc + 1 = pc')
    (nx : ∀ h', Wr h h' a j.toNatClampNeg (.int x') → Arv Z h' a k .char z (vs.set i (.int x')) dv → Go p l e R s m args below meth c Z a0 EL own bytes maxL ret nm ws h' cells slots pc' Ls rest Q) : Go p l e R s m args below meth c Z a0 EL own bytes maxL ret nm ws h cells slots pc Ls (.int x :: .int j :: .ref a :: rest) Q := fun K T P => by
  obtain ⟨vm0, k0, locs, X, eT, hS, hk, hZ, hown, N, I, C, r⟩ := P
  obtain ⟨cl, A, q1, S, q3, H, G⟩ := F
  obtain ⟨T', h', X', e', W, stp⟩ := stC X K.1 hZ eT A (inb_of S hj) (g := mkF m pc Ls (.int x :: .int j :: .ref a :: rest)) rfl rfl (hb K.2.1 hd)
  subst hp hx'
  obtain ⟨u, S2, E⟩ := nx h' W (Arv.set A q1 S q3 H G (fits_nar_char _) W i hi hl) K T' ⟨vm0, k0, _, X', e', hS, by rw [W.size]; exact hk, hZ, hown, Fr.snoc X' N (I.2.2 a ha).1, I.wr W ha, C.trans (CHr.wr W (I.2.2 a ha).2.2 I.1), r⟩
  exact ⟨u, stp _ S2, E⟩
theorem go_bastore {a : Addr} {k : ClassId} {z j x x' : Int32} {vs : List Value} {dv : Value} (i : Nat) (hd : decode bytes pc = .ok (.bastore, 1)) (F : Arv Z h a k .byte z vs dv) (hj : ¬ j < 0 ∧ j < z) (hi : j.toNatClampNeg = i) (hl : i < vs.length) (hx' : x.toInt8.toInt32 = x') (ha : a ∈ ws) (hp : pc + 1 = pc')
    (nx : ∀ h', Wr h h' a j.toNatClampNeg (.int x') → Arv Z h' a k .byte z (vs.set i (.int x')) dv → Go p l e R s m args below meth c Z a0 EL own bytes maxL ret nm ws h' cells slots pc' Ls rest Q) : Go p l e R s m args below meth c Z a0 EL own bytes maxL ret nm ws h cells slots pc Ls (.int x :: .int j :: .ref a :: rest) Q := fun K T P => by
  obtain ⟨vm0, k0, locs, X, eT, hS, hk, hZ, hown, N, I, C, r⟩ := P
  obtain ⟨cl, A, q1, S, q3, H, G⟩ := F
  obtain ⟨T', h', X', e', W, stp⟩ := stB X K.1 hZ eT A (inb_of S hj) (g := mkF m pc Ls (.int x :: .int j :: .ref a :: rest)) rfl rfl (hb K.2.1 hd)
  subst hp hx'
  obtain ⟨u, S2, E⟩ := nx h' W (Arv.set A q1 S q3 H G (fits_nar_byte _) W i hi hl) K T' ⟨vm0, k0, _, X', e', hS, by rw [W.size]; exact hk, hZ, hown, Fr.snoc X' N (I.2.2 a ha).1, I.wr W ha, C.trans (CHr.wr W (I.2.2 a ha).2.2 I.1), r⟩
  exact ⟨u, stp _ S2, E⟩
theorem go_aastore {a : Addr} {k : ClassId} {ty : FieldType} {z j : Int32} {v : Value} {vs : List Value} {dv : Value} (i : Nat) (hd : decode bytes pc = .ok (.aastore, 1)) (hty : ty.isReference = true) (F : Arv Z h a k ty z vs dv) (hf : fits ty v = true) (hS' : Sto Z h a v) (hj : ¬ j < 0 ∧ j < z) (hi : j.toNatClampNeg = i) (hl : i < vs.length) (ha : a ∈ ws) (hp : pc + 1 = pc')
    (nx : ∀ h', Wr h h' a j.toNatClampNeg v → Arv Z h' a k ty z (vs.set i v) dv → Go p l e R s m args below meth c Z a0 EL own bytes maxL ret nm ws h' cells slots pc' Ls rest Q) : Go p l e R s m args below meth c Z a0 EL own bytes maxL ret nm ws h cells slots pc Ls (v :: .int j :: .ref a :: rest) Q := fun K T P => by
  obtain ⟨vm0, k0, locs, X, eT, hS, hk, hZ, hown, N, I, C, r⟩ := P
  obtain ⟨cl, A, q1, S, q3, H, G⟩ := F
  obtain ⟨T', h', X', e', W, stp⟩ := stR X K.1 hZ eT A (inb_of S hj) hty hS' (g := mkF m pc Ls (v :: .int j :: .ref a :: rest)) rfl rfl (hb K.2.1 hd)
  subst hp
  obtain ⟨u, S2, E⟩ := nx h' W (Arv.set A q1 S q3 H G hf W i hi hl) K T' ⟨vm0, k0, _, X', e', hS, by rw [W.size]; exact hk, hZ, hown, Fr.snoc X' N (I.2.2 a ha).1, I.wr W ha, C.trans (CHr.wr W (I.2.2 a ha).2.2 I.1), r⟩
  exact ⟨u, stp _ S2, E⟩
/-! ## casts -/
theorem go_checkcast {K0 : String} {idx : Nat} {a : Addr} (hd : decode bytes pc = .ok (.checkcast idx, 3)) (w : (Cond.classLink own idx K0).before a0 Z = true) (F : Ins Z h a K0 true) (hp : pc + 3 = pc')
    (nx : Go p l e R s m args below meth c Z a0 EL own bytes maxL ret nm ws h cells slots pc' Ls (.ref a :: rest) Q) : Go p l e R s m args below meth c Z a0 EL own bytes maxL ret nm ws h cells slots pc Ls (.ref a :: rest) Q := fun K T P => by
  obtain ⟨vm0, k0, locs, X, eT, hS, hk, hZ, hown, N, I, C, r⟩ := P
  obtain ⟨T', X', e', stp⟩ := castY X K.1 hZ hown w eT F (g := mkF m pc Ls (.ref a :: rest)) rfl rfl (hb K.2.1 hd)
  subst hp
  obtain ⟨u, S2, E⟩ := nx K T' ⟨vm0, k0, locs, X', e', hS, hk, hZ, hown, N, I, C, r⟩
  exact ⟨u, stp _ S2, E⟩
theorem go_instYes {K0 : String} {idx : Nat} {a : Addr} (hd : decode bytes pc = .ok (.instanceof idx, 3)) (w : (Cond.classLink own idx K0).before a0 Z = true) (F : Ins Z h a K0 true) (hp : pc + 3 = pc')
    (nx : Go p l e R s m args below meth c Z a0 EL own bytes maxL ret nm ws h cells slots pc' Ls (.int 1 :: rest) Q) : Go p l e R s m args below meth c Z a0 EL own bytes maxL ret nm ws h cells slots pc Ls (.ref a :: rest) Q := fun K T P => by
  obtain ⟨vm0, k0, locs, X, eT, hS, hk, hZ, hown, N, I, C, r⟩ := P
  obtain ⟨T', X', e', stp⟩ := instY X K.1 hZ hown w eT F (g := mkF m pc Ls (.ref a :: rest)) rfl rfl (hb K.2.1 hd)
  subst hp
  obtain ⟨u, S2, E⟩ := nx K T' ⟨vm0, k0, locs, X', e', hS, hk, hZ, hown, N, I, C, r⟩
  exact ⟨u, stp _ S2, E⟩
theorem go_instNo {K0 C0 : String} {idx : Nat} {a : Addr} (hd : decode bytes pc = .ok (.instanceof idx, 3)) (w : (Cond.classLink own idx K0).before a0 Z = true) (E0 : Exa Z h a C0) (F : ∃ c t, Z.vm.findClass C0 = some c ∧ Z.vm.findClass K0 = some t ∧ Z.vm.assignable c t = false) (hp : pc + 3 = pc')
    (nx : Go p l e R s m args below meth c Z a0 EL own bytes maxL ret nm ws h cells slots pc' Ls (.int 0 :: rest) Q) : Go p l e R s m args below meth c Z a0 EL own bytes maxL ret nm ws h cells slots pc Ls (.ref a :: rest) Q := fun K T P => by
  obtain ⟨vm0, k0, locs, X, eT, hS, hk, hZ, hown, N, I, C, r⟩ := P
  obtain ⟨T', X', e', stp⟩ := instNo X K.1 hZ hown w eT E0 F (g := mkF m pc Ls (.ref a :: rest)) rfl rfl (hb K.2.1 hd)
  subst hp
  obtain ⟨u, S2, E⟩ := nx K T' ⟨vm0, k0, locs, X', e', hS, hk, hZ, hown, N, I, C, r⟩
  exact ⟨u, stp _ S2, E⟩
/-! ## String constants -/
theorem go_ldcO {text : String} {idx n : Nat} (hd : decode bytes pc = .ok (.ldc idx, 2)) (w : (Cond.stringLink own idx text).before a0 Z = true) (wS : ∀ a ∈ Bundle.stringAtoms, a.before a0 Z = true) (hn : 4 * text.toList.length ≤ n) (hbig : n ≤ 536870912) (hc : cells + 2 ≤ R.cells) (hl : slots + (n + 4) ≤ R.slots) (hp : pc + 2 = pc')
    (nx : ∀ h' a, Ext h h' → Go p l e R s m args below meth c Z a0 EL own bytes maxL ret nm ws h' (cells + 2) (slots + (n + 4)) pc' Ls (.ref a :: st) Q) : Go p l e R s m args below meth c Z a0 EL own bytes maxL ret nm ws h cells slots pc Ls st Q := fun K T P => by
  obtain ⟨vm0, k0, locs, X, eT, hS, hk, hZ, hown, N, I, C, r⟩ := P
  obtain ⟨a, T', h', k1, X', e', E', hS', hk', hZ', hown', C', -, stp⟩ := ldcOH X K.1 hZ hown w wS eT hS hk K.2.2.2.2.2.2 I.1 (g := mkF m pc Ls st) rfl (hb K.2.1 hd) hn hbig hc hl
  subst hp
  obtain ⟨u, S2, E⟩ := nx h' a E' K T' ⟨T'.vm, k1, locs, X', e', hS', hk', hZ', hown', N, I.ld C' E', C.trans C', hc, hl⟩
  exact ⟨u, stp _ S2, E⟩
theorem go_ldcR {text : String} {idx n : Nat} {vs : List Value} {z : Int32} (hd : decode bytes pc = .ok (.ldc idx, 2)) (w : (Cond.stringLink own idx text).before a0 Z = true) (wS : ∀ a ∈ Bundle.stringAtoms, a.before a0 Z = true) (hm : (own, idx) ∈ EL)
    (ht : (∀ c ∈ text.toList, c.toNat < 256) ∧ text.toList.map (fun c => Value.int (Jvm.Lit.byteI c.toNat.toUInt16)) = vs) (hz : ¬ z < 0) (hzl : z.toNatClampNeg = vs.length) (hn : 4 * text.toList.length ≤ n) (hbig : n ≤ 536870912) (hc : cells + 2 ≤ R.cells) (hl : slots + (n + 4) ≤ R.slots) (hp : pc + 2 = pc')
    (nx : ∀ h' a b k, Ext h h' → Exa Z h' a "java/lang/String" → Fld Z h' a "java/lang/String" "coder" "B" (.int 0) → Fld Z h' a "java/lang/String" "value" "[B" (.ref b) → Arv Z h' b k .byte z vs (.int 0) → (∀ x ∈ ws, x ≠ a ∧ x ≠ b) →
      Go p l e R s m args below meth c Z a0 EL own bytes maxL ret nm ws h' (cells + 2) (slots + (n + 4)) pc' Ls (.ref a :: st) Q) : Go p l e R s m args below meth c Z a0 EL own bytes maxL ret nm ws h cells slots pc Ls st Q := fun K T P => by
  obtain ⟨vm0, k0, locs, X, eT, hS, hk, hZ, hown, N, I, C, r⟩ := P
  obtain ⟨a, T', h', k1, b, k, X', e', E', hS', hk', hZ', hown', A1, A2, A3, A4, -, -, C', -, hne, stp⟩ := ldcCH X K.1 hZ hown w wS eT hS hk K.2.2.2.2.2.2 hm I.1 ht hz hzl (g := mkF m pc Ls st) rfl (hb K.2.1 hd) hn hbig hc hl
  subst hp
  have I' := I.ld C' E'
  obtain ⟨u, S2, E⟩ := nx h' a b k E' A1 A2 A3 A4 (fun x hx => hne x (I'.2.2 x hx).2.2) K T' ⟨T'.vm, k1, locs, X', e', hS', hk', hZ', hown', N, I', C.trans C', hc, hl⟩
  exact ⟨u, stp _ S2, E⟩
theorem go_ldcI {idx : Nat} {z : Int32} (hd : decode bytes pc = .ok (.ldc idx, 2)) (w : (Cond.constant own idx z).before a0 Z = true) (hp : pc + 2 = pc')
    (nx : Go p l e R s m args below meth c Z a0 EL own bytes maxL ret nm ws h cells slots pc' Ls (.int z :: st) Q) : Go p l e R s m args below meth c Z a0 EL own bytes maxL ret nm ws h cells slots pc Ls st Q := fun K T P => by
  obtain ⟨u, S2, E⟩ := nx K T P
  obtain ⟨vm0, k0, locs, X, eT, hS, hk, hZ, hown, N, I, C, r⟩ := P
  subst hp
  exact ⟨u, X.ldcInt K.1 hown (mv (s := s.setVm vm0) hZ w) (g := mkF m pc Ls st) rfl (hb K.2.1 hd) _ S2, E⟩
/-! ## calls -/
theorem go_init {idx W : Nat} {a : Addr} (hd : decode bytes pc = .ok (.invokespecial idx, 3)) (w1 : (Cond.methodLink own idx Lib.objectInit).before a0 Z = true) (w2 : (Cond.instanceMethod Lib.objectInit).before a0 Z = true) (w3 : (Cond.code Lib.objectInit ⟨#[0xb1]⟩ 1 none).before a0 Z = true) (hsz : Ls.size = maxL) (hf : 1 ≤ R.frames)
    (hW : (rest.map fun v => v.category).sum ≤ W) (hl : W + 12 ≤ R.locals) (hp : pc + 3 = pc') (nx : Go p l e R s m args below meth c Z a0 EL own bytes maxL ret nm ws h cells slots pc' Ls rest Q) : Go p l e R s m args below meth c Z a0 EL own bytes maxL ret nm ws h cells slots pc Ls (.ref a :: rest) Q := fun K T P => by
  obtain ⟨vm0, k0, locs, X, eT, hS, hk, hZ, hown, N, I, C, r⟩ := P
  obtain ⟨T', X', e', stp⟩ := initO X K.1 hZ hown w1 w2 w3 eT (g := mkF m pc Ls (.ref a :: rest)) rfl (hsz.trans K.2.2.1.symm) rfl (hb K.2.1 hd) hf (W := W) (by show 2 * 0 + _ ≤ _; omega) hl
  subst hp
  obtain ⟨u, S2, E⟩ := nx K T' ⟨vm0, k0, locs, X', e', hS, hk, hZ, hown, N, I, C, r⟩
  exact ⟨u, stp _ S2, E⟩
/-- what comes behind a call's return -/
theorem go_after {vm0 : Vm} {k0 : Nat} {locs : List Loc} {T : State} {B : Pt} {v : Option Value} {rm : Room} (K : Cst p meth c Z a0 EL bytes maxL ret nm) (eT : T.heap = h) (hS : s.Since vm0 k0) (hk : k0 ≤ h.size) (hZ : Z.Warmed39 vm0) (hown : vm0.findClass own = some m.cls) (N : Fr Z.heap.size locs) (C : CHr Z EL s.vm s.heap vm0 h)
    (hc : cells + rm.cells ≤ R.cells) (hl : slots + rm.slots ≤ R.slots)
    (X' : Stand p l e R ((s.setVm vm0).setVm B.U.vm) m args below meth c B.U B.locs B.cells B.slots) (h2 : (s.setVm vm0).Since B.U.vm B.U.heap.size) (hgr : T.heap.size ≤ B.U.heap.size)
    (hp : ∃ (L : List Loc) (ws' : List Addr), Q v B.U.heap ws' ∧ Fr Z.heap.size L ∧ B.locs = locs ++ L ∧ B.cells = cells + rm.cells ∧ B.slots = slots + rm.slots ∧ CHr Z EL vm0 h B.U.vm B.U.heap ∧ Inv Z EL (ws' ++ ws) B.U.vm B.U.heap) {st0 : State} (hst : Steps p.tables e below st0 (B.U.setTop (mkF m pc' Ls st')))
    (nx : ∀ h' ws', Q v h' ws' → h.size ≤ h'.size → Go p l e R s m args below meth c Z a0 EL own bytes maxL ret nm (ws' ++ ws) h' (cells + rm.cells) (slots + rm.slots) pc' Ls st' Q') : ∃ u, Steps p.tables e below st0 u ∧ Done s below R Z EL Q' u := by
  obtain ⟨L, ws', q, N', e1, e2, e3, C', I'⟩ := hp
  have hgr' : h.size ≤ B.U.heap.size := by rw [← eT]; exact hgr
  rw [e1, e2, e3] at X'
  obtain ⟨u, S2, E⟩ := nx B.U.heap ws' q hgr' K B.U ⟨B.U.vm, B.U.heap.size, _, X', rfl, hS.trans h2 (Nat.le_trans hk hgr'), Nat.le_refl _, State.Warmed39.trans (t := s.setVm vm0) hZ h2.1, (h2.1.alike.findClass _ _).trans hown, N.app N', I', C.trans C', hc, hl⟩
  exact ⟨u, hst.trans S2, E⟩
theorem go_static {idx W : Nat} {y : MethodName} {bY : ByteArray} {mY : Nat} {rY : Option FieldType} {rm : Room} {as' : Array Value} {ws0 : List Addr} {argsL : List Value} (hd : decode bytes pc = .ok (.invokestatic idx, 3)) (hM : Con l Z EL y bY mY rY [] rm as' h ws0 Q) (hs : ∀ x ∈ ws0, x ∈ ws)
    (w1 : (Cond.methodLink own idx y).before a0 Z = true) (w2 : (Cond.static y).before a0 Z = true) (w3 : (Cond.initialized y.cls).before a0 Z = true) (w4 : (Cond.code y bY mY rY).before a0 Z = true) (hy : y.cls ≠ "java/lang/invoke/MethodHandle" ∧ y.cls ≠ "java/lang/invoke/VarHandle")
    (hlen : ∀ sig, parseMethodDescriptor y.desc = some sig → argsL.length = sig.parameters.length) (has : argsL.toArray = as') (hst : st = argsL.reverse ++ rest) (hsz : Ls.size = maxL) (hW : (rest.map fun v => v.category).sum ≤ W) (hf : rm.frames + 1 ≤ R.frames) (hlo : W + (mY + 11) + rm.locals ≤ R.locals) (hc : cells + rm.cells ≤ R.cells) (hl : slots + rm.slots ≤ R.slots) (hp : pc + 3 = pc')
    (nx : ∀ v h' ws', Q v h' ws' → h.size ≤ h'.size → Go p l e R s m args below meth c Z a0 EL own bytes maxL ret nm (ws' ++ ws) h' (cells + rm.cells) (slots + rm.slots) pc' Ls (v.toList ++ rest) Q') :
    Go p l e R s m args below meth c Z a0 EL own bytes maxL ret nm ws h cells slots pc Ls st Q' := fun K T P => by
  obtain ⟨vm0, k0, locs, X, eT, hS, hk, hZ, hown, N, I, C, r⟩ := P
  subst hst hp
  obtain ⟨v, vm₁, B, hW1, X', h2, hgr, hpost, hsteps⟩ := callSS X K.1 hown (mvT (s := s.setVm vm0) hZ w1) (mvT (s := s.setVm vm0) hZ w2) (mvT (s := s.setVm vm0) hZ w3) (mvT (s := s.setVm vm0) hZ w4) hy (backC (W := W) hM hZ w4 w3 hf hlo K.2.2.2.2.2.2 I hs) (g := mkF m pc Ls (argsL.reverse ++ rest)) rfl (hsz.trans K.2.2.1.symm) hlen rfl (by show 2 * 0 + _ ≤ _; omega) (hb K.2.1 hd) (fun _ _ => ⟨has, eT, hc, hl⟩)
  exact go_after K eT hS hk hZ hown N C hc hl X' h2 hgr hpost hsteps (nx v)
theorem go_special {idx W : Nat} {y : MethodName} {bY : ByteArray} {mY : Nat} {rm : Room} {as' : Array Value} {ws0 : List Addr} {argsL : List Value} {a : Addr} (hd : decode bytes pc = .ok (.invokespecial idx, 3)) (hM : Con l Z EL y bY mY none [] rm as' h ws0 Q) (hs : ∀ x ∈ ws0, x ∈ ws) (hy1 : y.name = "<init>")
    (w1 : (Cond.methodLink own idx y).before a0 Z = true) (w2 : (Cond.instanceMethod y).before a0 Z = true) (w3 : (Cond.initialized y.cls).before a0 Z = true) (w4 : (Cond.code y bY mY none).before a0 Z = true) (hy : y.cls ≠ "java/lang/invoke/MethodHandle" ∧ y.cls ≠ "java/lang/invoke/VarHandle")
    (hlen : ∀ sig, parseMethodDescriptor y.desc = some sig → argsL.length = sig.parameters.length) (has : (Value.ref a :: argsL).toArray = as') (hst : st = argsL.reverse ++ .ref a :: rest) (hsz : Ls.size = maxL) (hW : (rest.map fun v => v.category).sum ≤ W) (hf : rm.frames + 1 ≤ R.frames) (hlo : W + (mY + 11) + rm.locals ≤ R.locals) (hc : cells + rm.cells ≤ R.cells) (hl : slots + rm.slots ≤ R.slots) (hp : pc + 3 = pc')
    (nx : ∀ v h' ws', Q v h' ws' → h.size ≤ h'.size → Go p l e R s m args below meth c Z a0 EL own bytes maxL ret nm (ws' ++ ws) h' (cells + rm.cells) (slots + rm.slots) pc' Ls (v.toList ++ rest) Q') :
    Go p l e R s m args below meth c Z a0 EL own bytes maxL ret nm ws h cells slots pc Ls st Q' := fun K T P => by
  obtain ⟨vm0, k0, locs, X, eT, hS, hk, hZ, hown, N, I, C, r⟩ := P
  subst hst hp
  obtain ⟨v, vm₁, B, hW1, X', h2, hgr, hpost, hsteps⟩ := X.specialBackS K.1 hy1 hown (mvT (s := s.setVm vm0) hZ w1) (mvT (s := s.setVm vm0) hZ w2) (mvT (s := s.setVm vm0) hZ w4) hy (backC (W := W) hM hZ w4 w3 hf hlo K.2.2.2.2.2.2 I hs) (g := mkF m pc Ls (argsL.reverse ++ .ref a :: rest)) rfl (hsz.trans K.2.2.1.symm) (Steps.refl _) hlen rfl (by show 2 * 0 + _ ≤ _; omega) (hb K.2.1 hd) (fun _ _ => ⟨has, eT, hc, hl⟩)
  exact go_after K eT hS hk hZ hown N C hc hl X' h2 hgr hpost hsteps (nx v)
theorem go_virtual {idx W : Nat} {y z : MethodName} {C0 : String} {bY : ByteArray} {mY : Nat} {rY : Option FieldType} {rm : Room} {as' : Array Value} {ws0 : List Addr} {argsL : List Value} {a : Addr} (hd : decode bytes pc = .ok (.invokevirtual idx, 3)) (hM : Con l Z EL z bY mY rY [] rm as' h ws0 Q) (hs : ∀ x ∈ ws0, x ∈ ws) (E0 : Exa Z h a C0)
    (w1 : (Cond.methodLink own idx y).before a0 Z = true) (w2 : (Cond.declares y).before a0 Z = true) (w5 : (Cond.selects C0 y z).before a0 Z = true) (hnf : ∀ s' : State, Z.Warmed39 s'.vm → NotFace s' y) (w6 : (Cond.instanceMethod z).before a0 Z = true) (w3 : (Cond.initialized z.cls).before a0 Z = true) (w4 : (Cond.code z bY mY rY).before a0 Z = true) (hy : y.cls ≠ "java/lang/invoke/MethodHandle" ∧ y.cls ≠ "java/lang/invoke/VarHandle")
    (hlen : ∀ sig, parseMethodDescriptor y.desc = some sig → argsL.length = sig.parameters.length) (has : (Value.ref a :: argsL).toArray = as') (hst : st = argsL.reverse ++ .ref a :: rest) (hsz : Ls.size = maxL) (hW : (rest.map fun v => v.category).sum ≤ W) (hf : rm.frames + 1 ≤ R.frames) (hlo : W + (mY + 11) + rm.locals ≤ R.locals) (hc : cells + rm.cells ≤ R.cells) (hl : slots + rm.slots ≤ R.slots) (hp : pc + 3 = pc')
    (nx : ∀ v h' ws', Q v h' ws' → h.size ≤ h'.size → Go p l e R s m args below meth c Z a0 EL own bytes maxL ret nm (ws' ++ ws) h' (cells + rm.cells) (slots + rm.slots) pc' Ls (v.toList ++ rest) Q') :
    Go p l e R s m args below meth c Z a0 EL own bytes maxL ret nm ws h cells slots pc Ls st Q' := fun K T P => by
  obtain ⟨vm0, k0, locs, X, eT, hS, hk, hZ, hown, N, I, C, r⟩ := P
  subst hst hp
  obtain ⟨cB, kB, i1, i2, i3⟩ := isOf (s := s.setVm vm0) hZ eT E0
  obtain ⟨v, vm₁, B, hW1, X', h2, hgr, hpost, hsteps⟩ := X.virtualBackS K.1 hown (mvT (s := s.setVm vm0) hZ w1) (mvT (s := s.setVm vm0) hZ w2) (hnf (s.setVm vm0) hZ) (mvT (s := s.setVm vm0) hZ w5) (mvT (s := s.setVm vm0) hZ w6) hy (backC (W := W) hM hZ w4 w3 hf hlo K.2.2.2.2.2.2 I hs) i1 i3 (g := mkF m pc Ls (argsL.reverse ++ .ref a :: rest)) rfl (hsz.trans K.2.2.1.symm) (Steps.refl _) hlen rfl (by show 2 * 0 + _ ≤ _; omega) (hb K.2.1 hd) (fun _ _ => ⟨has, eT, hc, hl⟩)
  exact go_after K eT hS hk hZ hown N C hc hl X' h2 hgr hpost hsteps (nx v)
theorem nf_sel {y : MethodName} {C0 : String} (w : (Cond.selects C0 y y).before a0 Z = true) : ∀ s' : State, Z.Warmed39 s'.vm → NotFace s' y := fun s' hZ => notFace_of_selects (args := #[]) (mvT hZ w)
end Rules
end Jvm.Own
namespace Jvm.Own
open Sem ClassFile Op Lib Bundle Jvm.Stand Jvm.Free Jvm.LawKit Jvm.RoadKit
section Rules2
variable {p : Program} {l : Launch} {e : Env} {R : Room} {s : State} {m : MethodId} {args : Array Value} {below : List Frame} {meth : Method} {c : Code} {Z : State} {a0 : Array Value} {EL : List (String × Nat)} {own : String} {bytes : ByteArray} {maxL : Nat} {ret : Option FieldType} {nm : String}
  {ws : List Addr} {h : Heap} {cells slots : Nat} {pc pc' : Nat} {Ls Ls' : Array Slot} {st st' rest : List Value} {Q Q' : Option Value → Heap → List Addr → Prop}
theorem g_iload {k : Nat} {v : Int32} (hd : decode bytes pc = .ok (.iload k, 2)) (hp : pc + 2 = pc') (hl : Ls[k]? = some (.val (.int v))) (n : Go p l e R s m args below meth c Z a0 EL own bytes maxL ret nm ws h cells slots pc' Ls (.int v :: st) Q) : Go p l e R s m args below meth c Z a0 EL own bytes maxL ret nm ws h cells slots pc Ls st Q := by
  subst hp; exact go_step (fun hx q _ A _ k => XS.iload A hx rfl (hb q hd) hl k) n
theorem g_iloadN {k : Fin 4} {v : Int32} (hd : decode bytes pc = .ok (.iload_n k, 1)) (hp : pc + 1 = pc') (hl : Ls[k.val]? = some (.val (.int v))) (n : Go p l e R s m args below meth c Z a0 EL own bytes maxL ret nm ws h cells slots pc' Ls (.int v :: st) Q) : Go p l e R s m args below meth c Z a0 EL own bytes maxL ret nm ws h cells slots pc Ls st Q := by
  subst hp; exact go_step (fun hx q _ A _ k => XS.iloadN A hx rfl (hb q hd) hl k) n
theorem g_lload {k : Nat} {v : Int64} (hd : decode bytes pc = .ok (.lload k, 2)) (hp : pc + 2 = pc') (hl : Ls[k]? = some (.val (.long v))) (n : Go p l e R s m args below meth c Z a0 EL own bytes maxL ret nm ws h cells slots pc' Ls (.long v :: st) Q) : Go p l e R s m args below meth c Z a0 EL own bytes maxL ret nm ws h cells slots pc Ls st Q := by
  subst hp; exact go_step (fun hx q _ A _ k => XS.lload A hx rfl (hb q hd) hl k) n
theorem g_lloadN {k : Fin 4} {v : Int64} (hd : decode bytes pc = .ok (.lload_n k, 1)) (hp : pc + 1 = pc') (hl : Ls[k.val]? = some (.val (.long v))) (n : Go p l e R s m args below meth c Z a0 EL own bytes maxL ret nm ws h cells slots pc' Ls (.long v :: st) Q) : Go p l e R s m args below meth c Z a0 EL own bytes maxL ret nm ws h cells slots pc Ls st Q := by
  subst hp; exact go_step (fun hx q _ A _ k => XS.lloadN A hx rfl (hb q hd) hl k) n
theorem g_aload {k : Nat} {v : Value} (hd : decode bytes pc = .ok (.aload k, 2)) (hp : pc + 2 = pc') (hl : Ls[k]? = some (.val v)) (hv : v.isRef = true) (n : Go p l e R s m args below meth c Z a0 EL own bytes maxL ret nm ws h cells slots pc' Ls (v :: st) Q) : Go p l e R s m args below meth c Z a0 EL own bytes maxL ret nm ws h cells slots pc Ls st Q := by
  subst hp; exact go_step (fun hx q _ A _ k => XS.aload A hx rfl (hb q hd) hl hv k) n
theorem g_aloadN {k : Fin 4} {v : Value} (hd : decode bytes pc = .ok (.aload_n k, 1)) (hp : pc + 1 = pc') (hl : Ls[k.val]? = some (.val v)) (hv : v.isRef = true) (n : Go p l e R s m args below meth c Z a0 EL own bytes maxL ret nm ws h cells slots pc' Ls (v :: st) Q) : Go p l e R s m args below meth c Z a0 EL own bytes maxL ret nm ws h cells slots pc Ls st Q := by
  subst hp; exact go_step (fun hx q _ A _ k => XS.aloadN A hx rfl (hb q hd) hl hv k) n
theorem g_iconst {i : Int} {z : Int32} (hd : decode bytes pc = .ok (.iconst i, 1)) (hp : pc + 1 = pc') (hz : Int32.ofInt i = z) (n : Go p l e R s m args below meth c Z a0 EL own bytes maxL ret nm ws h cells slots pc' Ls (.int z :: st) Q) : Go p l e R s m args below meth c Z a0 EL own bytes maxL ret nm ws h cells slots pc Ls st Q := by
  subst hp hz; exact go_step (fun hx q _ A _ k => XS.iconst A hx rfl (hb q hd) k) n
theorem g_bipush {i : Int} {z : Int32} (hd : decode bytes pc = .ok (.bipush i, 2)) (hp : pc + 2 = pc') (hz : (Int8.ofInt i).toInt32 = z) (n : Go p l e R s m args below meth c Z a0 EL own bytes maxL ret nm ws h cells slots pc' Ls (.int z :: st) Q) : Go p l e R s m args below meth c Z a0 EL own bytes maxL ret nm ws h cells slots pc Ls st Q := by
  subst hp hz; exact go_step (fun hx q _ A _ k => XS.bipush A hx rfl (hb q hd) k) n
theorem g_sipush {i : Int} {z : Int32} (hd : decode bytes pc = .ok (.sipush i, 3)) (hp : pc + 3 = pc') (hz : (Int16.ofInt i).toInt32 = z) (n : Go p l e R s m args below meth c Z a0 EL own bytes maxL ret nm ws h cells slots pc' Ls (.int z :: st) Q) : Go p l e R s m args below meth c Z a0 EL own bytes maxL ret nm ws h cells slots pc Ls st Q := by
  subst hp hz; exact go_step (fun hx q _ A _ k => XS.sipush A hx rfl (hb q hd) k) n
theorem g_aconstNull  (hd : decode bytes pc = .ok (.aconst_null, 1)) (hp : pc + 1 = pc') (n : Go p l e R s m args below meth c Z a0 EL own bytes maxL ret nm ws h cells slots pc' Ls (.null :: st) Q) : Go p l e R s m args below meth c Z a0 EL own bytes maxL ret nm ws h cells slots pc Ls st Q := by
  subst hp; exact go_step (fun hx q _ A _ k => XS.aconstNull A hx rfl (hb q hd) k) n
theorem g_lconst {i : Fin 2} {z : Int64} (hd : decode bytes pc = .ok (.lconst i, 1)) (hp : pc + 1 = pc') (hz : Int64.ofNat i = z) (n : Go p l e R s m args below meth c Z a0 EL own bytes maxL ret nm ws h cells slots pc' Ls (.long z :: st) Q) : Go p l e R s m args below meth c Z a0 EL own bytes maxL ret nm ws h cells slots pc Ls st Q := by
  subst hp hz; exact go_step (fun hx q _ A _ k => XS.lconst A hx rfl (hb q hd) k) n
theorem g_istore {k : Nat} {x : Int32} (hd : decode bytes pc = .ok (.istore k, 2)) (hp : pc + 2 = pc') (hl : storeLocals Ls k (.int x) = some Ls') (n : Go p l e R s m args below meth c Z a0 EL own bytes maxL ret nm ws h cells slots pc' Ls' rest Q) : Go p l e R s m args below meth c Z a0 EL own bytes maxL ret nm ws h cells slots pc Ls (.int x :: rest) Q := by
  subst hp; exact go_step (fun hx q _ A _ k => XS.istore A hx rfl (hb q hd) rfl hl k) n
theorem g_istoreN {k : Fin 4} {x : Int32} (hd : decode bytes pc = .ok (.istore_n k, 1)) (hp : pc + 1 = pc') (hl : storeLocals Ls k.val (.int x) = some Ls') (n : Go p l e R s m args below meth c Z a0 EL own bytes maxL ret nm ws h cells slots pc' Ls' rest Q) : Go p l e R s m args below meth c Z a0 EL own bytes maxL ret nm ws h cells slots pc Ls (.int x :: rest) Q := by
  subst hp; exact go_step (fun hx q _ A _ k => XS.istoreN A hx rfl (hb q hd) rfl hl k) n
theorem g_lstore {k : Nat} {x : Int64} (hd : decode bytes pc = .ok (.lstore k, 2)) (hp : pc + 2 = pc') (hl : storeLocals Ls k (.long x) = some Ls') (n : Go p l e R s m args below meth c Z a0 EL own bytes maxL ret nm ws h cells slots pc' Ls' rest Q) : Go p l e R s m args below meth c Z a0 EL own bytes maxL ret nm ws h cells slots pc Ls (.long x :: rest) Q := by
  subst hp; exact go_step (fun hx q _ A _ k => XS.lstore A hx rfl (hb q hd) rfl hl k) n
theorem g_lstoreN {k : Fin 4} {x : Int64} (hd : decode bytes pc = .ok (.lstore_n k, 1)) (hp : pc + 1 = pc') (hl : storeLocals Ls k.val (.long x) = some Ls') (n : Go p l e R s m args below meth c Z a0 EL own bytes maxL ret nm ws h cells slots pc' Ls' rest Q) : Go p l e R s m args below meth c Z a0 EL own bytes maxL ret nm ws h cells slots pc Ls (.long x :: rest) Q := by
  subst hp; exact go_step (fun hx q _ A _ k => XS.lstoreN A hx rfl (hb q hd) rfl hl k) n
theorem g_astore {k : Nat} {x : Value} (hd : decode bytes pc = .ok (.astore k, 2)) (hp : pc + 2 = pc') (hv : x.isRef = true) (hl : storeLocals Ls k x = some Ls') (n : Go p l e R s m args below meth c Z a0 EL own bytes maxL ret nm ws h cells slots pc' Ls' rest Q) : Go p l e R s m args below meth c Z a0 EL own bytes maxL ret nm ws h cells slots pc Ls (x :: rest) Q := by
  subst hp; exact go_step (fun hx q _ A _ k => XS.astore A hx rfl (hb q hd) rfl hv hl k) n
theorem g_astoreN {k : Fin 4} {x : Value} (hd : decode bytes pc = .ok (.astore_n k, 1)) (hp : pc + 1 = pc') (hv : x.isRef = true) (hl : storeLocals Ls k.val x = some Ls') (n : Go p l e R s m args below meth c Z a0 EL own bytes maxL ret nm ws h cells slots pc' Ls' rest Q) : Go p l e R s m args below meth c Z a0 EL own bytes maxL ret nm ws h cells slots pc Ls (x :: rest) Q := by
  subst hp; exact go_step (fun hx q _ A _ k => XS.astoreN A hx rfl (hb q hd) rfl hv hl k) n
theorem g_iinc {k : Nat} {cst : Int} {x : Int32} (hd : decode bytes pc = .ok (.iinc k cst, 3)) (hp : pc + 3 = pc') (hl : Ls[k]? = some (.val (.int x))) (hl' : storeLocals Ls k (.int (x + Int32.ofInt cst)) = some Ls') (n : Go p l e R s m args below meth c Z a0 EL own bytes maxL ret nm ws h cells slots pc' Ls' st Q) : Go p l e R s m args below meth c Z a0 EL own bytes maxL ret nm ws h cells slots pc Ls st Q := by
  subst hp; exact go_step (fun hx q _ A _ k => XS.iinc A hx rfl (hb q hd) hl hl' k) n
theorem g_iadd {x y : Int32} (hd : decode bytes pc = .ok (.iadd, 1)) (hp : pc + 1 = pc') (n : Go p l e R s m args below meth c Z a0 EL own bytes maxL ret nm ws h cells slots pc' Ls (.int (x + y) :: rest) Q) : Go p l e R s m args below meth c Z a0 EL own bytes maxL ret nm ws h cells slots pc Ls (.int y :: .int x :: rest) Q := by
  subst hp; exact go_step (fun hx q _ A _ k => XS.iadd A hx rfl (hb q hd) rfl k) n
theorem g_isub {x y : Int32} (hd : decode bytes pc = .ok (.isub, 1)) (hp : pc + 1 = pc') (n : Go p l e R s m args below meth c Z a0 EL own bytes maxL ret nm ws h cells slots pc' Ls (.int (x - y) :: rest) Q) : Go p l e R s m args below meth c Z a0 EL own bytes maxL ret nm ws h cells slots pc Ls (.int y :: .int x :: rest) Q := by
  subst hp; exact go_step (fun hx q _ A _ k => XS.isub A hx rfl (hb q hd) rfl k) n
theorem g_imul {x y : Int32} (hd : decode bytes pc = .ok (.imul, 1)) (hp : pc + 1 = pc') (n : Go p l e R s m args below meth c Z a0 EL own bytes maxL ret nm ws h cells slots pc' Ls (.int (x * y) :: rest) Q) : Go p l e R s m args below meth c Z a0 EL own bytes maxL ret nm ws h cells slots pc Ls (.int y :: .int x :: rest) Q := by
  subst hp; exact go_step (fun hx q _ A _ k => XS.imul A hx rfl (hb q hd) rfl k) n
theorem g_iand {x y : Int32} (hd : decode bytes pc = .ok (.iand, 1)) (hp : pc + 1 = pc') (n : Go p l e R s m args below meth c Z a0 EL own bytes maxL ret nm ws h cells slots pc' Ls (.int (x &&& y) :: rest) Q) : Go p l e R s m args below meth c Z a0 EL own bytes maxL ret nm ws h cells slots pc Ls (.int y :: .int x :: rest) Q := by
  subst hp; exact go_step (fun hx q _ A _ k => XS.iand A hx rfl (hb q hd) rfl k) n
theorem g_ior {x y : Int32} (hd : decode bytes pc = .ok (.ior, 1)) (hp : pc + 1 = pc') (n : Go p l e R s m args below meth c Z a0 EL own bytes maxL ret nm ws h cells slots pc' Ls (.int (x ||| y) :: rest) Q) : Go p l e R s m args below meth c Z a0 EL own bytes maxL ret nm ws h cells slots pc Ls (.int y :: .int x :: rest) Q := by
  subst hp; exact go_step (fun hx q _ A _ k => XS.ior A hx rfl (hb q hd) rfl k) n
theorem g_ixor {x y : Int32} (hd : decode bytes pc = .ok (.ixor, 1)) (hp : pc + 1 = pc') (n : Go p l e R s m args below meth c Z a0 EL own bytes maxL ret nm ws h cells slots pc' Ls (.int (x ^^^ y) :: rest) Q) : Go p l e R s m args below meth c Z a0 EL own bytes maxL ret nm ws h cells slots pc Ls (.int y :: .int x :: rest) Q := by
  subst hp; exact go_step (fun hx q _ A _ k => XS.ixor A hx rfl (hb q hd) rfl k) n
theorem g_ishl {x y : Int32} (hd : decode bytes pc = .ok (.ishl, 1)) (hp : pc + 1 = pc') (n : Go p l e R s m args below meth c Z a0 EL own bytes maxL ret nm ws h cells slots pc' Ls (.int (x <<< (y &&& 31)) :: rest) Q) : Go p l e R s m args below meth c Z a0 EL own bytes maxL ret nm ws h cells slots pc Ls (.int y :: .int x :: rest) Q := by
  subst hp; exact go_step (fun hx q _ A _ k => XS.ishl A hx rfl (hb q hd) rfl k) n
theorem g_ishr {x y : Int32} (hd : decode bytes pc = .ok (.ishr, 1)) (hp : pc + 1 = pc') (n : Go p l e R s m args below meth c Z a0 EL own bytes maxL ret nm ws h cells slots pc' Ls (.int (x >>> (y &&& 31)) :: rest) Q) : Go p l e R s m args below meth c Z a0 EL own bytes maxL ret nm ws h cells slots pc Ls (.int y :: .int x :: rest) Q := by
  subst hp; exact go_step (fun hx q _ A _ k => XS.ishr A hx rfl (hb q hd) rfl k) n
theorem g_iushr {x y : Int32} (hd : decode bytes pc = .ok (.iushr, 1)) (hp : pc + 1 = pc') (n : Go p l e R s m args below meth c Z a0 EL own bytes maxL ret nm ws h cells slots pc' Ls (.int ((x.toUInt32 >>> (y &&& 31).toUInt32).toInt32) :: rest) Q) : Go p l e R s m args below meth c Z a0 EL own bytes maxL ret nm ws h cells slots pc Ls (.int y :: .int x :: rest) Q := by
  subst hp; exact go_step (fun hx q _ A _ k => XS.iushr A hx rfl (hb q hd) rfl k) n
theorem g_ineg {x : Int32} (hd : decode bytes pc = .ok (.ineg, 1)) (hp : pc + 1 = pc') (n : Go p l e R s m args below meth c Z a0 EL own bytes maxL ret nm ws h cells slots pc' Ls (.int (-x) :: rest) Q) : Go p l e R s m args below meth c Z a0 EL own bytes maxL ret nm ws h cells slots pc Ls (.int x :: rest) Q := by
  subst hp; exact go_step (fun hx q _ A _ k => XS.ineg A hx rfl (hb q hd) rfl k) n
theorem g_irem {x y : Int32} (hd : decode bytes pc = .ok (.irem, 1)) (hp : pc + 1 = pc') (hy : y ≠ 0) (n : Go p l e R s m args below meth c Z a0 EL own bytes maxL ret nm ws h cells slots pc' Ls (.int (x % y) :: rest) Q) : Go p l e R s m args below meth c Z a0 EL own bytes maxL ret nm ws h cells slots pc Ls (.int y :: .int x :: rest) Q := by
  subst hp; exact go_step (fun hx q _ A _ k => XS.irem A hx rfl (hb q hd) rfl hy (by rw [irem_eq_mod]; exact k)) n
theorem g_i2b {x : Int32} (hd : decode bytes pc = .ok (.i2b, 1)) (hp : pc + 1 = pc') (n : Go p l e R s m args below meth c Z a0 EL own bytes maxL ret nm ws h cells slots pc' Ls (.int (x.toInt8.toInt32) :: rest) Q) : Go p l e R s m args below meth c Z a0 EL own bytes maxL ret nm ws h cells slots pc Ls (.int x :: rest) Q := by
  subst hp; exact go_step (fun hx q _ A _ k => XS.i2b A hx rfl (hb q hd) rfl k) n
theorem g_i2c {x : Int32} (hd : decode bytes pc = .ok (.i2c, 1)) (hp : pc + 1 = pc') (n : Go p l e R s m args below meth c Z a0 EL own bytes maxL ret nm ws h cells slots pc' Ls (.int (x.toUInt32.toUInt16.toUInt32.toInt32) :: rest) Q) : Go p l e R s m args below meth c Z a0 EL own bytes maxL ret nm ws h cells slots pc Ls (.int x :: rest) Q := by
  subst hp; exact go_step (fun hx q _ A _ k => XS.i2c A hx rfl (hb q hd) rfl k) n
theorem g_i2l {x : Int32} (hd : decode bytes pc = .ok (.i2l, 1)) (hp : pc + 1 = pc') (n : Go p l e R s m args below meth c Z a0 EL own bytes maxL ret nm ws h cells slots pc' Ls (.long (x.toInt64) :: rest) Q) : Go p l e R s m args below meth c Z a0 EL own bytes maxL ret nm ws h cells slots pc Ls (.int x :: rest) Q := by
  subst hp; exact go_step (fun hx q _ A _ k => XS.i2l A hx rfl (hb q hd) rfl k) n
theorem g_l2i {x : Int64} (hd : decode bytes pc = .ok (.l2i, 1)) (hp : pc + 1 = pc') (n : Go p l e R s m args below meth c Z a0 EL own bytes maxL ret nm ws h cells slots pc' Ls (.int (x.toInt32) :: rest) Q) : Go p l e R s m args below meth c Z a0 EL own bytes maxL ret nm ws h cells slots pc Ls (.long x :: rest) Q := by
  subst hp; exact go_step (fun hx q _ A _ k => XS.l2i A hx rfl (hb q hd) rfl k) n
theorem g_ladd {x y : Int64} (hd : decode bytes pc = .ok (.ladd, 1)) (hp : pc + 1 = pc') (n : Go p l e R s m args below meth c Z a0 EL own bytes maxL ret nm ws h cells slots pc' Ls (.long (x + y) :: rest) Q) : Go p l e R s m args below meth c Z a0 EL own bytes maxL ret nm ws h cells slots pc Ls (.long y :: .long x :: rest) Q := by
  subst hp; exact go_step (fun hx q _ A _ k => XS.ladd A hx rfl (hb q hd) rfl k) n
theorem g_lsub {x y : Int64} (hd : decode bytes pc = .ok (.lsub, 1)) (hp : pc + 1 = pc') (n : Go p l e R s m args below meth c Z a0 EL own bytes maxL ret nm ws h cells slots pc' Ls (.long (x - y) :: rest) Q) : Go p l e R s m args below meth c Z a0 EL own bytes maxL ret nm ws h cells slots pc Ls (.long y :: .long x :: rest) Q := by
  subst hp; exact go_step (fun hx q _ A _ k => XS.lsub A hx rfl (hb q hd) rfl k) n
theorem g_land {x y : Int64} (hd : decode bytes pc = .ok (.land, 1)) (hp : pc + 1 = pc') (n : Go p l e R s m args below meth c Z a0 EL own bytes maxL ret nm ws h cells slots pc' Ls (.long (x &&& y) :: rest) Q) : Go p l e R s m args below meth c Z a0 EL own bytes maxL ret nm ws h cells slots pc Ls (.long y :: .long x :: rest) Q := by
  subst hp; exact go_step (fun hx q _ A _ k => XS.land A hx rfl (hb q hd) rfl k) n
theorem g_lor {x y : Int64} (hd : decode bytes pc = .ok (.lor, 1)) (hp : pc + 1 = pc') (n : Go p l e R s m args below meth c Z a0 EL own bytes maxL ret nm ws h cells slots pc' Ls (.long (x ||| y) :: rest) Q) : Go p l e R s m args below meth c Z a0 EL own bytes maxL ret nm ws h cells slots pc Ls (.long y :: .long x :: rest) Q := by
  subst hp; exact go_step (fun hx q _ A _ k => XS.lor A hx rfl (hb q hd) rfl k) n
theorem g_lushr {x : Int64} {y : Int32} (hd : decode bytes pc = .ok (.lushr, 1)) (hp : pc + 1 = pc') (n : Go p l e R s m args below meth c Z a0 EL own bytes maxL ret nm ws h cells slots pc' Ls (.long ((x.toUInt64 >>> (y &&& 0x3f).toInt64.toUInt64).toInt64) :: rest) Q) : Go p l e R s m args below meth c Z a0 EL own bytes maxL ret nm ws h cells slots pc Ls (.int y :: .long x :: rest) Q := by
  subst hp; exact go_step (fun hx q _ A _ k => XS.lushr A hx rfl (hb q hd) rfl k) n
theorem g_lcmp {x y : Int64} (hd : decode bytes pc = .ok (.lcmp, 1)) (hp : pc + 1 = pc') (n : Go p l e R s m args below meth c Z a0 EL own bytes maxL ret nm ws h cells slots pc' Ls (.int (if x > y then 1 else if x = y then 0 else -1) :: rest) Q) : Go p l e R s m args below meth c Z a0 EL own bytes maxL ret nm ws h cells slots pc Ls (.long y :: .long x :: rest) Q := by
  subst hp; exact go_step (fun hx q _ A _ k => XS.lcmp A hx rfl (hb q hd) rfl k) n
theorem g_pop {x : Value} (hd : decode bytes pc = .ok (.pop, 1)) (hp : pc + 1 = pc') (hc : x.category = 1) (n : Go p l e R s m args below meth c Z a0 EL own bytes maxL ret nm ws h cells slots pc' Ls rest Q) : Go p l e R s m args below meth c Z a0 EL own bytes maxL ret nm ws h cells slots pc Ls (x :: rest) Q := by
  subst hp; exact go_step (fun hx q _ A _ k => XS.pop A hx rfl (hb q hd) rfl hc k) n
theorem g_dup {x : Value} (hd : decode bytes pc = .ok (.dup, 1)) (hp : pc + 1 = pc') (hc : x.category = 1) (n : Go p l e R s m args below meth c Z a0 EL own bytes maxL ret nm ws h cells slots pc' Ls (x :: x :: rest) Q) : Go p l e R s m args below meth c Z a0 EL own bytes maxL ret nm ws h cells slots pc Ls (x :: rest) Q := by
  subst hp; exact go_step (fun hx q _ A _ k => XS.dup A hx rfl (hb q hd) rfl hc k) n
theorem g_dup2 {x y : Value} (hd : decode bytes pc = .ok (.dup2, 1)) (hp : pc + 1 = pc') (hc : x.category = 1) (hc' : y.category = 1) (n : Go p l e R s m args below meth c Z a0 EL own bytes maxL ret nm ws h cells slots pc' Ls (x :: y :: x :: y :: rest) Q) : Go p l e R s m args below meth c Z a0 EL own bytes maxL ret nm ws h cells slots pc Ls (x :: y :: rest) Q := by
  subst hp; exact go_step (fun hx q _ A _ k => XT.dup2 A hx rfl (hb q hd) rfl hc hc' k) n
theorem g_dupX1 {x y : Value} (hd : decode bytes pc = .ok (.dup_x1, 1)) (hp : pc + 1 = pc') (hc : x.category = 1) (hc' : y.category = 1) (n : Go p l e R s m args below meth c Z a0 EL own bytes maxL ret nm ws h cells slots pc' Ls (x :: y :: x :: rest) Q) : Go p l e R s m args below meth c Z a0 EL own bytes maxL ret nm ws h cells slots pc Ls (x :: y :: rest) Q := by
  subst hp; exact go_step (fun hx q _ A _ k => XS.dupX1 A hx rfl (hb q hd) rfl hc hc' k) n
theorem g_goto {o : Int} (hd : decode bytes pc = .ok (.goto o, 3)) (ho : 0 ≤ (pc : Int) + o) (hp : ((pc : Int) + o).toNat = pc') (n : Go p l e R s m args below meth c Z a0 EL own bytes maxL ret nm ws h cells slots pc' Ls st Q) : Go p l e R s m args below meth c Z a0 EL own bytes maxL ret nm ws h cells slots pc Ls st Q :=
  go_step (fun hx q _ A _ k => XS.goto A hx rfl rfl (hb q hd)  ho hp k) n
theorem g_ifYes {cd : ClassFile.Cond} {x : Int32} {o : Int} (hd : decode bytes pc = .ok (.ifCond cd o, 3)) (hc : if_icmp.holds cd x 0 = true) (ho : 0 ≤ (pc : Int) + o) (hp : ((pc : Int) + o).toNat = pc') (n : Go p l e R s m args below meth c Z a0 EL own bytes maxL ret nm ws h cells slots pc' Ls rest Q) : Go p l e R s m args below meth c Z a0 EL own bytes maxL ret nm ws h cells slots pc Ls (.int x :: rest) Q :=
  go_step (fun hx q _ A _ k => XS.ifYes A hx rfl rfl (hb q hd) rfl ((if0 _ _).trans hc) ho hp k) n
theorem g_ifNo {cd : ClassFile.Cond} {x : Int32} {o : Int} (hd : decode bytes pc = .ok (.ifCond cd o, 3)) (hp : pc + 3 = pc') (hc : if_icmp.holds cd x 0 = false) (n : Go p l e R s m args below meth c Z a0 EL own bytes maxL ret nm ws h cells slots pc' Ls rest Q) : Go p l e R s m args below meth c Z a0 EL own bytes maxL ret nm ws h cells slots pc Ls (.int x :: rest) Q := by
  subst hp; exact go_step (fun hx q _ A _ k => XS.ifNo A hx rfl (hb q hd) rfl ((if0 _ _).trans hc) k) n
theorem g_icmpYes {cd : ClassFile.Cond} {x y : Int32} {o : Int} (hd : decode bytes pc = .ok (.if_icmp cd o, 3)) (hc : if_icmp.holds cd x y = true) (ho : 0 ≤ (pc : Int) + o) (hp : ((pc : Int) + o).toNat = pc') (n : Go p l e R s m args below meth c Z a0 EL own bytes maxL ret nm ws h cells slots pc' Ls rest Q) : Go p l e R s m args below meth c Z a0 EL own bytes maxL ret nm ws h cells slots pc Ls (.int y :: .int x :: rest) Q :=
  go_step (fun hx q _ A _ k => XS.icmpYes A hx rfl rfl (hb q hd) rfl hc ho hp k) n
theorem g_icmpNo {cd : ClassFile.Cond} {x y : Int32} {o : Int} (hd : decode bytes pc = .ok (.if_icmp cd o, 3)) (hp : pc + 3 = pc') (hc : if_icmp.holds cd x y = false) (n : Go p l e R s m args below meth c Z a0 EL own bytes maxL ret nm ws h cells slots pc' Ls rest Q) : Go p l e R s m args below meth c Z a0 EL own bytes maxL ret nm ws h cells slots pc Ls (.int y :: .int x :: rest) Q := by
  subst hp; exact go_step (fun hx q _ A _ k => XS.icmpNo A hx rfl (hb q hd) rfl hc k) n
theorem g_ifnullYes {o : Int} (hd : decode bytes pc = .ok (.ifnull o, 3)) (ho : 0 ≤ (pc : Int) + o) (hp : ((pc : Int) + o).toNat = pc') (n : Go p l e R s m args below meth c Z a0 EL own bytes maxL ret nm ws h cells slots pc' Ls rest Q) : Go p l e R s m args below meth c Z a0 EL own bytes maxL ret nm ws h cells slots pc Ls (.null :: rest) Q :=
  go_step (fun hx q _ A _ k => XS.ifnullYes A hx rfl rfl (hb q hd) rfl ho hp k) n
theorem g_ifnullNo {o : Int} {a : Addr} (hd : decode bytes pc = .ok (.ifnull o, 3)) (hp : pc + 3 = pc') (n : Go p l e R s m args below meth c Z a0 EL own bytes maxL ret nm ws h cells slots pc' Ls rest Q) : Go p l e R s m args below meth c Z a0 EL own bytes maxL ret nm ws h cells slots pc Ls (.ref a :: rest) Q := by
  subst hp; exact go_step (fun hx q _ A _ k => XS.ifnullNo A hx rfl (hb q hd) rfl k) n
theorem g_ifnonnullYes {o : Int} {a : Addr} (hd : decode bytes pc = .ok (.ifnonnull o, 3)) (ho : 0 ≤ (pc : Int) + o) (hp : ((pc : Int) + o).toNat = pc') (n : Go p l e R s m args below meth c Z a0 EL own bytes maxL ret nm ws h cells slots pc' Ls rest Q) : Go p l e R s m args below meth c Z a0 EL own bytes maxL ret nm ws h cells slots pc Ls (.ref a :: rest) Q :=
  go_step (fun hx q _ A _ k => XS.ifnonnullYes A hx rfl rfl (hb q hd) rfl ho hp k) n
theorem g_ifnonnullNo {o : Int} (hd : decode bytes pc = .ok (.ifnonnull o, 3)) (hp : pc + 3 = pc') (n : Go p l e R s m args below meth c Z a0 EL own bytes maxL ret nm ws h cells slots pc' Ls rest Q) : Go p l e R s m args below meth c Z a0 EL own bytes maxL ret nm ws h cells slots pc Ls (.null :: rest) Q := by
  subst hp; exact go_step (fun hx q _ A _ k => XS.ifnonnullNo A hx rfl (hb q hd) rfl k) n
theorem g_acmp {cd : ClassFile.ACond} {x y : Value} {o : Int} {same : Bool} (hd : decode bytes pc = .ok (.if_acmp cd o, 3)) (hx' : x.isRef = true) (hy' : y.isRef = true) (hq : decide (x = y) = same) (ho : 0 ≤ (pc : Int) + o) (hp : pc' = if acV cd same = true then ((pc : Int) + o).toNat else pc + 3) (n : Go p l e R s m args below meth c Z a0 EL own bytes maxL ret nm ws h cells slots pc' Ls rest Q) : Go p l e R s m args below meth c Z a0 EL own bytes maxL ret nm ws h cells slots pc Ls (y :: x :: rest) Q := fun K T P => by
  obtain ⟨u, S, E⟩ := n K T P
  obtain ⟨vm0, k0, locs, X, -⟩ := P
  exact ⟨u, acmp X K.1 (g := mkF m pc Ls (y :: x :: rest)) rfl hx' hy' rfl (hb K.2.1 hd) rfl hq ho hp S, E⟩
end Rules2
end Jvm.Own
namespace Jvm.Own
open Sem ClassFile Op Lib Bundle Jvm.Stand Jvm.Free Jvm.LawKit Jvm.RoadKit
/-! ## counting in ints -/
theorem o_int {i : Nat} (hi : i < 2147483648) : (Int32.ofNat i).toInt = (i : Int) := toInt_of rfl hi
theorem o_lt {i n : Nat} (hi : i < 2147483648) (hn : n < 2147483648) : Int32.ofNat i < Int32.ofNat n ↔ i < n := by
  rw [Int32.lt_iff_toInt_lt, o_int hi, o_int hn]; omega
theorem o_nn {i : Nat} (hi : i < 2147483648) : ¬ Int32.ofNat i < 0 := by
  rw [Int32.lt_iff_toInt_lt, o_int hi]; show ¬ ((i : Int) < 0); omega
theorem o_cl {i : Nat} (hi : i < 2147483648) : (Int32.ofNat i).toNatClampNeg = i := clamp_of rfl hi
theorem o_inc (i : Nat) : Int32.ofNat i + (1 : Int32) = Int32.ofNat (i + 1) := (inc_ofNat i).symm
theorem o_eq {i n : Nat} (hi : i < 2147483648) (hn : n < 2147483648) : Int32.ofNat i = Int32.ofNat n ↔ i = n := by
  constructor
  · intro q; have := congrArg Int32.toInt q; rw [o_int hi, o_int hn] at this; omega
  · intro q; rw [q]
/-! ## arrays by their values within the length -/
theorem Arv_congr {Z : State} {h : Heap} {a : Addr} {k : ClassId} {ty : FieldType} {z : Int32} {vs vs' : List Value} {dv : Value} (F : Arv Z h a k ty z vs dv) (q : ∀ i, i < z.toNatClampNeg → vs'.getD i dv = vs.getD i dv) : Arv Z h a k ty z vs' dv := by
  obtain ⟨c, A, r1, r2, r3, H, G⟩ := F
  exact ⟨c, A, r1, r2, r3, fun i hi => by rw [q i (by rw [← r2]; exact hi)]; exact H i hi, fun i hi => by rw [q i (by rw [← r2]; exact hi)]; exact G i hi⟩
theorem Arv_nn {Z : State} {h : Heap} {a : Addr} {k : ClassId} {ty : FieldType} {z : Int32} {vs : List Value} {dv : Value} (F : Arv Z h a k ty z vs dv) : ¬ z < 0 := by obtain ⟨c, A, r1, r2, r3, H, G⟩ := F; exact r3
theorem getD_set_eq {vs : List Value} {i : Nat} {v d : Value} (hi : i < vs.length) : (vs.set i v).getD i d = v := by simp [List.getD, hi]
theorem getD_set_ne {vs : List Value} {i j : Nat} {v d : Value} (hne : j ≠ i) : (vs.set i v).getD j d = vs.getD j d := by
  simp only [List.getD]; rw [List.getElem?_set_ne (Ne.symm hne)]
theorem Keep_of_ext {h h' : Heap} (E : Ext h h') : Keep h h' [] := (Keep.refl h []).ext E
theorem Ext_of_keep {h h' : Heap} (K : Keep h h' []) : Ext h h' := ⟨K.1, fun x c q => K.2.1 x c q nin0⟩
theorem Keep_mono {h h' : Heap} {ws ws' : List Addr} (K : Keep h h' ws) (q : ∀ x ∈ ws, x ∈ ws') : Keep h h' ws' := ⟨K.1, fun x c r s => K.2.1 x c r fun z => s (q x z), K.2.2⟩
/-- bytes as signed -/
def by8 (c : Int32) : Value := .int c.toInt8.toInt32
theorem fits_by8 (c : Int32) : fits .byte (by8 c) = true := fits_nar_byte c
end Jvm.Own
namespace Jvm.Own
open Sem ClassFile Op Lib Bundle Jvm.Stand Jvm.Free Jvm.LawKit Jvm.RoadKit
theorem i2b2 (x : Int32) : x.toInt8.toInt32.toInt8.toInt32 = x.toInt8.toInt32 := by simp
theorem map_getD (cs : List Int32) (j : Nat) : (cs.map Value.int).getD j (.int 0) = .int (cs.getD j 0) := by
  simp only [List.getD, List.getElem?_map]; cases cs[j]? <;> rfl
theorem map8_getD (cs : List Int32) (j : Nat) : (cs.map by8).getD j (.int 0) = by8 (cs.getD j 0) := by
  simp only [List.getD, List.getElem?_map]; cases cs[j]? <;> rfl
theorem getD_lat {cs : List Int32} (h : ∀ c ∈ cs, ¬ (255 : Int32) < c) (j : Nat) : ¬ (255 : Int32) < cs.getD j 0 := by
  by_cases hj : j < cs.length
  · simp only [List.getD, List.getElem?_eq_getElem hj, Option.getD_some]; exact h _ (List.getElem_mem hj)
  · simp only [List.getD, List.getElem?_eq_none (Nat.le_of_not_lt hj), Option.getD_none]; decide
end Jvm.Own
namespace Jvm.Own
open Sem ClassFile Op Lib Bundle Jvm.Stand Jvm.Free Jvm.LawKit Jvm.RoadKit
theorem fld_eq {args : Array Value} {s : State} {t : Term} {C n d : String} {k : Int32} {x : Addr} (ht : t.eval args s none [] s = some (.ref x)) (h : (Cond.eq (Term.field t C n d) (Term.int k)).value args s none s [] = some true) : s.fieldOf? x C n d = some (.int k) := by
  have q := Cond.eq_int (Cond.before_iff.mpr h) rfl
  simpa [Term.eval, ht] using q
theorem Inv_start0 {s : State} : Inv s [] [] s.vm s.heap := ⟨(fun p hp => nomatch hp), ⟨Nat.le_refl _, fun _ _ q => q⟩, all0⟩
theorem lat255 (x : Int32) : ¬ (255 : Int32) < (x &&& 255).toUInt32.toUInt16.toUInt32.toInt32 := by
  rw [i2c_mask]
  have h := c_and x 255 (by decide)
  rw [Int32.lt_iff_toInt_lt]; exact fun q => absurd q (Int.not_lt.mpr h.2)
theorem all1 {P : Int32 → Prop} {x : Int32} {L : List Int32} (q : P x) (r : ∀ y ∈ L, P y) : ∀ y ∈ x :: L, P y := fun y z => (List.mem_cons.mp z).elim (fun u => u ▸ q) (r y)
theorem allN {P : Int32 → Prop} : ∀ y ∈ ([] : List Int32), P y := fun _ q => nomatch q
theorem nar_i2c (x : Int32) : nar .char (x.toUInt32.toUInt16.toUInt32.toInt32) = x.toUInt32.toUInt16.toUInt32.toInt32 := by
  apply Int32.toInt_inj.mp
  have a := c_i2c x
  have b := c_i2c (x.toUInt32.toUInt16.toUInt32.toInt32)
  show (x.toUInt32.toUInt16.toUInt32.toInt32.toUInt32.toUInt16.toUInt32.toInt32).toInt = _
  omega
end Jvm.Own
namespace Jvm.Own
open Sem ClassFile Op Lib Bundle Jvm.Stand Jvm.Free Jvm.LawKit Jvm.RoadKit
/-! ## Strings of one byte a char -/
/-- the object a is a String, one byte a char, that spells cs; its array is b -/
def LatB (Z : State) (h : Heap) (a b : Addr) (cs : List Int32) : Prop :=
  Exa Z h a "java/lang/String" ∧ Fld Z h a "java/lang/String" "coder" "B" (.int 0) ∧ Fld Z h a "java/lang/String" "value" "[B" (.ref b) ∧ ∃ k, Arv Z h b k .byte (Int32.ofNat cs.length) (cs.map by8) (.int 0)
section LatFacts
variable {Z : State} {h h' : Heap} {a b x : Addr} {cs ds : List Int32} {ws : List Addr} {sl : Nat} {v : Value}
theorem LatB.ext (F : LatB Z h a b cs) (E : Ext h h') : LatB Z h' a b cs := ⟨F.1.ext E, F.2.1.ext E, F.2.2.1.ext E, by obtain ⟨k, A⟩ := F.2.2.2; exact ⟨k, A.ext E⟩⟩
theorem LatB.keep (F : LatB Z h a b cs) (K : Keep h h' ws) (q : a ∉ ws) (r : b ∉ ws) : LatB Z h' a b cs := ⟨F.1.keep K, F.2.1.keep K q, F.2.2.1.keep K q, by obtain ⟨k, A⟩ := F.2.2.2; exact ⟨k, A.keep K r⟩⟩
theorem LatB.other (F : LatB Z h a b cs) (W : Wr h h' x sl v) (q : a ≠ x) (r : b ≠ x) : LatB Z h' a b cs := ⟨Exa.wr W F.1, Fld.other W F.2.1 (Or.inl q), Fld.other W F.2.2.1 (Or.inl q), by obtain ⟨k, A⟩ := F.2.2.2; exact ⟨k, A.other W r⟩⟩
theorem LatB.lt (F : LatB Z h a b cs) : a < h.size := F.1.lt
theorem LatB.blt (F : LatB Z h a b cs) : b < h.size := by obtain ⟨k, A⟩ := F.2.2.2; exact A.lt
theorem LatB.mk {k : ClassId} {z : Int32} {vs : List Value} (E : Exa Z h a "java/lang/String") (C : Fld Z h a "java/lang/String" "coder" "B" (.int 0)) (V : Fld Z h a "java/lang/String" "value" "[B" (.ref b)) (A : Arv Z h b k .byte z vs (.int 0)) (hz : z = Int32.ofNat cs.length) (hv : vs = cs.map by8) : LatB Z h a b cs := ⟨E, C, V, k, by subst hz hv; exact A⟩
end LatFacts
theorem shr0 (x : Int32) : x >>> ((0 : Int32) &&& 31) = x := by
  apply Int32.toInt_inj.mp
  rw [c_ishr x 0 0 (by decide)]; omega
/-- a char up to 255, kept as a byte and read back -/
theorem by8_back {c : Int32} (h0 : ¬ c < 0) (h1 : ¬ (255 : Int32) < c) : (c.toInt8.toInt32 &&& 255) = c := by
  apply Int32.toInt_inj.mp
  have q := c_i2b c
  have m := c_mask c.toInt8.toInt32 255 8 (by decide) (by decide)
  rw [m]
  simp only [Int32.lt_iff_toInt_lt, Int32.reduceToInt] at h0 h1
  have : ((2 : Nat) ^ 8 : Nat) = 256 := rfl
  omega
theorem by8_char {c : Int32} (h0 : ¬ c < 0) (h1 : ¬ (255 : Int32) < c) : (c.toInt8.toInt32 &&& 255).toUInt32.toUInt16.toUInt32.toInt32 = c := by rw [i2c_mask, by8_back h0 h1]
theorem by8_inj {c d : Int32} (h0 : ¬ c < 0) (h1 : ¬ (255 : Int32) < c) (g0 : ¬ d < 0) (g1 : ¬ (255 : Int32) < d) (h : c.toInt8.toInt32 = d.toInt8.toInt32) : c = d := by
  rw [← by8_back h0 h1, ← by8_back g0 g1, h]
/-- each of them lies from 0 to 255 -/
def Byt (cs : List Int32) : Prop := ∀ c ∈ cs, ¬ c < 0 ∧ ¬ (255 : Int32) < c
theorem Byt.nil : Byt [] := fun _ q => nomatch q
theorem Byt.cons {c : Int32} {cs : List Int32} (q : ¬ c < 0 ∧ ¬ (255 : Int32) < c) (r : Byt cs) : Byt (c :: cs) := fun y z => (List.mem_cons.mp z).elim (fun u => u ▸ q) (r y)
theorem Byt.at {cs : List Int32} (B : Byt cs) (j : Nat) : ¬ cs.getD j 0 < 0 ∧ ¬ (255 : Int32) < cs.getD j 0 := by
  by_cases hj : j < cs.length
  · simp only [List.getD, List.getElem?_eq_getElem hj, Option.getD_some]; exact B _ (List.getElem_mem hj)
  · simp only [List.getD, List.getElem?_eq_none (Nat.le_of_not_lt hj), Option.getD_none]; decide
theorem Byt.lat {cs : List Int32} (B : Byt cs) : ∀ c ∈ cs, ¬ (255 : Int32) < c := fun c q => (B c q).2
theorem byt255 (x : Int32) : ¬ (x &&& 255).toUInt32.toUInt16.toUInt32.toInt32 < 0 ∧ ¬ (255 : Int32) < (x &&& 255).toUInt32.toUInt16.toUInt32.toInt32 := by
  refine ⟨?_, lat255 x⟩
  rw [i2c_mask]
  have h := c_and x 255 (by decide)
  rw [Int32.lt_iff_toInt_lt]; exact fun q => absurd q (Int.not_lt.mpr h.1)
theorem list_ext_getD {cs ds : List Int32} (hl : cs.length = ds.length) (h : ∀ i, i < cs.length → cs.getD i 0 = ds.getD i 0) : cs = ds := by
  apply List.ext_getElem hl
  intro i h1 h2
  have q := h i h1
  simpa [List.getD, List.getElem?_eq_getElem h1, List.getElem?_eq_getElem h2] using q
end Jvm.Own
namespace Jvm.Own
open Sem ClassFile Op Lib Bundle Jvm.Stand Jvm.Free Jvm.LawKit Jvm.RoadKit
theorem nar_byt {c : Int32} (h : ¬ c < 0 ∧ ¬ (255 : Int32) < c) : nar .char c = c := by
  have q := by8_char h.1 h.2
  show c.toUInt32.toUInt16.toUInt32.toInt32 = c
  rw [by8_back h.1 h.2] at q; exact q
end Jvm.Own
namespace Jvm.Own
open Sem ClassFile Op Lib Bundle Jvm.Stand Jvm.Free Jvm.LawKit Jvm.RoadKit
/-- r is where ch stands first in cs, or -1 -/
def Ix (cs : List Int32) (ch r : Int32) : Prop := (∃ j, j < cs.length ∧ r = Int32.ofNat j ∧ cs.getD j 0 = ch ∧ ∀ i, i < j → ¬ cs.getD i 0 = ch) ∨ (r = -1 ∧ ∀ i, i < cs.length → ¬ cs.getD i 0 = ch)
end Jvm.Own
namespace Jvm.Own
open Sem ClassFile Op Lib Bundle Jvm.Stand Jvm.Free Jvm.LawKit Jvm.RoadKit
/-! ## Strings of two bytes a char -/
def hi8 (c : Int32) : Value := by8 (c >>> ((8 : Int32) &&& 31))
def u16b : List Int32 → List Value
  | [] => []
  | c :: cs => by8 c :: hi8 c :: u16b cs
theorem u16b_length : ∀ cs : List Int32, (u16b cs).length = 2 * cs.length
  | [] => rfl
  | c :: cs => by simp [u16b, u16b_length cs]; omega
theorem u16b_lo : ∀ (cs : List Int32) (j : Nat), (u16b cs).getD (2 * j) (.int 0) = by8 (cs.getD j 0)
  | [], j => by simp [u16b, List.getD]; rfl
  | c :: cs, 0 => rfl
  | c :: cs, j + 1 => by
    rw [show 2 * (j + 1) = 2 * j + 1 + 1 by omega]
    exact u16b_lo cs j
theorem u16b_hi : ∀ (cs : List Int32) (j : Nat), (u16b cs).getD (2 * j + 1) (.int 0) = hi8 (cs.getD j 0)
  | [], j => by simp [u16b, List.getD]; rfl
  | c :: cs, 0 => rfl
  | c :: cs, j + 1 => by
    rw [show 2 * (j + 1) + 1 = 2 * j + 1 + 1 + 1 by omega]
    exact u16b_hi cs j
def UtfB (Z : State) (h : Heap) (a b : Addr) (cs : List Int32) : Prop :=
  Exa Z h a "java/lang/String" ∧ Fld Z h a "java/lang/String" "coder" "B" (.int 1) ∧ Fld Z h a "java/lang/String" "value" "[B" (.ref b) ∧ ∃ k, Arv Z h b k .byte (Int32.ofNat (2 * cs.length)) (u16b cs) (.int 0)
section UtfFacts
variable {Z : State} {h h' : Heap} {a b x : Addr} {cs ds : List Int32} {ws : List Addr} {sl : Nat} {v : Value}
theorem UtfB.ext (F : UtfB Z h a b cs) (E : Ext h h') : UtfB Z h' a b cs := ⟨F.1.ext E, F.2.1.ext E, F.2.2.1.ext E, by obtain ⟨k, A⟩ := F.2.2.2; exact ⟨k, A.ext E⟩⟩
theorem UtfB.keep (F : UtfB Z h a b cs) (K : Keep h h' ws) (q : a ∉ ws) (r : b ∉ ws) : UtfB Z h' a b cs := ⟨F.1.keep K, F.2.1.keep K q, F.2.2.1.keep K q, by obtain ⟨k, A⟩ := F.2.2.2; exact ⟨k, A.keep K r⟩⟩
theorem UtfB.other (F : UtfB Z h a b cs) (W : Wr h h' x sl v) (q : a ≠ x) (r : b ≠ x) : UtfB Z h' a b cs := ⟨Exa.wr W F.1, Fld.other W F.2.1 (Or.inl q), Fld.other W F.2.2.1 (Or.inl q), by obtain ⟨k, A⟩ := F.2.2.2; exact ⟨k, A.other W r⟩⟩
theorem UtfB.lt (F : UtfB Z h a b cs) : a < h.size := F.1.lt
theorem UtfB.blt (F : UtfB Z h a b cs) : b < h.size := by obtain ⟨k, A⟩ := F.2.2.2; exact A.lt
end UtfFacts
def U16 (cs : List Int32) : Prop := ∀ c ∈ cs, ¬ c < 0 ∧ ¬ (65535 : Int32) < c
theorem U16.nil : U16 [] := fun _ q => nomatch q
theorem U16.cons {c : Int32} {cs : List Int32} (q : ¬ c < 0 ∧ ¬ (65535 : Int32) < c) (r : U16 cs) : U16 (c :: cs) := fun y z => (List.mem_cons.mp z).elim (fun u => u ▸ q) (r y)
theorem U16.at {cs : List Int32} (B : U16 cs) (j : Nat) : ¬ cs.getD j 0 < 0 ∧ ¬ (65535 : Int32) < cs.getD j 0 := by
  by_cases hj : j < cs.length
  · simp only [List.getD, List.getElem?_eq_getElem hj, Option.getD_some]; exact B _ (List.getElem_mem hj)
  · simp only [List.getD, List.getElem?_eq_none (Nat.le_of_not_lt hj), Option.getD_none]; decide
theorem u16_i2c (x : Int32) : ¬ x.toUInt32.toUInt16.toUInt32.toInt32 < 0 ∧ ¬ (65535 : Int32) < x.toUInt32.toUInt16.toUInt32.toInt32 := by
  have q := c_i2c x
  simp only [Int32.lt_iff_toInt_lt, Int32.reduceToInt]; omega
theorem nar_u16 {c : Int32} (h : ¬ c < 0 ∧ ¬ (65535 : Int32) < c) : nar .char c = c := by
  apply Int32.toInt_inj.mp
  have q := c_i2c c
  show c.toUInt32.toUInt16.toUInt32.toInt32.toInt = c.toInt
  simp only [Int32.lt_iff_toInt_lt, Int32.reduceToInt] at h; omega
theorem join16 {c : Int32} (h0 : ¬ c < 0) (h1 : ¬ (65535 : Int32) < c) :
    (((c.toInt8.toInt32 &&& 255) <<< ((0 : Int32) &&& 31)) ||| (((c >>> ((8 : Int32) &&& 31)).toInt8.toInt32 &&& 255) <<< ((8 : Int32) &&& 31))).toUInt32.toUInt16.toUInt32.toInt32 = c := by
  apply Int32.toInt_inj.mp
  have a1 := c_mask c.toInt8.toInt32 255 8 (by decide) (by decide)
  have a2 := c_i2b c
  have s1 := c_ishl (c.toInt8.toInt32 &&& 255) 0 0 (by decide)
  have b1 := c_ishr c 8 8 (by decide)
  have b2 := c_i2b (c >>> ((8 : Int32) &&& 31))
  have b3 := c_mask (c >>> ((8 : Int32) &&& 31)).toInt8.toInt32 255 8 (by decide) (by decide)
  have s2 := c_ishl ((c >>> ((8 : Int32) &&& 31)).toInt8.toInt32 &&& 255) 8 8 (by decide)
  have r1 := rng32 ((c.toInt8.toInt32 &&& 255) <<< ((0 : Int32) &&& 31))
  have r2 := rng32 (((c >>> ((8 : Int32) &&& 31)).toInt8.toInt32 &&& 255) <<< ((8 : Int32) &&& 31))
  have o := c_or' ((c.toInt8.toInt32 &&& 255) <<< ((0 : Int32) &&& 31)) (((c >>> ((8 : Int32) &&& 31)).toInt8.toInt32 &&& 255) <<< ((8 : Int32) &&& 31)) 8 (by decide) 256 rfl
  have r3 := rng32 (((c.toInt8.toInt32 &&& 255) <<< ((0 : Int32) &&& 31)) ||| (((c >>> ((8 : Int32) &&& 31)).toInt8.toInt32 &&& 255) <<< ((8 : Int32) &&& 31)))
  have i := c_i2c (((c.toInt8.toInt32 &&& 255) <<< ((0 : Int32) &&& 31)) ||| (((c >>> ((8 : Int32) &&& 31)).toInt8.toInt32 &&& 255) <<< ((8 : Int32) &&& 31)))
  simp only [Int32.lt_iff_toInt_lt, Int32.reduceToInt] at h0 h1
  have e8 : ((2 : Nat) ^ 8 : Nat) = 256 := rfl
  have e0 : ((2 : Nat) ^ 0 : Nat) = 1 := rfl
  rw [e8] at *
  rw [e0] at s1
  omega
theorem shl1 {n : Nat} (h : n < 1073741824) : Int32.ofNat n <<< ((1 : Int32) &&& 31) = Int32.ofNat (2 * n) := by
  apply Int32.toInt_inj.mp
  have q := c_ishl (Int32.ofNat n) 1 1 (by decide)
  have r := rng32 (Int32.ofNat n <<< ((1 : Int32) &&& 31))
  rw [o_int (by omega)] at q
  rw [o_int (by omega)]
  have e1 : ((2 : Nat) ^ 1 : Nat) = 2 := rfl
  rw [e1] at q; omega
theorem shr1 {n : Nat} (h : n < 1073741824) : Int32.ofNat (2 * n) >>> ((1 : Int32) &&& 31) = Int32.ofNat n := by
  apply Int32.toInt_inj.mp
  have q := c_ishr (Int32.ofNat (2 * n)) 1 1 (by decide)
  rw [o_int (by omega)] at q
  rw [o_int (by omega), q]
  have e1 : ((2 : Nat) ^ 1 : Nat) = 2 := rfl
  rw [e1]; omega
/-- a char, as a String of chars up to 255 has it, is one of the wider kind -/
theorem Byt.u16 {cs : List Int32} (B : Byt cs) : U16 cs := fun c q => ⟨(B c q).1, fun z => (B c q).2 (by simp only [Int32.lt_iff_toInt_lt, Int32.reduceToInt] at *; omega)⟩
end Jvm.Own
namespace Jvm.Own
open Sem ClassFile Op Lib Bundle Jvm.Stand Jvm.Free Jvm.LawKit Jvm.RoadKit
theorem coder1 {n : Nat} (h0 : 0 < n) (h : n ≤ 4000) : (((Int32.ofNat n - Int32.ofNat (2 * n)).toUInt32 >>> (((31 : Int32) &&& 31)).toUInt32).toInt32).toInt8.toInt32 = 1 := by
  apply Int32.toInt_inj.mp
  have a := c_isub (Int32.ofNat n) (Int32.ofNat (2 * n))
  have r := rng32 (Int32.ofNat n - Int32.ofNat (2 * n))
  have s := c_iushr (Int32.ofNat n - Int32.ofNat (2 * n)) 31 31 (by decide) (by decide)
  have b := c_i2b (((Int32.ofNat n - Int32.ofNat (2 * n)).toUInt32 >>> (((31 : Int32) &&& 31)).toUInt32).toInt32)
  rw [o_int (by omega), o_int (by omega)] at a
  have e : ((2 : Nat) ^ 31 : Nat) = 2147483648 := rfl
  rw [e] at s
  rw [show (1 : Int32).toInt = 1 from rfl]
  omega
/-- a String that spells cs, of either kind -/
def StrB (Z : State) (h : Heap) (a b : Addr) (cs : List Int32) : Prop := (Byt cs ∧ LatB Z h a b cs) ∨ (¬ (∀ i, i < cs.length → ¬ (255 : Int32) < cs.getD i 0) ∧ UtfB Z h a b cs)
theorem StrB.ext {Z : State} {h h' : Heap} {a b : Addr} {cs : List Int32} (F : StrB Z h a b cs) (E : Ext h h') : StrB Z h' a b cs := F.imp (fun q => ⟨q.1, q.2.ext E⟩) (fun q => ⟨q.1, q.2.ext E⟩)
theorem StrB.keep {Z : State} {h h' : Heap} {a b : Addr} {cs : List Int32} {ws : List Addr} (F : StrB Z h a b cs) (K : Keep h h' ws) (q : a ∉ ws) (r : b ∉ ws) : StrB Z h' a b cs := F.imp (fun z => ⟨z.1, z.2.keep K q r⟩) (fun z => ⟨z.1, z.2.keep K q r⟩)
theorem StrB.other {Z : State} {h h' : Heap} {a b x : Addr} {cs : List Int32} {sl : Nat} {v : Value} (F : StrB Z h a b cs) (W : Wr h h' x sl v) (q : a ≠ x) (r : b ≠ x) : StrB Z h' a b cs := F.imp (fun z => ⟨z.1, z.2.other W q r⟩) (fun z => ⟨z.1, z.2.other W q r⟩)
theorem StrB.lt {Z : State} {h : Heap} {a b : Addr} {cs : List Int32} (F : StrB Z h a b cs) : a < h.size := F.elim (fun q => q.2.lt) (fun q => q.2.lt)
theorem StrB.blt {Z : State} {h : Heap} {a b : Addr} {cs : List Int32} (F : StrB Z h a b cs) : b < h.size := F.elim (fun q => q.2.blt) (fun q => q.2.blt)
theorem StrB.exa {Z : State} {h : Heap} {a b : Addr} {cs : List Int32} (F : StrB Z h a b cs) : Exa Z h a "java/lang/String" := F.elim (fun q => q.2.1) (fun q => q.2.1)
theorem lat_of {cs : List Int32} (h : ∀ i, i < cs.length → ¬ (255 : Int32) < cs.getD i 0) : ∀ c ∈ cs, ¬ (255 : Int32) < c := fun c hc => by
  obtain ⟨i, hi, rfl⟩ := List.mem_iff_getElem.mp hc
  have q := h i hi
  simpa [List.getD, List.getElem?_eq_getElem hi] using q
theorem U16.byt {cs : List Int32} (B : U16 cs) (h : ∀ i, i < cs.length → ¬ (255 : Int32) < cs.getD i 0) : Byt cs := fun c hc => ⟨(B c hc).1, lat_of h c hc⟩
end Jvm.Own
namespace Jvm.Own
theorem lt65536 {c : Int32} (h : ¬ (255 : Int32) < c) : c < 65536 := by
  simp only [Int32.lt_iff_toInt_lt, Int32.reduceToInt] at *; omega
end Jvm.Own
namespace Jvm.Own
open Sem ClassFile Op Lib Bundle Jvm.Stand Jvm.Free Jvm.LawKit Jvm.RoadKit
/-! ## more calls: through an interface, private, over a nest-mate's entry, natives; switches; class constants -/
section Rules3
variable {p : Program} {l : Launch} {e : Env} {R : Room} {s : State} {m : MethodId} {args : Array Value} {below : List Frame} {meth : Method} {c : Code} {Z : State} {a0 : Array Value} {EL : List (String × Nat)} {own : String} {bytes : ByteArray} {maxL : Nat} {ret : Option FieldType} {nm : String}
  {ws : List Addr} {h : Heap} {cells slots : Nat} {pc pc' : Nat} {Ls Ls' : Array Slot} {st st' rest : List Value} {Q Q' : Option Value → Heap → List Addr → Prop}
theorem go_interface {idx cnt W : Nat} {y z : MethodName} {C0 : String} {bY : ByteArray} {mY : Nat} {rY : Option FieldType} {rm : Room} {as' : Array Value} {ws0 : List Addr} {argsL : List Value} {a : Addr} (hd : decode bytes pc = .ok (.invokeinterface idx cnt, 5)) (hM : Con l Z EL z bY mY rY [] rm as' h ws0 Q) (hs : ∀ x ∈ ws0, x ∈ ws) (E0 : Exa Z h a C0)
    (w1 : (Cond.methodLink own idx y).before a0 Z = true) (w2 : (Cond.declares y).before a0 Z = true) (w7 : (Cond.interfaceMethod y.cls y.cls y.name y.desc).before a0 Z = true) (k7 : ((Cond.interfaceMethod y.cls y.cls y.name y.desc).onTables && (Cond.interfaceMethod y.cls y.cls y.name y.desc).keepsFace) = true) (w5 : (Cond.selects C0 y z).before a0 Z = true) (w6 : (Cond.instanceMethod z).before a0 Z = true) (w8 : (Cond.publicMethod z).before a0 Z = true) (w9 : (Cond.unhidden C0 y.name y.desc).before a0 Z = true) (w10 : (Cond.castable C0 y.cls).before a0 Z = true) (w3 : (Cond.initialized z.cls).before a0 Z = true) (w4 : (Cond.code z bY mY rY).before a0 Z = true) (hy : y.cls ≠ "java/lang/invoke/MethodHandle" ∧ y.cls ≠ "java/lang/invoke/VarHandle")
    (hlen : ∀ sig, parseMethodDescriptor y.desc = some sig → argsL.length = sig.parameters.length) (has : (Value.ref a :: argsL).toArray = as') (hst : st = argsL.reverse ++ .ref a :: rest) (hsz : Ls.size = maxL) (hW : (rest.map fun v => v.category).sum ≤ W) (hf : rm.frames + 1 ≤ R.frames) (hlo : W + (mY + 11) + rm.locals ≤ R.locals) (hc : cells + rm.cells ≤ R.cells) (hl : slots + rm.slots ≤ R.slots) (hp : pc + 5 = pc')
    (nx : ∀ v h' ws', Q v h' ws' → h.size ≤ h'.size → Go p l e R s m args below meth c Z a0 EL own bytes maxL ret nm (ws' ++ ws) h' (cells + rm.cells) (slots + rm.slots) pc' Ls (v.toList ++ rest) Q') :
    Go p l e R s m args below meth c Z a0 EL own bytes maxL ret nm ws h cells slots pc Ls st Q' := fun K T P => by
  obtain ⟨vm0, k0, locs, X, eT, hS, hk, hZ, hown, N, I, C, r⟩ := P
  subst hst hp
  obtain ⟨cB, kB, i1, i2, i3⟩ := isOf (s := s.setVm vm0) hZ eT E0
  obtain ⟨v, vm₁, B, hW1, X', h2, hgr, hpost, hsteps⟩ := X.interfaceBackS K.1 hown (mvT (s := s.setVm vm0) hZ w1) (mvT (s := s.setVm vm0) hZ w2) (mvT (s := s.setVm vm0) hZ w7 k7) (mvT (s := s.setVm vm0) hZ w5) (mvT (s := s.setVm vm0) hZ w6) (mvT (s := s.setVm vm0) hZ w8) (mvT (s := s.setVm vm0) hZ w9) (mvT (s := s.setVm vm0) hZ w10) hy (backC (W := W) hM hZ w4 w3 hf hlo K.2.2.2.2.2.2 I hs) i1 i2 i3 (g := mkF m pc Ls (argsL.reverse ++ .ref a :: rest)) rfl (hsz.trans K.2.2.1.symm) (Steps.refl _) hlen rfl (by show 2 * 0 + _ ≤ _; omega) (hb K.2.1 hd) (fun _ _ => ⟨has, eT, hc, hl⟩)
  exact go_after K eT hS hk hZ hown N C hc hl X' h2 hgr hpost hsteps (nx v)
theorem go_private {idx W : Nat} {y : MethodName} {C0 : String} {bY : ByteArray} {mY : Nat} {rY : Option FieldType} {rm : Room} {as' : Array Value} {ws0 : List Addr} {argsL : List Value} {a : Addr} (hd : decode bytes pc = .ok (.invokevirtual idx, 3)) (hM : Con l Z EL y bY mY rY [] rm as' h ws0 Q) (hs : ∀ x ∈ ws0, x ∈ ws) (E0 : Exa Z h a C0)
    (w1 : (Cond.methodLink own idx y).before a0 Z = true) (w6 : (Cond.instanceMethod y).before a0 Z = true) (w5 : (Cond.selects y.cls y y).before a0 Z = true) (w7 : (Cond.privateMethod y).before a0 Z = true) (w3 : (Cond.initialized y.cls).before a0 Z = true) (w4 : (Cond.code y bY mY rY).before a0 Z = true) (hy : y.cls ≠ "java/lang/invoke/MethodHandle" ∧ y.cls ≠ "java/lang/invoke/VarHandle")
    (hlen : ∀ sig, parseMethodDescriptor y.desc = some sig → argsL.length = sig.parameters.length) (has : (Value.ref a :: argsL).toArray = as') (hst : st = argsL.reverse ++ .ref a :: rest) (hsz : Ls.size = maxL) (hW : (rest.map fun v => v.category).sum ≤ W) (hf : rm.frames + 1 ≤ R.frames) (hlo : W + (mY + 11) + rm.locals ≤ R.locals) (hc : cells + rm.cells ≤ R.cells) (hl : slots + rm.slots ≤ R.slots) (hp : pc + 3 = pc')
    (nx : ∀ v h' ws', Q v h' ws' → h.size ≤ h'.size → Go p l e R s m args below meth c Z a0 EL own bytes maxL ret nm (ws' ++ ws) h' (cells + rm.cells) (slots + rm.slots) pc' Ls (v.toList ++ rest) Q') :
    Go p l e R s m args below meth c Z a0 EL own bytes maxL ret nm ws h cells slots pc Ls st Q' := fun K T P => by
  obtain ⟨vm0, k0, locs, X, eT, hS, hk, hZ, hown, N, I, C, r⟩ := P
  subst hst hp
  obtain ⟨cell, hcell, hobj⟩ := E0.cell
  have hpr : (s.setVm vm0).PrivateAt y := Cond.privateMethod_at (mvP (args := #[]) (s := s.setVm vm0) hZ w7)
  obtain ⟨v, vm₁, B, hW1, X', h2, hgr, hpost, hsteps⟩ := X.privateBackS K.1 hown (mvT (s := s.setVm vm0) hZ w1) (mvT (s := s.setVm vm0) hZ w6) (mvT (s := s.setVm vm0) hZ w5) hpr (mvT (s := s.setVm vm0) hZ w4) hy (backC (W := W) hM hZ w4 w3 hf hlo K.2.2.2.2.2.2 I hs) (g := mkF m pc Ls (argsL.reverse ++ .ref a :: rest)) rfl (hsz.trans K.2.2.1.symm) (Steps.refl _) (a := a) (cell := cell) (by rw [eT]; exact hcell) hobj hlen rfl (by show 2 * 0 + _ ≤ _; omega) (hb K.2.1 hd) (fun _ _ => ⟨has, eT, hc, hl⟩)
  exact go_after K eT hS hk hZ hown N C hc hl X' h2 hgr hpost hsteps (nx v)
theorem go_specialN {idx W : Nat} {host : String} {y : MethodName} {bY : ByteArray} {mY : Nat} {rm : Room} {as' : Array Value} {ws0 : List Addr} {argsL : List Value} {a : Addr} (hd : decode bytes pc = .ok (.invokespecial idx, 3)) (hM : Con l Z EL y bY mY none [] rm as' h ws0 Q) (hs : ∀ x ∈ ws0, x ∈ ws) (hy1 : y.name = "<init>")
    (w1 : (Cond.methodLinkNest own idx y host).before a0 Z = true) (w2 : (Cond.instanceMethod y).before a0 Z = true) (w3 : (Cond.initialized y.cls).before a0 Z = true) (w4 : (Cond.code y bY mY none).before a0 Z = true) (hy : y.cls ≠ "java/lang/invoke/MethodHandle" ∧ y.cls ≠ "java/lang/invoke/VarHandle")
    (hlen : ∀ sig, parseMethodDescriptor y.desc = some sig → argsL.length = sig.parameters.length) (has : (Value.ref a :: argsL).toArray = as') (hst : st = argsL.reverse ++ .ref a :: rest) (hsz : Ls.size = maxL) (hW : (rest.map fun v => v.category).sum ≤ W) (hf : rm.frames + 1 ≤ R.frames) (hlo : W + (mY + 11) + rm.locals ≤ R.locals) (hc : cells + rm.cells ≤ R.cells) (hl : slots + rm.slots ≤ R.slots) (hp : pc + 3 = pc')
    (nx : ∀ v h' ws', Q v h' ws' → h.size ≤ h'.size → Go p l e R s m args below meth c Z a0 EL own bytes maxL ret nm (ws' ++ ws) h' (cells + rm.cells) (slots + rm.slots) pc' Ls (v.toList ++ rest) Q') :
    Go p l e R s m args below meth c Z a0 EL own bytes maxL ret nm ws h cells slots pc Ls st Q' := fun K T P => by
  obtain ⟨vm0, k0, locs, X, eT, hS, hk, hZ, hown, N, I, C, r⟩ := P
  subst hst hp
  have w1' : (Cond.methodLinkNest own idx y host).before args (s.setVm vm0) = true := (Cond.methodLinkNest_wide (s := Z) (vm' := vm0) hZ w1 :)
  obtain ⟨v, vm₁, B, hW1, X', h2, hgr, hpost, hsteps⟩ := X.specialBackNestS K.1 hy1 hown w1' (mvT (s := s.setVm vm0) hZ w2) (mvT (s := s.setVm vm0) hZ w4) hy (backC (W := W) hM hZ w4 w3 hf hlo K.2.2.2.2.2.2 I hs) (g := mkF m pc Ls (argsL.reverse ++ .ref a :: rest)) rfl (hsz.trans K.2.2.1.symm) (Steps.refl _) hlen rfl (by show 2 * 0 + _ ≤ _; omega) (hb K.2.1 hd) (fun _ _ => ⟨has, eT, hc, hl⟩)
  exact go_after K eT hS hk hZ hown N C hc hl X' h2 hgr hpost hsteps (nx v)
/-- System.arraycopy into a new array -/
theorem go_arraycopy {idx W : Nat} {a b : Addr} {k k' : ClassId} {ty ty' : FieldType} {z z' sp dp nn : Int32} {vs vd us : List Value} {dv dd : Value} (hd : decode bytes pc = .ok (.invokestatic idx, 3)) (w1 : (Cond.methodLink own idx Jvm.Stand.acN).before a0 Z = true) (w2 : (Cond.native Jvm.Stand.acN).before a0 Z = true) (w3 : (Cond.static Jvm.Stand.acN).before a0 Z = true) (w4 : (Cond.initialized "java/lang/System").before a0 Z = true)
    (A : Arv Z h a k ty z vs dv) (B : Arv Z h b k' ty' z' vd dd) (hty : (ty = ty' ∧ refKind ty = false) ∨ (refKind ty = true ∧ refKind ty' = true ∧ StoL Z h b us)) (h1 : ¬ sp < 0) (h2 : ¬ dp < 0) (h3 : ¬ nn < 0) (h4 : sp.toNatClampNeg + nn.toNatClampNeg ≤ z.toNatClampNeg) (h5 : dp.toNatClampNeg + nn.toNatClampNeg ≤ z'.toNatClampNeg)
    (hus : us = (List.range nn.toNatClampNeg).map fun i => vs.getD (sp.toNatClampNeg + i) dv) (hl : dp.toNatClampNeg + nn.toNatClampNeg ≤ vd.length) (hb' : b ∈ ws) (hsz : Ls.size = maxL) (hf : 1 ≤ R.frames) (hW : (rest.map fun v => v.category).sum ≤ W) (hlo : W + (nativeFrameWords "java/lang/System" "arraycopy" 5 + 11) ≤ R.locals) (hp : pc + 3 = pc')
    (nx : ∀ h', Keep h h' [b] → Arv Z h' b k' ty' z' (vd.take dp.toNatClampNeg ++ us ++ vd.drop (dp.toNatClampNeg + nn.toNatClampNeg)) dd → Go p l e R s m args below meth c Z a0 EL own bytes maxL ret nm ws h' cells slots pc' Ls rest Q) :
    Go p l e R s m args below meth c Z a0 EL own bytes maxL ret nm ws h cells slots pc Ls (.int nn :: .int dp :: .ref b :: .int sp :: .ref a :: rest) Q := fun K T P => by
  obtain ⟨vm0, k0, locs, X, eT, hS, hk, hZ, hown, N, I, C, r⟩ := P
  obtain ⟨T', h', L, X', e', N', K', A', stp⟩ := cpA X K.1 hZ hown w1 w2 w3 w4 eT A B hty h1 h2 h3 h4 h5 hus hl N (I.2.2 b hb').1 (g := mkF m pc Ls (.int nn :: .int dp :: .ref b :: .int sp :: .ref a :: rest)) rfl (hsz.trans K.2.2.1.symm) rfl (hb K.2.1 hd) hf (W := W) (by show 2 * 0 + _ ≤ _; omega) hlo
  subst hp
  have S1 : ∀ x ∈ [b], x ∈ ws := allS hb' all0
  obtain ⟨u, S2, E⟩ := nx h' K' A' K T' ⟨vm0, k0, L, X', e', hS, Nat.le_trans hk K'.1, hZ, hown, N', I.keep K' S1, C.trans (CHr.keep K' (fun x hx => (I.2.2 x (S1 x hx)).2.2) I.1), r⟩
  exact ⟨u, stp _ S2, E⟩
theorem go_getClass {idx W : Nat} {a mr : Addr} {C0 : String} (hd : decode bytes pc = .ok (.invokevirtual idx, 3)) (w1 : (Cond.methodLink own idx ⟨"java/lang/Object", "getClass", "()Ljava/lang/Class;"⟩).before a0 Z = true) (w2 : (Cond.declares ⟨"java/lang/Object", "getClass", "()Ljava/lang/Class;"⟩).before a0 Z = true) (w3 : (Cond.noSuperclass "java/lang/Object").before a0 Z = true) (w4 : (Cond.selects C0 ⟨"java/lang/Object", "getClass", "()Ljava/lang/Class;"⟩ ⟨"java/lang/Object", "getClass", "()Ljava/lang/Class;"⟩).before a0 Z = true)
    (w5 : (Cond.instanceMethod ⟨"java/lang/Object", "getClass", "()Ljava/lang/Class;"⟩).before a0 Z = true) (w6 : (Cond.native ⟨"java/lang/Object", "getClass", "()Ljava/lang/Class;"⟩).before a0 Z = true) (E0 : Exa Z h a C0) (M : Mir Z C0 mr) (hsz : Ls.size = maxL) (hf : 1 ≤ R.frames) (hW : (rest.map fun v => v.category).sum ≤ W) (hlo : W + (nativeFrameWords "java/lang/Object" "getClass" 1 + 11) ≤ R.locals) (hp : pc + 3 = pc')
    (nx : Go p l e R s m args below meth c Z a0 EL own bytes maxL ret nm ws h cells slots pc' Ls (.ref mr :: rest) Q) : Go p l e R s m args below meth c Z a0 EL own bytes maxL ret nm ws h cells slots pc Ls (.ref a :: rest) Q := fun K T P => by
  obtain ⟨vm0, k0, locs, X, eT, hS, hk, hZ, hown, N, I, C, r⟩ := P
  obtain ⟨T', X', e', stp⟩ := gcls X K.1 hZ hown w1 w2 w3 w4 w5 w6 eT E0 M (g := mkF m pc Ls (.ref a :: rest)) rfl (hsz.trans K.2.2.1.symm) rfl (hb K.2.1 hd) hf (W := W) (by show 2 * 0 + _ ≤ _; omega) hlo
  subst hp
  obtain ⟨u, S2, E⟩ := nx K T' ⟨vm0, k0, locs, X', e', hS, hk, hZ, hown, N, I, C, r⟩
  exact ⟨u, stp _ S2, E⟩
theorem go_ldcClass {idx : Nat} {C0 : String} {mr : Addr} (hd : decode bytes pc = .ok (.ldc idx, 2)) (w : (Cond.classLink own idx C0).before a0 Z = true) (M : Mir Z C0 mr) (hp : pc + 2 = pc')
    (nx : Go p l e R s m args below meth c Z a0 EL own bytes maxL ret nm ws h cells slots pc' Ls (.ref mr :: st) Q) : Go p l e R s m args below meth c Z a0 EL own bytes maxL ret nm ws h cells slots pc Ls st Q := fun K T P => by
  obtain ⟨vm0, k0, locs, X, eT, hS, hk, hZ, hown, N, I, C, r⟩ := P
  obtain ⟨cc, kc, m1, m2, m3, -⟩ := M
  obtain ⟨k', q, ek⟩ := hZ.alike.2.2 _ _ m2
  have hev : (Term.mirror C0).eval args (s.setVm vm0) none [] (s.setVm vm0) = some (.ref mr) := by
    have f1 : vm0.findClass C0 = some cc := by rw [hZ.alike.findClass]; exact m1
    have f2 : vm0.classes[cc]? = some k' := q
    have f0 : (s.setVm vm0).vm = vm0 := rfl
    have f3 : k'.mirror = some mr := by rw [ek]; exact m3
    simp [Term.eval, f0, f1, f2, f3]
  obtain ⟨vm', X', stp⟩ := X.ldcMirror K.1 hown (mvT (s := s.setVm vm0) hZ w) hev (g := mkF m pc Ls st) rfl (hb K.2.1 hd)
  subst hp
  obtain ⟨u, S2, E⟩ := nx K (T.setVm vm') ⟨vm0, k0, locs, X', eT, hS, hk, hZ, hown, N, I, C, r⟩
  exact ⟨u, stp _ S2, E⟩
theorem g_tswIn {dflt low high o : Int} {offs : Array Int} {len : Nat} {i : Int32} (hd : decode bytes pc = .ok (.tableswitch dflt low high offs, len)) (hin : ¬ (i.toInt < low ∨ i.toInt > high)) (hoff : offs[(i.toInt - low).toNat]? = some o) (ho : 0 ≤ (pc : Int) + o) (hp : ((pc : Int) + o).toNat = pc')
    (n : Go p l e R s m args below meth c Z a0 EL own bytes maxL ret nm ws h cells slots pc' Ls rest Q) : Go p l e R s m args below meth c Z a0 EL own bytes maxL ret nm ws h cells slots pc Ls (.int i :: rest) Q :=
  go_step (fun hx q _ A _ k => XS.tswIn A hx rfl rfl (hb q hd) rfl hin hoff ho hp k) n
theorem g_tswOut {dflt low high : Int} {offs : Array Int} {len : Nat} {i : Int32} (hd : decode bytes pc = .ok (.tableswitch dflt low high offs, len)) (hout : i.toInt < low ∨ i.toInt > high) (ho : 0 ≤ (pc : Int) + dflt) (hp : ((pc : Int) + dflt).toNat = pc')
    (n : Go p l e R s m args below meth c Z a0 EL own bytes maxL ret nm ws h cells slots pc' Ls rest Q) : Go p l e R s m args below meth c Z a0 EL own bytes maxL ret nm ws h cells slots pc Ls (.int i :: rest) Q :=
  go_step (fun hx q _ A _ k => XS.tswOut A hx rfl rfl (hb q hd) rfl hout ho hp k) n
theorem g_lswHit {dflt a off : Int} {prs : Array (Int × Int)} {len : Nat} {i : Int32} (hd : decode bytes pc = .ok (.lookupswitch dflt prs, len)) (hsorted : (prs.toList.zip (prs.toList.drop 1)).all (fun (a, next) => a.1 < next.1) = true) (hfind : prs.find? (·.1 == i.toInt) = some (a, off)) (ho : 0 ≤ (pc : Int) + off) (hp : ((pc : Int) + off).toNat = pc')
    (n : Go p l e R s m args below meth c Z a0 EL own bytes maxL ret nm ws h cells slots pc' Ls rest Q) : Go p l e R s m args below meth c Z a0 EL own bytes maxL ret nm ws h cells slots pc Ls (.int i :: rest) Q := fun K T P => by
  obtain ⟨u, S2, E⟩ := n K T P
  obtain ⟨vm0, k0, locs, X, -⟩ := P
  subst hp
  exact ⟨u, X.lookupswitchHit K.1 (g := mkF m pc Ls (.int i :: rest)) rfl rfl (hb K.2.1 hd) hsorted hfind ho _ S2, E⟩
theorem g_lswMiss {dflt : Int} {prs : Array (Int × Int)} {len : Nat} {i : Int32} (hd : decode bytes pc = .ok (.lookupswitch dflt prs, len)) (hsorted : (prs.toList.zip (prs.toList.drop 1)).all (fun (a, next) => a.1 < next.1) = true) (hfind : prs.find? (·.1 == i.toInt) = none) (ho : 0 ≤ (pc : Int) + dflt) (hp : ((pc : Int) + dflt).toNat = pc')
    (n : Go p l e R s m args below meth c Z a0 EL own bytes maxL ret nm ws h cells slots pc' Ls rest Q) : Go p l e R s m args below meth c Z a0 EL own bytes maxL ret nm ws h cells slots pc Ls (.int i :: rest) Q := fun K T P => by
  obtain ⟨u, S2, E⟩ := n K T P
  obtain ⟨vm0, k0, locs, X, -⟩ := P
  subst hp
  exact ⟨u, X.lookupswitchMiss K.1 (g := mkF m pc Ls (.int i :: rest)) rfl rfl (hb K.2.1 hd) hsorted hfind ho _ S2, E⟩
end Rules3
end Jvm.Own
namespace Jvm.Own
open Sem ClassFile Op Lib Bundle Jvm.Stand Jvm.Free Jvm.LawKit Jvm.RoadKit
/-! ## calls to a superclass's method; an array's clone -/
section Rules4
variable {p : Program} {l : Launch} {e : Env} {R : Room} {s : State} {m : MethodId} {args : Array Value} {below : List Frame} {meth : Method} {c : Code} {Z : State} {a0 : Array Value} {EL : List (String × Nat)} {own : String} {bytes : ByteArray} {maxL : Nat} {ret : Option FieldType} {nm : String}
  {ws : List Addr} {h : Heap} {cells slots : Nat} {pc pc' : Nat} {Ls Ls' : Array Slot} {st st' rest : List Value} {Q Q' : Option Value → Heap → List Addr → Prop}
theorem go_super {idx W : Nat} {y : MethodName} {K0 : String} {bY : ByteArray} {mY : Nat} {rY : Option FieldType} {rm : Room} {as' : Array Value} {ws0 : List Addr} {argsL : List Value} {a : Addr} (hd : decode bytes pc = .ok (.invokespecial idx, 3)) (hM : Con l Z EL y bY mY rY [] rm as' h ws0 Q) (hs : ∀ x ∈ ws0, x ∈ ws) (F : Ins Z h a K0 true)
    (w1 : (Cond.methodLink own idx y).before a0 Z = true) (w2 : (Cond.sameMethod y.cls y.cls y.name y.desc).before a0 Z = true) (w6 : (Cond.instanceMethod y).before a0 Z = true) (w7 : (Cond.superclass own y.cls).before a0 Z = true) (w3 : (Cond.initialized y.cls).before a0 Z = true) (w4 : (Cond.code y bY mY rY).before a0 Z = true) (hn : y.name ≠ "<init>")
    (hlen : ∀ sig, parseMethodDescriptor y.desc = some sig → argsL.length = sig.parameters.length) (has : (Value.ref a :: argsL).toArray = as') (hst : st = argsL.reverse ++ .ref a :: rest) (hsz : Ls.size = maxL) (hW : (rest.map fun v => v.category).sum ≤ W) (hf : rm.frames + 1 ≤ R.frames) (hlo : W + (mY + 11) + rm.locals ≤ R.locals) (hc : cells + rm.cells ≤ R.cells) (hl : slots + rm.slots ≤ R.slots) (hp : pc + 3 = pc')
    (nx : ∀ v h' ws', Q v h' ws' → h.size ≤ h'.size → Go p l e R s m args below meth c Z a0 EL own bytes maxL ret nm (ws' ++ ws) h' (cells + rm.cells) (slots + rm.slots) pc' Ls (v.toList ++ rest) Q') :
    Go p l e R s m args below meth c Z a0 EL own bytes maxL ret nm ws h cells slots pc Ls st Q' := fun K T P => by
  obtain ⟨vm0, k0, locs, X, eT, hS, hk, hZ, hown, N, I, C, r⟩ := P
  subst hst hp
  obtain ⟨v, vm₁, B, hW1, X', h2, hgr, hpost, hsteps⟩ := superBackS X K.1 hZ hown w1 w2 w6 w7 hn (backC (W := W) hM hZ w4 w3 hf hlo K.2.2.2.2.2.2 I hs) eT F (g := mkF m pc Ls (argsL.reverse ++ .ref a :: rest)) rfl (hsz.trans K.2.2.1.symm) w4 hlen rfl (by show 2 * 0 + _ ≤ _; omega) (hb K.2.1 hd) (fun _ _ => ⟨has, eT, hc, hl⟩)
  exact go_after K eT hS hk hZ hown N C hc hl X' h2 hgr hpost hsteps (nx v)
theorem go_up {idx W : Nat} {x z : MethodName} {C0 owner : String} {bY : ByteArray} {mY : Nat} {rY : Option FieldType} {rm : Room} {as' : Array Value} {ws0 : List Addr} {argsL : List Value} {a : Addr} (hd : decode bytes pc = .ok (.invokevirtual idx, 3)) (hM : Con l Z EL z bY mY rY [] rm as' h ws0 Q) (hs : ∀ x ∈ ws0, x ∈ ws) (E0 : Exa Z h a C0)
    (w1 : (Cond.methodLink own idx x).before a0 Z = true) (w2 : (Cond.sameMethod x.cls owner x.name x.desc).before a0 Z = true) (w7 : (Cond.declares ⟨owner, x.name, x.desc⟩).before a0 Z = true) (hy : owner ≠ "java/lang/invoke/MethodHandle" ∧ owner ≠ "java/lang/invoke/VarHandle") (w5 : (Cond.selects C0 x z).before a0 Z = true) (w6 : (Cond.instanceMethod z).before a0 Z = true) (w3 : (Cond.initialized z.cls).before a0 Z = true) (w4 : (Cond.code z bY mY rY).before a0 Z = true)
    (hlen : ∀ sig, parseMethodDescriptor x.desc = some sig → argsL.length = sig.parameters.length) (has : (Value.ref a :: argsL).toArray = as') (hst : st = argsL.reverse ++ .ref a :: rest) (hsz : Ls.size = maxL) (hW : (rest.map fun v => v.category).sum ≤ W) (hf : rm.frames + 1 ≤ R.frames) (hlo : W + (mY + 11) + rm.locals ≤ R.locals) (hc : cells + rm.cells ≤ R.cells) (hl : slots + rm.slots ≤ R.slots) (hp : pc + 3 = pc')
    (nx : ∀ v h' ws', Q v h' ws' → h.size ≤ h'.size → Go p l e R s m args below meth c Z a0 EL own bytes maxL ret nm (ws' ++ ws) h' (cells + rm.cells) (slots + rm.slots) pc' Ls (v.toList ++ rest) Q') :
    Go p l e R s m args below meth c Z a0 EL own bytes maxL ret nm ws h cells slots pc Ls st Q' := fun K T P => by
  obtain ⟨vm0, k0, locs, X, eT, hS, hk, hZ, hown, N, I, C, r⟩ := P
  subst hst hp
  obtain ⟨cB, kB, i1, i2, i3⟩ := isOf (s := s.setVm vm0) hZ eT E0
  obtain ⟨v, vm₁, B, hW1, X', h2, hgr, hpost, hsteps⟩ := X.virtualBackUpS K.1 hown (mvT (s := s.setVm vm0) hZ w1) (mvT (s := s.setVm vm0) hZ w2) (mvT (s := s.setVm vm0) hZ w7) hy (mvT (s := s.setVm vm0) hZ w5) (mvT (s := s.setVm vm0) hZ w6) (backC (W := W) hM hZ w4 w3 hf hlo K.2.2.2.2.2.2 I hs) i1 i3 (g := mkF m pc Ls (argsL.reverse ++ .ref a :: rest)) rfl (hsz.trans K.2.2.1.symm) (Steps.refl _) hlen rfl (by show 2 * 0 + _ ≤ _; omega) (hb K.2.1 hd) (fun _ _ => ⟨has, eT, hc, hl⟩)
  exact go_after K eT hS hk hZ hown N C hc hl X' h2 hgr hpost hsteps (nx v)
theorem go_clone {idx W cap : Nat} {ad : String} {a : Addr} {k : ClassId} {ty : FieldType} {z : Int32} {vs : List Value} {dv : Value} (hd : decode bytes pc = .ok (.invokevirtual idx, 3))
    (w1 : (Cond.methodLink own idx ⟨ad, "clone", "()Ljava/lang/Object;"⟩).before a0 Z = true) (w2 : (Cond.sameMethod ad "java/lang/Object" "clone" "()Ljava/lang/Object;").before a0 Z = true) (w3 : (Cond.native ⟨"java/lang/Object", "clone", "()Ljava/lang/Object;"⟩).before a0 Z = true)
    (w4 : (Cond.instanceMethod ⟨"java/lang/Object", "clone", "()Ljava/lang/Object;"⟩).before a0 Z = true) (w5 : (Cond.selects ad ⟨ad, "clone", "()Ljava/lang/Object;"⟩ ⟨"java/lang/Object", "clone", "()Ljava/lang/Object;"⟩).before a0 Z = true) (w6 : (Cond.castable ad "java/lang/Cloneable").before a0 Z = true)
    (F : Arv Z h a k ty z vs dv) (E0 : Exa Z h a ad) (hsz : Ls.size = maxL) (hf : 1 ≤ R.frames) (hW : (rest.map fun v => v.category).sum ≤ W) (hlo : W + 14 ≤ R.locals) (hcap : z.toNatClampNeg ≤ cap) (hc : cells + 1 ≤ R.cells) (hl : slots + cap ≤ R.slots) (hp : pc + 3 = pc')
    (nx : ∀ h' b, b = h.size → Ext h h' → Arv Z h' b k ty z vs dv → Exa Z h' b ad → Go p l e R s m args below meth c Z a0 EL own bytes maxL ret nm (b :: ws) h' (cells + 1) (slots + cap) pc' Ls (.ref b :: rest) Q) : Go p l e R s m args below meth c Z a0 EL own bytes maxL ret nm ws h cells slots pc Ls (.ref a :: rest) Q := fun K T P => by
  obtain ⟨vm0, k0, locs, X, eT, hS, hk, hZ, hown, N, I, C, r⟩ := P
  obtain ⟨T', h', X', e', E', A', D, stp⟩ := cloneH X K.1 hZ hown w1 w2 w3 w4 w5 w6 eT F.arh E0 (g := mkF m pc Ls (.ref a :: rest)) rfl (hsz.trans K.2.2.1.symm) rfl (hb K.2.1 hd) hf (W := W) (by show 2 * 0 + _ ≤ _; omega) hlo hcap hc hl
  subst hp
  obtain ⟨u, S2, E⟩ := nx h' h.size rfl E' A' D K T' ⟨vm0, k0, locs, X', e', hS, Nat.le_trans hk E'.1, hZ, hown, N, I.new E' rfl D.lt, C.trans (CHr.ext E' I.1), hc, hl⟩
  exact ⟨u, stp _ S2, E⟩
theorem go_ldc2 {idx : Nat} {z : Int64} (hd : decode bytes pc = .ok (.ldc2_w idx, 3)) (w : (Cond.constantLong own idx z).before a0 Z = true) (hp : pc + 3 = pc')
    (nx : Go p l e R s m args below meth c Z a0 EL own bytes maxL ret nm ws h cells slots pc' Ls (.long z :: st) Q) : Go p l e R s m args below meth c Z a0 EL own bytes maxL ret nm ws h cells slots pc Ls st Q := fun K T P => by
  obtain ⟨u, S2, E⟩ := nx K T P
  obtain ⟨vm0, k0, locs, X, eT, hS, hk, hZ, hown, N, I, C, r⟩ := P
  subst hp
  exact ⟨u, X.ldc2Long K.1 hown (mv (s := s.setVm vm0) hZ w) (g := mkF m pc Ls st) rfl (hb K.2.1 hd) _ S2, E⟩
theorem go_instNull {idx : Nat} (hd : decode bytes pc = .ok (.instanceof idx, 3)) (hp : pc + 3 = pc')
    (nx : Go p l e R s m args below meth c Z a0 EL own bytes maxL ret nm ws h cells slots pc' Ls (.int 0 :: rest) Q) : Go p l e R s m args below meth c Z a0 EL own bytes maxL ret nm ws h cells slots pc Ls (.null :: rest) Q := fun K T P => by
  obtain ⟨u, S2, E⟩ := nx K T P
  obtain ⟨vm0, k0, locs, X, eT, hS, hk, hZ, hown, N, I, C, r⟩ := P
  subst hp
  exact ⟨u, X.instanceofNull K.1 (g := mkF m pc Ls (.null :: rest)) rfl rfl (hb K.2.1 hd) _ S2, E⟩
theorem go_castNull {idx : Nat} (hd : decode bytes pc = .ok (.checkcast idx, 3)) (hp : pc + 3 = pc')
    (nx : Go p l e R s m args below meth c Z a0 EL own bytes maxL ret nm ws h cells slots pc' Ls (.null :: rest) Q) : Go p l e R s m args below meth c Z a0 EL own bytes maxL ret nm ws h cells slots pc Ls (.null :: rest) Q := fun K T P => by
  obtain ⟨u, S2, E⟩ := nx K T P
  obtain ⟨vm0, k0, locs, X, eT, hS, hk, hZ, hown, N, I, C, r⟩ := P
  subst hp
  exact ⟨u, X.checkcastNull K.1 (g := mkF m pc Ls (.null :: rest)) rfl rfl (hb K.2.1 hd) _ S2, E⟩
theorem same_self {y z z' : MethodName} {C1 : String} (wi : (Cond.instanceMethod y).before a0 Z = true) (w : (Cond.selects C1 z z').before a0 Z = true) (hc : z'.cls = y.cls) (hy : y.cls ≠ "java/lang/invoke/MethodHandle" ∧ y.cls ≠ "java/lang/invoke/VarHandle") : (Cond.sameMethod y.cls y.cls y.name y.desc).before a0 Z = true := by
  obtain ⟨mk, mth, n1, n2, n3, n4⟩ := Cond.instanceMethod_spec wi
  obtain ⟨c2, r2, m2, -, -, q3, -, kP, k1, k2⟩ := Cond.selects_spec w
  have f1 := findClass_of_methodNamed n1
  have f2 := findClass_of_methodNamed q3
  rw [hc] at f2
  have e : m2.cls = mk.cls := Option.some.inj (f2.symm.trans f1)
  have g := State.methodFound?_of_named n1 hy
  have n1' : Z.methodNamed? ⟨y.cls, y.name, y.desc⟩ = some mk := n1
  have k1' : Z.vm.classes[mk.cls]? = some kP := by rw [← e]; exact k1
  simp [Cond.before, Cond.holds, Cond.value, f1, g, n1', k1', k2]
theorem nf_other {y z z' : MethodName} {C1 : String} (w : (Cond.selects C1 z z').before a0 Z = true) (hc : z'.cls = y.cls) : ∀ s' : State, Z.Warmed39 s'.vm → NotFace s' y := fun s' hZ r0 h0 => by
  obtain ⟨c2, r2, m2, -, -, q3, -, kP, k1, k2⟩ := Cond.selects_spec (args := #[]) (mvT (s := s') hZ w)
  have f1 := findClass_of_methodNamed h0
  have f2 := findClass_of_methodNamed q3
  rw [hc] at f2
  have e : m2.cls = r0.cls := Option.some.inj (f2.symm.trans f1)
  exact ⟨kP, by rw [← e]; exact k1, k2⟩
/-- what a private method's own class selects, out of what another class selects -/
theorem self_sel {y : MethodName} {C1 : String} (w6 : (Cond.instanceMethod y).before a0 Z = true) (w7 : (Cond.privateMethod y).before a0 Z = true) (w5 : (Cond.selects C1 y y).before a0 Z = true) (hy : y.cls ≠ "java/lang/invoke/MethodHandle" ∧ y.cls ≠ "java/lang/invoke/VarHandle") : (Cond.selects y.cls y y).before a0 Z = true := by
  obtain ⟨mk, mth, n1, n2, -, -⟩ := Cond.instanceMethod_spec w6
  obtain ⟨c2, r2, m2, -, -, q3, -, kP, k1, k2⟩ := Cond.selects_spec w5
  have em : mk = m2 := Option.some.inj (n1.symm.trans q3)
  subst em
  have f1 := findClass_of_methodNamed n1
  have g := State.methodFound?_of_named n1 hy
  have sel : selectMethod {} Z.vm mk.cls mk = .method mk := selectMethod_private n2 (Cond.privateMethod_at w7 mk mth n1 n2)
  simp [Cond.before, Cond.holds, Cond.value, f1, g, n1, sel, k1, k2]
end Rules4
end Jvm.Own
namespace Jvm.Own
open Sem ClassFile Op Lib Bundle Jvm.Stand Jvm.Free Jvm.LawKit Jvm.RoadKit
/-! ## what the sheet says of the start: arrays and Strings -/
theorem eq_ref {args : Array Value} {s : State} {a b : Term} {x : Addr} (hb : b.eval args s none [] s = some (.ref x)) (h : (Cond.eq a b).value args s none s [] = some true) : a.eval args s none [] s = some (.ref x) := by
  cases ha : a.eval args s none [] s with
  | none => simp [Cond.value, ha, hb] at h
  | some v => cases v <;> simp_all [Cond.value]
theorem el_int {args : Array Value} {s : State} {t : Term} {k : Int32} (h : (Cond.eq t (Term.int k)).value args s none s [] = some true) : t.eval args s none [] s = some (.int k) := Cond.eq_int (Cond.before_iff.mpr h) rfl
def Els (t : Term) (args : Array Value) (s : State) : Nat → List Value → Prop
  | _, [] => True
  | i, v :: r => (Term.elem t (Term.int (Int32.ofNat i))).eval args s none [] s = some v ∧ Els t args s (i + 1) r
theorem Els.at {t : Term} {args : Array Value} {s : State} {dv : Value} : ∀ (vs : List Value) (i : Nat), Els t args s i vs → ∀ j, j < vs.length → (Term.elem t (Term.int (Int32.ofNat (i + j)))).eval args s none [] s = some (vs.getD j dv)
  | [], _, _, _, q => nomatch q
  | _ :: _, _, H, 0, _ => H.1
  | _ :: r, i, H, j + 1, q => by
    have := Els.at (dv := dv) r (i + 1) H.2 j (Nat.lt_of_succ_lt_succ q)
    rw [Nat.add_right_comm] at this; exact this
theorem arv_start {args : Array Value} {s : State} {t : Term} {ty : FieldType} {x : Addr} {n : Int32} {vs : List Value} {dv : Value} (ht : t.eval args s none [] s = some (.ref x)) (ha : (Cond.arrayOf t ty).value args s none s [] = some true) (hl : (Cond.eq (Term.length t) (Term.int n)).value args s none s [] = some true)
    (hz : ¬ n < 0) (hn : n.toNatClampNeg = vs.length) (hN : vs.length ≤ 4000) (H : Els t args s 0 vs) (hf : ∀ v ∈ vs, fits ty v = true) : ∃ k, Arv s s.heap x k ty n vs dv := by
  obtain ⟨c, A⟩ := Arr.start ht ha
  have e := el_int hl
  have hA := Arr.fin (State.Warmed39.refl s).alike A
  have q : c.slots.size < 2 ^ 31 := by
    by_cases q : c.slots.size < 2 ^ 31
    · exact q
    · simp [Term.eval, ht, hA, q] at e
  have e2 := len_f ht hA q
  have e3 : c.slots.size.toInt32 = n := by rw [e2] at e; exact Value.int.inj (Option.some.inj e)
  have S : c.slots.size = n.toNatClampNeg := by rw [← e3]; simp only [Int32.toNatClampNeg, len_toInt q]; rfl
  have L : ∀ j, j < c.slots.size → j < vs.length := fun j hj => by rw [← hn, ← S]; exact hj
  have Hs : Has c vs dv := fun j hj => by
    have r := Els.at (dv := dv) vs 0 H j (L j hj)
    rw [Nat.zero_add] at r
    have z := (elem_in r ht rfl A.1).2
    rw [o_cl (by have := L j hj; omega)] at z; exact z
  refine ⟨c.cls, c, A, rfl, S, hz, Hs, fun i hi => ?_⟩
  have hi' := L i hi
  rw [List.getD, List.getElem?_eq_getElem hi', Option.getD_some]; exact hf _ (List.getElem_mem hi')
theorem lat_start {args : Array Value} {s : State} {t : Term} {a : Addr} {n : Int32} {cs : List Int32} {vs : List Value} (ht : t.eval args s none [] s = some (.ref a)) (X : (Cond.exactly t "java/lang/String").value args s none s [] = some true) (hc : (Cond.eq (Term.field t "java/lang/String" "coder" "B") (Term.int 0)).value args s none s [] = some true)
    (hA : (Cond.arrayOf (Term.field t "java/lang/String" "value" "[B") .byte).value args s none s [] = some true) (hL : (Cond.eq (Term.length (Term.field t "java/lang/String" "value" "[B")) (Term.int n)).value args s none s [] = some true)
    (hv : vs = cs.map by8) (H : Els (Term.field t "java/lang/String" "value" "[B") args s 0 vs) (hcs : n = Int32.ofNat cs.length) (hN : cs.length ≤ 4000) : ∃ b, LatB s s.heap a b cs := by
  obtain ⟨b, hb⟩ := arr_v hA
  have hb' := (fld_at ht).symm.trans hb
  obtain ⟨k, A⟩ := arv_start (dv := .int 0) hb hA hL (by rw [hcs]; exact o_nn (by omega)) (by rw [hcs, o_cl (by omega), hv, List.length_map]) (by rw [hv, List.length_map]; exact hN) H (fun v q => by rw [hv] at q; obtain ⟨c, -, rfl⟩ := List.mem_map.mp q; exact fits_by8 c)
  exact ⟨b, LatB.mk (Exa.start ht X) (Fld.start (fld_eq ht hc)) (Fld.start hb') A hcs hv⟩
theorem LatB.same {Z : State} {h : Heap} {a b b' : Addr} {cs ds : List Int32} (F : LatB Z h a b cs) (G : LatB Z h a b' ds) (hB : Byt cs) (hD : Byt ds) (hN : cs.length ≤ 4000) (hM : ds.length ≤ 4000) : cs = ds := by
  obtain ⟨-, -, F3, k1, A1⟩ := F
  obtain ⟨-, -, G3, k2, A2⟩ := G
  have e : (Value.ref b) = .ref b' := Decidable.byContradiction fun q => Fld.ne F3 G3 q rfl
  have e' : b = b' := Value.ref.inj e
  subst e'
  obtain ⟨c1, a1, -, s1, -, H1, -⟩ := A1
  obtain ⟨c2, a2, -, s2, -, H2, -⟩ := A2
  cases a1.1.symm.trans a2.1
  rw [o_cl (by omega)] at s1 s2
  refine list_ext_getD (s1.symm.trans s2) fun i hi => ?_
  have q := (H1 i (by omega)).symm.trans (H2 i (by omega))
  rw [map8_getD, map8_getD] at q
  exact by8_inj (hB.at i).1 (hB.at i).2 (hD.at i).1 (hD.at i).2 (Value.int.inj (Option.some.inj q))
theorem Byt.set {cs : List Int32} {c : Int32} (B : Byt cs) (q : ¬ c < 0 ∧ ¬ (255 : Int32) < c) (j : Nat) : Byt (cs.set j c) := fun y hy => by
  rcases List.mem_or_eq_of_mem_set hy with r | r
  · exact B y r
  · rw [r]; exact q
theorem Byt.rep (n : Nat) : Byt (List.replicate n (0 : Int32)) := fun y hy => by
  rw [(List.mem_replicate.mp hy).2]; exact ⟨by decide, by decide⟩
theorem bytL (x : Int64) : ¬ (x &&& (255 : Int64)).toInt32.toUInt32.toUInt16.toUInt32.toInt32 < 0 ∧ ¬ (255 : Int32) < (x &&& (255 : Int64)).toInt32.toUInt32.toUInt16.toUInt32.toInt32 := by
  have a := c_maskL x 255 8 (by decide) (by decide)
  have b := c_l2i (x &&& 255)
  have c := c_i2c (x &&& (255 : Int64)).toInt32
  have r := rng32 (x &&& (255 : Int64)).toInt32
  have e8 : ((2 : Nat) ^ 8 : Nat) = 256 := rfl
  rw [e8] at a
  simp only [Int32.lt_iff_toInt_lt, Int32.reduceToInt]; omega
/-- a number below n -/
theorem rem_nat (x : Int32) (m : Int32) {n : Nat} (hm : m.toInt = (n : Int)) (h0 : 0 < n) (h1 : n < 2147483648) : ∃ j, j < n ∧ (x &&& (2147483647 : Int32)) % m = Int32.ofNat j := by
  have h := c_and x 2147483647 (by decide)
  have q := (c_iremV (x &&& 2147483647) m).1 h.1 (by omega)
  refine ⟨((x &&& (2147483647 : Int32)) % m).toInt.toNat, ?_, ?_⟩
  · omega
  · apply Int32.toInt_inj.mp; rw [o_int (by omega)]; omega
end Jvm.Own
namespace Jvm.Own
open Sem ClassFile Op Lib Bundle Jvm.Stand Jvm.Free Jvm.LawKit Jvm.RoadKit
/-! ## StringBuilders of one byte a char -/
theorem shl0 (x : Int32) : x <<< ((0 : Int32) &&& 31) = x := by
  apply Int32.toInt_inj.mp
  have q := c_ishl x 0 0 (by decide)
  have r := rng32 (x <<< ((0 : Int32) &&& 31))
  have r2 := rng32 x
  have e0 : ((2 : Nat) ^ 0 : Nat) = 1 := rfl
  rw [e0] at q; omega
theorem o_add {i n : Nat} (h : i + n < 2147483648) : Int32.ofNat i + Int32.ofNat n = Int32.ofNat (i + n) := by
  apply Int32.toInt_inj.mp
  have q := c_iadd (Int32.ofNat i) (Int32.ofNat n)
  have r := rng32 (Int32.ofNat i + Int32.ofNat n)
  rw [o_int (by omega), o_int (by omega)] at q
  rw [o_int (by omega)]; omega
theorem o_sub {i n : Nat} (h : n ≤ i) (hi : i < 2147483648) : Int32.ofNat i - Int32.ofNat n = Int32.ofNat (i - n) := by
  apply Int32.toInt_inj.mp
  have q := c_isub (Int32.ofNat i) (Int32.ofNat n)
  have r := rng32 (Int32.ofNat i - Int32.ofNat n)
  rw [o_int (by omega), o_int (by omega)] at q
  rw [o_int (by omega)]; omega
theorem o_max {i n : Nat} (hi : i < 2147483648) (hn : n < 2147483648) : (if Int32.ofNat i < Int32.ofNat n then Int32.ofNat n else Int32.ofNat i) = Int32.ofNat (max i n) := by
  by_cases q : i < n
  · rw [if_pos ((o_lt hi hn).mpr q), Nat.max_eq_right (Nat.le_of_lt q)]
  · rw [if_neg (fun z => q ((o_lt hi hn).mp z)), Nat.max_eq_left (by omega)]
theorem o_min {i n : Nat} (hi : i < 2147483648) (hn : n < 2147483648) : (if Int32.ofNat n < Int32.ofNat i then Int32.ofNat n else Int32.ofNat i) = Int32.ofNat (min i n) := by
  by_cases q : n < i
  · rw [if_pos ((o_lt hn hi).mpr q), Nat.min_eq_right (Nat.le_of_lt q)]
  · rw [if_neg (fun z => q ((o_lt hn hi).mp z)), Nat.min_eq_left (by omega)]
/-- what a copy leaves behind -/
theorem cp_len {vd us : List Value} {d n d' n' : Nat} (e1 : d' = d) (e2 : n' = n) (hu : us.length = n) (h : d + n ≤ vd.length) : (vd.take d' ++ us ++ vd.drop (d' + n')).length = vd.length := by
  subst e1 e2; simp only [List.length_append, List.length_take, List.length_drop]; omega
theorem cp_lo {vd us : List Value} {d n d' n' i : Nat} {dv : Value} (e1 : d' = d) (e2 : n' = n) (hd : d ≤ vd.length) (hi : i < d) : (vd.take d' ++ us ++ vd.drop (d' + n')).getD i dv = vd.getD i dv := by
  subst e1 e2
  simp only [List.getD]
  rw [List.append_assoc, List.getElem?_append_left (by rw [List.length_take]; omega), List.getElem?_take_of_lt hi]
theorem cp_mid {vd us : List Value} {d n d' n' i : Nat} {dv : Value} (e1 : d' = d) (e2 : n' = n) (hd : d ≤ vd.length) (hu : us.length = n) (h1 : d ≤ i) (h2 : i < d + n) : (vd.take d' ++ us ++ vd.drop (d' + n')).getD i dv = us.getD (i - d) dv := by
  subst e1 e2
  simp only [List.getD]
  rw [List.getElem?_append_left (by rw [List.length_append, List.length_take]; omega), List.getElem?_append_right (by rw [List.length_take]; omega), List.length_take, Nat.min_eq_left hd]
theorem rng_len {n n' : Nat} (e : n' = n) (f : Nat → Value) : ((List.range n').map f).length = n := by subst e; simp
theorem rng_at {n n' i : Nat} {dv : Value} (e : n' = n) (f : Nat → Value) (hi : i < n) : ((List.range n').map f).getD i dv = f i := by
  subst e; simp only [List.getD, List.getElem?_map, List.getElem?_range hi, Option.map_some, Option.getD_some]
theorem getD_app_lo {cs ds : List Int32} {i : Nat} (h : i < cs.length) : (cs ++ ds).getD i 0 = cs.getD i 0 := by
  simp only [List.getD, List.getElem?_append_left h]
theorem getD_app_hi {cs ds : List Int32} {i : Nat} (h : cs.length ≤ i) : (cs ++ ds).getD i 0 = ds.getD (i - cs.length) 0 := by
  simp only [List.getD, List.getElem?_append_right h]
theorem Byt.app {cs ds : List Int32} (a : Byt cs) (b : Byt ds) : Byt (cs ++ ds) := fun c q => (List.mem_append.mp q).elim (a c) (b c)
/-- the object o is a StringBuilder, one byte a char, that has cs so far, in the array b of cap bytes -/
def SbB (Z : State) (h : Heap) (o b : Addr) (cs : List Int32) (cap : Nat) : Prop :=
  Exa Z h o "java/lang/StringBuilder" ∧ Fld Z h o "java/lang/AbstractStringBuilder" "coder" "B" (.int 0) ∧ Fld Z h o "java/lang/AbstractStringBuilder" "count" "I" (.int (Int32.ofNat cs.length)) ∧ Fld Z h o "java/lang/AbstractStringBuilder" "value" "[B" (.ref b) ∧ cs.length ≤ cap ∧
    ∃ k vs, vs.length = cap ∧ (∀ i, i < cs.length → vs.getD i (.int 0) = by8 (cs.getD i 0)) ∧ Arv Z h b k .byte (Int32.ofNat cap) vs (.int 0) ∧ Exa Z h b "[B"
section SbFacts
variable {Z : State} {h h' : Heap} {o b x : Addr} {cs : List Int32} {cap : Nat} {ws : List Addr} {sl : Nat} {v : Value}
theorem SbB.ext (F : SbB Z h o b cs cap) (E : Ext h h') : SbB Z h' o b cs cap := by
  obtain ⟨f1, f2, f3, f4, f5, k, vs, g1, g2, A, X⟩ := F
  exact ⟨f1.ext E, f2.ext E, f3.ext E, f4.ext E, f5, k, vs, g1, g2, A.ext E, X.ext E⟩
theorem SbB.keep (F : SbB Z h o b cs cap) (K : Keep h h' ws) (q : o ∉ ws) (r : b ∉ ws) : SbB Z h' o b cs cap := by
  obtain ⟨f1, f2, f3, f4, f5, k, vs, g1, g2, A, X⟩ := F
  exact ⟨f1.keep K, f2.keep K q, f3.keep K q, f4.keep K q, f5, k, vs, g1, g2, A.keep K r, X.keep K⟩
theorem SbB.other (F : SbB Z h o b cs cap) (W : Wr h h' x sl v) (q : o ≠ x) (r : b ≠ x) : SbB Z h' o b cs cap := by
  obtain ⟨f1, f2, f3, f4, f5, k, vs, g1, g2, A, X⟩ := F
  exact ⟨Exa.wr W f1, Fld.other W f2 (Or.inl q), Fld.other W f3 (Or.inl q), Fld.other W f4 (Or.inl q), f5, k, vs, g1, g2, A.other W r, Exa.wr W X⟩
theorem SbB.lt (F : SbB Z h o b cs cap) : o < h.size := F.1.lt
theorem SbB.blt (F : SbB Z h o b cs cap) : b < h.size := by obtain ⟨-, -, -, -, -, k, vs, -, -, A, -⟩ := F; exact A.lt
theorem SbB.ne {a0 : Array Value} {n : Nat} (F : SbB Z h o b cs cap) (w : (Cond.instantiable "java/lang/StringBuilder" n).before a0 Z = true) : o ≠ b := by
  obtain ⟨f1, f2, f3, f4, f5, k, vs, g1, g2, A, X⟩ := F
  exact Exa.neArv f1 A w
end SbFacts
theorem LatB.bne {Z : State} {h : Heap} {a b o : Addr} {cs : List Int32} {C : String} {a0 : Array Value} {n : Nat} (T : LatB Z h a b cs) (E : Exa Z h o C) (w : (Cond.instantiable C n).before a0 Z = true) : b ≠ o := by
  obtain ⟨k, A⟩ := T.2.2.2
  exact Ne.symm (Exa.neArv E A w)
theorem ne_or {x b b' : Addr} {h : Heap} (hx : x ≠ b) (hl : x < h.size) (hb : b' = b ∨ h.size ≤ b') : x ≠ b' := by
  rcases hb with q | q
  · rw [q]; exact hx
  · exact Nat.ne_of_lt (Nat.lt_of_lt_of_le hl q)
theorem sub_le {i n : Nat} (h : i ≤ n) (hn : n < 2147483648) : ¬ (0 : Int32) < Int32.ofNat i - Int32.ofNat n := by
  have q := c_isub (Int32.ofNat i) (Int32.ofNat n)
  have r := rng32 (Int32.ofNat i - Int32.ofNat n)
  rw [o_int (by omega), o_int (by omega)] at q
  rw [Int32.lt_iff_toInt_lt]; show ¬ (0 : Int) < _; omega
theorem sub_gt {i n : Nat} (h : n < i) (hi : i < 2147483648) : (0 : Int32) < Int32.ofNat i - Int32.ofNat n := by
  rw [o_sub (by omega) hi]; exact (o_lt (i := 0) (by omega) (by omega)).mpr (by omega)
theorem app1 {cs : List Int32} {vs : List Value} {x : Int32} (hl : cs.length < vs.length) (hby : ∀ i, i < cs.length → vs.getD i (.int 0) = by8 (cs.getD i 0)) : ∀ i, i < (cs ++ [x]).length → (vs.set cs.length (by8 x)).getD i (.int 0) = by8 ((cs ++ [x]).getD i 0) := fun i hi => by
  rw [List.length_append, List.length_singleton] at hi
  rcases Nat.lt_succ_iff_lt_or_eq.mp hi with q | q
  · rw [getD_set_ne (by omega), getD_app_lo q]; exact hby i q
  · rw [q, getD_set_eq hl, getD_app_hi (Nat.le_refl _), Nat.sub_self]; rfl
theorem appN {cs ts : List Int32} {vs us : List Value} (hby : ∀ i, i < cs.length → vs.getD i (.int 0) = by8 (cs.getD i 0)) (h1 : ∀ i, i < cs.length → us.getD i (.int 0) = vs.getD i (.int 0)) (h2 : ∀ i, i < ts.length → us.getD (cs.length + i) (.int 0) = by8 (ts.getD i 0)) : ∀ i, i < (cs ++ ts).length → us.getD i (.int 0) = by8 ((cs ++ ts).getD i 0) := fun i hi => by
  rw [List.length_append] at hi
  by_cases q : i < cs.length
  · rw [h1 i q, hby i q, getD_app_lo q]
  · rw [getD_app_hi (by omega)]
    have := h2 (i - cs.length) (by omega)
    rw [show cs.length + (i - cs.length) = i by omega] at this; exact this
end Jvm.Own
namespace Jvm.Own
open Sem ClassFile Op Lib Bundle Jvm.Stand Jvm.Free Jvm.LawKit Jvm.RoadKit
/-! ## lists: what an array of references may hold; an object that is of no such class -/
theorem sto_arv {Z : State} {h : Heap} {a y : Addr} {k : ClassId} {ty : FieldType} {z : Int32} {vs : List Value} {dv : Value} {C : String} (F : Arv Z h a k ty z vs dv) (O : Ovr Z k C) (I : Ins Z h y C true) : Sto Z h a (.ref y) := by
  obtain ⟨c, A, q, -⟩ := F
  exact Sto.ofV A q O I
theorem allC {P : Cond → Prop} {x : Cond} {L : List Cond} (q : P x) (r : ∀ y ∈ L, P y) : ∀ y ∈ x :: L, P y := fun y z => (List.mem_cons.mp z).elim (fun u => u ▸ q) (r y)
theorem allCN {P : Cond → Prop} : ∀ y ∈ ([] : List Cond), P y := fun _ q => nomatch q
theorem not_of {Z : State} {a0 : Array Value} {X Y : String} {t : List String} {n : Nat} (hw : ∀ w ∈ Cond.chainWords (X :: t), w.before a0 Z = true) (wi : (Cond.instantiable Y n).before a0 Z = true) (hn : Y ∉ X :: t) : ∃ c t, Z.vm.findClass X = some c ∧ Z.vm.findClass Y = some t ∧ Z.vm.assignable c t = false := by
  obtain ⟨cx, kx, hx, -, -, -⟩ := Cond.chain_head hw
  obtain ⟨cy, ky, hy, k1, k2, k3, -, -⟩ := Cond.instantiable_spec wi
  have k4 : ky.isInterface = false := by
    cases q : ky.isInterface with
    | false => rfl
    | true => rw [q] at k3; cases k3
  exact ⟨cx, cy, hx, hy, Vm.notAssignable_of_chain hx hy k1 k2 k4 hw hn⟩
end Jvm.Own
namespace Jvm.Pilot.@@N@@
open Jvm Jvm.ClassFile Sem Op Lib Jvm.Free Jvm.Stand Jvm.LawKit Jvm.RoadKit Bundle Jvm.Own Jvm.Pilot.@@N@@.Jvm.D
theorem w0 {Z : State} {a0 : Array Value} (hw : ∀ d ∈ tables_1, d.before a0 Z = true) : ((Jvm.Cond.constant "com/example/keyhold/keyhold/model/KeyRingInUsePinLaw" (7 : Nat) (2147483647 : Int32))).before a0 Z = true := hw _ (List.mem_of_getElem? (i := 0) rfl)
theorem w1 {Z : State} {a0 : Array Value} (hw : ∀ d ∈ tables_1, d.before a0 Z = true) : ((Jvm.Cond.classLink "com/example/keyhold/keyhold/model/KeyRingInUsePinLaw" (8 : Nat) "com/example/keyhold/keyhold/model/SigningKey")).before a0 Z = true := hw _ (List.mem_of_getElem? (i := 1) rfl)
theorem w2 {Z : State} {a0 : Array Value} (hw : ∀ d ∈ tables_1, d.before a0 Z = true) : ((Jvm.Cond.instantiable "com/example/keyhold/keyhold/model/SigningKey" (3 : Nat))).before a0 Z = true := hw _ (List.mem_of_getElem? (i := 2) rfl)
theorem w3 {Z : State} {a0 : Array Value} (hw : ∀ d ∈ tables_1, d.before a0 Z = true) : ((Jvm.Cond.initialized "com/example/keyhold/keyhold/model/SigningKey")).before a0 Z = true := hw _ (List.mem_of_getElem? (i := 3) rfl)
theorem w4 {Z : State} {a0 : Array Value} (hw : ∀ d ∈ tables_1, d.before a0 Z = true) : ((Jvm.Cond.classLink "com/example/keyhold/keyhold/model/KeyRingInUsePinLaw" (10 : Nat) "java/lang/String")).before a0 Z = true := hw _ (List.mem_of_getElem? (i := 4) rfl)
theorem w5 {Z : State} {a0 : Array Value} (hw : ∀ d ∈ tables_1, d.before a0 Z = true) : ((Jvm.Cond.instantiable "java/lang/String" (4 : Nat))).before a0 Z = true := hw _ (List.mem_of_getElem? (i := 5) rfl)
theorem w6 {Z : State} {a0 : Array Value} (hw : ∀ d ∈ tables_1, d.before a0 Z = true) : ((Jvm.Cond.initialized "java/lang/String")).before a0 Z = true := hw _ (List.mem_of_getElem? (i := 6) rfl)
theorem w7 {Z : State} {a0 : Array Value} (hw : ∀ d ∈ tables_1, d.before a0 Z = true) : ((Jvm.Cond.arrayClass Jvm.ClassFile.FieldType.char)).before a0 Z = true := hw _ (List.mem_of_getElem? (i := 7) rfl)
theorem w8 {Z : State} {a0 : Array Value} (hw : ∀ d ∈ tables_1, d.before a0 Z = true) : ((Jvm.Cond.methodLink "com/example/keyhold/keyhold/model/KeyRingInUsePinLaw" (12 : Nat) ({ cls := "java/lang/String", name := "<init>", desc := "([C)V" } : Jvm.MethodName))).before a0 Z = true := hw _ (List.mem_of_getElem? (i := 8) rfl)
theorem w9 {Z : State} {a0 : Array Value} (hw : ∀ d ∈ tables_1, d.before a0 Z = true) : ((Jvm.Cond.instanceMethod ({ cls := "java/lang/String", name := "<init>", desc := "([C)V" } : Jvm.MethodName))).before a0 Z = true := hw _ (List.mem_of_getElem? (i := 9) rfl)
theorem w10 {Z : State} {a0 : Array Value} (hw : ∀ d ∈ tables_1, d.before a0 Z = true) : ((Jvm.Cond.code ({ cls := "java/lang/String", name := "<init>", desc := "([C)V" } : Jvm.MethodName) jdk_42_method_3_code (2 : Nat) (Option.none : Option Jvm.ClassFile.FieldType))).before a0 Z = true := hw _ (List.mem_of_getElem? (i := 10) rfl)
theorem w11 {Z : State} {a0 : Array Value} (hw : ∀ d ∈ tables_1, d.before a0 Z = true) : ((Jvm.Cond.methodLink "java/lang/String" (27 : Nat) ({ cls := "java/lang/String", name := "<init>", desc := "([CIILjava/lang/Void;)V" } : Jvm.MethodName))).before a0 Z = true := hw _ (List.mem_of_getElem? (i := 11) rfl)
theorem w12 {Z : State} {a0 : Array Value} (hw : ∀ d ∈ tables_1, d.before a0 Z = true) : ((Jvm.Cond.instanceMethod ({ cls := "java/lang/String", name := "<init>", desc := "([CIILjava/lang/Void;)V" } : Jvm.MethodName))).before a0 Z = true := hw _ (List.mem_of_getElem? (i := 12) rfl)
theorem w14 {Z : State} {a0 : Array Value} (hw : ∀ d ∈ tables_1, d.before a0 Z = true) : ((Jvm.Cond.code ({ cls := "java/lang/String", name := "<init>", desc := "([CIILjava/lang/Void;)V" } : Jvm.MethodName) jdk_42_method_149_code (6 : Nat) (Option.none : Option Jvm.ClassFile.FieldType))).before a0 Z = true := hw _ (List.mem_of_getElem? (i := 14) rfl)
theorem w15 {Z : State} {a0 : Array Value} (hw : ∀ d ∈ tables_1, d.before a0 Z = true) : ((Jvm.Cond.methodLink "java/lang/String" (1 : Nat) ({ cls := "java/lang/Object", name := "<init>", desc := "()V" } : Jvm.MethodName))).before a0 Z = true := hw _ (List.mem_of_getElem? (i := 15) rfl)
theorem w16 {Z : State} {a0 : Array Value} (hw : ∀ d ∈ tables_1, d.before a0 Z = true) : ((Jvm.Cond.instanceMethod ({ cls := "java/lang/Object", name := "<init>", desc := "()V" } : Jvm.MethodName))).before a0 Z = true := hw _ (List.mem_of_getElem? (i := 16) rfl)
theorem w17 {Z : State} {a0 : Array Value} (hw : ∀ d ∈ tables_1, d.before a0 Z = true) : ((Jvm.Cond.code ({ cls := "java/lang/Object", name := "<init>", desc := "()V" } : Jvm.MethodName) object_method_1_code (1 : Nat) (Option.none : Option Jvm.ClassFile.FieldType))).before a0 Z = true := hw _ (List.mem_of_getElem? (i := 17) rfl)
theorem w18 {Z : State} {a0 : Array Value} (hw : ∀ d ∈ tables_1, d.before a0 Z = true) : ((Jvm.Cond.fieldLink "java/lang/String" (38 : Nat) "java/lang/String" "COMPACT_STRINGS" "Z")).before a0 Z = true := hw _ (List.mem_of_getElem? (i := 18) rfl)
theorem w19 {Z : State} {a0 : Array Value} (hw : ∀ d ∈ tables_1, d.before a0 Z = true) : ((Jvm.Cond.methodLink "java/lang/String" (177 : Nat) ({ cls := "java/lang/StringUTF16", name := "compress", desc := "([CII)[B" } : Jvm.MethodName))).before a0 Z = true := hw _ (List.mem_of_getElem? (i := 19) rfl)
theorem w20 {Z : State} {a0 : Array Value} (hw : ∀ d ∈ tables_1, d.before a0 Z = true) : ((Jvm.Cond.static ({ cls := "java/lang/StringUTF16", name := "compress", desc := "([CII)[B" } : Jvm.MethodName))).before a0 Z = true := hw _ (List.mem_of_getElem? (i := 20) rfl)
theorem w21 {Z : State} {a0 : Array Value} (hw : ∀ d ∈ tables_1, d.before a0 Z = true) : ((Jvm.Cond.initialized "java/lang/StringUTF16")).before a0 Z = true := hw _ (List.mem_of_getElem? (i := 21) rfl)
theorem w22 {Z : State} {a0 : Array Value} (hw : ∀ d ∈ tables_1, d.before a0 Z = true) : ((Jvm.Cond.code ({ cls := "java/lang/StringUTF16", name := "compress", desc := "([CII)[B" } : Jvm.MethodName) jdk_52_method_16_code (6 : Nat) (Option.some (Jvm.ClassFile.FieldType.array Jvm.ClassFile.FieldType.byte)))).before a0 Z = true := hw _ (List.mem_of_getElem? (i := 22) rfl)
theorem w23 {Z : State} {a0 : Array Value} (hw : ∀ d ∈ tables_1, d.before a0 Z = true) : ((Jvm.Cond.arrayClass Jvm.ClassFile.FieldType.byte)).before a0 Z = true := hw _ (List.mem_of_getElem? (i := 23) rfl)
theorem w24 {Z : State} {a0 : Array Value} (hw : ∀ d ∈ tables_1, d.before a0 Z = true) : ((Jvm.Cond.methodLink "java/lang/StringUTF16" (115 : Nat) ({ cls := "java/lang/StringUTF16", name := "compress", desc := "([CI[BII)I" } : Jvm.MethodName))).before a0 Z = true := hw _ (List.mem_of_getElem? (i := 24) rfl)
theorem w25 {Z : State} {a0 : Array Value} (hw : ∀ d ∈ tables_1, d.before a0 Z = true) : ((Jvm.Cond.static ({ cls := "java/lang/StringUTF16", name := "compress", desc := "([CI[BII)I" } : Jvm.MethodName))).before a0 Z = true := hw _ (List.mem_of_getElem? (i := 25) rfl)
theorem w26 {Z : State} {a0 : Array Value} (hw : ∀ d ∈ tables_1, d.before a0 Z = true) : ((Jvm.Cond.code ({ cls := "java/lang/StringUTF16", name := "compress", desc := "([CI[BII)I" } : Jvm.MethodName) jdk_52_method_21_code (7 : Nat) (Option.some Jvm.ClassFile.FieldType.int))).before a0 Z = true := hw _ (List.mem_of_getElem? (i := 26) rfl)
theorem w27 {Z : State} {a0 : Array Value} (hw : ∀ d ∈ tables_1, d.before a0 Z = true) : ((Jvm.Cond.methodLink "java/lang/String" (47 : Nat) ({ cls := "java/lang/StringUTF16", name := "coderFromArrayLen", desc := "([BI)B" } : Jvm.MethodName))).before a0 Z = true := hw _ (List.mem_of_getElem? (i := 27) rfl)
theorem w28 {Z : State} {a0 : Array Value} (hw : ∀ d ∈ tables_1, d.before a0 Z = true) : ((Jvm.Cond.static ({ cls := "java/lang/StringUTF16", name := "coderFromArrayLen", desc := "([BI)B" } : Jvm.MethodName))).before a0 Z = true := hw _ (List.mem_of_getElem? (i := 28) rfl)
theorem w29 {Z : State} {a0 : Array Value} (hw : ∀ d ∈ tables_1, d.before a0 Z = true) : ((Jvm.Cond.code ({ cls := "java/lang/StringUTF16", name := "coderFromArrayLen", desc := "([BI)B" } : Jvm.MethodName) jdk_52_method_15_code (2 : Nat) (Option.some Jvm.ClassFile.FieldType.byte))).before a0 Z = true := hw _ (List.mem_of_getElem? (i := 29) rfl)
theorem w30 {Z : State} {a0 : Array Value} (hw : ∀ d ∈ tables_1, d.before a0 Z = true) : ((Jvm.Cond.fieldLink "java/lang/String" (15 : Nat) "java/lang/String" "coder" "B")).before a0 Z = true := hw _ (List.mem_of_getElem? (i := 30) rfl)
theorem w31 {Z : State} {a0 : Array Value} (hw : ∀ d ∈ tables_1, d.before a0 Z = true) : ((Jvm.Cond.laysFinal "java/lang/String" "java/lang/String" "coder" "B")).before a0 Z = true := hw _ (List.mem_of_getElem? (i := 31) rfl)
theorem w32 {Z : State} {a0 : Array Value} (hw : ∀ d ∈ tables_1, d.before a0 Z = true) : ((Jvm.Cond.fieldLink "java/lang/String" (9 : Nat) "java/lang/String" "value" "[B")).before a0 Z = true := hw _ (List.mem_of_getElem? (i := 32) rfl)
theorem w33 {Z : State} {a0 : Array Value} (hw : ∀ d ∈ tables_1, d.before a0 Z = true) : ((Jvm.Cond.laysFinal "java/lang/String" "java/lang/String" "value" "[B")).before a0 Z = true := hw _ (List.mem_of_getElem? (i := 33) rfl)
theorem w34 {Z : State} {a0 : Array Value} (hw : ∀ d ∈ tables_1, d.before a0 Z = true) : ((Jvm.Cond.methodLink "com/example/keyhold/keyhold/model/KeyRingInUsePinLaw" (15 : Nat) ({ cls := "com/example/keyhold/keyhold/model/SigningKey", name := "<init>", desc := "(Ljava/lang/String;[BJ)V" } : Jvm.MethodName))).before a0 Z = true := hw _ (List.mem_of_getElem? (i := 34) rfl)
theorem w35 {Z : State} {a0 : Array Value} (hw : ∀ d ∈ tables_1, d.before a0 Z = true) : ((Jvm.Cond.instanceMethod ({ cls := "com/example/keyhold/keyhold/model/SigningKey", name := "<init>", desc := "(Ljava/lang/String;[BJ)V" } : Jvm.MethodName))).before a0 Z = true := hw _ (List.mem_of_getElem? (i := 35) rfl)
theorem w36 {Z : State} {a0 : Array Value} (hw : ∀ d ∈ tables_1, d.before a0 Z = true) : ((Jvm.Cond.code ({ cls := "com/example/keyhold/keyhold/model/SigningKey", name := "<init>", desc := "(Ljava/lang/String;[BJ)V" } : Jvm.MethodName) prog_10_method_1_code (5 : Nat) (Option.none : Option Jvm.ClassFile.FieldType))).before a0 Z = true := hw _ (List.mem_of_getElem? (i := 36) rfl)
theorem w37 {Z : State} {a0 : Array Value} (hw : ∀ d ∈ tables_1, d.before a0 Z = true) : ((Jvm.Cond.methodLink "com/example/keyhold/keyhold/model/SigningKey" (1 : Nat) ({ cls := "java/lang/Record", name := "<init>", desc := "()V" } : Jvm.MethodName))).before a0 Z = true := hw _ (List.mem_of_getElem? (i := 37) rfl)
theorem w38 {Z : State} {a0 : Array Value} (hw : ∀ d ∈ tables_1, d.before a0 Z = true) : ((Jvm.Cond.instanceMethod ({ cls := "java/lang/Record", name := "<init>", desc := "()V" } : Jvm.MethodName))).before a0 Z = true := hw _ (List.mem_of_getElem? (i := 38) rfl)
theorem w40 {Z : State} {a0 : Array Value} (hw : ∀ d ∈ tables_1, d.before a0 Z = true) : ((Jvm.Cond.initialized "java/lang/Record")).before a0 Z = true := hw _ (List.mem_of_getElem? (i := 40) rfl)
theorem w41 {Z : State} {a0 : Array Value} (hw : ∀ d ∈ tables_1, d.before a0 Z = true) : ((Jvm.Cond.code ({ cls := "java/lang/Record", name := "<init>", desc := "()V" } : Jvm.MethodName) jdk_30_method_1_code (1 : Nat) (Option.none : Option Jvm.ClassFile.FieldType))).before a0 Z = true := hw _ (List.mem_of_getElem? (i := 41) rfl)
theorem w42 {Z : State} {a0 : Array Value} (hw : ∀ d ∈ tables_1, d.before a0 Z = true) : ((Jvm.Cond.methodLink "java/lang/Record" (1 : Nat) ({ cls := "java/lang/Object", name := "<init>", desc := "()V" } : Jvm.MethodName))).before a0 Z = true := hw _ (List.mem_of_getElem? (i := 42) rfl)
theorem w43 {Z : State} {a0 : Array Value} (hw : ∀ d ∈ tables_1, d.before a0 Z = true) : ((Jvm.Cond.stringLink "com/example/keyhold/keyhold/model/SigningKey" (7 : Nat) "signing key id may not be null")).before a0 Z = true := hw _ (List.mem_of_getElem? (i := 43) rfl)
theorem w46 {Z : State} {a0 : Array Value} (hw : ∀ d ∈ tables_1, d.before a0 Z = true) : ((Jvm.Cond.methodLink "com/example/keyhold/keyhold/model/SigningKey" (9 : Nat) ({ cls := "java/util/Objects", name := "requireNonNull", desc := "(Ljava/lang/Object;Ljava/lang/String;)Ljava/lang/Object;" } : Jvm.MethodName))).before a0 Z = true := hw _ (List.mem_of_getElem? (i := 46) rfl)
theorem w47 {Z : State} {a0 : Array Value} (hw : ∀ d ∈ tables_1, d.before a0 Z = true) : ((Jvm.Cond.static ({ cls := "java/util/Objects", name := "requireNonNull", desc := "(Ljava/lang/Object;Ljava/lang/String;)Ljava/lang/Object;" } : Jvm.MethodName))).before a0 Z = true := hw _ (List.mem_of_getElem? (i := 47) rfl)
theorem w48 {Z : State} {a0 : Array Value} (hw : ∀ d ∈ tables_1, d.before a0 Z = true) : ((Jvm.Cond.initialized "java/util/Objects")).before a0 Z = true := hw _ (List.mem_of_getElem? (i := 48) rfl)
theorem w49 {Z : State} {a0 : Array Value} (hw : ∀ d ∈ tables_1, d.before a0 Z = true) : ((Jvm.Cond.code ({ cls := "java/util/Objects", name := "requireNonNull", desc := "(Ljava/lang/Object;Ljava/lang/String;)Ljava/lang/Object;" } : Jvm.MethodName) jdk_31_method_11_code (2 : Nat) (Option.some (Jvm.ClassFile.FieldType.object "java/lang/Object")))).before a0 Z = true := hw _ (List.mem_of_getElem? (i := 49) rfl)
theorem w50 {Z : State} {a0 : Array Value} (hw : ∀ d ∈ tables_1, d.before a0 Z = true) : ((Jvm.Cond.stringLink "com/example/keyhold/keyhold/model/SigningKey" (15 : Nat) "signing key secret may not be null")).before a0 Z = true := hw _ (List.mem_of_getElem? (i := 50) rfl)
theorem w51 {Z : State} {a0 : Array Value} (hw : ∀ d ∈ tables_1, d.before a0 Z = true) : ((Jvm.Cond.fieldLink "com/example/keyhold/keyhold/model/SigningKey" (17 : Nat) "com/example/keyhold/keyhold/model/SigningKey" "kid" "Ljava/lang/String;")).before a0 Z = true := hw _ (List.mem_of_getElem? (i := 51) rfl)
theorem w52 {Z : State} {a0 : Array Value} (hw : ∀ d ∈ tables_1, d.before a0 Z = true) : ((Jvm.Cond.laysFinal "com/example/keyhold/keyhold/model/SigningKey" "com/example/keyhold/keyhold/model/SigningKey" "kid" "Ljava/lang/String;")).before a0 Z = true := hw _ (List.mem_of_getElem? (i := 52) rfl)
theorem w53 {Z : State} {a0 : Array Value} (hw : ∀ d ∈ tables_1, d.before a0 Z = true) : ((Jvm.Cond.fieldLink "com/example/keyhold/keyhold/model/SigningKey" (23 : Nat) "com/example/keyhold/keyhold/model/SigningKey" "secret" "[B")).before a0 Z = true := hw _ (List.mem_of_getElem? (i := 53) rfl)
theorem w54 {Z : State} {a0 : Array Value} (hw : ∀ d ∈ tables_1, d.before a0 Z = true) : ((Jvm.Cond.laysFinal "com/example/keyhold/keyhold/model/SigningKey" "com/example/keyhold/keyhold/model/SigningKey" "secret" "[B")).before a0 Z = true := hw _ (List.mem_of_getElem? (i := 54) rfl)
theorem w55 {Z : State} {a0 : Array Value} (hw : ∀ d ∈ tables_1, d.before a0 Z = true) : ((Jvm.Cond.fieldLink "com/example/keyhold/keyhold/model/SigningKey" (27 : Nat) "com/example/keyhold/keyhold/model/SigningKey" "createdAt" "J")).before a0 Z = true := hw _ (List.mem_of_getElem? (i := 55) rfl)
theorem w56 {Z : State} {a0 : Array Value} (hw : ∀ d ∈ tables_1, d.before a0 Z = true) : ((Jvm.Cond.laysFinal "com/example/keyhold/keyhold/model/SigningKey" "com/example/keyhold/keyhold/model/SigningKey" "createdAt" "J")).before a0 Z = true := hw _ (List.mem_of_getElem? (i := 56) rfl)
theorem w57 {Z : State} {a0 : Array Value} (hw : ∀ d ∈ tables_1, d.before a0 Z = true) : ((Jvm.Cond.classLink "com/example/keyhold/keyhold/model/KeyRingInUsePinLaw" (18 : Nat) "java/util/ArrayList")).before a0 Z = true := hw _ (List.mem_of_getElem? (i := 57) rfl)
theorem w58 {Z : State} {a0 : Array Value} (hw : ∀ d ∈ tables_1, d.before a0 Z = true) : ((Jvm.Cond.instantiable "java/util/ArrayList" (3 : Nat))).before a0 Z = true := hw _ (List.mem_of_getElem? (i := 58) rfl)
theorem w59 {Z : State} {a0 : Array Value} (hw : ∀ d ∈ tables_1, d.before a0 Z = true) : ((Jvm.Cond.initialized "java/util/ArrayList")).before a0 Z = true := hw _ (List.mem_of_getElem? (i := 59) rfl)
theorem w60 {Z : State} {a0 : Array Value} (hw : ∀ d ∈ tables_1, d.before a0 Z = true) : ((Jvm.Cond.methodLink "com/example/keyhold/keyhold/model/KeyRingInUsePinLaw" (20 : Nat) ({ cls := "java/util/ArrayList", name := "<init>", desc := "()V" } : Jvm.MethodName))).before a0 Z = true := hw _ (List.mem_of_getElem? (i := 60) rfl)
theorem w61 {Z : State} {a0 : Array Value} (hw : ∀ d ∈ tables_1, d.before a0 Z = true) : ((Jvm.Cond.instanceMethod ({ cls := "java/util/ArrayList", name := "<init>", desc := "()V" } : Jvm.MethodName))).before a0 Z = true := hw _ (List.mem_of_getElem? (i := 61) rfl)
theorem w62 {Z : State} {a0 : Array Value} (hw : ∀ d ∈ tables_1, d.before a0 Z = true) : ((Jvm.Cond.code ({ cls := "java/util/ArrayList", name := "<init>", desc := "()V" } : Jvm.MethodName) jdk_38_method_2_code (1 : Nat) (Option.none : Option Jvm.ClassFile.FieldType))).before a0 Z = true := hw _ (List.mem_of_getElem? (i := 62) rfl)
theorem w63 {Z : State} {a0 : Array Value} (hw : ∀ d ∈ tables_1, d.before a0 Z = true) : ((Jvm.Cond.methodLink "java/util/ArrayList" (1 : Nat) ({ cls := "java/util/AbstractList", name := "<init>", desc := "()V" } : Jvm.MethodName))).before a0 Z = true := hw _ (List.mem_of_getElem? (i := 63) rfl)
theorem w64 {Z : State} {a0 : Array Value} (hw : ∀ d ∈ tables_1, d.before a0 Z = true) : ((Jvm.Cond.instanceMethod ({ cls := "java/util/AbstractList", name := "<init>", desc := "()V" } : Jvm.MethodName))).before a0 Z = true := hw _ (List.mem_of_getElem? (i := 64) rfl)
theorem w67 {Z : State} {a0 : Array Value} (hw : ∀ d ∈ tables_1, d.before a0 Z = true) : ((Jvm.Cond.initialized "java/util/AbstractList")).before a0 Z = true := hw _ (List.mem_of_getElem? (i := 67) rfl)
theorem w68 {Z : State} {a0 : Array Value} (hw : ∀ d ∈ tables_1, d.before a0 Z = true) : ((Jvm.Cond.code ({ cls := "java/util/AbstractList", name := "<init>", desc := "()V" } : Jvm.MethodName) jdk_39_method_1_code (1 : Nat) (Option.none : Option Jvm.ClassFile.FieldType))).before a0 Z = true := hw _ (List.mem_of_getElem? (i := 68) rfl)
theorem w69 {Z : State} {a0 : Array Value} (hw : ∀ d ∈ tables_1, d.before a0 Z = true) : ((Jvm.Cond.methodLink "java/util/AbstractList" (1 : Nat) ({ cls := "java/util/AbstractCollection", name := "<init>", desc := "()V" } : Jvm.MethodName))).before a0 Z = true := hw _ (List.mem_of_getElem? (i := 69) rfl)
theorem w70 {Z : State} {a0 : Array Value} (hw : ∀ d ∈ tables_1, d.before a0 Z = true) : ((Jvm.Cond.instanceMethod ({ cls := "java/util/AbstractCollection", name := "<init>", desc := "()V" } : Jvm.MethodName))).before a0 Z = true := hw _ (List.mem_of_getElem? (i := 70) rfl)
theorem w73 {Z : State} {a0 : Array Value} (hw : ∀ d ∈ tables_1, d.before a0 Z = true) : ((Jvm.Cond.initialized "java/util/AbstractCollection")).before a0 Z = true := hw _ (List.mem_of_getElem? (i := 73) rfl)
theorem w74 {Z : State} {a0 : Array Value} (hw : ∀ d ∈ tables_1, d.before a0 Z = true) : ((Jvm.Cond.code ({ cls := "java/util/AbstractCollection", name := "<init>", desc := "()V" } : Jvm.MethodName) jdk_22_method_1_code (1 : Nat) (Option.none : Option Jvm.ClassFile.FieldType))).before a0 Z = true := hw _ (List.mem_of_getElem? (i := 74) rfl)
theorem w75 {Z : State} {a0 : Array Value} (hw : ∀ d ∈ tables_1, d.before a0 Z = true) : ((Jvm.Cond.methodLink "java/util/AbstractCollection" (1 : Nat) ({ cls := "java/lang/Object", name := "<init>", desc := "()V" } : Jvm.MethodName))).before a0 Z = true := hw _ (List.mem_of_getElem? (i := 75) rfl)
theorem w76 {Z : State} {a0 : Array Value} (hw : ∀ d ∈ tables_1, d.before a0 Z = true) : ((Jvm.Cond.fieldLink "java/util/AbstractList" (7 : Nat) "java/util/AbstractList" "modCount" "I")).before a0 Z = true := hw _ (List.mem_of_getElem? (i := 76) rfl)
theorem w77 {Z : State} {a0 : Array Value} (hw : ∀ d ∈ tables_1, d.before a0 Z = true) : ((Jvm.Cond.lays "java/util/ArrayList" "java/util/AbstractList" "modCount" "I")).before a0 Z = true := hw _ (List.mem_of_getElem? (i := 77) rfl)
theorem w78 {Z : State} {a0 : Array Value} (hw : ∀ d ∈ tables_1, d.before a0 Z = true) : ((Jvm.Cond.fieldLink "java/util/ArrayList" (39 : Nat) "java/util/ArrayList" "DEFAULTCAPACITY_EMPTY_ELEMENTDATA" "[Ljava/lang/Object;")).before a0 Z = true := hw _ (List.mem_of_getElem? (i := 78) rfl)
theorem w79 {Z : State} {a0 : Array Value} (hw : ∀ d ∈ tables_1, d.before a0 Z = true) : ((Jvm.Cond.fieldLink "java/util/ArrayList" (9 : Nat) "java/util/ArrayList" "elementData" "[Ljava/lang/Object;")).before a0 Z = true := hw _ (List.mem_of_getElem? (i := 79) rfl)
theorem w80 {Z : State} {a0 : Array Value} (hw : ∀ d ∈ tables_1, d.before a0 Z = true) : ((Jvm.Cond.lays "java/util/ArrayList" "java/util/ArrayList" "elementData" "[Ljava/lang/Object;")).before a0 Z = true := hw _ (List.mem_of_getElem? (i := 80) rfl)
theorem w81 {Z : State} {a0 : Array Value} (hw : ∀ d ∈ tables_1, d.before a0 Z = true) : ((Jvm.Cond.methodLink "com/example/keyhold/keyhold/model/KeyRingInUsePinLaw" (21 : Nat) ({ cls := "java/util/ArrayList", name := "add", desc := "(Ljava/lang/Object;)Z" } : Jvm.MethodName))).before a0 Z = true := hw _ (List.mem_of_getElem? (i := 81) rfl)
theorem w82 {Z : State} {a0 : Array Value} (hw : ∀ d ∈ tables_1, d.before a0 Z = true) : ((Jvm.Cond.declares ({ cls := "java/util/ArrayList", name := "add", desc := "(Ljava/lang/Object;)Z" } : Jvm.MethodName))).before a0 Z = true := hw _ (List.mem_of_getElem? (i := 82) rfl)
theorem w83 {Z : State} {a0 : Array Value} (hw : ∀ d ∈ tables_1, d.before a0 Z = true) : ((Jvm.Cond.instanceMethod ({ cls := "java/util/ArrayList", name := "add", desc := "(Ljava/lang/Object;)Z" } : Jvm.MethodName))).before a0 Z = true := hw _ (List.mem_of_getElem? (i := 83) rfl)
theorem w84 {Z : State} {a0 : Array Value} (hw : ∀ d ∈ tables_1, d.before a0 Z = true) : ((Jvm.Cond.selects "java/util/ArrayList" ({ cls := "java/util/ArrayList", name := "add", desc := "(Ljava/lang/Object;)Z" } : Jvm.MethodName) ({ cls := "java/util/ArrayList", name := "add", desc := "(Ljava/lang/Object;)Z" } : Jvm.MethodName))).before a0 Z = true := hw _ (List.mem_of_getElem? (i := 84) rfl)
theorem w85 {Z : State} {a0 : Array Value} (hw : ∀ d ∈ tables_1, d.before a0 Z = true) : ((Jvm.Cond.code ({ cls := "java/util/ArrayList", name := "add", desc := "(Ljava/lang/Object;)Z" } : Jvm.MethodName) jdk_38_method_25_code (2 : Nat) (Option.some Jvm.ClassFile.FieldType.boolean))).before a0 Z = true := hw _ (List.mem_of_getElem? (i := 85) rfl)
theorem w86 {Z : State} {a0 : Array Value} (hw : ∀ d ∈ tables_1, d.before a0 Z = true) : ((Jvm.Cond.fieldLink "java/util/ArrayList" (63 : Nat) "java/util/ArrayList" "modCount" "I")).before a0 Z = true := hw _ (List.mem_of_getElem? (i := 86) rfl)
theorem w87 {Z : State} {a0 : Array Value} (hw : ∀ d ∈ tables_1, d.before a0 Z = true) : ((Jvm.Cond.sameField "java/util/ArrayList" "java/util/AbstractList" "modCount" "I")).before a0 Z = true := hw _ (List.mem_of_getElem? (i := 87) rfl)
theorem w88 {Z : State} {a0 : Array Value} (hw : ∀ d ∈ tables_1, d.before a0 Z = true) : ((Jvm.Cond.fieldLink "java/util/ArrayList" (48 : Nat) "java/util/ArrayList" "size" "I")).before a0 Z = true := hw _ (List.mem_of_getElem? (i := 88) rfl)
theorem w89 {Z : State} {a0 : Array Value} (hw : ∀ d ∈ tables_1, d.before a0 Z = true) : ((Jvm.Cond.lays "java/util/ArrayList" "java/util/ArrayList" "size" "I")).before a0 Z = true := hw _ (List.mem_of_getElem? (i := 89) rfl)
theorem w90 {Z : State} {a0 : Array Value} (hw : ∀ d ∈ tables_1, d.before a0 Z = true) : ((Jvm.Cond.methodLink "java/util/ArrayList" (131 : Nat) ({ cls := "java/util/ArrayList", name := "add", desc := "(Ljava/lang/Object;[Ljava/lang/Object;I)V" } : Jvm.MethodName))).before a0 Z = true := hw _ (List.mem_of_getElem? (i := 90) rfl)
theorem w91 {Z : State} {a0 : Array Value} (hw : ∀ d ∈ tables_1, d.before a0 Z = true) : ((Jvm.Cond.instanceMethod ({ cls := "java/util/ArrayList", name := "add", desc := "(Ljava/lang/Object;[Ljava/lang/Object;I)V" } : Jvm.MethodName))).before a0 Z = true := hw _ (List.mem_of_getElem? (i := 91) rfl)
theorem w92 {Z : State} {a0 : Array Value} (hw : ∀ d ∈ tables_1, d.before a0 Z = true) : ((Jvm.Cond.privateMethod ({ cls := "java/util/ArrayList", name := "add", desc := "(Ljava/lang/Object;[Ljava/lang/Object;I)V" } : Jvm.MethodName))).before a0 Z = true := hw _ (List.mem_of_getElem? (i := 92) rfl)
theorem w93 {Z : State} {a0 : Array Value} (hw : ∀ d ∈ tables_1, d.before a0 Z = true) : ((Jvm.Cond.selects "java/util/ArrayList" ({ cls := "java/util/ArrayList", name := "add", desc := "(Ljava/lang/Object;[Ljava/lang/Object;I)V" } : Jvm.MethodName) ({ cls := "java/util/ArrayList", name := "add", desc := "(Ljava/lang/Object;[Ljava/lang/Object;I)V" } : Jvm.MethodName))).before a0 Z = true := hw _ (List.mem_of_getElem? (i := 93) rfl)
theorem w94 {Z : State} {a0 : Array Value} (hw : ∀ d ∈ tables_1, d.before a0 Z = true) : ((Jvm.Cond.code ({ cls := "java/util/ArrayList", name := "add", desc := "(Ljava/lang/Object;[Ljava/lang/Object;I)V" } : Jvm.MethodName) jdk_38_method_24_code (4 : Nat) (Option.none : Option Jvm.ClassFile.FieldType))).before a0 Z = true := hw _ (List.mem_of_getElem? (i := 94) rfl)
theorem w95 {Z : State} {a0 : Array Value} (hw : ∀ d ∈ tables_1, d.before a0 Z = true) : ((Jvm.Cond.methodLink "java/util/ArrayList" (129 : Nat) ({ cls := "java/util/ArrayList", name := "grow", desc := "()[Ljava/lang/Object;" } : Jvm.MethodName))).before a0 Z = true := hw _ (List.mem_of_getElem? (i := 95) rfl)
theorem w96 {Z : State} {a0 : Array Value} (hw : ∀ d ∈ tables_1, d.before a0 Z = true) : ((Jvm.Cond.instanceMethod ({ cls := "java/util/ArrayList", name := "grow", desc := "()[Ljava/lang/Object;" } : Jvm.MethodName))).before a0 Z = true := hw _ (List.mem_of_getElem? (i := 96) rfl)
theorem w97 {Z : State} {a0 : Array Value} (hw : ∀ d ∈ tables_1, d.before a0 Z = true) : ((Jvm.Cond.privateMethod ({ cls := "java/util/ArrayList", name := "grow", desc := "()[Ljava/lang/Object;" } : Jvm.MethodName))).before a0 Z = true := hw _ (List.mem_of_getElem? (i := 97) rfl)
theorem w98 {Z : State} {a0 : Array Value} (hw : ∀ d ∈ tables_1, d.before a0 Z = true) : ((Jvm.Cond.selects "java/util/ArrayList" ({ cls := "java/util/ArrayList", name := "grow", desc := "()[Ljava/lang/Object;" } : Jvm.MethodName) ({ cls := "java/util/ArrayList", name := "grow", desc := "()[Ljava/lang/Object;" } : Jvm.MethodName))).before a0 Z = true := hw _ (List.mem_of_getElem? (i := 98) rfl)
theorem w99 {Z : State} {a0 : Array Value} (hw : ∀ d ∈ tables_1, d.before a0 Z = true) : ((Jvm.Cond.code ({ cls := "java/util/ArrayList", name := "grow", desc := "()[Ljava/lang/Object;" } : Jvm.MethodName) jdk_38_method_7_code (1 : Nat) (Option.some (Jvm.ClassFile.FieldType.array (Jvm.ClassFile.FieldType.object "java/lang/Object"))))).before a0 Z = true := hw _ (List.mem_of_getElem? (i := 99) rfl)
theorem w100 {Z : State} {a0 : Array Value} (hw : ∀ d ∈ tables_1, d.before a0 Z = true) : ((Jvm.Cond.methodLink "java/util/ArrayList" (69 : Nat) ({ cls := "java/util/ArrayList", name := "grow", desc := "(I)[Ljava/lang/Object;" } : Jvm.MethodName))).before a0 Z = true := hw _ (List.mem_of_getElem? (i := 100) rfl)
theorem w101 {Z : State} {a0 : Array Value} (hw : ∀ d ∈ tables_1, d.before a0 Z = true) : ((Jvm.Cond.instanceMethod ({ cls := "java/util/ArrayList", name := "grow", desc := "(I)[Ljava/lang/Object;" } : Jvm.MethodName))).before a0 Z = true := hw _ (List.mem_of_getElem? (i := 101) rfl)
theorem w102 {Z : State} {a0 : Array Value} (hw : ∀ d ∈ tables_1, d.before a0 Z = true) : ((Jvm.Cond.privateMethod ({ cls := "java/util/ArrayList", name := "grow", desc := "(I)[Ljava/lang/Object;" } : Jvm.MethodName))).before a0 Z = true := hw _ (List.mem_of_getElem? (i := 102) rfl)
theorem w103 {Z : State} {a0 : Array Value} (hw : ∀ d ∈ tables_1, d.before a0 Z = true) : ((Jvm.Cond.selects "java/util/ArrayList" ({ cls := "java/util/ArrayList", name := "grow", desc := "(I)[Ljava/lang/Object;" } : Jvm.MethodName) ({ cls := "java/util/ArrayList", name := "grow", desc := "(I)[Ljava/lang/Object;" } : Jvm.MethodName))).before a0 Z = true := hw _ (List.mem_of_getElem? (i := 103) rfl)
theorem w104 {Z : State} {a0 : Array Value} (hw : ∀ d ∈ tables_1, d.before a0 Z = true) : ((Jvm.Cond.code ({ cls := "java/util/ArrayList", name := "grow", desc := "(I)[Ljava/lang/Object;" } : Jvm.MethodName) jdk_38_method_6_code (4 : Nat) (Option.some (Jvm.ClassFile.FieldType.array (Jvm.ClassFile.FieldType.object "java/lang/Object"))))).before a0 Z = true := hw _ (List.mem_of_getElem? (i := 104) rfl)
theorem w105 {Z : State} {a0 : Array Value} (hw : ∀ d ∈ tables_1, d.before a0 Z = true) : ((Jvm.Cond.methodLink "java/util/ArrayList" (79 : Nat) ({ cls := "java/lang/Math", name := "max", desc := "(II)I" } : Jvm.MethodName))).before a0 Z = true := hw _ (List.mem_of_getElem? (i := 105) rfl)
theorem w106 {Z : State} {a0 : Array Value} (hw : ∀ d ∈ tables_1, d.before a0 Z = true) : ((Jvm.Cond.static ({ cls := "java/lang/Math", name := "max", desc := "(II)I" } : Jvm.MethodName))).before a0 Z = true := hw _ (List.mem_of_getElem? (i := 106) rfl)
theorem w107 {Z : State} {a0 : Array Value} (hw : ∀ d ∈ tables_1, d.before a0 Z = true) : ((Jvm.Cond.initialized "java/lang/Math")).before a0 Z = true := hw _ (List.mem_of_getElem? (i := 107) rfl)
theorem w108 {Z : State} {a0 : Array Value} (hw : ∀ d ∈ tables_1, d.before a0 Z = true) : ((Jvm.Cond.code ({ cls := "java/lang/Math", name := "max", desc := "(II)I" } : Jvm.MethodName) jdk_29_method_65_code (2 : Nat) (Option.some Jvm.ClassFile.FieldType.int))).before a0 Z = true := hw _ (List.mem_of_getElem? (i := 108) rfl)
theorem w109 {Z : State} {a0 : Array Value} (hw : ∀ d ∈ tables_1, d.before a0 Z = true) : ((Jvm.Cond.classLink "java/util/ArrayList" (7 : Nat) "java/lang/Object")).before a0 Z = true := hw _ (List.mem_of_getElem? (i := 109) rfl)
theorem w110 {Z : State} {a0 : Array Value} (hw : ∀ d ∈ tables_1, d.before a0 Z = true) : ((Jvm.Cond.arrayOver (Jvm.ClassFile.FieldType.object "java/lang/Object"))).before a0 Z = true := hw _ (List.mem_of_getElem? (i := 110) rfl)
theorem w111 {Z : State} {a0 : Array Value} (hw : ∀ d ∈ tables_1, d.before a0 Z = true) : ((Jvm.Cond.castable "com/example/keyhold/keyhold/model/SigningKey" "java/lang/Object")).before a0 Z = true := hw _ (List.mem_of_getElem? (i := 111) rfl)
theorem w112 {Z : State} {a0 : Array Value} (hw : ∀ d ∈ tables_1, d.before a0 Z = true) : ((Jvm.Cond.classLink "com/example/keyhold/keyhold/model/KeyRingInUsePinLaw" (25 : Nat) "com/example/keyhold/keyhold/model/KeyRing")).before a0 Z = true := hw _ (List.mem_of_getElem? (i := 112) rfl)
theorem w113 {Z : State} {a0 : Array Value} (hw : ∀ d ∈ tables_1, d.before a0 Z = true) : ((Jvm.Cond.instantiable "com/example/keyhold/keyhold/model/KeyRing" (1 : Nat))).before a0 Z = true := hw _ (List.mem_of_getElem? (i := 113) rfl)
theorem w114 {Z : State} {a0 : Array Value} (hw : ∀ d ∈ tables_1, d.before a0 Z = true) : ((Jvm.Cond.initialized "com/example/keyhold/keyhold/model/KeyRing")).before a0 Z = true := hw _ (List.mem_of_getElem? (i := 114) rfl)
theorem w115 {Z : State} {a0 : Array Value} (hw : ∀ d ∈ tables_1, d.before a0 Z = true) : ((Jvm.Cond.methodLink "com/example/keyhold/keyhold/model/KeyRingInUsePinLaw" (27 : Nat) ({ cls := "com/example/keyhold/keyhold/model/KeyRing", name := "<init>", desc := "(Ljava/util/List;)V" } : Jvm.MethodName))).before a0 Z = true := hw _ (List.mem_of_getElem? (i := 115) rfl)
theorem w116 {Z : State} {a0 : Array Value} (hw : ∀ d ∈ tables_1, d.before a0 Z = true) : ((Jvm.Cond.instanceMethod ({ cls := "com/example/keyhold/keyhold/model/KeyRing", name := "<init>", desc := "(Ljava/util/List;)V" } : Jvm.MethodName))).before a0 Z = true := hw _ (List.mem_of_getElem? (i := 116) rfl)
theorem w117 {Z : State} {a0 : Array Value} (hw : ∀ d ∈ tables_1, d.before a0 Z = true) : ((Jvm.Cond.code ({ cls := "com/example/keyhold/keyhold/model/KeyRing", name := "<init>", desc := "(Ljava/util/List;)V" } : Jvm.MethodName) prog_7_method_1_code (2 : Nat) (Option.none : Option Jvm.ClassFile.FieldType))).before a0 Z = true := hw _ (List.mem_of_getElem? (i := 117) rfl)
theorem w118 {Z : State} {a0 : Array Value} (hw : ∀ d ∈ tables_1, d.before a0 Z = true) : ((Jvm.Cond.methodLink "com/example/keyhold/keyhold/model/KeyRing" (1 : Nat) ({ cls := "java/lang/Record", name := "<init>", desc := "()V" } : Jvm.MethodName))).before a0 Z = true := hw _ (List.mem_of_getElem? (i := 118) rfl)
theorem w119 {Z : State} {a0 : Array Value} (hw : ∀ d ∈ tables_1, d.before a0 Z = true) : ((Jvm.Cond.stringLink "com/example/keyhold/keyhold/model/KeyRing" (7 : Nat) "signing keys may not be null")).before a0 Z = true := hw _ (List.mem_of_getElem? (i := 119) rfl)
theorem w120 {Z : State} {a0 : Array Value} (hw : ∀ d ∈ tables_1, d.before a0 Z = true) : ((Jvm.Cond.methodLink "com/example/keyhold/keyhold/model/KeyRing" (9 : Nat) ({ cls := "java/util/Objects", name := "requireNonNull", desc := "(Ljava/lang/Object;Ljava/lang/String;)Ljava/lang/Object;" } : Jvm.MethodName))).before a0 Z = true := hw _ (List.mem_of_getElem? (i := 120) rfl)
theorem w121 {Z : State} {a0 : Array Value} (hw : ∀ d ∈ tables_1, d.before a0 Z = true) : ((Jvm.Cond.methodLink "com/example/keyhold/keyhold/model/KeyRing" (15 : Nat) ({ cls := "java/util/List", name := "isEmpty", desc := "()Z" } : Jvm.MethodName))).before a0 Z = true := hw _ (List.mem_of_getElem? (i := 121) rfl)
theorem w122 {Z : State} {a0 : Array Value} (hw : ∀ d ∈ tables_1, d.before a0 Z = true) : ((Jvm.Cond.declares ({ cls := "java/util/List", name := "isEmpty", desc := "()Z" } : Jvm.MethodName))).before a0 Z = true := hw _ (List.mem_of_getElem? (i := 122) rfl)
theorem w123 {Z : State} {a0 : Array Value} (hw : ∀ d ∈ tables_1, d.before a0 Z = true) : ((Jvm.Cond.interfaceMethod "java/util/List" "java/util/List" "isEmpty" "()Z")).before a0 Z = true := hw _ (List.mem_of_getElem? (i := 123) rfl)
theorem w124 {Z : State} {a0 : Array Value} (hw : ∀ d ∈ tables_1, d.before a0 Z = true) : ((Jvm.Cond.selects "java/util/ArrayList" ({ cls := "java/util/List", name := "isEmpty", desc := "()Z" } : Jvm.MethodName) ({ cls := "java/util/ArrayList", name := "isEmpty", desc := "()Z" } : Jvm.MethodName))).before a0 Z = true := hw _ (List.mem_of_getElem? (i := 124) rfl)
theorem w125 {Z : State} {a0 : Array Value} (hw : ∀ d ∈ tables_1, d.before a0 Z = true) : ((Jvm.Cond.instanceMethod ({ cls := "java/util/ArrayList", name := "isEmpty", desc := "()Z" } : Jvm.MethodName))).before a0 Z = true := hw _ (List.mem_of_getElem? (i := 125) rfl)
theorem w126 {Z : State} {a0 : Array Value} (hw : ∀ d ∈ tables_1, d.before a0 Z = true) : ((Jvm.Cond.publicMethod ({ cls := "java/util/ArrayList", name := "isEmpty", desc := "()Z" } : Jvm.MethodName))).before a0 Z = true := hw _ (List.mem_of_getElem? (i := 126) rfl)
theorem w127 {Z : State} {a0 : Array Value} (hw : ∀ d ∈ tables_1, d.before a0 Z = true) : ((Jvm.Cond.unhidden "java/util/ArrayList" "isEmpty" "()Z")).before a0 Z = true := hw _ (List.mem_of_getElem? (i := 127) rfl)
theorem w128 {Z : State} {a0 : Array Value} (hw : ∀ d ∈ tables_1, d.before a0 Z = true) : ((Jvm.Cond.castable "java/util/ArrayList" "java/util/List")).before a0 Z = true := hw _ (List.mem_of_getElem? (i := 128) rfl)
theorem w129 {Z : State} {a0 : Array Value} (hw : ∀ d ∈ tables_1, d.before a0 Z = true) : ((Jvm.Cond.code ({ cls := "java/util/ArrayList", name := "isEmpty", desc := "()Z" } : Jvm.MethodName) jdk_38_method_9_code (1 : Nat) (Option.some Jvm.ClassFile.FieldType.boolean))).before a0 Z = true := hw _ (List.mem_of_getElem? (i := 129) rfl)
theorem w130 {Z : State} {a0 : Array Value} (hw : ∀ d ∈ tables_1, d.before a0 Z = true) : ((Jvm.Cond.methodLink "com/example/keyhold/keyhold/model/KeyRing" (28 : Nat) ({ cls := "java/util/List", name := "copyOf", desc := "(Ljava/util/Collection;)Ljava/util/List;" } : Jvm.MethodName))).before a0 Z = true := hw _ (List.mem_of_getElem? (i := 130) rfl)
theorem w131 {Z : State} {a0 : Array Value} (hw : ∀ d ∈ tables_1, d.before a0 Z = true) : ((Jvm.Cond.static ({ cls := "java/util/List", name := "copyOf", desc := "(Ljava/util/Collection;)Ljava/util/List;" } : Jvm.MethodName))).before a0 Z = true := hw _ (List.mem_of_getElem? (i := 131) rfl)
theorem w132 {Z : State} {a0 : Array Value} (hw : ∀ d ∈ tables_1, d.before a0 Z = true) : ((Jvm.Cond.initialized "java/util/List")).before a0 Z = true := hw _ (List.mem_of_getElem? (i := 132) rfl)
theorem w133 {Z : State} {a0 : Array Value} (hw : ∀ d ∈ tables_1, d.before a0 Z = true) : ((Jvm.Cond.code ({ cls := "java/util/List", name := "copyOf", desc := "(Ljava/util/Collection;)Ljava/util/List;" } : Jvm.MethodName) jdk_40_method_48_code (1 : Nat) (Option.some (Jvm.ClassFile.FieldType.object "java/util/List")))).before a0 Z = true := hw _ (List.mem_of_getElem? (i := 133) rfl)
theorem w134 {Z : State} {a0 : Array Value} (hw : ∀ d ∈ tables_1, d.before a0 Z = true) : ((Jvm.Cond.methodLink "java/util/List" (112 : Nat) ({ cls := "java/util/ImmutableCollections", name := "listCopy", desc := "(Ljava/util/Collection;)Ljava/util/List;" } : Jvm.MethodName))).before a0 Z = true := hw _ (List.mem_of_getElem? (i := 134) rfl)
theorem w135 {Z : State} {a0 : Array Value} (hw : ∀ d ∈ tables_1, d.before a0 Z = true) : ((Jvm.Cond.static ({ cls := "java/util/ImmutableCollections", name := "listCopy", desc := "(Ljava/util/Collection;)Ljava/util/List;" } : Jvm.MethodName))).before a0 Z = true := hw _ (List.mem_of_getElem? (i := 135) rfl)
theorem w136 {Z : State} {a0 : Array Value} (hw : ∀ d ∈ tables_1, d.before a0 Z = true) : ((Jvm.Cond.initialized "java/util/ImmutableCollections")).before a0 Z = true := hw _ (List.mem_of_getElem? (i := 136) rfl)
theorem w137 {Z : State} {a0 : Array Value} (hw : ∀ d ∈ tables_1, d.before a0 Z = true) : ((Jvm.Cond.code ({ cls := "java/util/ImmutableCollections", name := "listCopy", desc := "(Ljava/util/Collection;)Ljava/util/List;" } : Jvm.MethodName) jdk_56_method_3_code (2 : Nat) (Option.some (Jvm.ClassFile.FieldType.object "java/util/List")))).before a0 Z = true := hw _ (List.mem_of_getElem? (i := 137) rfl)
theorem w138 {Z : State} {a0 : Array Value} (hw : ∀ d ∈ tables_1, d.before a0 Z = true) : ((Jvm.Cond.classLink "java/util/ImmutableCollections" (10 : Nat) "java/util/ImmutableCollections$List12")).before a0 Z = true := hw _ (List.mem_of_getElem? (i := 138) rfl)
theorem w139 {Z : State} {a0 : Array Value} (hw : ∀ d ∈ tables_1, d.before a0 Z = true) : ((Jvm.Cond.superclass "java/util/ArrayList" "java/util/AbstractList")).before a0 Z = true := hw _ (List.mem_of_getElem? (i := 139) rfl)
theorem w140 {Z : State} {a0 : Array Value} (hw : ∀ d ∈ tables_1, d.before a0 Z = true) : ((Jvm.Cond.superclass "java/util/AbstractList" "java/util/AbstractCollection")).before a0 Z = true := hw _ (List.mem_of_getElem? (i := 140) rfl)
theorem w141 {Z : State} {a0 : Array Value} (hw : ∀ d ∈ tables_1, d.before a0 Z = true) : ((Jvm.Cond.superclass "java/util/AbstractCollection" "java/lang/Object")).before a0 Z = true := hw _ (List.mem_of_getElem? (i := 141) rfl)
theorem w142 {Z : State} {a0 : Array Value} (hw : ∀ d ∈ tables_1, d.before a0 Z = true) : ((Jvm.Cond.noSuperclass "java/lang/Object")).before a0 Z = true := hw _ (List.mem_of_getElem? (i := 142) rfl)
theorem w143 {Z : State} {a0 : Array Value} (hw : ∀ d ∈ tables_1, d.before a0 Z = true) : ((Jvm.Cond.classLink "java/util/ImmutableCollections" (12 : Nat) "java/util/ImmutableCollections$ListN")).before a0 Z = true := hw _ (List.mem_of_getElem? (i := 143) rfl)
theorem w144 {Z : State} {a0 : Array Value} (hw : ∀ d ∈ tables_1, d.before a0 Z = true) : ((Jvm.Cond.methodLink "java/util/ImmutableCollections" (20 : Nat) ({ cls := "java/util/Collection", name := "isEmpty", desc := "()Z" } : Jvm.MethodName))).before a0 Z = true := hw _ (List.mem_of_getElem? (i := 144) rfl)
theorem w145 {Z : State} {a0 : Array Value} (hw : ∀ d ∈ tables_1, d.before a0 Z = true) : ((Jvm.Cond.declares ({ cls := "java/util/Collection", name := "isEmpty", desc := "()Z" } : Jvm.MethodName))).before a0 Z = true := hw _ (List.mem_of_getElem? (i := 145) rfl)
theorem w146 {Z : State} {a0 : Array Value} (hw : ∀ d ∈ tables_1, d.before a0 Z = true) : ((Jvm.Cond.interfaceMethod "java/util/Collection" "java/util/Collection" "isEmpty" "()Z")).before a0 Z = true := hw _ (List.mem_of_getElem? (i := 146) rfl)
theorem w147 {Z : State} {a0 : Array Value} (hw : ∀ d ∈ tables_1, d.before a0 Z = true) : ((Jvm.Cond.selects "java/util/ArrayList" ({ cls := "java/util/Collection", name := "isEmpty", desc := "()Z" } : Jvm.MethodName) ({ cls := "java/util/ArrayList", name := "isEmpty", desc := "()Z" } : Jvm.MethodName))).before a0 Z = true := hw _ (List.mem_of_getElem? (i := 147) rfl)
theorem w148 {Z : State} {a0 : Array Value} (hw : ∀ d ∈ tables_1, d.before a0 Z = true) : ((Jvm.Cond.castable "java/util/ArrayList" "java/util/Collection")).before a0 Z = true := hw _ (List.mem_of_getElem? (i := 148) rfl)
theorem w149 {Z : State} {a0 : Array Value} (hw : ∀ d ∈ tables_1, d.before a0 Z = true) : ((Jvm.Cond.methodLink "java/util/ImmutableCollections" (30 : Nat) ({ cls := "java/util/Collection", name := "toArray", desc := "()[Ljava/lang/Object;" } : Jvm.MethodName))).before a0 Z = true := hw _ (List.mem_of_getElem? (i := 149) rfl)
theorem w150 {Z : State} {a0 : Array Value} (hw : ∀ d ∈ tables_1, d.before a0 Z = true) : ((Jvm.Cond.declares ({ cls := "java/util/Collection", name := "toArray", desc := "()[Ljava/lang/Object;" } : Jvm.MethodName))).before a0 Z = true := hw _ (List.mem_of_getElem? (i := 150) rfl)
theorem w151 {Z : State} {a0 : Array Value} (hw : ∀ d ∈ tables_1, d.before a0 Z = true) : ((Jvm.Cond.interfaceMethod "java/util/Collection" "java/util/Collection" "toArray" "()[Ljava/lang/Object;")).before a0 Z = true := hw _ (List.mem_of_getElem? (i := 151) rfl)
theorem w152 {Z : State} {a0 : Array Value} (hw : ∀ d ∈ tables_1, d.before a0 Z = true) : ((Jvm.Cond.selects "java/util/ArrayList" ({ cls := "java/util/Collection", name := "toArray", desc := "()[Ljava/lang/Object;" } : Jvm.MethodName) ({ cls := "java/util/ArrayList", name := "toArray", desc := "()[Ljava/lang/Object;" } : Jvm.MethodName))).before a0 Z = true := hw _ (List.mem_of_getElem? (i := 152) rfl)
theorem w153 {Z : State} {a0 : Array Value} (hw : ∀ d ∈ tables_1, d.before a0 Z = true) : ((Jvm.Cond.instanceMethod ({ cls := "java/util/ArrayList", name := "toArray", desc := "()[Ljava/lang/Object;" } : Jvm.MethodName))).before a0 Z = true := hw _ (List.mem_of_getElem? (i := 153) rfl)
theorem w154 {Z : State} {a0 : Array Value} (hw : ∀ d ∈ tables_1, d.before a0 Z = true) : ((Jvm.Cond.publicMethod ({ cls := "java/util/ArrayList", name := "toArray", desc := "()[Ljava/lang/Object;" } : Jvm.MethodName))).before a0 Z = true := hw _ (List.mem_of_getElem? (i := 154) rfl)
theorem w155 {Z : State} {a0 : Array Value} (hw : ∀ d ∈ tables_1, d.before a0 Z = true) : ((Jvm.Cond.unhidden "java/util/ArrayList" "toArray" "()[Ljava/lang/Object;")).before a0 Z = true := hw _ (List.mem_of_getElem? (i := 155) rfl)
theorem w156 {Z : State} {a0 : Array Value} (hw : ∀ d ∈ tables_1, d.before a0 Z = true) : ((Jvm.Cond.code ({ cls := "java/util/ArrayList", name := "toArray", desc := "()[Ljava/lang/Object;" } : Jvm.MethodName) jdk_38_method_16_code (1 : Nat) (Option.some (Jvm.ClassFile.FieldType.array (Jvm.ClassFile.FieldType.object "java/lang/Object"))))).before a0 Z = true := hw _ (List.mem_of_getElem? (i := 156) rfl)
theorem w157 {Z : State} {a0 : Array Value} (hw : ∀ d ∈ tables_1, d.before a0 Z = true) : ((Jvm.Cond.methodLink "java/util/ArrayList" (66 : Nat) ({ cls := "java/util/Arrays", name := "copyOf", desc := "([Ljava/lang/Object;I)[Ljava/lang/Object;" } : Jvm.MethodName))).before a0 Z = true := hw _ (List.mem_of_getElem? (i := 157) rfl)
theorem w158 {Z : State} {a0 : Array Value} (hw : ∀ d ∈ tables_1, d.before a0 Z = true) : ((Jvm.Cond.static ({ cls := "java/util/Arrays", name := "copyOf", desc := "([Ljava/lang/Object;I)[Ljava/lang/Object;" } : Jvm.MethodName))).before a0 Z = true := hw _ (List.mem_of_getElem? (i := 158) rfl)
theorem w159 {Z : State} {a0 : Array Value} (hw : ∀ d ∈ tables_1, d.before a0 Z = true) : ((Jvm.Cond.initialized "java/util/Arrays")).before a0 Z = true := hw _ (List.mem_of_getElem? (i := 159) rfl)
theorem w160 {Z : State} {a0 : Array Value} (hw : ∀ d ∈ tables_1, d.before a0 Z = true) : ((Jvm.Cond.code ({ cls := "java/util/Arrays", name := "copyOf", desc := "([Ljava/lang/Object;I)[Ljava/lang/Object;" } : Jvm.MethodName) jdk_65_method_119_code (2 : Nat) (Option.some (Jvm.ClassFile.FieldType.array (Jvm.ClassFile.FieldType.object "java/lang/Object"))))).before a0 Z = true := hw _ (List.mem_of_getElem? (i := 160) rfl)
theorem w161 {Z : State} {a0 : Array Value} (hw : ∀ d ∈ tables_1, d.before a0 Z = true) : ((Jvm.Cond.methodLink "java/util/Arrays" (86 : Nat) ({ cls := "java/lang/Object", name := "getClass", desc := "()Ljava/lang/Class;" } : Jvm.MethodName))).before a0 Z = true := hw _ (List.mem_of_getElem? (i := 161) rfl)
theorem w162 {Z : State} {a0 : Array Value} (hw : ∀ d ∈ tables_1, d.before a0 Z = true) : ((Jvm.Cond.declares ({ cls := "java/lang/Object", name := "getClass", desc := "()Ljava/lang/Class;" } : Jvm.MethodName))).before a0 Z = true := hw _ (List.mem_of_getElem? (i := 162) rfl)
theorem w163 {Z : State} {a0 : Array Value} (hw : ∀ d ∈ tables_1, d.before a0 Z = true) : ((Jvm.Cond.instanceMethod ({ cls := "java/lang/Object", name := "getClass", desc := "()Ljava/lang/Class;" } : Jvm.MethodName))).before a0 Z = true := hw _ (List.mem_of_getElem? (i := 163) rfl)
theorem w164 {Z : State} {a0 : Array Value} (hw : ∀ d ∈ tables_1, d.before a0 Z = true) : ((Jvm.Cond.selects "[Ljava/lang/Object;" ({ cls := "java/lang/Object", name := "getClass", desc := "()Ljava/lang/Class;" } : Jvm.MethodName) ({ cls := "java/lang/Object", name := "getClass", desc := "()Ljava/lang/Class;" } : Jvm.MethodName))).before a0 Z = true := hw _ (List.mem_of_getElem? (i := 164) rfl)
theorem w165 {Z : State} {a0 : Array Value} (hw : ∀ d ∈ tables_1, d.before a0 Z = true) : ((Jvm.Cond.native ({ cls := "java/lang/Object", name := "getClass", desc := "()Ljava/lang/Class;" } : Jvm.MethodName))).before a0 Z = true := hw _ (List.mem_of_getElem? (i := 165) rfl)
theorem w167 {Z : State} {a0 : Array Value} (hw : ∀ d ∈ tables_1, d.before a0 Z = true) : ((Jvm.Cond.methodLink "java/util/Arrays" (300 : Nat) ({ cls := "java/util/Arrays", name := "copyOf", desc := "([Ljava/lang/Object;ILjava/lang/Class;)[Ljava/lang/Object;" } : Jvm.MethodName))).before a0 Z = true := hw _ (List.mem_of_getElem? (i := 167) rfl)
theorem w168 {Z : State} {a0 : Array Value} (hw : ∀ d ∈ tables_1, d.before a0 Z = true) : ((Jvm.Cond.static ({ cls := "java/util/Arrays", name := "copyOf", desc := "([Ljava/lang/Object;ILjava/lang/Class;)[Ljava/lang/Object;" } : Jvm.MethodName))).before a0 Z = true := hw _ (List.mem_of_getElem? (i := 168) rfl)
theorem w169 {Z : State} {a0 : Array Value} (hw : ∀ d ∈ tables_1, d.before a0 Z = true) : ((Jvm.Cond.code ({ cls := "java/util/Arrays", name := "copyOf", desc := "([Ljava/lang/Object;ILjava/lang/Class;)[Ljava/lang/Object;" } : Jvm.MethodName) jdk_65_method_120_code (4 : Nat) (Option.some (Jvm.ClassFile.FieldType.array (Jvm.ClassFile.FieldType.object "java/lang/Object"))))).before a0 Z = true := hw _ (List.mem_of_getElem? (i := 169) rfl)
theorem w170 {Z : State} {a0 : Array Value} (hw : ∀ d ∈ tables_1, d.before a0 Z = true) : ((Jvm.Cond.classLink "java/util/Arrays" (110 : Nat) "[Ljava/lang/Object;")).before a0 Z = true := hw _ (List.mem_of_getElem? (i := 170) rfl)
theorem w171 {Z : State} {a0 : Array Value} (hw : ∀ d ∈ tables_1, d.before a0 Z = true) : ((Jvm.Cond.classLink "java/util/Arrays" (2 : Nat) "java/lang/Object")).before a0 Z = true := hw _ (List.mem_of_getElem? (i := 171) rfl)
theorem w172 {Z : State} {a0 : Array Value} (hw : ∀ d ∈ tables_1, d.before a0 Z = true) : ((Jvm.Cond.methodLink "java/util/Arrays" (304 : Nat) ({ cls := "java/lang/Math", name := "min", desc := "(II)I" } : Jvm.MethodName))).before a0 Z = true := hw _ (List.mem_of_getElem? (i := 172) rfl)
theorem w173 {Z : State} {a0 : Array Value} (hw : ∀ d ∈ tables_1, d.before a0 Z = true) : ((Jvm.Cond.static ({ cls := "java/lang/Math", name := "min", desc := "(II)I" } : Jvm.MethodName))).before a0 Z = true := hw _ (List.mem_of_getElem? (i := 173) rfl)
theorem w174 {Z : State} {a0 : Array Value} (hw : ∀ d ∈ tables_1, d.before a0 Z = true) : ((Jvm.Cond.code ({ cls := "java/lang/Math", name := "min", desc := "(II)I" } : Jvm.MethodName) jdk_29_method_69_code (2 : Nat) (Option.some Jvm.ClassFile.FieldType.int))).before a0 Z = true := hw _ (List.mem_of_getElem? (i := 174) rfl)
theorem w175 {Z : State} {a0 : Array Value} (hw : ∀ d ∈ tables_1, d.before a0 Z = true) : ((Jvm.Cond.methodLink "java/util/Arrays" (150 : Nat) ({ cls := "java/lang/System", name := "arraycopy", desc := "(Ljava/lang/Object;ILjava/lang/Object;II)V" } : Jvm.MethodName))).before a0 Z = true := hw _ (List.mem_of_getElem? (i := 175) rfl)
theorem w176 {Z : State} {a0 : Array Value} (hw : ∀ d ∈ tables_1, d.before a0 Z = true) : ((Jvm.Cond.static ({ cls := "java/lang/System", name := "arraycopy", desc := "(Ljava/lang/Object;ILjava/lang/Object;II)V" } : Jvm.MethodName))).before a0 Z = true := hw _ (List.mem_of_getElem? (i := 176) rfl)
theorem w177 {Z : State} {a0 : Array Value} (hw : ∀ d ∈ tables_1, d.before a0 Z = true) : ((Jvm.Cond.initialized "java/lang/System")).before a0 Z = true := hw _ (List.mem_of_getElem? (i := 177) rfl)
theorem w178 {Z : State} {a0 : Array Value} (hw : ∀ d ∈ tables_1, d.before a0 Z = true) : ((Jvm.Cond.native ({ cls := "java/lang/System", name := "arraycopy", desc := "(Ljava/lang/Object;ILjava/lang/Object;II)V" } : Jvm.MethodName))).before a0 Z = true := hw _ (List.mem_of_getElem? (i := 178) rfl)
theorem w179 {Z : State} {a0 : Array Value} (hw : ∀ d ∈ tables_1, d.before a0 Z = true) : ((Jvm.Cond.methodLink "java/util/ImmutableCollections" (34 : Nat) ({ cls := "java/util/List", name := "of", desc := "([Ljava/lang/Object;)Ljava/util/List;" } : Jvm.MethodName))).before a0 Z = true := hw _ (List.mem_of_getElem? (i := 179) rfl)
theorem w180 {Z : State} {a0 : Array Value} (hw : ∀ d ∈ tables_1, d.before a0 Z = true) : ((Jvm.Cond.static ({ cls := "java/util/List", name := "of", desc := "([Ljava/lang/Object;)Ljava/util/List;" } : Jvm.MethodName))).before a0 Z = true := hw _ (List.mem_of_getElem? (i := 180) rfl)
theorem w181 {Z : State} {a0 : Array Value} (hw : ∀ d ∈ tables_1, d.before a0 Z = true) : ((Jvm.Cond.code ({ cls := "java/util/List", name := "of", desc := "([Ljava/lang/Object;)Ljava/util/List;" } : Jvm.MethodName) jdk_40_method_47_code (2 : Nat) (Option.some (Jvm.ClassFile.FieldType.object "java/util/List")))).before a0 Z = true := hw _ (List.mem_of_getElem? (i := 181) rfl)
theorem w182 {Z : State} {a0 : Array Value} (hw : ∀ d ∈ tables_1, d.before a0 Z = true) : ((Jvm.Cond.classLink "java/util/List" (96 : Nat) "java/util/ImmutableCollections$List12")).before a0 Z = true := hw _ (List.mem_of_getElem? (i := 182) rfl)
theorem w183 {Z : State} {a0 : Array Value} (hw : ∀ d ∈ tables_1, d.before a0 Z = true) : ((Jvm.Cond.instantiable "java/util/ImmutableCollections$List12" (2 : Nat))).before a0 Z = true := hw _ (List.mem_of_getElem? (i := 183) rfl)
theorem w184 {Z : State} {a0 : Array Value} (hw : ∀ d ∈ tables_1, d.before a0 Z = true) : ((Jvm.Cond.initialized "java/util/ImmutableCollections$List12")).before a0 Z = true := hw _ (List.mem_of_getElem? (i := 184) rfl)
theorem w185 {Z : State} {a0 : Array Value} (hw : ∀ d ∈ tables_1, d.before a0 Z = true) : ((Jvm.Cond.methodLink "java/util/List" (98 : Nat) ({ cls := "java/util/ImmutableCollections$List12", name := "<init>", desc := "(Ljava/lang/Object;)V" } : Jvm.MethodName))).before a0 Z = true := hw _ (List.mem_of_getElem? (i := 185) rfl)
theorem w186 {Z : State} {a0 : Array Value} (hw : ∀ d ∈ tables_1, d.before a0 Z = true) : ((Jvm.Cond.instanceMethod ({ cls := "java/util/ImmutableCollections$List12", name := "<init>", desc := "(Ljava/lang/Object;)V" } : Jvm.MethodName))).before a0 Z = true := hw _ (List.mem_of_getElem? (i := 186) rfl)
theorem w188 {Z : State} {a0 : Array Value} (hw : ∀ d ∈ tables_1, d.before a0 Z = true) : ((Jvm.Cond.code ({ cls := "java/util/ImmutableCollections$List12", name := "<init>", desc := "(Ljava/lang/Object;)V" } : Jvm.MethodName) jdk_44_method_1_code (2 : Nat) (Option.none : Option Jvm.ClassFile.FieldType))).before a0 Z = true := hw _ (List.mem_of_getElem? (i := 188) rfl)
theorem w189 {Z : State} {a0 : Array Value} (hw : ∀ d ∈ tables_1, d.before a0 Z = true) : ((Jvm.Cond.methodLink "java/util/ImmutableCollections$List12" (1 : Nat) ({ cls := "java/util/ImmutableCollections$AbstractImmutableList", name := "<init>", desc := "()V" } : Jvm.MethodName))).before a0 Z = true := hw _ (List.mem_of_getElem? (i := 189) rfl)
theorem w190 {Z : State} {a0 : Array Value} (hw : ∀ d ∈ tables_1, d.before a0 Z = true) : ((Jvm.Cond.instanceMethod ({ cls := "java/util/ImmutableCollections$AbstractImmutableList", name := "<init>", desc := "()V" } : Jvm.MethodName))).before a0 Z = true := hw _ (List.mem_of_getElem? (i := 190) rfl)
theorem w193 {Z : State} {a0 : Array Value} (hw : ∀ d ∈ tables_1, d.before a0 Z = true) : ((Jvm.Cond.initialized "java/util/ImmutableCollections$AbstractImmutableList")).before a0 Z = true := hw _ (List.mem_of_getElem? (i := 193) rfl)
theorem w194 {Z : State} {a0 : Array Value} (hw : ∀ d ∈ tables_1, d.before a0 Z = true) : ((Jvm.Cond.code ({ cls := "java/util/ImmutableCollections$AbstractImmutableList", name := "<init>", desc := "()V" } : Jvm.MethodName) jdk_46_method_1_code (1 : Nat) (Option.none : Option Jvm.ClassFile.FieldType))).before a0 Z = true := hw _ (List.mem_of_getElem? (i := 194) rfl)
theorem w195 {Z : State} {a0 : Array Value} (hw : ∀ d ∈ tables_1, d.before a0 Z = true) : ((Jvm.Cond.methodLink "java/util/ImmutableCollections$AbstractImmutableList" (1 : Nat) ({ cls := "java/util/ImmutableCollections$AbstractImmutableCollection", name := "<init>", desc := "()V" } : Jvm.MethodName))).before a0 Z = true := hw _ (List.mem_of_getElem? (i := 195) rfl)
theorem w196 {Z : State} {a0 : Array Value} (hw : ∀ d ∈ tables_1, d.before a0 Z = true) : ((Jvm.Cond.instanceMethod ({ cls := "java/util/ImmutableCollections$AbstractImmutableCollection", name := "<init>", desc := "()V" } : Jvm.MethodName))).before a0 Z = true := hw _ (List.mem_of_getElem? (i := 196) rfl)
theorem w199 {Z : State} {a0 : Array Value} (hw : ∀ d ∈ tables_1, d.before a0 Z = true) : ((Jvm.Cond.initialized "java/util/ImmutableCollections$AbstractImmutableCollection")).before a0 Z = true := hw _ (List.mem_of_getElem? (i := 199) rfl)
theorem w200 {Z : State} {a0 : Array Value} (hw : ∀ d ∈ tables_1, d.before a0 Z = true) : ((Jvm.Cond.code ({ cls := "java/util/ImmutableCollections$AbstractImmutableCollection", name := "<init>", desc := "()V" } : Jvm.MethodName) jdk_47_method_1_code (1 : Nat) (Option.none : Option Jvm.ClassFile.FieldType))).before a0 Z = true := hw _ (List.mem_of_getElem? (i := 200) rfl)
theorem w201 {Z : State} {a0 : Array Value} (hw : ∀ d ∈ tables_1, d.before a0 Z = true) : ((Jvm.Cond.methodLink "java/util/ImmutableCollections$AbstractImmutableCollection" (1 : Nat) ({ cls := "java/util/AbstractCollection", name := "<init>", desc := "()V" } : Jvm.MethodName))).before a0 Z = true := hw _ (List.mem_of_getElem? (i := 201) rfl)
theorem w203 {Z : State} {a0 : Array Value} (hw : ∀ d ∈ tables_1, d.before a0 Z = true) : ((Jvm.Cond.methodLink "java/util/ImmutableCollections$List12" (7 : Nat) ({ cls := "java/util/Objects", name := "requireNonNull", desc := "(Ljava/lang/Object;)Ljava/lang/Object;" } : Jvm.MethodName))).before a0 Z = true := hw _ (List.mem_of_getElem? (i := 203) rfl)
theorem w204 {Z : State} {a0 : Array Value} (hw : ∀ d ∈ tables_1, d.before a0 Z = true) : ((Jvm.Cond.static ({ cls := "java/util/Objects", name := "requireNonNull", desc := "(Ljava/lang/Object;)Ljava/lang/Object;" } : Jvm.MethodName))).before a0 Z = true := hw _ (List.mem_of_getElem? (i := 204) rfl)
theorem w205 {Z : State} {a0 : Array Value} (hw : ∀ d ∈ tables_1, d.before a0 Z = true) : ((Jvm.Cond.code ({ cls := "java/util/Objects", name := "requireNonNull", desc := "(Ljava/lang/Object;)Ljava/lang/Object;" } : Jvm.MethodName) jdk_31_method_10_code (1 : Nat) (Option.some (Jvm.ClassFile.FieldType.object "java/lang/Object")))).before a0 Z = true := hw _ (List.mem_of_getElem? (i := 205) rfl)
theorem w206 {Z : State} {a0 : Array Value} (hw : ∀ d ∈ tables_1, d.before a0 Z = true) : ((Jvm.Cond.fieldLink "java/util/ImmutableCollections$List12" (13 : Nat) "java/util/ImmutableCollections$List12" "e0" "Ljava/lang/Object;")).before a0 Z = true := hw _ (List.mem_of_getElem? (i := 206) rfl)
theorem w207 {Z : State} {a0 : Array Value} (hw : ∀ d ∈ tables_1, d.before a0 Z = true) : ((Jvm.Cond.laysFinal "java/util/ImmutableCollections$List12" "java/util/ImmutableCollections$List12" "e0" "Ljava/lang/Object;")).before a0 Z = true := hw _ (List.mem_of_getElem? (i := 207) rfl)
theorem w208 {Z : State} {a0 : Array Value} (hw : ∀ d ∈ tables_1, d.before a0 Z = true) : ((Jvm.Cond.fieldLinkNest "java/util/ImmutableCollections$List12" (19 : Nat) "java/util/ImmutableCollections" "EMPTY" "Ljava/lang/Object;" "java/util/ImmutableCollections")).before a0 Z = true := hw _ (List.mem_of_getElem? (i := 208) rfl)
theorem w209 {Z : State} {a0 : Array Value} (hw : ∀ d ∈ tables_1, d.before a0 Z = true) : ((Jvm.Cond.fieldLink "java/util/ImmutableCollections$List12" (24 : Nat) "java/util/ImmutableCollections$List12" "e1" "Ljava/lang/Object;")).before a0 Z = true := hw _ (List.mem_of_getElem? (i := 209) rfl)
theorem w210 {Z : State} {a0 : Array Value} (hw : ∀ d ∈ tables_1, d.before a0 Z = true) : ((Jvm.Cond.laysFinal "java/util/ImmutableCollections$List12" "java/util/ImmutableCollections$List12" "e1" "Ljava/lang/Object;")).before a0 Z = true := hw _ (List.mem_of_getElem? (i := 210) rfl)
theorem w211 {Z : State} {a0 : Array Value} (hw : ∀ d ∈ tables_1, d.before a0 Z = true) : ((Jvm.Cond.fieldLink "com/example/keyhold/keyhold/model/KeyRing" (32 : Nat) "com/example/keyhold/keyhold/model/KeyRing" "keys" "Ljava/util/List;")).before a0 Z = true := hw _ (List.mem_of_getElem? (i := 211) rfl)
theorem w212 {Z : State} {a0 : Array Value} (hw : ∀ d ∈ tables_1, d.before a0 Z = true) : ((Jvm.Cond.laysFinal "com/example/keyhold/keyhold/model/KeyRing" "com/example/keyhold/keyhold/model/KeyRing" "keys" "Ljava/util/List;")).before a0 Z = true := hw _ (List.mem_of_getElem? (i := 212) rfl)
theorem w213 {Z : State} {a0 : Array Value} (hw : ∀ d ∈ tables_1, d.before a0 Z = true) : ((Jvm.Cond.methodLink "com/example/keyhold/keyhold/model/KeyRingInUsePinLaw" (30 : Nat) ({ cls := "com/example/keyhold/keyhold/model/KeyRing", name := "inUse", desc := "()Lcom/example/keyhold/keyhold/model/SigningKey;" } : Jvm.MethodName))).before a0 Z = true := hw _ (List.mem_of_getElem? (i := 213) rfl)
theorem w214 {Z : State} {a0 : Array Value} (hw : ∀ d ∈ tables_1, d.before a0 Z = true) : ((Jvm.Cond.declares ({ cls := "com/example/keyhold/keyhold/model/KeyRing", name := "inUse", desc := "()Lcom/example/keyhold/keyhold/model/SigningKey;" } : Jvm.MethodName))).before a0 Z = true := hw _ (List.mem_of_getElem? (i := 214) rfl)
theorem w215 {Z : State} {a0 : Array Value} (hw : ∀ d ∈ tables_1, d.before a0 Z = true) : ((Jvm.Cond.instanceMethod ({ cls := "com/example/keyhold/keyhold/model/KeyRing", name := "inUse", desc := "()Lcom/example/keyhold/keyhold/model/SigningKey;" } : Jvm.MethodName))).before a0 Z = true := hw _ (List.mem_of_getElem? (i := 215) rfl)
theorem w216 {Z : State} {a0 : Array Value} (hw : ∀ d ∈ tables_1, d.before a0 Z = true) : ((Jvm.Cond.selects "com/example/keyhold/keyhold/model/KeyRing" ({ cls := "com/example/keyhold/keyhold/model/KeyRing", name := "inUse", desc := "()Lcom/example/keyhold/keyhold/model/SigningKey;" } : Jvm.MethodName) ({ cls := "com/example/keyhold/keyhold/model/KeyRing", name := "inUse", desc := "()Lcom/example/keyhold/keyhold/model/SigningKey;" } : Jvm.MethodName))).before a0 Z = true := hw _ (List.mem_of_getElem? (i := 216) rfl)
theorem w217 {Z : State} {a0 : Array Value} (hw : ∀ d ∈ tables_1, d.before a0 Z = true) : ((Jvm.Cond.code ({ cls := "com/example/keyhold/keyhold/model/KeyRing", name := "inUse", desc := "()Lcom/example/keyhold/keyhold/model/SigningKey;" } : Jvm.MethodName) prog_7_method_2_code (1 : Nat) (Option.some (Jvm.ClassFile.FieldType.object "com/example/keyhold/keyhold/model/SigningKey")))).before a0 Z = true := hw _ (List.mem_of_getElem? (i := 217) rfl)
theorem w218 {Z : State} {a0 : Array Value} (hw : ∀ d ∈ tables_1, d.before a0 Z = true) : ((Jvm.Cond.methodLink "com/example/keyhold/keyhold/model/KeyRing" (38 : Nat) ({ cls := "java/util/List", name := "get", desc := "(I)Ljava/lang/Object;" } : Jvm.MethodName))).before a0 Z = true := hw _ (List.mem_of_getElem? (i := 218) rfl)
theorem w219 {Z : State} {a0 : Array Value} (hw : ∀ d ∈ tables_1, d.before a0 Z = true) : ((Jvm.Cond.declares ({ cls := "java/util/List", name := "get", desc := "(I)Ljava/lang/Object;" } : Jvm.MethodName))).before a0 Z = true := hw _ (List.mem_of_getElem? (i := 219) rfl)
theorem w220 {Z : State} {a0 : Array Value} (hw : ∀ d ∈ tables_1, d.before a0 Z = true) : ((Jvm.Cond.interfaceMethod "java/util/List" "java/util/List" "get" "(I)Ljava/lang/Object;")).before a0 Z = true := hw _ (List.mem_of_getElem? (i := 220) rfl)
theorem w221 {Z : State} {a0 : Array Value} (hw : ∀ d ∈ tables_1, d.before a0 Z = true) : ((Jvm.Cond.selects "java/util/ImmutableCollections$List12" ({ cls := "java/util/List", name := "get", desc := "(I)Ljava/lang/Object;" } : Jvm.MethodName) ({ cls := "java/util/ImmutableCollections$List12", name := "get", desc := "(I)Ljava/lang/Object;" } : Jvm.MethodName))).before a0 Z = true := hw _ (List.mem_of_getElem? (i := 221) rfl)
theorem w222 {Z : State} {a0 : Array Value} (hw : ∀ d ∈ tables_1, d.before a0 Z = true) : ((Jvm.Cond.instanceMethod ({ cls := "java/util/ImmutableCollections$List12", name := "get", desc := "(I)Ljava/lang/Object;" } : Jvm.MethodName))).before a0 Z = true := hw _ (List.mem_of_getElem? (i := 222) rfl)
theorem w223 {Z : State} {a0 : Array Value} (hw : ∀ d ∈ tables_1, d.before a0 Z = true) : ((Jvm.Cond.publicMethod ({ cls := "java/util/ImmutableCollections$List12", name := "get", desc := "(I)Ljava/lang/Object;" } : Jvm.MethodName))).before a0 Z = true := hw _ (List.mem_of_getElem? (i := 223) rfl)
theorem w224 {Z : State} {a0 : Array Value} (hw : ∀ d ∈ tables_1, d.before a0 Z = true) : ((Jvm.Cond.unhidden "java/util/ImmutableCollections$List12" "get" "(I)Ljava/lang/Object;")).before a0 Z = true := hw _ (List.mem_of_getElem? (i := 224) rfl)
theorem w225 {Z : State} {a0 : Array Value} (hw : ∀ d ∈ tables_1, d.before a0 Z = true) : ((Jvm.Cond.castable "java/util/ImmutableCollections$List12" "java/util/List")).before a0 Z = true := hw _ (List.mem_of_getElem? (i := 225) rfl)
theorem w226 {Z : State} {a0 : Array Value} (hw : ∀ d ∈ tables_1, d.before a0 Z = true) : ((Jvm.Cond.code ({ cls := "java/util/ImmutableCollections$List12", name := "get", desc := "(I)Ljava/lang/Object;" } : Jvm.MethodName) jdk_44_method_5_code (2 : Nat) (Option.some (Jvm.ClassFile.FieldType.object "java/lang/Object")))).before a0 Z = true := hw _ (List.mem_of_getElem? (i := 226) rfl)
theorem w227 {Z : State} {a0 : Array Value} (hw : ∀ d ∈ tables_1, d.before a0 Z = true) : ((Jvm.Cond.classLink "com/example/keyhold/keyhold/model/KeyRing" (42 : Nat) "com/example/keyhold/keyhold/model/SigningKey")).before a0 Z = true := hw _ (List.mem_of_getElem? (i := 227) rfl)
theorem w229 {Z : State} {a0 : Array Value} (hw : ∀ d ∈ tables_1, d.before a0 Z = true) : ((Jvm.Cond.methodLink "com/example/keyhold/keyhold/model/KeyRingInUsePinLaw" (34 : Nat) ({ cls := "java/util/ArrayList", name := "add", desc := "(ILjava/lang/Object;)V" } : Jvm.MethodName))).before a0 Z = true := hw _ (List.mem_of_getElem? (i := 229) rfl)
theorem w230 {Z : State} {a0 : Array Value} (hw : ∀ d ∈ tables_1, d.before a0 Z = true) : ((Jvm.Cond.declares ({ cls := "java/util/ArrayList", name := "add", desc := "(ILjava/lang/Object;)V" } : Jvm.MethodName))).before a0 Z = true := hw _ (List.mem_of_getElem? (i := 230) rfl)
theorem w231 {Z : State} {a0 : Array Value} (hw : ∀ d ∈ tables_1, d.before a0 Z = true) : ((Jvm.Cond.instanceMethod ({ cls := "java/util/ArrayList", name := "add", desc := "(ILjava/lang/Object;)V" } : Jvm.MethodName))).before a0 Z = true := hw _ (List.mem_of_getElem? (i := 231) rfl)
theorem w232 {Z : State} {a0 : Array Value} (hw : ∀ d ∈ tables_1, d.before a0 Z = true) : ((Jvm.Cond.selects "java/util/ArrayList" ({ cls := "java/util/ArrayList", name := "add", desc := "(ILjava/lang/Object;)V" } : Jvm.MethodName) ({ cls := "java/util/ArrayList", name := "add", desc := "(ILjava/lang/Object;)V" } : Jvm.MethodName))).before a0 Z = true := hw _ (List.mem_of_getElem? (i := 232) rfl)
theorem w233 {Z : State} {a0 : Array Value} (hw : ∀ d ∈ tables_1, d.before a0 Z = true) : ((Jvm.Cond.code ({ cls := "java/util/ArrayList", name := "add", desc := "(ILjava/lang/Object;)V" } : Jvm.MethodName) jdk_38_method_26_code (5 : Nat) (Option.none : Option Jvm.ClassFile.FieldType))).before a0 Z = true := hw _ (List.mem_of_getElem? (i := 233) rfl)
theorem w234 {Z : State} {a0 : Array Value} (hw : ∀ d ∈ tables_1, d.before a0 Z = true) : ((Jvm.Cond.methodLink "java/util/ArrayList" (135 : Nat) ({ cls := "java/util/ArrayList", name := "rangeCheckForAdd", desc := "(I)V" } : Jvm.MethodName))).before a0 Z = true := hw _ (List.mem_of_getElem? (i := 234) rfl)
theorem w235 {Z : State} {a0 : Array Value} (hw : ∀ d ∈ tables_1, d.before a0 Z = true) : ((Jvm.Cond.instanceMethod ({ cls := "java/util/ArrayList", name := "rangeCheckForAdd", desc := "(I)V" } : Jvm.MethodName))).before a0 Z = true := hw _ (List.mem_of_getElem? (i := 235) rfl)
theorem w236 {Z : State} {a0 : Array Value} (hw : ∀ d ∈ tables_1, d.before a0 Z = true) : ((Jvm.Cond.privateMethod ({ cls := "java/util/ArrayList", name := "rangeCheckForAdd", desc := "(I)V" } : Jvm.MethodName))).before a0 Z = true := hw _ (List.mem_of_getElem? (i := 236) rfl)
theorem w237 {Z : State} {a0 : Array Value} (hw : ∀ d ∈ tables_1, d.before a0 Z = true) : ((Jvm.Cond.selects "java/util/ArrayList" ({ cls := "java/util/ArrayList", name := "rangeCheckForAdd", desc := "(I)V" } : Jvm.MethodName) ({ cls := "java/util/ArrayList", name := "rangeCheckForAdd", desc := "(I)V" } : Jvm.MethodName))).before a0 Z = true := hw _ (List.mem_of_getElem? (i := 237) rfl)
theorem w238 {Z : State} {a0 : Array Value} (hw : ∀ d ∈ tables_1, d.before a0 Z = true) : ((Jvm.Cond.code ({ cls := "java/util/ArrayList", name := "rangeCheckForAdd", desc := "(I)V" } : Jvm.MethodName) jdk_38_method_45_code (2 : Nat) (Option.none : Option Jvm.ClassFile.FieldType))).before a0 Z = true := hw _ (List.mem_of_getElem? (i := 238) rfl)
theorem w239 {Z : State} {a0 : Array Value} (hw : ∀ d ∈ tables_1, d.before a0 Z = true) : ((Jvm.Cond.methodLink "java/util/ArrayList" (112 : Nat) ({ cls := "java/lang/System", name := "arraycopy", desc := "(Ljava/lang/Object;ILjava/lang/Object;II)V" } : Jvm.MethodName))).before a0 Z = true := hw _ (List.mem_of_getElem? (i := 239) rfl)
theorem w240 {Z : State} {a0 : Array Value} (hw : ∀ d ∈ tables_1, d.before a0 Z = true) : ((Jvm.Cond.methodLink "java/util/List" (109 : Nat) ({ cls := "java/util/ImmutableCollections", name := "listFromArray", desc := "([Ljava/lang/Object;)Ljava/util/List;" } : Jvm.MethodName))).before a0 Z = true := hw _ (List.mem_of_getElem? (i := 240) rfl)
theorem w241 {Z : State} {a0 : Array Value} (hw : ∀ d ∈ tables_1, d.before a0 Z = true) : ((Jvm.Cond.static ({ cls := "java/util/ImmutableCollections", name := "listFromArray", desc := "([Ljava/lang/Object;)Ljava/util/List;" } : Jvm.MethodName))).before a0 Z = true := hw _ (List.mem_of_getElem? (i := 241) rfl)
theorem w242 {Z : State} {a0 : Array Value} (hw : ∀ d ∈ tables_1, d.before a0 Z = true) : ((Jvm.Cond.code ({ cls := "java/util/ImmutableCollections", name := "listFromArray", desc := "([Ljava/lang/Object;)Ljava/util/List;" } : Jvm.MethodName) jdk_56_method_4_code (3 : Nat) (Option.some (Jvm.ClassFile.FieldType.object "java/util/List")))).before a0 Z = true := hw _ (List.mem_of_getElem? (i := 242) rfl)
theorem w243 {Z : State} {a0 : Array Value} (hw : ∀ d ∈ tables_1, d.before a0 Z = true) : ((Jvm.Cond.classLink "java/util/ImmutableCollections" (2 : Nat) "java/lang/Object")).before a0 Z = true := hw _ (List.mem_of_getElem? (i := 243) rfl)
theorem w244 {Z : State} {a0 : Array Value} (hw : ∀ d ∈ tables_1, d.before a0 Z = true) : ((Jvm.Cond.methodLink "java/util/ImmutableCollections" (37 : Nat) ({ cls := "java/util/Objects", name := "requireNonNull", desc := "(Ljava/lang/Object;)Ljava/lang/Object;" } : Jvm.MethodName))).before a0 Z = true := hw _ (List.mem_of_getElem? (i := 244) rfl)
theorem w245 {Z : State} {a0 : Array Value} (hw : ∀ d ∈ tables_1, d.before a0 Z = true) : ((Jvm.Cond.instantiable "java/util/ImmutableCollections$ListN" (2 : Nat))).before a0 Z = true := hw _ (List.mem_of_getElem? (i := 245) rfl)
theorem w246 {Z : State} {a0 : Array Value} (hw : ∀ d ∈ tables_1, d.before a0 Z = true) : ((Jvm.Cond.initialized "java/util/ImmutableCollections$ListN")).before a0 Z = true := hw _ (List.mem_of_getElem? (i := 246) rfl)
theorem w247 {Z : State} {a0 : Array Value} (hw : ∀ d ∈ tables_1, d.before a0 Z = true) : ((Jvm.Cond.methodLinkNest "java/util/ImmutableCollections" (43 : Nat) ({ cls := "java/util/ImmutableCollections$ListN", name := "<init>", desc := "([Ljava/lang/Object;Z)V" } : Jvm.MethodName) "java/util/ImmutableCollections")).before a0 Z = true := hw _ (List.mem_of_getElem? (i := 247) rfl)
theorem w248 {Z : State} {a0 : Array Value} (hw : ∀ d ∈ tables_1, d.before a0 Z = true) : ((Jvm.Cond.instanceMethod ({ cls := "java/util/ImmutableCollections$ListN", name := "<init>", desc := "([Ljava/lang/Object;Z)V" } : Jvm.MethodName))).before a0 Z = true := hw _ (List.mem_of_getElem? (i := 248) rfl)
theorem w250 {Z : State} {a0 : Array Value} (hw : ∀ d ∈ tables_1, d.before a0 Z = true) : ((Jvm.Cond.code ({ cls := "java/util/ImmutableCollections$ListN", name := "<init>", desc := "([Ljava/lang/Object;Z)V" } : Jvm.MethodName) jdk_45_method_1_code (3 : Nat) (Option.none : Option Jvm.ClassFile.FieldType))).before a0 Z = true := hw _ (List.mem_of_getElem? (i := 250) rfl)
theorem w251 {Z : State} {a0 : Array Value} (hw : ∀ d ∈ tables_1, d.before a0 Z = true) : ((Jvm.Cond.methodLink "java/util/ImmutableCollections$ListN" (1 : Nat) ({ cls := "java/util/ImmutableCollections$AbstractImmutableList", name := "<init>", desc := "()V" } : Jvm.MethodName))).before a0 Z = true := hw _ (List.mem_of_getElem? (i := 251) rfl)
theorem w255 {Z : State} {a0 : Array Value} (hw : ∀ d ∈ tables_1, d.before a0 Z = true) : ((Jvm.Cond.fieldLink "java/util/ImmutableCollections$ListN" (7 : Nat) "java/util/ImmutableCollections$ListN" "elements" "[Ljava/lang/Object;")).before a0 Z = true := hw _ (List.mem_of_getElem? (i := 255) rfl)
theorem w256 {Z : State} {a0 : Array Value} (hw : ∀ d ∈ tables_1, d.before a0 Z = true) : ((Jvm.Cond.laysFinal "java/util/ImmutableCollections$ListN" "java/util/ImmutableCollections$ListN" "elements" "[Ljava/lang/Object;")).before a0 Z = true := hw _ (List.mem_of_getElem? (i := 256) rfl)
theorem w257 {Z : State} {a0 : Array Value} (hw : ∀ d ∈ tables_1, d.before a0 Z = true) : ((Jvm.Cond.fieldLink "java/util/ImmutableCollections$ListN" (13 : Nat) "java/util/ImmutableCollections$ListN" "allowNulls" "Z")).before a0 Z = true := hw _ (List.mem_of_getElem? (i := 257) rfl)
theorem w258 {Z : State} {a0 : Array Value} (hw : ∀ d ∈ tables_1, d.before a0 Z = true) : ((Jvm.Cond.laysFinal "java/util/ImmutableCollections$ListN" "java/util/ImmutableCollections$ListN" "allowNulls" "Z")).before a0 Z = true := hw _ (List.mem_of_getElem? (i := 258) rfl)
theorem w259 {Z : State} {a0 : Array Value} (hw : ∀ d ∈ tables_1, d.before a0 Z = true) : ((Jvm.Cond.selects "java/util/ImmutableCollections$ListN" ({ cls := "java/util/List", name := "get", desc := "(I)Ljava/lang/Object;" } : Jvm.MethodName) ({ cls := "java/util/ImmutableCollections$ListN", name := "get", desc := "(I)Ljava/lang/Object;" } : Jvm.MethodName))).before a0 Z = true := hw _ (List.mem_of_getElem? (i := 259) rfl)
theorem w260 {Z : State} {a0 : Array Value} (hw : ∀ d ∈ tables_1, d.before a0 Z = true) : ((Jvm.Cond.instanceMethod ({ cls := "java/util/ImmutableCollections$ListN", name := "get", desc := "(I)Ljava/lang/Object;" } : Jvm.MethodName))).before a0 Z = true := hw _ (List.mem_of_getElem? (i := 260) rfl)
theorem w261 {Z : State} {a0 : Array Value} (hw : ∀ d ∈ tables_1, d.before a0 Z = true) : ((Jvm.Cond.publicMethod ({ cls := "java/util/ImmutableCollections$ListN", name := "get", desc := "(I)Ljava/lang/Object;" } : Jvm.MethodName))).before a0 Z = true := hw _ (List.mem_of_getElem? (i := 261) rfl)
theorem w262 {Z : State} {a0 : Array Value} (hw : ∀ d ∈ tables_1, d.before a0 Z = true) : ((Jvm.Cond.unhidden "java/util/ImmutableCollections$ListN" "get" "(I)Ljava/lang/Object;")).before a0 Z = true := hw _ (List.mem_of_getElem? (i := 262) rfl)
theorem w263 {Z : State} {a0 : Array Value} (hw : ∀ d ∈ tables_1, d.before a0 Z = true) : ((Jvm.Cond.castable "java/util/ImmutableCollections$ListN" "java/util/List")).before a0 Z = true := hw _ (List.mem_of_getElem? (i := 263) rfl)
theorem w264 {Z : State} {a0 : Array Value} (hw : ∀ d ∈ tables_1, d.before a0 Z = true) : ((Jvm.Cond.code ({ cls := "java/util/ImmutableCollections$ListN", name := "get", desc := "(I)Ljava/lang/Object;" } : Jvm.MethodName) jdk_45_method_4_code (2 : Nat) (Option.some (Jvm.ClassFile.FieldType.object "java/lang/Object")))).before a0 Z = true := hw _ (List.mem_of_getElem? (i := 264) rfl)
theorem w265 {Z : State} {a0 : Array Value} (hw : ∀ d ∈ tables_1, d.before a0 Z = true) : ((Jvm.Cond.methodLink "java/util/List" (100 : Nat) ({ cls := "java/util/ImmutableCollections$List12", name := "<init>", desc := "(Ljava/lang/Object;Ljava/lang/Object;)V" } : Jvm.MethodName))).before a0 Z = true := hw _ (List.mem_of_getElem? (i := 265) rfl)
theorem w266 {Z : State} {a0 : Array Value} (hw : ∀ d ∈ tables_1, d.before a0 Z = true) : ((Jvm.Cond.instanceMethod ({ cls := "java/util/ImmutableCollections$List12", name := "<init>", desc := "(Ljava/lang/Object;Ljava/lang/Object;)V" } : Jvm.MethodName))).before a0 Z = true := hw _ (List.mem_of_getElem? (i := 266) rfl)
theorem w267 {Z : State} {a0 : Array Value} (hw : ∀ d ∈ tables_1, d.before a0 Z = true) : ((Jvm.Cond.code ({ cls := "java/util/ImmutableCollections$List12", name := "<init>", desc := "(Ljava/lang/Object;Ljava/lang/Object;)V" } : Jvm.MethodName) jdk_44_method_2_code (3 : Nat) (Option.none : Option Jvm.ClassFile.FieldType))).before a0 Z = true := hw _ (List.mem_of_getElem? (i := 267) rfl)
theorem d_jdk_30_m1_0 : decode jdk_30_method_1_code 0 = .ok (.aload_n 0, 1) := by decide +kernel
theorem d_jdk_30_m1_1 : decode jdk_30_method_1_code 1 = .ok (.invokespecial 1, 3) := by decide +kernel
theorem d_jdk_30_m1_4 : decode jdk_30_method_1_code 4 = .ok (.return_, 1) := by decide +kernel
theorem pn0 : plainName "java/lang/Record" = true := by first | (simp [plainName, overriddenIn]; done) | decide +kernel
theorem d_jdk_31_m11_0 : decode jdk_31_method_11_code 0 = .ok (.aload_n 0, 1) := by decide +kernel
theorem d_jdk_31_m11_1 : decode jdk_31_method_11_code 1 = .ok (.ifnonnull 12, 3) := by decide +kernel
theorem d_jdk_31_m11_13 : decode jdk_31_method_11_code 13 = .ok (.aload_n 0, 1) := by decide +kernel
theorem d_jdk_31_m11_14 : decode jdk_31_method_11_code 14 = .ok (.areturn, 1) := by decide +kernel
theorem pn1 : plainName "java/util/Objects" = true := by first | (simp [plainName, overriddenIn]; done) | decide +kernel
theorem d_jdk_31_m10_0 : decode jdk_31_method_10_code 0 = .ok (.aload_n 0, 1) := by decide +kernel
theorem d_jdk_31_m10_1 : decode jdk_31_method_10_code 1 = .ok (.ifnonnull 11, 3) := by decide +kernel
theorem d_jdk_31_m10_12 : decode jdk_31_method_10_code 12 = .ok (.aload_n 0, 1) := by decide +kernel
theorem d_jdk_31_m10_13 : decode jdk_31_method_10_code 13 = .ok (.areturn, 1) := by decide +kernel
theorem d_jdk_29_m65_0 : decode jdk_29_method_65_code 0 = .ok (.iload_n 0, 1) := by decide +kernel
theorem d_jdk_29_m65_1 : decode jdk_29_method_65_code 1 = .ok (.iload_n 1, 1) := by decide +kernel
theorem d_jdk_29_m65_2 : decode jdk_29_method_65_code 2 = .ok (.if_icmp .lt 7, 3) := by decide +kernel
theorem d_jdk_29_m65_9 : decode jdk_29_method_65_code 9 = .ok (.iload_n 1, 1) := by decide +kernel
theorem d_jdk_29_m65_10 : decode jdk_29_method_65_code 10 = .ok (.ireturn, 1) := by decide +kernel
theorem d_jdk_29_m65_5 : decode jdk_29_method_65_code 5 = .ok (.iload_n 0, 1) := by decide +kernel
theorem d_jdk_29_m65_6 : decode jdk_29_method_65_code 6 = .ok (.goto 4, 3) := by decide +kernel
theorem d_jdk_29_m69_0 : decode jdk_29_method_69_code 0 = .ok (.iload_n 0, 1) := by decide +kernel
theorem d_jdk_29_m69_1 : decode jdk_29_method_69_code 1 = .ok (.iload_n 1, 1) := by decide +kernel
theorem d_jdk_29_m69_2 : decode jdk_29_method_69_code 2 = .ok (.if_icmp .gt 7, 3) := by decide +kernel
theorem d_jdk_29_m69_9 : decode jdk_29_method_69_code 9 = .ok (.iload_n 1, 1) := by decide +kernel
theorem d_jdk_29_m69_10 : decode jdk_29_method_69_code 10 = .ok (.ireturn, 1) := by decide +kernel
theorem d_jdk_29_m69_5 : decode jdk_29_method_69_code 5 = .ok (.iload_n 0, 1) := by decide +kernel
theorem d_jdk_29_m69_6 : decode jdk_29_method_69_code 6 = .ok (.goto 4, 3) := by decide +kernel
theorem d_jdk_52_m21_3 : decode jdk_52_method_21_code 3 = .ok (.iload 5, 2) := by decide +kernel
theorem d_jdk_52_m21_5 : decode jdk_52_method_21_code 5 = .ok (.iload 4, 2) := by decide +kernel
theorem d_jdk_52_m21_7 : decode jdk_52_method_21_code 7 = .ok (.if_icmp .ge 37, 3) := by decide +kernel
theorem d_jdk_52_m21_44 : decode jdk_52_method_21_code 44 = .ok (.iload 4, 2) := by decide +kernel
theorem d_jdk_52_m21_46 : decode jdk_52_method_21_code 46 = .ok (.ireturn, 1) := by decide +kernel
theorem d_jdk_52_m21_10 : decode jdk_52_method_21_code 10 = .ok (.aload_n 0, 1) := by decide +kernel
theorem d_jdk_52_m21_11 : decode jdk_52_method_21_code 11 = .ok (.iload_n 1, 1) := by decide +kernel
theorem d_jdk_52_m21_12 : decode jdk_52_method_21_code 12 = .ok (.caload, 1) := by decide +kernel
theorem d_jdk_52_m21_13 : decode jdk_52_method_21_code 13 = .ok (.istore 6, 2) := by decide +kernel
theorem d_jdk_52_m21_15 : decode jdk_52_method_21_code 15 = .ok (.iload 6, 2) := by decide +kernel
theorem d_jdk_52_m21_17 : decode jdk_52_method_21_code 17 = .ok (.sipush 255, 3) := by decide +kernel
theorem d_jdk_52_m21_20 : decode jdk_52_method_21_code 20 = .ok (.if_icmp .le 6, 3) := by decide +kernel
theorem d_jdk_52_m21_23 : decode jdk_52_method_21_code 23 = .ok (.iload 5, 2) := by decide +kernel
theorem d_jdk_52_m21_25 : decode jdk_52_method_21_code 25 = .ok (.ireturn, 1) := by decide +kernel
theorem d_jdk_52_m21_26 : decode jdk_52_method_21_code 26 = .ok (.aload_n 2, 1) := by decide +kernel
theorem d_jdk_52_m21_27 : decode jdk_52_method_21_code 27 = .ok (.iload_n 3, 1) := by decide +kernel
theorem d_jdk_52_m21_28 : decode jdk_52_method_21_code 28 = .ok (.iload 6, 2) := by decide +kernel
theorem d_jdk_52_m21_30 : decode jdk_52_method_21_code 30 = .ok (.i2b, 1) := by decide +kernel
theorem d_jdk_52_m21_31 : decode jdk_52_method_21_code 31 = .ok (.bastore, 1) := by decide +kernel
theorem d_jdk_52_m21_32 : decode jdk_52_method_21_code 32 = .ok (.iinc 1 1, 3) := by decide +kernel
theorem d_jdk_52_m21_35 : decode jdk_52_method_21_code 35 = .ok (.iinc 3 1, 3) := by decide +kernel
theorem d_jdk_52_m21_38 : decode jdk_52_method_21_code 38 = .ok (.iinc 5 1, 3) := by decide +kernel
theorem d_jdk_52_m21_41 : decode jdk_52_method_21_code 41 = .ok (.goto (-38), 3) := by decide +kernel
theorem d_jdk_52_m21_0 : decode jdk_52_method_21_code 0 = .ok (.iconst 0, 1) := by decide +kernel
theorem d_jdk_52_m21_1 : decode jdk_52_method_21_code 1 = .ok (.istore 5, 2) := by decide +kernel
theorem pn2 : plainName "java/lang/StringUTF16" = true := by first | (simp [plainName, overriddenIn]; done) | decide +kernel
theorem d_jdk_52_m16_0 : decode jdk_52_method_16_code 0 = .ok (.iload_n 2, 1) := by decide +kernel
theorem d_jdk_52_m16_1 : decode jdk_52_method_16_code 1 = .ok (.newarray .byte, 2) := by decide +kernel
theorem d_jdk_52_m16_3 : decode jdk_52_method_16_code 3 = .ok (.astore_n 3, 1) := by decide +kernel
theorem d_jdk_52_m16_4 : decode jdk_52_method_16_code 4 = .ok (.aload_n 0, 1) := by decide +kernel
theorem d_jdk_52_m16_5 : decode jdk_52_method_16_code 5 = .ok (.iload_n 1, 1) := by decide +kernel
theorem d_jdk_52_m16_6 : decode jdk_52_method_16_code 6 = .ok (.aload_n 3, 1) := by decide +kernel
theorem d_jdk_52_m16_7 : decode jdk_52_method_16_code 7 = .ok (.iconst 0, 1) := by decide +kernel
theorem d_jdk_52_m16_8 : decode jdk_52_method_16_code 8 = .ok (.iload_n 2, 1) := by decide +kernel
theorem d_jdk_52_m16_9 : decode jdk_52_method_16_code 9 = .ok (.invokestatic 115, 3) := by decide +kernel
theorem pd0 : parseMethodDescriptor "([CI[BII)I" = some ⟨[(.array .char), .int, (.array .byte), .int, .int], some .int⟩ := by decide +kernel
theorem d_jdk_52_m16_12 : decode jdk_52_method_16_code 12 = .ok (.istore 4, 2) := by decide +kernel
theorem d_jdk_52_m16_14 : decode jdk_52_method_16_code 14 = .ok (.iload 4, 2) := by decide +kernel
theorem d_jdk_52_m16_16 : decode jdk_52_method_16_code 16 = .ok (.iload_n 2, 1) := by decide +kernel
theorem d_jdk_52_m16_17 : decode jdk_52_method_16_code 17 = .ok (.if_icmp .eq 40, 3) := by decide +kernel
theorem d_jdk_52_m16_57 : decode jdk_52_method_16_code 57 = .ok (.aload_n 3, 1) := by decide +kernel
theorem d_jdk_52_m16_58 : decode jdk_52_method_16_code 58 = .ok (.areturn, 1) := by decide +kernel
theorem d_jdk_52_m15_0 : decode jdk_52_method_15_code 0 = .ok (.iload_n 1, 1) := by decide +kernel
theorem d_jdk_52_m15_1 : decode jdk_52_method_15_code 1 = .ok (.aload_n 0, 1) := by decide +kernel
theorem d_jdk_52_m15_2 : decode jdk_52_method_15_code 2 = .ok (.arraylength, 1) := by decide +kernel
theorem d_jdk_52_m15_3 : decode jdk_52_method_15_code 3 = .ok (.isub, 1) := by decide +kernel
theorem d_jdk_52_m15_4 : decode jdk_52_method_15_code 4 = .ok (.bipush 31, 2) := by decide +kernel
theorem d_jdk_52_m15_6 : decode jdk_52_method_15_code 6 = .ok (.iushr, 1) := by decide +kernel
theorem d_jdk_52_m15_7 : decode jdk_52_method_15_code 7 = .ok (.i2b, 1) := by decide +kernel
theorem d_jdk_52_m15_8 : decode jdk_52_method_15_code 8 = .ok (.ireturn, 1) := by decide +kernel
theorem d_jdk_42_m149_0 : decode jdk_42_method_149_code 0 = .ok (.aload_n 0, 1) := by decide +kernel
theorem d_jdk_42_m149_1 : decode jdk_42_method_149_code 1 = .ok (.invokespecial 1, 3) := by decide +kernel
theorem d_jdk_42_m149_4 : decode jdk_42_method_149_code 4 = .ok (.iload_n 3, 1) := by decide +kernel
theorem d_jdk_42_m149_5 : decode jdk_42_method_149_code 5 = .ok (.ifCond .ne 22, 3) := by decide +kernel
theorem d_jdk_42_m149_27 : decode jdk_42_method_149_code 27 = .ok (.getstatic 38, 3) := by decide +kernel
theorem d_jdk_42_m149_30 : decode jdk_42_method_149_code 30 = .ok (.ifCond .eq 28, 3) := by decide +kernel
theorem d_jdk_42_m149_33 : decode jdk_42_method_149_code 33 = .ok (.aload_n 1, 1) := by decide +kernel
theorem d_jdk_42_m149_34 : decode jdk_42_method_149_code 34 = .ok (.iload_n 2, 1) := by decide +kernel
theorem d_jdk_42_m149_35 : decode jdk_42_method_149_code 35 = .ok (.iload_n 3, 1) := by decide +kernel
theorem d_jdk_42_m149_36 : decode jdk_42_method_149_code 36 = .ok (.invokestatic 177, 3) := by decide +kernel
theorem pd1 : parseMethodDescriptor "([CII)[B" = some ⟨[(.array .char), .int, .int], some (.array .byte)⟩ := by decide +kernel
theorem d_jdk_42_m149_39 : decode jdk_42_method_149_code 39 = .ok (.astore 5, 2) := by decide +kernel
theorem d_jdk_42_m149_41 : decode jdk_42_method_149_code 41 = .ok (.aload_n 0, 1) := by decide +kernel
theorem d_jdk_42_m149_42 : decode jdk_42_method_149_code 42 = .ok (.aload 5, 2) := by decide +kernel
theorem d_jdk_42_m149_44 : decode jdk_42_method_149_code 44 = .ok (.iload_n 3, 1) := by decide +kernel
theorem d_jdk_42_m149_45 : decode jdk_42_method_149_code 45 = .ok (.invokestatic 47, 3) := by decide +kernel
theorem pd2 : parseMethodDescriptor "([BI)B" = some ⟨[(.array .byte), .int], some .byte⟩ := by decide +kernel
theorem d_jdk_42_m149_48 : decode jdk_42_method_149_code 48 = .ok (.putfield 15, 3) := by decide +kernel
theorem d_jdk_42_m149_51 : decode jdk_42_method_149_code 51 = .ok (.aload_n 0, 1) := by decide +kernel
theorem d_jdk_42_m149_52 : decode jdk_42_method_149_code 52 = .ok (.aload 5, 2) := by decide +kernel
theorem d_jdk_42_m149_54 : decode jdk_42_method_149_code 54 = .ok (.putfield 9, 3) := by decide +kernel
theorem d_jdk_42_m149_57 : decode jdk_42_method_149_code 57 = .ok (.return_, 1) := by decide +kernel
theorem pn3 : plainName "java/lang/String" = true := by first | (simp [plainName, overriddenIn]; done) | decide +kernel
theorem d_jdk_42_m3_0 : decode jdk_42_method_3_code 0 = .ok (.aload_n 0, 1) := by decide +kernel
theorem d_jdk_42_m3_1 : decode jdk_42_method_3_code 1 = .ok (.aload_n 1, 1) := by decide +kernel
theorem d_jdk_42_m3_2 : decode jdk_42_method_3_code 2 = .ok (.iconst 0, 1) := by decide +kernel
theorem d_jdk_42_m3_3 : decode jdk_42_method_3_code 3 = .ok (.aload_n 1, 1) := by decide +kernel
theorem d_jdk_42_m3_4 : decode jdk_42_method_3_code 4 = .ok (.arraylength, 1) := by decide +kernel
theorem d_jdk_42_m3_5 : decode jdk_42_method_3_code 5 = .ok (.aconst_null, 1) := by decide +kernel
theorem d_jdk_42_m3_6 : decode jdk_42_method_3_code 6 = .ok (.invokespecial 27, 3) := by decide +kernel
theorem pd3 : parseMethodDescriptor "([CIILjava/lang/Void;)V" = some ⟨[(.array .char), .int, .int, (.object "java/lang/Void")], none⟩ := by decide +kernel
theorem d_jdk_42_m3_9 : decode jdk_42_method_3_code 9 = .ok (.return_, 1) := by decide +kernel
theorem d_jdk_22_m1_0 : decode jdk_22_method_1_code 0 = .ok (.aload_n 0, 1) := by decide +kernel
theorem d_jdk_22_m1_1 : decode jdk_22_method_1_code 1 = .ok (.invokespecial 1, 3) := by decide +kernel
theorem d_jdk_22_m1_4 : decode jdk_22_method_1_code 4 = .ok (.return_, 1) := by decide +kernel
theorem pn4 : plainName "java/util/AbstractCollection" = true := by first | (simp [plainName, overriddenIn]; done) | decide +kernel
theorem d_jdk_39_m1_0 : decode jdk_39_method_1_code 0 = .ok (.aload_n 0, 1) := by decide +kernel
theorem d_jdk_39_m1_1 : decode jdk_39_method_1_code 1 = .ok (.invokespecial 1, 3) := by decide +kernel
theorem pd4 : parseMethodDescriptor "()V" = some ⟨[], none⟩ := by decide +kernel
theorem d_jdk_39_m1_4 : decode jdk_39_method_1_code 4 = .ok (.aload_n 0, 1) := by decide +kernel
theorem d_jdk_39_m1_5 : decode jdk_39_method_1_code 5 = .ok (.iconst 0, 1) := by decide +kernel
theorem d_jdk_39_m1_6 : decode jdk_39_method_1_code 6 = .ok (.putfield 7, 3) := by decide +kernel
theorem d_jdk_39_m1_9 : decode jdk_39_method_1_code 9 = .ok (.return_, 1) := by decide +kernel
theorem pn5 : plainName "java/util/AbstractList" = true := by first | (simp [plainName, overriddenIn]; done) | decide +kernel
theorem d_jdk_38_m2_0 : decode jdk_38_method_2_code 0 = .ok (.aload_n 0, 1) := by decide +kernel
theorem d_jdk_38_m2_1 : decode jdk_38_method_2_code 1 = .ok (.invokespecial 1, 3) := by decide +kernel
theorem d_jdk_38_m2_4 : decode jdk_38_method_2_code 4 = .ok (.aload_n 0, 1) := by decide +kernel
theorem d_jdk_38_m2_5 : decode jdk_38_method_2_code 5 = .ok (.getstatic 39, 3) := by decide +kernel
theorem d_jdk_38_m2_8 : decode jdk_38_method_2_code 8 = .ok (.putfield 9, 3) := by decide +kernel
theorem d_jdk_38_m2_11 : decode jdk_38_method_2_code 11 = .ok (.return_, 1) := by decide +kernel
theorem pn6 : plainName "java/util/ArrayList" = true := by first | (simp [plainName, overriddenIn]; done) | decide +kernel
theorem d_jdk_38_m6_0 : decode jdk_38_method_6_code 0 = .ok (.aload_n 0, 1) := by decide +kernel
theorem d_jdk_38_m6_1 : decode jdk_38_method_6_code 1 = .ok (.getfield 9, 3) := by decide +kernel
theorem d_jdk_38_m6_4 : decode jdk_38_method_6_code 4 = .ok (.arraylength, 1) := by decide +kernel
theorem d_jdk_38_m6_5 : decode jdk_38_method_6_code 5 = .ok (.istore_n 2, 1) := by decide +kernel
theorem d_jdk_38_m6_6 : decode jdk_38_method_6_code 6 = .ok (.iload_n 2, 1) := by decide +kernel
theorem d_jdk_38_m6_7 : decode jdk_38_method_6_code 7 = .ok (.ifCond .gt 13, 3) := by decide +kernel
theorem d_jdk_38_m6_10 : decode jdk_38_method_6_code 10 = .ok (.aload_n 0, 1) := by decide +kernel
theorem d_jdk_38_m6_11 : decode jdk_38_method_6_code 11 = .ok (.getfield 9, 3) := by decide +kernel
theorem d_jdk_38_m6_14 : decode jdk_38_method_6_code 14 = .ok (.getstatic 39, 3) := by decide +kernel
theorem d_jdk_38_m6_17 : decode jdk_38_method_6_code 17 = .ok (.if_acmp .eq 28, 3) := by decide +kernel
theorem d_jdk_38_m6_45 : decode jdk_38_method_6_code 45 = .ok (.aload_n 0, 1) := by decide +kernel
theorem d_jdk_38_m6_46 : decode jdk_38_method_6_code 46 = .ok (.bipush 10, 2) := by decide +kernel
theorem d_jdk_38_m6_48 : decode jdk_38_method_6_code 48 = .ok (.iload_n 1, 1) := by decide +kernel
theorem d_jdk_38_m6_49 : decode jdk_38_method_6_code 49 = .ok (.invokestatic 79, 3) := by decide +kernel
theorem pd5 : parseMethodDescriptor "(II)I" = some ⟨[.int, .int], some .int⟩ := by decide +kernel
theorem d_jdk_38_m6_52 : decode jdk_38_method_6_code 52 = .ok (.anewarray 7, 3) := by decide +kernel
theorem d_jdk_38_m6_55 : decode jdk_38_method_6_code 55 = .ok (.dup_x1, 1) := by decide +kernel
theorem d_jdk_38_m6_56 : decode jdk_38_method_6_code 56 = .ok (.putfield 9, 3) := by decide +kernel
theorem d_jdk_38_m6_59 : decode jdk_38_method_6_code 59 = .ok (.areturn, 1) := by decide +kernel
theorem d_jdk_38_m7_0 : decode jdk_38_method_7_code 0 = .ok (.aload_n 0, 1) := by decide +kernel
theorem d_jdk_38_m7_1 : decode jdk_38_method_7_code 1 = .ok (.aload_n 0, 1) := by decide +kernel
theorem d_jdk_38_m7_2 : decode jdk_38_method_7_code 2 = .ok (.getfield 48, 3) := by decide +kernel
theorem d_jdk_38_m7_5 : decode jdk_38_method_7_code 5 = .ok (.iconst 1, 1) := by decide +kernel
theorem d_jdk_38_m7_6 : decode jdk_38_method_7_code 6 = .ok (.iadd, 1) := by decide +kernel
theorem d_jdk_38_m7_7 : decode jdk_38_method_7_code 7 = .ok (.invokevirtual 69, 3) := by decide +kernel
theorem pd6 : parseMethodDescriptor "(I)[Ljava/lang/Object;" = some ⟨[.int], some (.array (.object "java/lang/Object"))⟩ := by decide +kernel
theorem d_jdk_38_m7_10 : decode jdk_38_method_7_code 10 = .ok (.areturn, 1) := by decide +kernel
theorem d_jdk_38_m24_0 : decode jdk_38_method_24_code 0 = .ok (.iload_n 3, 1) := by decide +kernel
theorem d_jdk_38_m24_1 : decode jdk_38_method_24_code 1 = .ok (.aload_n 2, 1) := by decide +kernel
theorem d_jdk_38_m24_2 : decode jdk_38_method_24_code 2 = .ok (.arraylength, 1) := by decide +kernel
theorem d_jdk_38_m24_3 : decode jdk_38_method_24_code 3 = .ok (.if_icmp .ne 8, 3) := by decide +kernel
theorem d_jdk_38_m24_6 : decode jdk_38_method_24_code 6 = .ok (.aload_n 0, 1) := by decide +kernel
theorem d_jdk_38_m24_7 : decode jdk_38_method_24_code 7 = .ok (.invokevirtual 129, 3) := by decide +kernel
theorem pd7 : parseMethodDescriptor "()[Ljava/lang/Object;" = some ⟨[], some (.array (.object "java/lang/Object"))⟩ := by decide +kernel
theorem d_jdk_38_m24_10 : decode jdk_38_method_24_code 10 = .ok (.astore_n 2, 1) := by decide +kernel
theorem d_jdk_38_m24_11 : decode jdk_38_method_24_code 11 = .ok (.aload_n 2, 1) := by decide +kernel
theorem d_jdk_38_m24_12 : decode jdk_38_method_24_code 12 = .ok (.iload_n 3, 1) := by decide +kernel
theorem d_jdk_38_m24_13 : decode jdk_38_method_24_code 13 = .ok (.aload_n 1, 1) := by decide +kernel
theorem d_jdk_38_m24_14 : decode jdk_38_method_24_code 14 = .ok (.aastore, 1) := by decide +kernel
theorem d_jdk_38_m24_15 : decode jdk_38_method_24_code 15 = .ok (.aload_n 0, 1) := by decide +kernel
theorem d_jdk_38_m24_16 : decode jdk_38_method_24_code 16 = .ok (.iload_n 3, 1) := by decide +kernel
theorem d_jdk_38_m24_17 : decode jdk_38_method_24_code 17 = .ok (.iconst 1, 1) := by decide +kernel
theorem d_jdk_38_m24_18 : decode jdk_38_method_24_code 18 = .ok (.iadd, 1) := by decide +kernel
theorem d_jdk_38_m24_19 : decode jdk_38_method_24_code 19 = .ok (.putfield 48, 3) := by decide +kernel
theorem d_jdk_38_m24_22 : decode jdk_38_method_24_code 22 = .ok (.return_, 1) := by decide +kernel
theorem d_jdk_38_m25_0 : decode jdk_38_method_25_code 0 = .ok (.aload_n 0, 1) := by decide +kernel
theorem d_jdk_38_m25_1 : decode jdk_38_method_25_code 1 = .ok (.dup, 1) := by decide +kernel
theorem d_jdk_38_m25_2 : decode jdk_38_method_25_code 2 = .ok (.getfield 63, 3) := by decide +kernel
theorem d_jdk_38_m25_5 : decode jdk_38_method_25_code 5 = .ok (.iconst 1, 1) := by decide +kernel
theorem d_jdk_38_m25_6 : decode jdk_38_method_25_code 6 = .ok (.iadd, 1) := by decide +kernel
theorem d_jdk_38_m25_7 : decode jdk_38_method_25_code 7 = .ok (.putfield 63, 3) := by decide +kernel
theorem d_jdk_38_m25_10 : decode jdk_38_method_25_code 10 = .ok (.aload_n 0, 1) := by decide +kernel
theorem d_jdk_38_m25_11 : decode jdk_38_method_25_code 11 = .ok (.aload_n 1, 1) := by decide +kernel
theorem d_jdk_38_m25_12 : decode jdk_38_method_25_code 12 = .ok (.aload_n 0, 1) := by decide +kernel
theorem d_jdk_38_m25_13 : decode jdk_38_method_25_code 13 = .ok (.getfield 9, 3) := by decide +kernel
theorem d_jdk_38_m25_16 : decode jdk_38_method_25_code 16 = .ok (.aload_n 0, 1) := by decide +kernel
theorem d_jdk_38_m25_17 : decode jdk_38_method_25_code 17 = .ok (.getfield 48, 3) := by decide +kernel
theorem d_jdk_38_m25_20 : decode jdk_38_method_25_code 20 = .ok (.invokevirtual 131, 3) := by decide +kernel
theorem pd8 : parseMethodDescriptor "(Ljava/lang/Object;[Ljava/lang/Object;I)V" = some ⟨[(.object "java/lang/Object"), (.array (.object "java/lang/Object")), .int], none⟩ := by decide +kernel
theorem d_jdk_38_m25_23 : decode jdk_38_method_25_code 23 = .ok (.iconst 1, 1) := by decide +kernel
theorem d_jdk_38_m25_24 : decode jdk_38_method_25_code 24 = .ok (.ireturn, 1) := by decide +kernel
theorem d_jdk_38_m9_0 : decode jdk_38_method_9_code 0 = .ok (.aload_n 0, 1) := by decide +kernel
theorem d_jdk_38_m9_1 : decode jdk_38_method_9_code 1 = .ok (.getfield 48, 3) := by decide +kernel
theorem d_jdk_38_m9_4 : decode jdk_38_method_9_code 4 = .ok (.ifCond .ne 7, 3) := by decide +kernel
theorem d_jdk_38_m9_11 : decode jdk_38_method_9_code 11 = .ok (.iconst 0, 1) := by decide +kernel
theorem d_jdk_38_m9_12 : decode jdk_38_method_9_code 12 = .ok (.ireturn, 1) := by decide +kernel
theorem d_jdk_65_m120_0 : decode jdk_65_method_120_code 0 = .ok (.aload_n 2, 1) := by decide +kernel
theorem d_jdk_65_m120_1 : decode jdk_65_method_120_code 1 = .ok (.ldc 110, 2) := by decide +kernel
theorem d_jdk_65_m120_3 : decode jdk_65_method_120_code 3 = .ok (.if_acmp .ne 10, 3) := by decide +kernel
theorem d_jdk_65_m120_6 : decode jdk_65_method_120_code 6 = .ok (.iload_n 1, 1) := by decide +kernel
theorem d_jdk_65_m120_7 : decode jdk_65_method_120_code 7 = .ok (.anewarray 2, 3) := by decide +kernel
theorem d_jdk_65_m120_10 : decode jdk_65_method_120_code 10 = .ok (.goto 14, 3) := by decide +kernel
theorem d_jdk_65_m120_24 : decode jdk_65_method_120_code 24 = .ok (.astore_n 3, 1) := by decide +kernel
theorem d_jdk_65_m120_25 : decode jdk_65_method_120_code 25 = .ok (.aload_n 0, 1) := by decide +kernel
theorem d_jdk_65_m120_26 : decode jdk_65_method_120_code 26 = .ok (.iconst 0, 1) := by decide +kernel
theorem d_jdk_65_m120_27 : decode jdk_65_method_120_code 27 = .ok (.aload_n 3, 1) := by decide +kernel
theorem d_jdk_65_m120_28 : decode jdk_65_method_120_code 28 = .ok (.iconst 0, 1) := by decide +kernel
theorem d_jdk_65_m120_29 : decode jdk_65_method_120_code 29 = .ok (.aload_n 0, 1) := by decide +kernel
theorem d_jdk_65_m120_30 : decode jdk_65_method_120_code 30 = .ok (.arraylength, 1) := by decide +kernel
theorem d_jdk_65_m120_31 : decode jdk_65_method_120_code 31 = .ok (.iload_n 1, 1) := by decide +kernel
theorem d_jdk_65_m120_32 : decode jdk_65_method_120_code 32 = .ok (.invokestatic 304, 3) := by decide +kernel
theorem d_jdk_65_m120_35 : decode jdk_65_method_120_code 35 = .ok (.invokestatic 150, 3) := by decide +kernel
theorem d_jdk_65_m120_38 : decode jdk_65_method_120_code 38 = .ok (.aload_n 3, 1) := by decide +kernel
theorem d_jdk_65_m120_39 : decode jdk_65_method_120_code 39 = .ok (.areturn, 1) := by decide +kernel
theorem pn7 : plainName "java/util/Arrays" = true := by first | (simp [plainName, overriddenIn]; done) | decide +kernel
theorem d_jdk_65_m119_0 : decode jdk_65_method_119_code 0 = .ok (.aload_n 0, 1) := by decide +kernel
theorem d_jdk_65_m119_1 : decode jdk_65_method_119_code 1 = .ok (.iload_n 1, 1) := by decide +kernel
theorem d_jdk_65_m119_2 : decode jdk_65_method_119_code 2 = .ok (.aload_n 0, 1) := by decide +kernel
theorem d_jdk_65_m119_3 : decode jdk_65_method_119_code 3 = .ok (.invokevirtual 86, 3) := by decide +kernel
theorem d_jdk_65_m119_6 : decode jdk_65_method_119_code 6 = .ok (.invokestatic 300, 3) := by decide +kernel
theorem pd9 : parseMethodDescriptor "([Ljava/lang/Object;ILjava/lang/Class;)[Ljava/lang/Object;" = some ⟨[(.array (.object "java/lang/Object")), .int, (.object "java/lang/Class")], some (.array (.object "java/lang/Object"))⟩ := by decide +kernel
theorem d_jdk_65_m119_9 : decode jdk_65_method_119_code 9 = .ok (.areturn, 1) := by decide +kernel
theorem d_jdk_38_m16_0 : decode jdk_38_method_16_code 0 = .ok (.aload_n 0, 1) := by decide +kernel
theorem d_jdk_38_m16_1 : decode jdk_38_method_16_code 1 = .ok (.getfield 9, 3) := by decide +kernel
theorem d_jdk_38_m16_4 : decode jdk_38_method_16_code 4 = .ok (.aload_n 0, 1) := by decide +kernel
theorem d_jdk_38_m16_5 : decode jdk_38_method_16_code 5 = .ok (.getfield 48, 3) := by decide +kernel
theorem d_jdk_38_m16_8 : decode jdk_38_method_16_code 8 = .ok (.invokestatic 66, 3) := by decide +kernel
theorem pd10 : parseMethodDescriptor "([Ljava/lang/Object;I)[Ljava/lang/Object;" = some ⟨[(.array (.object "java/lang/Object")), .int], some (.array (.object "java/lang/Object"))⟩ := by decide +kernel
theorem d_jdk_38_m16_11 : decode jdk_38_method_16_code 11 = .ok (.areturn, 1) := by decide +kernel
theorem d_jdk_47_m1_0 : decode jdk_47_method_1_code 0 = .ok (.aload_n 0, 1) := by decide +kernel
theorem d_jdk_47_m1_1 : decode jdk_47_method_1_code 1 = .ok (.invokespecial 1, 3) := by decide +kernel
theorem d_jdk_47_m1_4 : decode jdk_47_method_1_code 4 = .ok (.return_, 1) := by decide +kernel
theorem pn8 : plainName "java/util/ImmutableCollections$AbstractImmutableCollection" = true := by first | (simp [plainName, overriddenIn]; done) | decide +kernel
theorem d_jdk_46_m1_0 : decode jdk_46_method_1_code 0 = .ok (.aload_n 0, 1) := by decide +kernel
theorem d_jdk_46_m1_1 : decode jdk_46_method_1_code 1 = .ok (.invokespecial 1, 3) := by decide +kernel
theorem d_jdk_46_m1_4 : decode jdk_46_method_1_code 4 = .ok (.return_, 1) := by decide +kernel
theorem pn9 : plainName "java/util/ImmutableCollections$AbstractImmutableList" = true := by first | (simp [plainName, overriddenIn]; done) | decide +kernel
theorem d_jdk_44_m1_0 : decode jdk_44_method_1_code 0 = .ok (.aload_n 0, 1) := by decide +kernel
theorem d_jdk_44_m1_1 : decode jdk_44_method_1_code 1 = .ok (.invokespecial 1, 3) := by decide +kernel
theorem d_jdk_44_m1_4 : decode jdk_44_method_1_code 4 = .ok (.aload_n 0, 1) := by decide +kernel
theorem d_jdk_44_m1_5 : decode jdk_44_method_1_code 5 = .ok (.aload_n 1, 1) := by decide +kernel
theorem d_jdk_44_m1_6 : decode jdk_44_method_1_code 6 = .ok (.invokestatic 7, 3) := by decide +kernel
theorem pd11 : parseMethodDescriptor "(Ljava/lang/Object;)Ljava/lang/Object;" = some ⟨[(.object "java/lang/Object")], some (.object "java/lang/Object")⟩ := by decide +kernel
theorem d_jdk_44_m1_9 : decode jdk_44_method_1_code 9 = .ok (.putfield 13, 3) := by decide +kernel
theorem d_jdk_44_m1_12 : decode jdk_44_method_1_code 12 = .ok (.aload_n 0, 1) := by decide +kernel
theorem d_jdk_44_m1_13 : decode jdk_44_method_1_code 13 = .ok (.getstatic 19, 3) := by decide +kernel
theorem d_jdk_44_m1_16 : decode jdk_44_method_1_code 16 = .ok (.putfield 24, 3) := by decide +kernel
theorem d_jdk_44_m1_19 : decode jdk_44_method_1_code 19 = .ok (.return_, 1) := by decide +kernel
theorem pn10 : plainName "java/util/ImmutableCollections$List12" = true := by first | (simp [plainName, overriddenIn]; done) | decide +kernel
theorem d_jdk_44_m2_0 : decode jdk_44_method_2_code 0 = .ok (.aload_n 0, 1) := by decide +kernel
theorem d_jdk_44_m2_1 : decode jdk_44_method_2_code 1 = .ok (.invokespecial 1, 3) := by decide +kernel
theorem d_jdk_44_m2_4 : decode jdk_44_method_2_code 4 = .ok (.aload_n 0, 1) := by decide +kernel
theorem d_jdk_44_m2_5 : decode jdk_44_method_2_code 5 = .ok (.aload_n 1, 1) := by decide +kernel
theorem d_jdk_44_m2_6 : decode jdk_44_method_2_code 6 = .ok (.invokestatic 7, 3) := by decide +kernel
theorem d_jdk_44_m2_9 : decode jdk_44_method_2_code 9 = .ok (.putfield 13, 3) := by decide +kernel
theorem d_jdk_44_m2_12 : decode jdk_44_method_2_code 12 = .ok (.aload_n 0, 1) := by decide +kernel
theorem d_jdk_44_m2_13 : decode jdk_44_method_2_code 13 = .ok (.aload_n 2, 1) := by decide +kernel
theorem d_jdk_44_m2_14 : decode jdk_44_method_2_code 14 = .ok (.invokestatic 7, 3) := by decide +kernel
theorem d_jdk_44_m2_17 : decode jdk_44_method_2_code 17 = .ok (.putfield 24, 3) := by decide +kernel
theorem d_jdk_44_m2_20 : decode jdk_44_method_2_code 20 = .ok (.return_, 1) := by decide +kernel
theorem d_jdk_45_m1_0 : decode jdk_45_method_1_code 0 = .ok (.aload_n 0, 1) := by decide +kernel
theorem d_jdk_45_m1_1 : decode jdk_45_method_1_code 1 = .ok (.invokespecial 1, 3) := by decide +kernel
theorem d_jdk_45_m1_4 : decode jdk_45_method_1_code 4 = .ok (.aload_n 0, 1) := by decide +kernel
theorem d_jdk_45_m1_5 : decode jdk_45_method_1_code 5 = .ok (.aload_n 1, 1) := by decide +kernel
theorem d_jdk_45_m1_6 : decode jdk_45_method_1_code 6 = .ok (.putfield 7, 3) := by decide +kernel
theorem d_jdk_45_m1_9 : decode jdk_45_method_1_code 9 = .ok (.aload_n 0, 1) := by decide +kernel
theorem d_jdk_45_m1_10 : decode jdk_45_method_1_code 10 = .ok (.iload_n 2, 1) := by decide +kernel
theorem d_jdk_45_m1_11 : decode jdk_45_method_1_code 11 = .ok (.putfield 13, 3) := by decide +kernel
theorem d_jdk_45_m1_14 : decode jdk_45_method_1_code 14 = .ok (.return_, 1) := by decide +kernel
theorem pn11 : plainName "java/util/ImmutableCollections$ListN" = true := by first | (simp [plainName, overriddenIn]; done) | decide +kernel
theorem d_jdk_40_m47_0 : decode jdk_40_method_47_code 0 = .ok (.aload_n 0, 1) := by decide +kernel
theorem d_jdk_40_m47_1 : decode jdk_40_method_47_code 1 = .ok (.arraylength, 1) := by decide +kernel
theorem d_jdk_40_m47_2 : decode jdk_40_method_47_code 2 = .ok (.tableswitch 57 0 2 #[26, 32, 43], 26) := by decide +kernel
theorem d_jdk_40_m47_34 : decode jdk_40_method_47_code 34 = .ok (.new 96, 3) := by decide +kernel
theorem d_jdk_40_m47_37 : decode jdk_40_method_47_code 37 = .ok (.dup, 1) := by decide +kernel
theorem d_jdk_40_m47_38 : decode jdk_40_method_47_code 38 = .ok (.aload_n 0, 1) := by decide +kernel
theorem d_jdk_40_m47_39 : decode jdk_40_method_47_code 39 = .ok (.iconst 0, 1) := by decide +kernel
theorem d_jdk_40_m47_40 : decode jdk_40_method_47_code 40 = .ok (.aaload, 1) := by decide +kernel
theorem d_jdk_40_m47_41 : decode jdk_40_method_47_code 41 = .ok (.invokespecial 98, 3) := by decide +kernel
theorem pd12 : parseMethodDescriptor "(Ljava/lang/Object;)V" = some ⟨[(.object "java/lang/Object")], none⟩ := by decide +kernel
theorem d_jdk_40_m47_44 : decode jdk_40_method_47_code 44 = .ok (.areturn, 1) := by decide +kernel
theorem pn12 : plainName "java/util/List" = true := by first | (simp [plainName, overriddenIn]; done) | decide +kernel
theorem d_jdk_40_m47_45 : decode jdk_40_method_47_code 45 = .ok (.new 96, 3) := by decide +kernel
theorem d_jdk_40_m47_48 : decode jdk_40_method_47_code 48 = .ok (.dup, 1) := by decide +kernel
theorem d_jdk_40_m47_49 : decode jdk_40_method_47_code 49 = .ok (.aload_n 0, 1) := by decide +kernel
theorem d_jdk_40_m47_50 : decode jdk_40_method_47_code 50 = .ok (.iconst 0, 1) := by decide +kernel
theorem d_jdk_40_m47_51 : decode jdk_40_method_47_code 51 = .ok (.aaload, 1) := by decide +kernel
theorem d_jdk_40_m47_52 : decode jdk_40_method_47_code 52 = .ok (.aload_n 0, 1) := by decide +kernel
theorem d_jdk_40_m47_53 : decode jdk_40_method_47_code 53 = .ok (.iconst 1, 1) := by decide +kernel
theorem d_jdk_40_m47_54 : decode jdk_40_method_47_code 54 = .ok (.aaload, 1) := by decide +kernel
theorem d_jdk_40_m47_55 : decode jdk_40_method_47_code 55 = .ok (.invokespecial 100, 3) := by decide +kernel
theorem pd13 : parseMethodDescriptor "(Ljava/lang/Object;Ljava/lang/Object;)V" = some ⟨[(.object "java/lang/Object"), (.object "java/lang/Object")], none⟩ := by decide +kernel
theorem d_jdk_40_m47_58 : decode jdk_40_method_47_code 58 = .ok (.areturn, 1) := by decide +kernel
theorem d_jdk_56_m4_0 : decode jdk_56_method_4_code 0 = .ok (.aload_n 0, 1) := by decide +kernel
theorem d_jdk_56_m4_1 : decode jdk_56_method_4_code 1 = .ok (.arraylength, 1) := by decide +kernel
theorem d_jdk_56_m4_2 : decode jdk_56_method_4_code 2 = .ok (.anewarray 2, 3) := by decide +kernel
theorem d_jdk_56_m4_5 : decode jdk_56_method_4_code 5 = .ok (.astore_n 1, 1) := by decide +kernel
theorem d_jdk_56_m4_6 : decode jdk_56_method_4_code 6 = .ok (.iconst 0, 1) := by decide +kernel
theorem d_jdk_56_m4_7 : decode jdk_56_method_4_code 7 = .ok (.istore_n 2, 1) := by decide +kernel
theorem d_jdk_56_m4_8 : decode jdk_56_method_4_code 8 = .ok (.iload_n 2, 1) := by decide +kernel
theorem d_jdk_56_m4_9 : decode jdk_56_method_4_code 9 = .ok (.aload_n 0, 1) := by decide +kernel
theorem d_jdk_56_m4_10 : decode jdk_56_method_4_code 10 = .ok (.arraylength, 1) := by decide +kernel
theorem d_jdk_56_m4_11 : decode jdk_56_method_4_code 11 = .ok (.if_icmp .ge 18, 3) := by decide +kernel
theorem d_jdk_56_m4_14 : decode jdk_56_method_4_code 14 = .ok (.aload_n 1, 1) := by decide +kernel
theorem d_jdk_56_m4_15 : decode jdk_56_method_4_code 15 = .ok (.iload_n 2, 1) := by decide +kernel
theorem d_jdk_56_m4_16 : decode jdk_56_method_4_code 16 = .ok (.aload_n 0, 1) := by decide +kernel
theorem d_jdk_56_m4_17 : decode jdk_56_method_4_code 17 = .ok (.iload_n 2, 1) := by decide +kernel
theorem d_jdk_56_m4_18 : decode jdk_56_method_4_code 18 = .ok (.aaload, 1) := by decide +kernel
theorem d_jdk_56_m4_19 : decode jdk_56_method_4_code 19 = .ok (.invokestatic 37, 3) := by decide +kernel
theorem d_jdk_56_m4_22 : decode jdk_56_method_4_code 22 = .ok (.aastore, 1) := by decide +kernel
theorem d_jdk_56_m4_23 : decode jdk_56_method_4_code 23 = .ok (.iinc 2 1, 3) := by decide +kernel
theorem d_jdk_56_m4_26 : decode jdk_56_method_4_code 26 = .ok (.goto (-18), 3) := by decide +kernel
theorem d_jdk_56_m4_29 : decode jdk_56_method_4_code 29 = .ok (.new 12, 3) := by decide +kernel
theorem d_jdk_56_m4_32 : decode jdk_56_method_4_code 32 = .ok (.dup, 1) := by decide +kernel
theorem d_jdk_56_m4_33 : decode jdk_56_method_4_code 33 = .ok (.aload_n 1, 1) := by decide +kernel
theorem d_jdk_56_m4_34 : decode jdk_56_method_4_code 34 = .ok (.iconst 0, 1) := by decide +kernel
theorem d_jdk_56_m4_35 : decode jdk_56_method_4_code 35 = .ok (.invokespecial 43, 3) := by decide +kernel
theorem pd14 : parseMethodDescriptor "([Ljava/lang/Object;Z)V" = some ⟨[(.array (.object "java/lang/Object")), .boolean], none⟩ := by decide +kernel
theorem d_jdk_56_m4_38 : decode jdk_56_method_4_code 38 = .ok (.areturn, 1) := by decide +kernel
theorem pn13 : plainName "java/util/ImmutableCollections" = true := by first | (simp [plainName, overriddenIn]; done) | decide +kernel
theorem d_jdk_40_m47_59 : decode jdk_40_method_47_code 59 = .ok (.aload_n 0, 1) := by decide +kernel
theorem d_jdk_40_m47_60 : decode jdk_40_method_47_code 60 = .ok (.invokestatic 109, 3) := by decide +kernel
theorem pd15 : parseMethodDescriptor "([Ljava/lang/Object;)Ljava/util/List;" = some ⟨[(.array (.object "java/lang/Object"))], some (.object "java/util/List")⟩ := by decide +kernel
theorem d_jdk_40_m47_63 : decode jdk_40_method_47_code 63 = .ok (.areturn, 1) := by decide +kernel
theorem d_jdk_56_m3_0 : decode jdk_56_method_3_code 0 = .ok (.aload_n 0, 1) := by decide +kernel
theorem d_jdk_56_m3_1 : decode jdk_56_method_3_code 1 = .ok (.instanceof 10, 3) := by decide +kernel
theorem d_jdk_56_m3_4 : decode jdk_56_method_3_code 4 = .ok (.ifCond .ne 22, 3) := by decide +kernel
theorem d_jdk_56_m3_7 : decode jdk_56_method_3_code 7 = .ok (.aload_n 0, 1) := by decide +kernel
theorem d_jdk_56_m3_8 : decode jdk_56_method_3_code 8 = .ok (.instanceof 12, 3) := by decide +kernel
theorem d_jdk_56_m3_11 : decode jdk_56_method_3_code 11 = .ok (.ifCond .eq 20, 3) := by decide +kernel
theorem d_jdk_56_m3_31 : decode jdk_56_method_3_code 31 = .ok (.aload_n 0, 1) := by decide +kernel
theorem d_jdk_56_m3_32 : decode jdk_56_method_3_code 32 = .ok (.invokeinterface 20 1, 5) := by decide +kernel
theorem pd16 : parseMethodDescriptor "()Z" = some ⟨[], some .boolean⟩ := by decide +kernel
theorem d_jdk_56_m3_37 : decode jdk_56_method_3_code 37 = .ok (.ifCond .eq 7, 3) := by decide +kernel
theorem d_jdk_56_m3_44 : decode jdk_56_method_3_code 44 = .ok (.aload_n 0, 1) := by decide +kernel
theorem d_jdk_56_m3_45 : decode jdk_56_method_3_code 45 = .ok (.invokeinterface 30 1, 5) := by decide +kernel
theorem d_jdk_56_m3_50 : decode jdk_56_method_3_code 50 = .ok (.invokestatic 34, 3) := by decide +kernel
theorem d_jdk_56_m3_53 : decode jdk_56_method_3_code 53 = .ok (.areturn, 1) := by decide +kernel
theorem d_jdk_40_m48_0 : decode jdk_40_method_48_code 0 = .ok (.aload_n 0, 1) := by decide +kernel
theorem d_jdk_40_m48_1 : decode jdk_40_method_48_code 1 = .ok (.invokestatic 112, 3) := by decide +kernel
theorem pd17 : parseMethodDescriptor "(Ljava/util/Collection;)Ljava/util/List;" = some ⟨[(.object "java/util/Collection")], some (.object "java/util/List")⟩ := by decide +kernel
theorem d_jdk_40_m48_4 : decode jdk_40_method_48_code 4 = .ok (.areturn, 1) := by decide +kernel
theorem d_prog_10_m1_0 : decode prog_10_method_1_code 0 = .ok (.aload_n 0, 1) := by decide +kernel
theorem d_prog_10_m1_1 : decode prog_10_method_1_code 1 = .ok (.invokespecial 1, 3) := by decide +kernel
theorem d_prog_10_m1_4 : decode prog_10_method_1_code 4 = .ok (.aload_n 1, 1) := by decide +kernel
theorem d_prog_10_m1_5 : decode prog_10_method_1_code 5 = .ok (.ldc 7, 2) := by decide +kernel
theorem d_prog_10_m1_7 : decode prog_10_method_1_code 7 = .ok (.invokestatic 9, 3) := by decide +kernel
theorem pd18 : parseMethodDescriptor "(Ljava/lang/Object;Ljava/lang/String;)Ljava/lang/Object;" = some ⟨[(.object "java/lang/Object"), (.object "java/lang/String")], some (.object "java/lang/Object")⟩ := by decide +kernel
theorem d_prog_10_m1_10 : decode prog_10_method_1_code 10 = .ok (.pop, 1) := by decide +kernel
theorem d_prog_10_m1_11 : decode prog_10_method_1_code 11 = .ok (.aload_n 2, 1) := by decide +kernel
theorem d_prog_10_m1_12 : decode prog_10_method_1_code 12 = .ok (.ldc 15, 2) := by decide +kernel
theorem d_prog_10_m1_14 : decode prog_10_method_1_code 14 = .ok (.invokestatic 9, 3) := by decide +kernel
theorem d_prog_10_m1_17 : decode prog_10_method_1_code 17 = .ok (.pop, 1) := by decide +kernel
theorem d_prog_10_m1_18 : decode prog_10_method_1_code 18 = .ok (.aload_n 0, 1) := by decide +kernel
theorem d_prog_10_m1_19 : decode prog_10_method_1_code 19 = .ok (.aload_n 1, 1) := by decide +kernel
theorem d_prog_10_m1_20 : decode prog_10_method_1_code 20 = .ok (.putfield 17, 3) := by decide +kernel
theorem d_prog_10_m1_23 : decode prog_10_method_1_code 23 = .ok (.aload_n 0, 1) := by decide +kernel
theorem d_prog_10_m1_24 : decode prog_10_method_1_code 24 = .ok (.aload_n 2, 1) := by decide +kernel
theorem d_prog_10_m1_25 : decode prog_10_method_1_code 25 = .ok (.putfield 23, 3) := by decide +kernel
theorem d_prog_10_m1_28 : decode prog_10_method_1_code 28 = .ok (.aload_n 0, 1) := by decide +kernel
theorem d_prog_10_m1_29 : decode prog_10_method_1_code 29 = .ok (.lload_n 3, 1) := by decide +kernel
theorem d_prog_10_m1_30 : decode prog_10_method_1_code 30 = .ok (.putfield 27, 3) := by decide +kernel
theorem d_prog_10_m1_33 : decode prog_10_method_1_code 33 = .ok (.return_, 1) := by decide +kernel
theorem pn14 : plainName "com/example/keyhold/keyhold/model/SigningKey" = true := by first | (simp [plainName, overriddenIn]; done) | decide +kernel
theorem d_prog_7_m1_0 : decode prog_7_method_1_code 0 = .ok (.aload_n 0, 1) := by decide +kernel
theorem d_prog_7_m1_1 : decode prog_7_method_1_code 1 = .ok (.invokespecial 1, 3) := by decide +kernel
theorem d_prog_7_m1_4 : decode prog_7_method_1_code 4 = .ok (.aload_n 1, 1) := by decide +kernel
theorem d_prog_7_m1_5 : decode prog_7_method_1_code 5 = .ok (.ldc 7, 2) := by decide +kernel
theorem d_prog_7_m1_7 : decode prog_7_method_1_code 7 = .ok (.invokestatic 9, 3) := by decide +kernel
theorem d_prog_7_m1_10 : decode prog_7_method_1_code 10 = .ok (.pop, 1) := by decide +kernel
theorem d_prog_7_m1_11 : decode prog_7_method_1_code 11 = .ok (.aload_n 1, 1) := by decide +kernel
theorem d_prog_7_m1_12 : decode prog_7_method_1_code 12 = .ok (.invokeinterface 15 1, 5) := by decide +kernel
theorem d_prog_7_m1_17 : decode prog_7_method_1_code 17 = .ok (.ifCond .eq 13, 3) := by decide +kernel
theorem d_prog_7_m1_30 : decode prog_7_method_1_code 30 = .ok (.aload_n 1, 1) := by decide +kernel
theorem d_prog_7_m1_31 : decode prog_7_method_1_code 31 = .ok (.invokestatic 28, 3) := by decide +kernel
theorem d_prog_7_m1_34 : decode prog_7_method_1_code 34 = .ok (.astore_n 1, 1) := by decide +kernel
theorem d_prog_7_m1_35 : decode prog_7_method_1_code 35 = .ok (.aload_n 0, 1) := by decide +kernel
theorem d_prog_7_m1_36 : decode prog_7_method_1_code 36 = .ok (.aload_n 1, 1) := by decide +kernel
theorem d_prog_7_m1_37 : decode prog_7_method_1_code 37 = .ok (.putfield 32, 3) := by decide +kernel
theorem d_prog_7_m1_40 : decode prog_7_method_1_code 40 = .ok (.return_, 1) := by decide +kernel
theorem pn15 : plainName "com/example/keyhold/keyhold/model/KeyRing" = true := by first | (simp [plainName, overriddenIn]; done) | decide +kernel
theorem d_jdk_44_m5_0 : decode jdk_44_method_5_code 0 = .ok (.iload_n 1, 1) := by decide +kernel
theorem d_jdk_44_m5_1 : decode jdk_44_method_5_code 1 = .ok (.ifCond .ne 8, 3) := by decide +kernel
theorem d_jdk_44_m5_4 : decode jdk_44_method_5_code 4 = .ok (.aload_n 0, 1) := by decide +kernel
theorem d_jdk_44_m5_5 : decode jdk_44_method_5_code 5 = .ok (.getfield 13, 3) := by decide +kernel
theorem d_jdk_44_m5_8 : decode jdk_44_method_5_code 8 = .ok (.areturn, 1) := by decide +kernel
theorem d_jdk_45_m4_0 : decode jdk_45_method_4_code 0 = .ok (.aload_n 0, 1) := by decide +kernel
theorem d_jdk_45_m4_1 : decode jdk_45_method_4_code 1 = .ok (.getfield 7, 3) := by decide +kernel
theorem d_jdk_45_m4_4 : decode jdk_45_method_4_code 4 = .ok (.iload_n 1, 1) := by decide +kernel
theorem d_jdk_45_m4_5 : decode jdk_45_method_4_code 5 = .ok (.aaload, 1) := by decide +kernel
theorem d_jdk_45_m4_6 : decode jdk_45_method_4_code 6 = .ok (.areturn, 1) := by decide +kernel
theorem d_prog_7_m2_0 : decode prog_7_method_2_code 0 = .ok (.aload_n 0, 1) := by decide +kernel
theorem d_prog_7_m2_1 : decode prog_7_method_2_code 1 = .ok (.getfield 32, 3) := by decide +kernel
theorem d_prog_7_m2_4 : decode prog_7_method_2_code 4 = .ok (.iconst 0, 1) := by decide +kernel
theorem d_prog_7_m2_5 : decode prog_7_method_2_code 5 = .ok (.invokeinterface 38 2, 5) := by decide +kernel
theorem pd19 : parseMethodDescriptor "(I)Ljava/lang/Object;" = some ⟨[.int], some (.object "java/lang/Object")⟩ := by decide +kernel
theorem d_prog_7_m2_10 : decode prog_7_method_2_code 10 = .ok (.checkcast 42, 3) := by decide +kernel
theorem d_prog_7_m2_13 : decode prog_7_method_2_code 13 = .ok (.areturn, 1) := by decide +kernel
theorem d_jdk_38_m45_0 : decode jdk_38_method_45_code 0 = .ok (.iload_n 1, 1) := by decide +kernel
theorem d_jdk_38_m45_1 : decode jdk_38_method_45_code 1 = .ok (.aload_n 0, 1) := by decide +kernel
theorem d_jdk_38_m45_2 : decode jdk_38_method_45_code 2 = .ok (.getfield 48, 3) := by decide +kernel
theorem d_jdk_38_m45_5 : decode jdk_38_method_45_code 5 = .ok (.if_icmp .gt 7, 3) := by decide +kernel
theorem d_jdk_38_m45_8 : decode jdk_38_method_45_code 8 = .ok (.iload_n 1, 1) := by decide +kernel
theorem d_jdk_38_m45_9 : decode jdk_38_method_45_code 9 = .ok (.ifCond .ge 16, 3) := by decide +kernel
theorem d_jdk_38_m45_25 : decode jdk_38_method_45_code 25 = .ok (.return_, 1) := by decide +kernel
theorem d_jdk_38_m26_0 : decode jdk_38_method_26_code 0 = .ok (.aload_n 0, 1) := by decide +kernel
theorem d_jdk_38_m26_1 : decode jdk_38_method_26_code 1 = .ok (.iload_n 1, 1) := by decide +kernel
theorem d_jdk_38_m26_2 : decode jdk_38_method_26_code 2 = .ok (.invokevirtual 135, 3) := by decide +kernel
theorem pd20 : parseMethodDescriptor "(I)V" = some ⟨[.int], none⟩ := by decide +kernel
theorem d_jdk_38_m26_5 : decode jdk_38_method_26_code 5 = .ok (.aload_n 0, 1) := by decide +kernel
theorem d_jdk_38_m26_6 : decode jdk_38_method_26_code 6 = .ok (.dup, 1) := by decide +kernel
theorem d_jdk_38_m26_7 : decode jdk_38_method_26_code 7 = .ok (.getfield 63, 3) := by decide +kernel
theorem d_jdk_38_m26_10 : decode jdk_38_method_26_code 10 = .ok (.iconst 1, 1) := by decide +kernel
theorem d_jdk_38_m26_11 : decode jdk_38_method_26_code 11 = .ok (.iadd, 1) := by decide +kernel
theorem d_jdk_38_m26_12 : decode jdk_38_method_26_code 12 = .ok (.putfield 63, 3) := by decide +kernel
theorem d_jdk_38_m26_15 : decode jdk_38_method_26_code 15 = .ok (.aload_n 0, 1) := by decide +kernel
theorem d_jdk_38_m26_16 : decode jdk_38_method_26_code 16 = .ok (.getfield 48, 3) := by decide +kernel
theorem d_jdk_38_m26_19 : decode jdk_38_method_26_code 19 = .ok (.dup, 1) := by decide +kernel
theorem d_jdk_38_m26_20 : decode jdk_38_method_26_code 20 = .ok (.istore_n 3, 1) := by decide +kernel
theorem d_jdk_38_m26_21 : decode jdk_38_method_26_code 21 = .ok (.aload_n 0, 1) := by decide +kernel
theorem d_jdk_38_m26_22 : decode jdk_38_method_26_code 22 = .ok (.getfield 9, 3) := by decide +kernel
theorem d_jdk_38_m26_25 : decode jdk_38_method_26_code 25 = .ok (.dup, 1) := by decide +kernel
theorem d_jdk_38_m26_26 : decode jdk_38_method_26_code 26 = .ok (.astore 4, 2) := by decide +kernel
theorem d_jdk_38_m26_28 : decode jdk_38_method_26_code 28 = .ok (.arraylength, 1) := by decide +kernel
theorem d_jdk_38_m26_29 : decode jdk_38_method_26_code 29 = .ok (.if_icmp .ne 9, 3) := by decide +kernel
theorem d_jdk_38_m26_38 : decode jdk_38_method_26_code 38 = .ok (.aload 4, 2) := by decide +kernel
theorem d_jdk_38_m26_40 : decode jdk_38_method_26_code 40 = .ok (.iload_n 1, 1) := by decide +kernel
theorem d_jdk_38_m26_41 : decode jdk_38_method_26_code 41 = .ok (.aload 4, 2) := by decide +kernel
theorem d_jdk_38_m26_43 : decode jdk_38_method_26_code 43 = .ok (.iload_n 1, 1) := by decide +kernel
theorem d_jdk_38_m26_44 : decode jdk_38_method_26_code 44 = .ok (.iconst 1, 1) := by decide +kernel
theorem d_jdk_38_m26_45 : decode jdk_38_method_26_code 45 = .ok (.iadd, 1) := by decide +kernel
theorem d_jdk_38_m26_46 : decode jdk_38_method_26_code 46 = .ok (.iload_n 3, 1) := by decide +kernel
theorem d_jdk_38_m26_47 : decode jdk_38_method_26_code 47 = .ok (.iload_n 1, 1) := by decide +kernel
theorem d_jdk_38_m26_48 : decode jdk_38_method_26_code 48 = .ok (.isub, 1) := by decide +kernel
theorem d_jdk_38_m26_49 : decode jdk_38_method_26_code 49 = .ok (.invokestatic 112, 3) := by decide +kernel
theorem d_jdk_38_m26_52 : decode jdk_38_method_26_code 52 = .ok (.aload 4, 2) := by decide +kernel
theorem d_jdk_38_m26_54 : decode jdk_38_method_26_code 54 = .ok (.iload_n 1, 1) := by decide +kernel
theorem d_jdk_38_m26_55 : decode jdk_38_method_26_code 55 = .ok (.aload_n 2, 1) := by decide +kernel
theorem d_jdk_38_m26_56 : decode jdk_38_method_26_code 56 = .ok (.aastore, 1) := by decide +kernel
theorem d_jdk_38_m26_57 : decode jdk_38_method_26_code 57 = .ok (.aload_n 0, 1) := by decide +kernel
theorem d_jdk_38_m26_58 : decode jdk_38_method_26_code 58 = .ok (.iload_n 3, 1) := by decide +kernel
theorem d_jdk_38_m26_59 : decode jdk_38_method_26_code 59 = .ok (.iconst 1, 1) := by decide +kernel
theorem d_jdk_38_m26_60 : decode jdk_38_method_26_code 60 = .ok (.iadd, 1) := by decide +kernel
theorem d_jdk_38_m26_61 : decode jdk_38_method_26_code 61 = .ok (.putfield 48, 3) := by decide +kernel
theorem d_jdk_38_m26_64 : decode jdk_38_method_26_code 64 = .ok (.return_, 1) := by decide +kernel
theorem pd21 : parseMethodDescriptor "([C)V" = some ⟨[(.array .char)], none⟩ := by decide +kernel
theorem pd22 : parseMethodDescriptor "(Ljava/lang/String;[BJ)V" = some ⟨[(.object "java/lang/String"), (.array .byte), .long], none⟩ := by decide +kernel
theorem pd23 : parseMethodDescriptor "(Ljava/lang/Object;)Z" = some ⟨[(.object "java/lang/Object")], some .boolean⟩ := by decide +kernel
theorem pd24 : parseMethodDescriptor "(Ljava/util/List;)V" = some ⟨[(.object "java/util/List")], none⟩ := by decide +kernel
theorem pd25 : parseMethodDescriptor "()Lcom/example/keyhold/keyhold/model/SigningKey;" = some ⟨[], some (.object "com/example/keyhold/keyhold/model/SigningKey")⟩ := by decide +kernel
theorem pd26 : parseMethodDescriptor "(ILjava/lang/Object;)V" = some ⟨[.int, (.object "java/lang/Object")], none⟩ := by decide +kernel
theorem pn16 : plainName "com/example/keyhold/keyhold/model/KeyRingInUsePinLaw" = true := by first | (simp [plainName, overriddenIn]; done) | decide +kernel
def EL : List (String × Nat) := []
theorem eW {Z : State} {a0 : Array Value} (hw : ∀ d ∈ tables_1, d.before a0 Z = true) : EW Z a0 EL := EW.nil
theorem sA {Z : State} {a0 : Array Value} (hw : ∀ d ∈ tables_1, d.before a0 Z = true) : ∀ a ∈ Bundle.stringAtoms, a.before a0 Z = true := fun a ha => hw a ((by decide +kernel : ∀ a ∈ Bundle.stringAtoms, a ∈ tables_1) a ha)
set_option maxRecDepth 65536 in
set_option maxHeartbeats 40000000 in
theorem rm_record {l : Launch} {Z : State} {a0 : Array Value} (hw : ∀ d ∈ tables_1, d.before a0 Z = true) (a : Addr) (h0 : Heap) :
    Con l Z EL ⟨"java/lang/Record", "<init>", "()V"⟩ jdk_30_method_1_code 1 none [] { frames := 1, cells := 0, slots := 0, locals := 12 } #[(.ref a)] h0 [] (fun v h ws => v = none ∧ h0 = h ∧ ws = []) := by
  refine con_of (a0 := a0) (Ls := #[.val (.ref a)]) (plainFor_of_name pn0) (eW hw) (fun m => by first | (simp [entryFrame, mkF, argsToLocals, Value.category]; done) | rfl) ?_
  intro p e s m below meth c
  refine g_aloadN d_jdk_30_m1_0 (pc' := 1) rfl rfl rfl ?_
  refine go_init d_jdk_30_m1_1 (w42 hw) (w16 hw) (w17 hw) rfl (by decide) (W := 0) (Nat.le_of_ble_eq_true rfl) (by decide) (pc' := 4) rfl ?_
  exact go_return d_jdk_30_m1_4 rfl (ws' := []) (fun _ q => q) ⟨rfl, rfl, rfl⟩
set_option maxRecDepth 65536 in
set_option maxHeartbeats 40000000 in
theorem rm_require2 {l : Launch} {Z : State} {a0 : Array Value} (hw : ∀ d ∈ tables_1, d.before a0 Z = true) (a b : Addr) (h0 : Heap) :
    Con l Z EL ⟨"java/util/Objects", "requireNonNull", "(Ljava/lang/Object;Ljava/lang/String;)Ljava/lang/Object;"⟩ jdk_31_method_11_code 2 (some (.object "java/lang/Object")) [] { frames := 0, cells := 0, slots := 0, locals := 0 } #[(.ref a), (.ref b)] h0 [] (fun v h ws => v = some (.ref a) ∧ h0 = h ∧ ws = []) := by
  refine con_of (a0 := a0) (Ls := #[.val (.ref a), .val (.ref b)]) (plainFor_of_name pn1) (eW hw) (fun m => by first | (simp [entryFrame, mkF, argsToLocals, Value.category]; done) | rfl) ?_
  intro p e s m below meth c
  refine g_aloadN d_jdk_31_m11_0 (pc' := 1) rfl rfl rfl ?_
  refine g_ifnonnullYes d_jdk_31_m11_1 (pc' := 13) (by decide) (by decide) ?_
  refine g_aloadN d_jdk_31_m11_13 (pc' := 14) rfl rfl rfl ?_
  exact go_areturn d_jdk_31_m11_14 rfl rfl rfl (ws' := []) (fun _ q => q) ⟨rfl, rfl, rfl⟩
set_option maxRecDepth 65536 in
set_option maxHeartbeats 40000000 in
theorem rm_require1 {l : Launch} {Z : State} {a0 : Array Value} (hw : ∀ d ∈ tables_1, d.before a0 Z = true) (a : Addr) (h0 : Heap) :
    Con l Z EL ⟨"java/util/Objects", "requireNonNull", "(Ljava/lang/Object;)Ljava/lang/Object;"⟩ jdk_31_method_10_code 1 (some (.object "java/lang/Object")) [] { frames := 0, cells := 0, slots := 0, locals := 0 } #[(.ref a)] h0 [] (fun v h ws => v = some (.ref a) ∧ h0 = h ∧ ws = []) := by
  refine con_of (a0 := a0) (Ls := #[.val (.ref a)]) (plainFor_of_name pn1) (eW hw) (fun m => by first | (simp [entryFrame, mkF, argsToLocals, Value.category]; done) | rfl) ?_
  intro p e s m below meth c
  refine g_aloadN d_jdk_31_m10_0 (pc' := 1) rfl rfl rfl ?_
  refine g_ifnonnullYes d_jdk_31_m10_1 (pc' := 12) (by decide) (by decide) ?_
  refine g_aloadN d_jdk_31_m10_12 (pc' := 13) rfl rfl rfl ?_
  exact go_areturn d_jdk_31_m10_13 rfl rfl rfl (ws' := []) (fun _ q => q) ⟨rfl, rfl, rfl⟩
set_option maxRecDepth 65536 in
set_option maxHeartbeats 40000000 in
theorem rm_max {l : Launch} {Z : State} {a0 : Array Value} (hw : ∀ d ∈ tables_1, d.before a0 Z = true) (x y : Int32) (h0 : Heap) :
    Con l Z EL ⟨"java/lang/Math", "max", "(II)I"⟩ jdk_29_method_65_code 2 (some .int) [] { frames := 0, cells := 0, slots := 0, locals := 0 } #[(.int x), (.int y)] h0 [] (fun v h ws => v = some (.int (if x < y then y else x)) ∧ h0 = h ∧ ws = []) := by
  refine con_of (a0 := a0) (Ls := #[.val (.int x), .val (.int y)]) (Jvm.Free.JP.mathPlain rfl (by decide)) (eW hw) (fun m => by first | (simp [entryFrame, mkF, argsToLocals, Value.category]; done) | rfl) ?_
  intro p e s m below meth c
  refine g_iloadN d_jdk_29_m65_0 (pc' := 1) rfl rfl ?_
  refine g_iloadN d_jdk_29_m65_1 (pc' := 2) rfl rfl ?_
  by_cases h2 : x < y
  · -- h2 holds
    refine g_icmpYes d_jdk_29_m65_2 (pc' := 9) (tlt h2).1 (by decide) (by decide) ?_
    refine g_iloadN d_jdk_29_m65_9 (pc' := 10) rfl rfl ?_
    exact go_ireturn d_jdk_29_m65_10 rfl (Or.inl rfl) rfl (ws' := []) (fun _ q => q) ⟨by first | rw [if_pos h2] | rw [if_neg h2], rfl, rfl⟩
  · -- h2 does not hold
    refine g_icmpNo d_jdk_29_m65_2 (pc' := 5) rfl (flt h2).1 ?_
    refine g_iloadN d_jdk_29_m65_5 (pc' := 6) rfl rfl ?_
    refine g_goto d_jdk_29_m65_6 (pc' := 10) (by decide) (by decide) ?_
    exact go_ireturn d_jdk_29_m65_10 rfl (Or.inl rfl) rfl (ws' := []) (fun _ q => q) ⟨by first | rw [if_pos h2] | rw [if_neg h2], rfl, rfl⟩
set_option maxRecDepth 65536 in
set_option maxHeartbeats 40000000 in
theorem rm_min {l : Launch} {Z : State} {a0 : Array Value} (hw : ∀ d ∈ tables_1, d.before a0 Z = true) (x y : Int32) (h0 : Heap) :
    Con l Z EL ⟨"java/lang/Math", "min", "(II)I"⟩ jdk_29_method_69_code 2 (some .int) [] { frames := 0, cells := 0, slots := 0, locals := 0 } #[(.int x), (.int y)] h0 [] (fun v h ws => v = some (.int (if y < x then y else x)) ∧ h0 = h ∧ ws = []) := by
  refine con_of (a0 := a0) (Ls := #[.val (.int x), .val (.int y)]) (Jvm.Free.JP.mathPlain rfl (by decide)) (eW hw) (fun m => by first | (simp [entryFrame, mkF, argsToLocals, Value.category]; done) | rfl) ?_
  intro p e s m below meth c
  refine g_iloadN d_jdk_29_m69_0 (pc' := 1) rfl rfl ?_
  refine g_iloadN d_jdk_29_m69_1 (pc' := 2) rfl rfl ?_
  by_cases h2 : y < x
  · -- h2 holds
    refine g_icmpYes d_jdk_29_m69_2 (pc' := 9) (tlt h2).2.2.1 (by decide) (by decide) ?_
    refine g_iloadN d_jdk_29_m69_9 (pc' := 10) rfl rfl ?_
    exact go_ireturn d_jdk_29_m69_10 rfl (Or.inl rfl) rfl (ws' := []) (fun _ q => q) ⟨by first | rw [if_pos h2] | rw [if_neg h2], rfl, rfl⟩
  · -- h2 does not hold
    refine g_icmpNo d_jdk_29_m69_2 (pc' := 5) rfl (flt h2).2.2.1 ?_
    refine g_iloadN d_jdk_29_m69_5 (pc' := 6) rfl rfl ?_
    refine g_goto d_jdk_29_m69_6 (pc' := 10) (by decide) (by decide) ?_
    exact go_ireturn d_jdk_29_m69_10 rfl (Or.inl rfl) rfl (ws' := []) (fun _ q => q) ⟨by first | rw [if_pos h2] | rw [if_neg h2], rfl, rfl⟩
set_option maxRecDepth 65536 in
set_option maxHeartbeats 40000000 in
theorem lp_compress {l : Launch} {Z : State} {a0 : Array Value} (hw : ∀ d ∈ tables_1, d.before a0 Z = true) {p : Program} {e : Env} {R : Room} {s : State} {m : MethodId} {args : Array Value} {below : List Frame} {meth : Method} {c : Code} (cs : List Int32) (hN : cs.length ≤ 4000) (a b : Addr) (k kb : ClassId) (hne : a ≠ b) (h0 : Heap) :
    ∀ (d j : Nat), j + d = cs.length → ∀ (hh : Heap) (vs : List Value) (s6 : Slot), One s6 → (∀ i, i < j → ¬ (255 : Int32) < cs.getD i 0) → vs.length = cs.length → (∀ i, i < j → vs.getD i (.int 0) = by8 (cs.getD i 0)) →
      Arv Z hh a k .char (Int32.ofNat cs.length) (cs.map Value.int) (.int 0) → Arv Z hh b kb .byte (Int32.ofNat cs.length) vs (.int 0) → Keep h0 hh [b] →
      Go p l e R s m args below meth c Z a0 EL "java/lang/StringUTF16" jdk_52_method_21_code 7 (some .int) "compress" [b] hh 0 0 3 #[.val (.ref a), .val (.int (Int32.ofNat j)), .val (.ref b), .val (.int (Int32.ofNat j)), .val (.int (Int32.ofNat cs.length)), .val (.int (Int32.ofNat j)), s6] [] (fun v h ws => ∃ (r : Nat) (vs : List Value), v = some (.int (Int32.ofNat r)) ∧ ws = [] ∧ r ≤ cs.length ∧ (r < cs.length → (255 : Int32) < cs.getD r 0) ∧ (∀ i, i < r → ¬ (255 : Int32) < cs.getD i 0) ∧ vs.length = cs.length ∧ (∀ i, i < r → vs.getD i (.int 0) = by8 (cs.getD i 0)) ∧ Keep h0 h [b] ∧ Arv Z h b kb .byte (Int32.ofNat cs.length) vs (.int 0)) := by
  intro d; induction d with
  | zero =>
    intro j hd hh vs s6 h6 hlo hvl hby Aa Ab K
    have hj31 : j < 2147483648 := by omega
    have hN31 : cs.length < 2147483648 := by omega
    refine g_iload d_jdk_52_m21_3 (pc' := 5) rfl rfl ?_
    refine g_iload d_jdk_52_m21_5 (pc' := 7) rfl rfl ?_
    refine g_icmpYes d_jdk_52_m21_7 (pc' := 44) (flt (fun q => by have := (o_lt hj31 hN31).mp q; omega)).2.1 (by decide) (by decide) ?_
    refine g_iload d_jdk_52_m21_44 (pc' := 46) rfl rfl ?_
    exact go_ireturn d_jdk_52_m21_46 rfl (Or.inl rfl) rfl (ws' := []) all0 ⟨cs.length, vs, rfl, rfl, Nat.le_refl _, fun q => absurd q (Nat.lt_irrefl _), fun i hi => hlo i (by omega), hvl, fun i hi => hby i (by omega), K, Ab⟩
  | succ d ih =>
    intro j hd hh vs s6 h6 hlo hvl hby Aa Ab K
    have hj31 : j < 2147483648 := by omega
    have hN31 : cs.length < 2147483648 := by omega
    refine g_iload d_jdk_52_m21_3 (pc' := 5) rfl rfl ?_
    refine g_iload d_jdk_52_m21_5 (pc' := 7) rfl rfl ?_
    refine g_icmpNo d_jdk_52_m21_7 (pc' := 10) rfl (tlt ((o_lt hj31 hN31).mpr (by omega))).2.1 ?_
    refine g_aloadN d_jdk_52_m21_10 (pc' := 11) rfl rfl rfl ?_
    refine g_iloadN d_jdk_52_m21_11 (pc' := 12) rfl rfl ?_
    refine go_caload d_jdk_52_m21_12 Aa (v := (.int (cs.getD j 0))) ⟨o_nn hj31, (o_lt hj31 hN31).mpr (by omega)⟩ (by rw [o_cl hj31]; exact map_getD cs j) (pc' := 13) rfl ?_
    refine g_istore d_jdk_52_m21_13 (pc' := 15) (Ls' := #[.val (.ref a), .val (.int (Int32.ofNat j)), .val (.ref b), .val (.int (Int32.ofNat j)), .val (.int (Int32.ofNat cs.length)), .val (.int (Int32.ofNat j)), .val (.int (cs.getD j 0))]) rfl (XS.store1 rfl h6 rfl) ?_
    refine g_iload d_jdk_52_m21_15 (pc' := 17) rfl rfl ?_
    refine g_sipush d_jdk_52_m21_17 (pc' := 20) rfl (z := 255) rfl ?_
    by_cases hc : (255 : Int32) < (cs.getD j 0)
    · -- hc holds
      refine g_icmpNo d_jdk_52_m21_20 (pc' := 23) rfl (tlt hc).2.2.2 ?_
      refine g_iload d_jdk_52_m21_23 (pc' := 25) rfl rfl ?_
      exact go_ireturn d_jdk_52_m21_25 rfl (Or.inl rfl) rfl (ws' := []) all0 ⟨j, vs, rfl, rfl, by omega, fun _ => hc, hlo, hvl, hby, K, Ab⟩
    · -- hc does not hold
      refine g_icmpYes d_jdk_52_m21_20 (pc' := 26) (flt hc).2.2.2 (by decide) (by decide) ?_
      refine g_aloadN d_jdk_52_m21_26 (pc' := 27) rfl rfl rfl ?_
      refine g_iloadN d_jdk_52_m21_27 (pc' := 28) rfl rfl ?_
      refine g_iload d_jdk_52_m21_28 (pc' := 30) rfl rfl ?_
      refine g_i2b d_jdk_52_m21_30 (pc' := 31) rfl ?_
      refine go_bastore j d_jdk_52_m21_31 Ab ⟨o_nn hj31, (o_lt hj31 hN31).mpr (by omega)⟩ (o_cl hj31) (by omega) (x' := (cs.getD j 0).toInt8.toInt32) (i2b2 _) (List.mem_of_getElem? (i := 0) rfl) (pc' := 32) rfl ?_
      intro h1 W2 A3
      refine g_iinc d_jdk_52_m21_32 (pc' := 35) (Ls' := #[.val (.ref a), .val (.int ((Int32.ofNat j) + (1 : Int32))), .val (.ref b), .val (.int (Int32.ofNat j)), .val (.int (Int32.ofNat cs.length)), .val (.int (Int32.ofNat j)), .val (.int (cs.getD j 0))]) rfl rfl rfl ?_
      refine g_iinc d_jdk_52_m21_35 (pc' := 38) (Ls' := #[.val (.ref a), .val (.int ((Int32.ofNat j) + (1 : Int32))), .val (.ref b), .val (.int ((Int32.ofNat j) + (1 : Int32))), .val (.int (Int32.ofNat cs.length)), .val (.int (Int32.ofNat j)), .val (.int (cs.getD j 0))]) rfl rfl rfl ?_
      refine g_iinc d_jdk_52_m21_38 (pc' := 41) (Ls' := #[.val (.ref a), .val (.int ((Int32.ofNat j) + (1 : Int32))), .val (.ref b), .val (.int ((Int32.ofNat j) + (1 : Int32))), .val (.int (Int32.ofNat cs.length)), .val (.int ((Int32.ofNat j) + (1 : Int32))), .val (.int (cs.getD j 0))]) rfl rfl rfl ?_
      refine g_goto d_jdk_52_m21_41 (pc' := 3) (by decide) (by decide) ?_
      rw [o_inc j]
      refine ih (j + 1) (by omega) _ _ _ (One.val rfl) (fun i hi => ?_) (by rw [List.length_set]; exact hvl) (fun i hi => ?_) (Aa.other W2 hne) A3 (K.wr W2 (Or.inl (List.mem_of_getElem? (i := 0) rfl)))
      · rcases Nat.lt_succ_iff_lt_or_eq.mp hi with q | q
        · exact hlo i q
        · rw [q]; exact hc
      · rcases Nat.lt_succ_iff_lt_or_eq.mp hi with q | q
        · rw [getD_set_ne (by omega)]; exact hby i q
        · rw [q, getD_set_eq (by omega)]; rfl
set_option maxRecDepth 65536 in
set_option maxHeartbeats 40000000 in
theorem rm_compressI {l : Launch} {Z : State} {a0 : Array Value} (hw : ∀ d ∈ tables_1, d.before a0 Z = true) (cs : List Int32) (a b : Addr) (k kb : ClassId) (vs : List Value) (h0 : Heap) (hN : cs.length ≤ 4000) (hne : a ≠ b) (hvl : vs.length = cs.length) (Aa : Arv Z h0 a k .char (Int32.ofNat cs.length) (cs.map Value.int) (.int 0)) (Ab : Arv Z h0 b kb .byte (Int32.ofNat cs.length) vs (.int 0)) :
    Con l Z EL ⟨"java/lang/StringUTF16", "compress", "([CI[BII)I"⟩ jdk_52_method_21_code 7 (some .int) [] { frames := 0, cells := 0, slots := 0, locals := 0 } #[(.ref a), (.int (0 : Int32)), (.ref b), (.int (0 : Int32)), (.int (Int32.ofNat cs.length))] h0 [b] (fun v h ws => ∃ (r : Nat) (vs : List Value), v = some (.int (Int32.ofNat r)) ∧ ws = [] ∧ r ≤ cs.length ∧ (r < cs.length → (255 : Int32) < cs.getD r 0) ∧ (∀ i, i < r → ¬ (255 : Int32) < cs.getD i 0) ∧ vs.length = cs.length ∧ (∀ i, i < r → vs.getD i (.int 0) = by8 (cs.getD i 0)) ∧ Keep h0 h [b] ∧ Arv Z h b kb .byte (Int32.ofNat cs.length) vs (.int 0)) := by
  refine con_of (a0 := a0) (Ls := #[.val (.ref a), .val (.int (0 : Int32)), .val (.ref b), .val (.int (0 : Int32)), .val (.int (Int32.ofNat cs.length)), .unset, .unset]) (plainFor_of_name pn2) (eW hw) (fun m => by first | (simp [entryFrame, mkF, argsToLocals, Value.category]; done) | rfl) ?_
  intro p e s m below meth c
  refine g_iconst d_jdk_52_m21_0 (pc' := 1) rfl (z := 0) rfl ?_
  refine g_istore d_jdk_52_m21_1 (pc' := 3) (Ls' := #[.val (.ref a), .val (.int (0 : Int32)), .val (.ref b), .val (.int (0 : Int32)), .val (.int (Int32.ofNat cs.length)), .val (.int (0 : Int32)), .unset]) rfl rfl ?_
  exact lp_compress hw cs hN a b k kb hne h0 cs.length 0 (by omega) h0 vs .unset One.u (fun i hi => absurd hi (Nat.not_lt_zero _)) hvl (fun i hi => absurd hi (Nat.not_lt_zero _)) Aa Ab (Keep.refl _ _)
set_option maxRecDepth 65536 in
set_option maxHeartbeats 40000000 in
theorem rm_compressLat {l : Launch} {Z : State} {a0 : Array Value} (hw : ∀ d ∈ tables_1, d.before a0 Z = true) (cs : List Int32) (a : Addr) (k : ClassId) (h0 : Heap) (hN : cs.length ≤ 16) (hlat : ∀ c ∈ cs, ¬ (255 : Int32) < c) (Aa : Arv Z h0 a k .char (Int32.ofNat cs.length) (cs.map Value.int) (.int 0)) :
    Con l Z EL ⟨"java/lang/StringUTF16", "compress", "([CII)[B"⟩ jdk_52_method_16_code 6 (some (.array .byte)) [] { frames := 1, cells := 1, slots := 16, locals := 18 } #[(.ref a), (.int (0 : Int32)), (.int (Int32.ofNat cs.length))] h0 [] (fun v h ws => ∃ b kb, v = some (.ref b) ∧ ws = [b] ∧ h0.size ≤ b ∧ Keep h0 h [] ∧ Arv Z h b kb .byte (Int32.ofNat cs.length) (cs.map by8) (.int 0)) := by
  refine con_of (a0 := a0) (Ls := #[.val (.ref a), .val (.int (0 : Int32)), .val (.int (Int32.ofNat cs.length)), .unset, .unset, .unset]) (plainFor_of_name pn2) (eW hw) (fun m => by first | (simp [entryFrame, mkF, argsToLocals, Value.category]; done) | rfl) ?_
  intro p e s m below meth c
  refine g_iloadN d_jdk_52_m16_0 (pc' := 1) rfl rfl ?_
  refine go_newarray d_jdk_52_m16_1 (w23 hw) (o_nn (by omega)) (cap := 16) (by rw [o_cl (by omega)]; exact hN) (by decide) (by decide) (by decide) (ad := "[B") rfl (pc' := 3) rfl ?_
  intro h4 a5 k6 g7 E8 A9 X10
  have A11 := Arv.pad A9 (pad_rep [] (.int 0) cs.length)
  refine g_astoreN d_jdk_52_m16_3 (pc' := 4) (Ls' := #[.val (.ref a), .val (.int (0 : Int32)), .val (.int (Int32.ofNat cs.length)), .val (.ref a5), .unset, .unset]) rfl rfl rfl ?_
  refine g_aloadN d_jdk_52_m16_4 (pc' := 5) rfl rfl rfl ?_
  refine g_iloadN d_jdk_52_m16_5 (pc' := 6) rfl rfl ?_
  refine g_aloadN d_jdk_52_m16_6 (pc' := 7) rfl rfl rfl ?_
  refine g_iconst d_jdk_52_m16_7 (pc' := 8) rfl (z := 0) rfl ?_
  refine g_iloadN d_jdk_52_m16_8 (pc' := 9) rfl rfl ?_
  have ne12 : a ≠ a5 := Nat.ne_of_lt (Nat.lt_of_lt_of_le Aa.lt (Nat.le_of_eq g7.symm))
  refine go_static d_jdk_52_m16_9 (rm_compressI hw cs a a5 k _ _ h4 (by omega) ne12 (by rw [List.length_append, List.length_replicate]; simp) (Aa.ext E8) A11) (fun _ q => q) (w24 hw) (w25 hw) (w21 hw) (w26 hw) (by decide) (argsL := [(.ref a), (.int (0 : Int32)), (.ref a5), (.int (0 : Int32)), (.int (Int32.ofNat cs.length))]) (rest := []) (lenOf pd0 rfl) rfl rfl rfl (W := 0) (Nat.le_of_ble_eq_true rfl) (by decide) (by decide) (by decide) (by decide) (pc' := 12) rfl ?_
  rintro _ h13 _ ⟨r, vs, rfl, rfl, hr, hr2, hr3, hvl, hby, K, Ab⟩ hsz
  have er : r = cs.length := by rcases Nat.lt_or_ge r cs.length with q | q; exact absurd (hr2 q) (getD_lat hlat r); omega
  subst er
  show Go _ _ _ _ _ _ _ _ _ _ _ _ _ _ _ _ _ _ _ _ _ _ _ _ [(.int (Int32.ofNat cs.length))] _
  refine g_istore d_jdk_52_m16_12 (pc' := 14) (Ls' := #[.val (.ref a), .val (.int (0 : Int32)), .val (.int (Int32.ofNat cs.length)), .val (.ref a5), .val (.int (Int32.ofNat cs.length)), .unset]) rfl rfl ?_
  refine g_iload d_jdk_52_m16_14 (pc' := 16) rfl rfl ?_
  refine g_iloadN d_jdk_52_m16_16 (pc' := 17) rfl rfl ?_
  refine g_icmpYes d_jdk_52_m16_17 (pc' := 57) (teq rfl).1 (by decide) (by decide) ?_
  refine g_aloadN d_jdk_52_m16_57 (pc' := 58) rfl rfl rfl ?_
  have K1 := (Keep_of_ext E8).trans K (allS (Or.inr (Nat.le_of_eq g7.symm)) all0)
  have A1 := Arv_congr (vs' := cs.map by8) Ab (fun i hi => by rw [map8_getD]; exact (hby i (by rw [o_cl (by omega)] at hi; exact hi)).symm)
  exact go_areturn d_jdk_52_m16_58 rfl rfl rfl (ws' := [a5]) (fun _ q => q) ⟨_, _, rfl, rfl, (Nat.le_of_eq g7.symm), K1, A1⟩
set_option maxRecDepth 65536 in
set_option maxHeartbeats 40000000 in
theorem rm_coderLat {l : Launch} {Z : State} {a0 : Array Value} (hw : ∀ d ∈ tables_1, d.before a0 Z = true) (b : Addr) (kb : ClassId) (z : Int32) (vs : List Value) (h0 : Heap) (Ab : Arv Z h0 b kb .byte z vs (.int 0)) :
    Con l Z EL ⟨"java/lang/StringUTF16", "coderFromArrayLen", "([BI)B"⟩ jdk_52_method_15_code 2 (some .byte) [] { frames := 0, cells := 0, slots := 0, locals := 0 } #[(.ref b), (.int z)] h0 [] (fun v h ws => v = some (.int 0) ∧ h0 = h ∧ ws = []) := by
  refine con_of (a0 := a0) (Ls := #[.val (.ref b), .val (.int z)]) (plainFor_of_name pn2) (eW hw) (fun m => by first | (simp [entryFrame, mkF, argsToLocals, Value.category]; done) | rfl) ?_
  intro p e s m below meth c
  refine g_iloadN d_jdk_52_m15_0 (pc' := 1) rfl rfl ?_
  refine g_aloadN d_jdk_52_m15_1 (pc' := 2) rfl rfl rfl ?_
  refine go_arraylength d_jdk_52_m15_2 Ab (pc' := 3) rfl ?_
  refine g_isub d_jdk_52_m15_3 (pc' := 4) rfl ?_
  refine g_bipush d_jdk_52_m15_4 (pc' := 6) rfl (z := 31) rfl ?_
  refine g_iushr d_jdk_52_m15_6 (pc' := 7) rfl ?_
  refine g_i2b d_jdk_52_m15_7 (pc' := 8) rfl ?_
  rw [show ((((((z - z)).toUInt32 >>> (((31 : Int32) &&& 31)).toUInt32).toInt32)).toInt8.toInt32) = (0 : Int32) from by rw [Int32.sub_self]; rfl]
  exact go_ireturn d_jdk_52_m15_8 rfl (Or.inr (Or.inr (Or.inl rfl))) rfl (ws' := []) (fun _ q => q) ⟨rfl, rfl, rfl⟩
set_option maxRecDepth 65536 in
set_option maxHeartbeats 40000000 in
theorem rm_initCV {l : Launch} {Z : State} {a0 : Array Value} (hw : ∀ d ∈ tables_1, d.before a0 Z = true) (cs : List Int32) (a ca : Addr) (k : ClassId) (o1 o2 : Value) (co : Int32) (W : List Addr) (h0 : Heap) (hN : cs.length ≤ 16) (hpos : 0 < cs.length) (hlat : ∀ c ∈ cs, ¬ (255 : Int32) < c) (E : Exa Z h0 a "java/lang/String") (Fv : Fld Z h0 a "java/lang/String" "value" "[B" o1) (Fc : Fld Z h0 a "java/lang/String" "coder" "B" o2) (Aa : Arv Z h0 ca k .char (Int32.ofNat cs.length) (cs.map Value.int) (.int 0)) (Sc : Sta Z Z.heap "java/lang/String" "COMPACT_STRINGS" "Z" (.int co)) (hco : ¬ co = 0) :
    Con l Z EL ⟨"java/lang/String", "<init>", "([CIILjava/lang/Void;)V"⟩ jdk_42_method_149_code 6 none [] { frames := 2, cells := 1, slots := 16, locals := 35 } #[(.ref a), (.ref ca), (.int (0 : Int32)), (.int (Int32.ofNat cs.length)), .null] h0 (a :: W) (fun v h ws => v = none ∧ ∃ b, ws = [] ∧ Keep h0 h [a] ∧ LatB Z h a b cs ∧ (∀ x ∈ a :: W, x ≠ b)) := by
  refine con_of (a0 := a0) (Ls := #[.val (.ref a), .val (.ref ca), .val (.int (0 : Int32)), .val (.int (Int32.ofNat cs.length)), .val .null, .unset]) (plainFor_of_name pn3) (eW hw) (fun m => by first | (simp [entryFrame, mkF, argsToLocals, Value.category]; done) | rfl) ?_
  intro p e s m below meth c
  refine go_safe (fun hsf => ?_)
  refine g_aloadN d_jdk_42_m149_0 (pc' := 1) rfl rfl rfl ?_
  refine go_init d_jdk_42_m149_1 (w15 hw) (w16 hw) (w17 hw) rfl (by decide) (W := 0) (Nat.le_of_ble_eq_true rfl) (by decide) (pc' := 4) rfl ?_
  refine g_iloadN d_jdk_42_m149_4 (pc' := 5) rfl rfl ?_
  refine g_ifYes d_jdk_42_m149_5 (pc' := 27) (feq (fun q => by have := (o_eq (by omega) (by omega)).mp (q.trans (show (0 : Int32) = Int32.ofNat 0 from rfl)); omega)).2 (by decide) (by decide) ?_
  refine go_getstatic d_jdk_42_m149_27 (w18 hw) Via.refl Sc (pc' := 30) rfl ?_
  refine g_ifNo d_jdk_42_m149_30 (pc' := 33) rfl (feq hco).1 ?_
  refine g_aloadN d_jdk_42_m149_33 (pc' := 34) rfl rfl rfl ?_
  refine g_iloadN d_jdk_42_m149_34 (pc' := 35) rfl rfl ?_
  refine g_iloadN d_jdk_42_m149_35 (pc' := 36) rfl rfl ?_
  refine go_static d_jdk_42_m149_36 (rm_compressLat hw cs ca k h0 hN hlat Aa) all0 (w19 hw) (w20 hw) (w21 hw) (w22 hw) (by decide) (argsL := [(.ref ca), (.int (0 : Int32)), (.int (Int32.ofNat cs.length))]) (rest := []) (lenOf pd1 rfl) rfl rfl rfl (W := 0) (Nat.le_of_ble_eq_true rfl) (by decide) (by decide) (by decide) (by decide) (pc' := 39) rfl ?_
  rintro _ h14 _ ⟨b, kb, rfl, rfl, hb0, Kc, Ab⟩ hsz
  show Go _ _ _ _ _ _ _ _ _ _ _ _ _ _ _ _ _ _ _ _ _ _ _ _ [(.ref b)] _
  refine g_astore d_jdk_42_m149_39 (pc' := 41) (Ls' := #[.val (.ref a), .val (.ref ca), .val (.int (0 : Int32)), .val (.int (Int32.ofNat cs.length)), .val .null, .val (.ref b)]) rfl rfl rfl ?_
  refine g_aloadN d_jdk_42_m149_41 (pc' := 42) rfl rfl rfl ?_
  refine g_aload d_jdk_42_m149_42 (pc' := 44) rfl rfl rfl ?_
  refine g_iloadN d_jdk_42_m149_44 (pc' := 45) rfl rfl ?_
  refine go_static d_jdk_42_m149_45 (rm_coderLat hw b _ (Int32.ofNat cs.length) _ h14 Ab) all0 (w27 hw) (w28 hw) (w21 hw) (w29 hw) (by decide) (argsL := [(.ref b), (.int (Int32.ofNat cs.length))]) (rest := [(.ref a)]) (lenOf pd2 rfl) rfl rfl rfl (W := 1) (Nat.le_of_ble_eq_true rfl) (by decide) (by decide) (by decide) (by decide) (pc' := 48) rfl ?_
  rintro _ _ _ ⟨rfl, rfl, rfl⟩ z15
  show Go _ _ _ _ _ _ _ _ _ _ _ _ _ _ _ _ _ _ _ _ _ _ _ _ [(.int (0 : Int32)), (.ref a)] _
  refine go_putfield d_jdk_42_m149_48 (w30 hw) Via.refl (Fc.keep Kc nin0) (E.keep Kc) (Or.inr ⟨(w31 hw), rfl, rfl⟩) (w5 hw) (ty := .byte) (by decide) (v' := (.int (0 : Int32))) rfl rfl (List.mem_of_getElem? (i := 1) rfl) (pc' := 51) rfl ?_
  intro h16 W17
  have F18 := Fld.same W17 (Fc.keep Kc nin0)
  refine g_aloadN d_jdk_42_m149_51 (pc' := 52) rfl rfl rfl ?_
  refine g_aload d_jdk_42_m149_52 (pc' := 54) rfl rfl rfl ?_
  have f19 := (Fld.other W17 (Fv.keep Kc nin0) (Or.inr (slot_ne (Or.inr (w33 hw)) (Or.inr (w31 hw)) (by decide) (t := (.array .byte)) (t' := .byte) (by decide) (by decide))))
  refine go_putfield d_jdk_42_m149_54 (w32 hw) Via.refl f19 (Exa.wr W17 (E.keep Kc)) (Or.inr ⟨(w33 hw), rfl, rfl⟩) (w5 hw) (ty := (.array .byte)) (by decide) (v' := (.ref b)) rfl rfl (List.mem_of_getElem? (i := 1) rfl) (pc' := 57) rfl ?_
  intro h20 W21
  have F22 := Fld.same W21 f19
  have K23 : Keep h0 h14 [a] := ((Keep.refl h0 [a]).trans Kc all0)
  have K24 : Keep h0 h16 [a] := (K23.wr W17 (Or.inl (List.mem_of_getElem? (i := 0) rfl)))
  have K25 : Keep h0 h20 [a] := (K24.wr W21 (Or.inl (List.mem_of_getElem? (i := 0) rfl)))
  have f26 := (Fld.other W21 F18 (Or.inr (slot_ne (Or.inr (w31 hw)) (Or.inr (w33 hw)) (by decide) (t := .byte) (t' := (.array .byte)) (by decide) (by decide))))
  have ne27 : b ≠ a := Ne.symm (Nat.ne_of_lt (Nat.lt_of_lt_of_le E.lt hb0))
  exact go_return d_jdk_42_m149_57 rfl (ws' := []) all0 ⟨rfl, b, rfl, K25, LatB.mk (Exa.wr W21 (Exa.wr W17 (E.keep Kc))) f26 F22 ((Ab.other W17 ne27).other W21 ne27) rfl rfl, fun x hx => Nat.ne_of_lt (Nat.lt_of_lt_of_le (hsf x hx).2 hb0)⟩
set_option maxRecDepth 65536 in
set_option maxHeartbeats 40000000 in
theorem rm_initC {l : Launch} {Z : State} {a0 : Array Value} (hw : ∀ d ∈ tables_1, d.before a0 Z = true) (cs : List Int32) (a ca : Addr) (k : ClassId) (o1 o2 : Value) (co : Int32) (W : List Addr) (h0 : Heap) (hN : cs.length ≤ 16) (hpos : 0 < cs.length) (hlat : ∀ c ∈ cs, ¬ (255 : Int32) < c) (E : Exa Z h0 a "java/lang/String") (Fv : Fld Z h0 a "java/lang/String" "value" "[B" o1) (Fc : Fld Z h0 a "java/lang/String" "coder" "B" o2) (Aa : Arv Z h0 ca k .char (Int32.ofNat cs.length) (cs.map Value.int) (.int 0)) (Sc : Sta Z Z.heap "java/lang/String" "COMPACT_STRINGS" "Z" (.int co)) (hco : ¬ co = 0) :
    Con l Z EL ⟨"java/lang/String", "<init>", "([C)V"⟩ jdk_42_method_3_code 2 none [] { frames := 3, cells := 1, slots := 16, locals := 52 } #[(.ref a), (.ref ca)] h0 (a :: W) (fun v h ws => v = none ∧ ∃ b, ws = [] ∧ Keep h0 h [a] ∧ LatB Z h a b cs ∧ (∀ x ∈ a :: W, x ≠ b)) := by
  refine con_of (a0 := a0) (Ls := #[.val (.ref a), .val (.ref ca)]) (plainFor_of_name pn3) (eW hw) (fun m => by first | (simp [entryFrame, mkF, argsToLocals, Value.category]; done) | rfl) ?_
  intro p e s m below meth c
  refine g_aloadN d_jdk_42_m3_0 (pc' := 1) rfl rfl rfl ?_
  refine g_aloadN d_jdk_42_m3_1 (pc' := 2) rfl rfl rfl ?_
  refine g_iconst d_jdk_42_m3_2 (pc' := 3) rfl (z := 0) rfl ?_
  refine g_aloadN d_jdk_42_m3_3 (pc' := 4) rfl rfl rfl ?_
  refine go_arraylength d_jdk_42_m3_4 Aa (pc' := 5) rfl ?_
  refine g_aconstNull d_jdk_42_m3_5 (pc' := 6) rfl ?_
  refine go_special d_jdk_42_m3_6 (rm_initCV hw cs a ca k _ _ co W h0 hN hpos hlat E Fv Fc Aa Sc hco) (fun _ q => q) rfl (w11 hw) (w12 hw) (w6 hw) (w14 hw) (by decide) (argsL := [(.ref ca), (.int (0 : Int32)), (.int (Int32.ofNat cs.length)), .null]) (rest := []) (lenOf pd3 rfl) rfl rfl rfl (W := 0) (Nat.le_of_ble_eq_true rfl) (by decide) (by decide) (by decide) (by decide) (pc' := 9) rfl ?_
  rintro _ h28 _ ⟨rfl, b, rfl, K, L, hnb⟩ hsz
  show Go _ _ _ _ _ _ _ _ _ _ _ _ _ _ _ _ _ _ _ _ _ _ _ _ [] _
  exact go_return d_jdk_42_m3_9 rfl (ws' := []) all0 ⟨rfl, b, rfl, K, L, hnb⟩
set_option maxRecDepth 65536 in
set_option maxHeartbeats 40000000 in
theorem rm_abc {l : Launch} {Z : State} {a0 : Array Value} (hw : ∀ d ∈ tables_1, d.before a0 Z = true) (a : Addr) (h0 : Heap) :
    Con l Z EL ⟨"java/util/AbstractCollection", "<init>", "()V"⟩ jdk_22_method_1_code 1 none [] { frames := 1, cells := 0, slots := 0, locals := 12 } #[(.ref a)] h0 [] (fun v h ws => v = none ∧ h0 = h ∧ ws = []) := by
  refine con_of (a0 := a0) (Ls := #[.val (.ref a)]) (plainFor_of_name pn4) (eW hw) (fun m => by first | (simp [entryFrame, mkF, argsToLocals, Value.category]; done) | rfl) ?_
  intro p e s m below meth c
  refine g_aloadN d_jdk_22_m1_0 (pc' := 1) rfl rfl rfl ?_
  refine go_init d_jdk_22_m1_1 (w75 hw) (w16 hw) (w17 hw) rfl (by decide) (W := 0) (Nat.le_of_ble_eq_true rfl) (by decide) (pc' := 4) rfl ?_
  exact go_return d_jdk_22_m1_4 rfl (ws' := []) (fun _ q => q) ⟨rfl, rfl, rfl⟩
set_option maxRecDepth 65536 in
set_option maxHeartbeats 40000000 in
theorem rm_abl {l : Launch} {Z : State} {a0 : Array Value} (hw : ∀ d ∈ tables_1, d.before a0 Z = true) (li : Addr) (o1 o2 : Value) (h0 : Heap) (E : Exa Z h0 li "java/util/ArrayList") (Fm : Fld Z h0 li "java/util/AbstractList" "modCount" "I" o1) (Fe : Fld Z h0 li "java/util/ArrayList" "elementData" "[Ljava/lang/Object;" o2) (Fs : Fld Z h0 li "java/util/ArrayList" "size" "I" (.int 0)) :
    Con l Z EL ⟨"java/util/AbstractList", "<init>", "()V"⟩ jdk_39_method_1_code 1 none [] { frames := 2, cells := 0, slots := 0, locals := 24 } #[(.ref li)] h0 [li] (fun v h ws => v = none ∧ ws = [] ∧ Keep h0 h [li] ∧ Fld Z h li "java/util/AbstractList" "modCount" "I" (.int 0) ∧ Fld Z h li "java/util/ArrayList" "elementData" "[Ljava/lang/Object;" o2 ∧ Fld Z h li "java/util/ArrayList" "size" "I" (.int 0)) := by
  refine con_of (a0 := a0) (Ls := #[.val (.ref li)]) (plainFor_of_name pn5) (eW hw) (fun m => by first | (simp [entryFrame, mkF, argsToLocals, Value.category]; done) | rfl) ?_
  intro p e s m below meth c
  refine g_aloadN d_jdk_39_m1_0 (pc' := 1) rfl rfl rfl ?_
  refine go_special d_jdk_39_m1_1 (rm_abc hw li h0) all0 rfl (w69 hw) (w70 hw) (w73 hw) (w74 hw) (by decide) (argsL := []) (rest := []) (lenOf pd4 rfl) rfl rfl rfl (W := 0) (Nat.le_of_ble_eq_true rfl) (by decide) (by decide) (by decide) (by decide) (pc' := 4) rfl ?_
  rintro _ _ _ ⟨rfl, rfl, rfl⟩ z34
  show Go _ _ _ _ _ _ _ _ _ _ _ _ _ _ _ _ _ _ _ _ _ _ _ _ [] _
  refine g_aloadN d_jdk_39_m1_4 (pc' := 5) rfl rfl rfl ?_
  refine g_iconst d_jdk_39_m1_5 (pc' := 6) rfl (z := 0) rfl ?_
  refine go_putfield d_jdk_39_m1_6 (w76 hw) Via.refl Fm E (Or.inl (w77 hw)) (w58 hw) (ty := .int) (by decide) (v' := (.int (0 : Int32))) rfl rfl (List.mem_of_getElem? (i := 0) rfl) (pc' := 9) rfl ?_
  intro h35 W36
  have F37 := Fld.same W36 Fm
  have K38 : Keep h0 h35 [li] := ((Keep.refl h0 [li]).wr W36 (Or.inl (List.mem_of_getElem? (i := 0) rfl)))
  have f39 := (Fld.other W36 Fe (Or.inr (slot_ne (Or.inl (w80 hw)) (Or.inl (w77 hw)) (by decide) (t := (.array (.object "java/lang/Object"))) (t' := .int) (by decide) (by decide))))
  have f40 := (Fld.other W36 Fs (Or.inr (slot_ne (Or.inl (w89 hw)) (Or.inl (w77 hw)) (by decide) (t := .int) (t' := .int) (by decide) (by decide))))
  exact go_return d_jdk_39_m1_9 rfl (ws' := []) all0 ⟨rfl, rfl, K38, F37, f39, f40⟩
set_option maxRecDepth 65536 in
set_option maxHeartbeats 40000000 in
theorem rm_alInit {l : Launch} {Z : State} {a0 : Array Value} (hw : ∀ d ∈ tables_1, d.before a0 Z = true) (li de : Addr) (o1 o2 : Value) (h0 : Heap) (E : Exa Z h0 li "java/util/ArrayList") (Fm : Fld Z h0 li "java/util/AbstractList" "modCount" "I" o1) (Fe : Fld Z h0 li "java/util/ArrayList" "elementData" "[Ljava/lang/Object;" o2) (Fs : Fld Z h0 li "java/util/ArrayList" "size" "I" (.int 0)) (Sd : Sta Z Z.heap "java/util/ArrayList" "DEFAULTCAPACITY_EMPTY_ELEMENTDATA" "[Ljava/lang/Object;" (.ref de)) :
    Con l Z EL ⟨"java/util/ArrayList", "<init>", "()V"⟩ jdk_38_method_2_code 1 none [] { frames := 3, cells := 0, slots := 0, locals := 36 } #[(.ref li)] h0 [li] (fun v h ws => v = none ∧ ws = [] ∧ Keep h0 h [li] ∧ Fld Z h li "java/util/ArrayList" "elementData" "[Ljava/lang/Object;" (.ref de) ∧ Fld Z h li "java/util/ArrayList" "size" "I" (.int 0) ∧ Fld Z h li "java/util/AbstractList" "modCount" "I" (.int 0)) := by
  refine con_of (a0 := a0) (Ls := #[.val (.ref li)]) (plainFor_of_name pn6) (eW hw) (fun m => by first | (simp [entryFrame, mkF, argsToLocals, Value.category]; done) | rfl) ?_
  intro p e s m below meth c
  refine g_aloadN d_jdk_38_m2_0 (pc' := 1) rfl rfl rfl ?_
  refine go_special d_jdk_38_m2_1 (rm_abl hw li _ _ h0 E Fm Fe Fs) (fun _ q => q) rfl (w63 hw) (w64 hw) (w67 hw) (w68 hw) (by decide) (argsL := []) (rest := []) (lenOf pd4 rfl) rfl rfl rfl (W := 0) (Nat.le_of_ble_eq_true rfl) (by decide) (by decide) (by decide) (by decide) (pc' := 4) rfl ?_
  rintro _ h41 _ ⟨rfl, rfl, K, Fm2, Fe2, Fs2⟩ hz
  show Go _ _ _ _ _ _ _ _ _ _ _ _ _ _ _ _ _ _ _ _ _ _ _ _ [] _
  refine g_aloadN d_jdk_38_m2_4 (pc' := 5) rfl rfl rfl ?_
  refine go_getstatic d_jdk_38_m2_5 (w78 hw) Via.refl Sd (pc' := 8) rfl ?_
  refine go_putfield d_jdk_38_m2_8 (w79 hw) Via.refl Fe2 (E.keep K) (Or.inl (w80 hw)) (w58 hw) (ty := (.array (.object "java/lang/Object"))) (by decide) (v' := (.ref de)) rfl rfl (List.mem_of_getElem? (i := 0) rfl) (pc' := 11) rfl ?_
  intro h42 W43
  have F44 := Fld.same W43 Fe2
  have K45 : Keep h0 h41 [li] := ((Keep.refl h0 [li]).trans K (allS (Or.inl (List.mem_of_getElem? (i := 0) rfl)) all0))
  have K46 : Keep h0 h42 [li] := (K45.wr W43 (Or.inl (List.mem_of_getElem? (i := 0) rfl)))
  have f47 := (Fld.other W43 Fs2 (Or.inr (slot_ne (Or.inl (w89 hw)) (Or.inl (w80 hw)) (by decide) (t := .int) (t' := (.array (.object "java/lang/Object"))) (by decide) (by decide))))
  have f48 := (Fld.other W43 Fm2 (Or.inr (slot_ne (Or.inl (w77 hw)) (Or.inl (w80 hw)) (by decide) (t := .int) (t' := (.array (.object "java/lang/Object"))) (by decide) (by decide))))
  exact go_return d_jdk_38_m2_11 rfl (ws' := []) all0 ⟨rfl, rfl, K46, F44, f47, f48⟩
set_option maxRecDepth 65536 in
set_option maxHeartbeats 40000000 in
theorem rm_growI {l : Launch} {Z : State} {a0 : Array Value} (hw : ∀ d ∈ tables_1, d.before a0 Z = true) (li de : Addr) (kd : ClassId) (mc : Int32) (h0 : Heap) (E : Exa Z h0 li "java/util/ArrayList") (Fe : Fld Z h0 li "java/util/ArrayList" "elementData" "[Ljava/lang/Object;" (.ref de)) (Fs : Fld Z h0 li "java/util/ArrayList" "size" "I" (.int 0)) (Fm : Fld Z h0 li "java/util/AbstractList" "modCount" "I" (.int mc)) (Ad : Arv Z h0 de kd (.object "java/lang/Object") 0 [] .null) (Sd : Sta Z Z.heap "java/util/ArrayList" "DEFAULTCAPACITY_EMPTY_ELEMENTDATA" "[Ljava/lang/Object;" (.ref de)) :
    Con l Z EL ⟨"java/util/ArrayList", "grow", "(I)[Ljava/lang/Object;"⟩ jdk_38_method_6_code 4 (some (.array (.object "java/lang/Object"))) [] { frames := 1, cells := 1, slots := 10, locals := 14 } #[(.ref li), (.int (1 : Int32))] h0 [li] (fun v h ws => ∃ ea ke, v = some (.ref ea) ∧ ws = [ea] ∧ h0.size ≤ ea ∧ Keep h0 h [li] ∧ Fld Z h li "java/util/ArrayList" "elementData" "[Ljava/lang/Object;" (.ref ea) ∧ Fld Z h li "java/util/ArrayList" "size" "I" (.int 0) ∧ Fld Z h li "java/util/AbstractList" "modCount" "I" (.int mc) ∧ Arv Z h ea ke (.object "java/lang/Object") 10 [.null, .null, .null, .null, .null, .null, .null, .null, .null, .null] .null ∧ Ovr Z ke "java/lang/Object" ∧ Exa Z h ea "[Ljava/lang/Object;") := by
  refine con_of (a0 := a0) (Ls := #[.val (.ref li), .val (.int (1 : Int32)), .unset, .unset]) (plainFor_of_name pn6) (eW hw) (fun m => by first | (simp [entryFrame, mkF, argsToLocals, Value.category]; done) | rfl) ?_
  intro p e s m below meth c
  refine g_aloadN d_jdk_38_m6_0 (pc' := 1) rfl rfl rfl ?_
  refine go_getfield d_jdk_38_m6_1 (host := "") (Or.inl (w79 hw)) Via.refl Fe (pc' := 4) rfl ?_
  refine go_arraylength d_jdk_38_m6_4 Ad (pc' := 5) rfl ?_
  refine g_istoreN d_jdk_38_m6_5 (pc' := 6) (Ls' := #[.val (.ref li), .val (.int (1 : Int32)), .val (.int (0 : Int32)), .unset]) rfl rfl ?_
  refine g_iloadN d_jdk_38_m6_6 (pc' := 7) rfl rfl ?_
  refine g_ifNo d_jdk_38_m6_7 (pc' := 10) rfl (flt (by decide : ¬ ((0 : Int32) < (0 : Int32)))).2.2.1 ?_
  refine g_aloadN d_jdk_38_m6_10 (pc' := 11) rfl rfl rfl ?_
  refine go_getfield d_jdk_38_m6_11 (host := "") (Or.inl (w79 hw)) Via.refl Fe (pc' := 14) rfl ?_
  refine go_getstatic d_jdk_38_m6_14 (w78 hw) Via.refl Sd (pc' := 17) rfl ?_
  refine g_acmp d_jdk_38_m6_17 rfl rfl (same := true) (decide_eq_true rfl) (by decide) (pc' := 45) rfl ?_
  refine g_aloadN d_jdk_38_m6_45 (pc' := 46) rfl rfl rfl ?_
  refine g_bipush d_jdk_38_m6_46 (pc' := 48) rfl (z := 10) rfl ?_
  refine g_iloadN d_jdk_38_m6_48 (pc' := 49) rfl rfl ?_
  refine go_static d_jdk_38_m6_49 (rm_max hw (10 : Int32) (1 : Int32) h0) all0 (w105 hw) (w106 hw) (w107 hw) (w108 hw) (by decide) (argsL := [(.int (10 : Int32)), (.int (1 : Int32))]) (rest := [(.ref li)]) (lenOf pd5 rfl) rfl rfl rfl (W := 1) (Nat.le_of_ble_eq_true rfl) (by decide) (by decide) (by decide) (by decide) (pc' := 52) rfl ?_
  rintro _ _ _ ⟨rfl, rfl, rfl⟩ z49
  rw [show (if (10 : Int32) < (1 : Int32) then (1 : Int32) else (10 : Int32)) = (10 : Int32) from by decide]
  show Go _ _ _ _ _ _ _ _ _ _ _ _ _ _ _ _ _ _ _ _ _ _ _ _ [(.int (10 : Int32)), (.ref li)] _
  refine go_anewarray d_jdk_38_m6_52 (w109 hw) (w110 hw) (by decide) (cap := 10) (by decide) (by decide) (by decide) (by decide) (ad := "[Ljava/lang/Object;") rfl (pc' := 55) rfl ?_
  intro h50 a51 k52 g53 E54 A55 X56 O57
  have A58 : Arv Z h50 a51 k52 (.object "java/lang/Object") (10 : Int32) [.null, .null, .null, .null, .null, .null, .null, .null, .null, .null] .null := Arv.pad A55 (pad_rep [] .null 10)
  refine g_dupX1 d_jdk_38_m6_55 (pc' := 56) rfl rfl rfl ?_
  refine go_putfield d_jdk_38_m6_56 (w79 hw) Via.refl (Fe.ext E54) (E.ext E54) (Or.inl (w80 hw)) (w58 hw) (ty := (.array (.object "java/lang/Object"))) (by decide) (v' := (.ref a51)) rfl rfl (List.mem_of_getElem? (i := 1) rfl) (pc' := 59) rfl ?_
  intro h59 W60
  have F61 := Fld.same W60 (Fe.ext E54)
  have ne62 : a51 ≠ li := Ne.symm (Nat.ne_of_lt (Nat.lt_of_lt_of_le E.lt (Nat.le_of_eq g53.symm)))
  have K63 : Keep h0 h50 [li] := ((Keep.refl h0 [li]).ext E54)
  have K64 : Keep h0 h59 [li] := (K63.wr W60 (Or.inl (List.mem_of_getElem? (i := 0) rfl)))
  have f65 := (Fld.other W60 (Fs.ext E54) (Or.inr (slot_ne (Or.inl (w89 hw)) (Or.inl (w80 hw)) (by decide) (t := .int) (t' := (.array (.object "java/lang/Object"))) (by decide) (by decide))))
  have f66 := (Fld.other W60 (Fm.ext E54) (Or.inr (slot_ne (Or.inl (w77 hw)) (Or.inl (w80 hw)) (by decide) (t := .int) (t' := (.array (.object "java/lang/Object"))) (by decide) (by decide))))
  exact go_areturn d_jdk_38_m6_59 rfl rfl rfl (ws' := [a51]) (allS (List.mem_of_getElem? (i := 0) rfl) all0) ⟨_, _, rfl, rfl, (Nat.le_of_eq g53.symm), K64, F61, f65, f66, (A58.other W60 ne62), O57, (Exa.wr W60 X56)⟩
set_option maxRecDepth 65536 in
set_option maxHeartbeats 40000000 in
theorem rm_grow {l : Launch} {Z : State} {a0 : Array Value} (hw : ∀ d ∈ tables_1, d.before a0 Z = true) (li de : Addr) (kd : ClassId) (mc : Int32) (h0 : Heap) (E : Exa Z h0 li "java/util/ArrayList") (Fe : Fld Z h0 li "java/util/ArrayList" "elementData" "[Ljava/lang/Object;" (.ref de)) (Fs : Fld Z h0 li "java/util/ArrayList" "size" "I" (.int 0)) (Fm : Fld Z h0 li "java/util/AbstractList" "modCount" "I" (.int mc)) (Ad : Arv Z h0 de kd (.object "java/lang/Object") 0 [] .null) (Sd : Sta Z Z.heap "java/util/ArrayList" "DEFAULTCAPACITY_EMPTY_ELEMENTDATA" "[Ljava/lang/Object;" (.ref de)) :
    Con l Z EL ⟨"java/util/ArrayList", "grow", "()[Ljava/lang/Object;"⟩ jdk_38_method_7_code 1 (some (.array (.object "java/lang/Object"))) [] { frames := 2, cells := 1, slots := 10, locals := 29 } #[(.ref li)] h0 [li] (fun v h ws => ∃ ea ke, v = some (.ref ea) ∧ ws = [ea] ∧ h0.size ≤ ea ∧ Keep h0 h [li] ∧ Fld Z h li "java/util/ArrayList" "elementData" "[Ljava/lang/Object;" (.ref ea) ∧ Fld Z h li "java/util/ArrayList" "size" "I" (.int 0) ∧ Fld Z h li "java/util/AbstractList" "modCount" "I" (.int mc) ∧ Arv Z h ea ke (.object "java/lang/Object") 10 [.null, .null, .null, .null, .null, .null, .null, .null, .null, .null] .null ∧ Ovr Z ke "java/lang/Object" ∧ Exa Z h ea "[Ljava/lang/Object;") := by
  refine con_of (a0 := a0) (Ls := #[.val (.ref li)]) (plainFor_of_name pn6) (eW hw) (fun m => by first | (simp [entryFrame, mkF, argsToLocals, Value.category]; done) | rfl) ?_
  intro p e s m below meth c
  refine g_aloadN d_jdk_38_m7_0 (pc' := 1) rfl rfl rfl ?_
  refine g_aloadN d_jdk_38_m7_1 (pc' := 2) rfl rfl rfl ?_
  refine go_getfield d_jdk_38_m7_2 (host := "") (Or.inl (w88 hw)) Via.refl Fs (pc' := 5) rfl ?_
  refine g_iconst d_jdk_38_m7_5 (pc' := 6) rfl (z := 1) rfl ?_
  refine g_iadd d_jdk_38_m7_6 (pc' := 7) rfl ?_
  refine go_private d_jdk_38_m7_7 (rm_growI hw li de kd mc h0 E Fe Fs Fm Ad Sd) (fun _ q => q) E (w100 hw) (w101 hw) (w103 hw) (w102 hw) (w59 hw) (w104 hw) (by decide) (argsL := [(.int ((0 : Int32) + (1 : Int32)))]) (rest := []) (lenOf pd6 rfl) rfl rfl rfl (W := 0) (Nat.le_of_ble_eq_true rfl) (by decide) (by decide) (by decide) (by decide) (pc' := 10) rfl ?_
  rintro _ h67 _ ⟨ea, ke, rfl, rfl, hea, Kg, F1, F2, F3, A4, O, Xe⟩ hzg
  show Go _ _ _ _ _ _ _ _ _ _ _ _ _ _ _ _ _ _ _ _ _ _ _ _ [(.ref ea)] _
  have K68 : Keep h0 h67 [li] := ((Keep.refl h0 [li]).trans Kg (allS (Or.inl (List.mem_of_getElem? (i := 0) rfl)) all0))
  exact go_areturn d_jdk_38_m7_10 rfl rfl rfl (ws' := [ea]) (allS (List.mem_of_getElem? (i := 0) rfl) all0) ⟨_, _, rfl, rfl, hea, K68, F1, F2, F3, A4, O, Xe⟩
set_option maxRecDepth 65536 in
set_option maxHeartbeats 40000000 in
theorem rm_add3_0 {l : Launch} {Z : State} {a0 : Array Value} (hw : ∀ d ∈ tables_1, d.before a0 Z = true) (li de : Addr) (kd : ClassId) (mc : Int32) (x : Addr) (h0 : Heap) (E : Exa Z h0 li "java/util/ArrayList") (Fe : Fld Z h0 li "java/util/ArrayList" "elementData" "[Ljava/lang/Object;" (.ref de)) (Fs : Fld Z h0 li "java/util/ArrayList" "size" "I" (.int 0)) (Fm : Fld Z h0 li "java/util/AbstractList" "modCount" "I" (.int mc)) (Ad : Arv Z h0 de kd (.object "java/lang/Object") 0 [] .null) (Sd : Sta Z Z.heap "java/util/ArrayList" "DEFAULTCAPACITY_EMPTY_ELEMENTDATA" "[Ljava/lang/Object;" (.ref de)) (Xx : Exa Z h0 x "com/example/keyhold/keyhold/model/SigningKey") :
    Con l Z EL ⟨"java/util/ArrayList", "add", "(Ljava/lang/Object;[Ljava/lang/Object;I)V"⟩ jdk_38_method_24_code 4 none [] { frames := 3, cells := 1, slots := 10, locals := 41 } #[(.ref li), (.ref x), (.ref de), (.int (0 : Int32))] h0 [li] (fun v h ws => v = none ∧ ∃ ea ke, ws = [ea] ∧ h0.size ≤ ea ∧ Keep h0 h [li] ∧ Fld Z h li "java/util/ArrayList" "elementData" "[Ljava/lang/Object;" (.ref ea) ∧ Fld Z h li "java/util/ArrayList" "size" "I" (.int 1) ∧ Fld Z h li "java/util/AbstractList" "modCount" "I" (.int mc) ∧ Arv Z h ea ke (.object "java/lang/Object") 10 [.ref x, .null, .null, .null, .null, .null, .null, .null, .null, .null] .null ∧ Ovr Z ke "java/lang/Object" ∧ Exa Z h ea "[Ljava/lang/Object;") := by
  refine con_of (a0 := a0) (Ls := #[.val (.ref li), .val (.ref x), .val (.ref de), .val (.int (0 : Int32))]) (plainFor_of_name pn6) (eW hw) (fun m => by first | (simp [entryFrame, mkF, argsToLocals, Value.category]; done) | rfl) ?_
  intro p e s m below meth c
  refine g_iloadN d_jdk_38_m24_0 (pc' := 1) rfl rfl ?_
  refine g_aloadN d_jdk_38_m24_1 (pc' := 2) rfl rfl rfl ?_
  refine go_arraylength d_jdk_38_m24_2 Ad (pc' := 3) rfl ?_
  refine g_icmpNo d_jdk_38_m24_3 (pc' := 6) rfl (teq (by decide : (0 : Int32) = (0 : Int32))).2 ?_
  refine g_aloadN d_jdk_38_m24_6 (pc' := 7) rfl rfl rfl ?_
  refine go_private d_jdk_38_m24_7 (rm_grow hw li de kd mc h0 E Fe Fs Fm Ad Sd) (fun _ q => q) E (w95 hw) (w96 hw) (w98 hw) (w97 hw) (w59 hw) (w99 hw) (by decide) (argsL := []) (rest := []) (lenOf pd7 rfl) rfl rfl rfl (W := 0) (Nat.le_of_ble_eq_true rfl) (by decide) (by decide) (by decide) (by decide) (pc' := 10) rfl ?_
  rintro _ h69 _ ⟨ea, ke, rfl, rfl, hea, Kg, F1, F2, F3, A4, O, Xe⟩ hzg
  show Go _ _ _ _ _ _ _ _ _ _ _ _ _ _ _ _ _ _ _ _ _ _ _ _ [(.ref ea)] _
  refine g_astoreN d_jdk_38_m24_10 (pc' := 11) (Ls' := #[.val (.ref li), .val (.ref x), .val (.ref ea), .val (.int (0 : Int32))]) rfl rfl rfl ?_
  refine g_aloadN d_jdk_38_m24_11 (pc' := 12) rfl rfl rfl ?_
  refine g_iloadN d_jdk_38_m24_12 (pc' := 13) rfl rfl ?_
  refine g_aloadN d_jdk_38_m24_13 (pc' := 14) rfl rfl rfl ?_
  refine go_aastore 0 d_jdk_38_m24_14 rfl A4 rfl (sto_arv A4 O (Ins.of_exa (Xx.keep Kg) (w111 hw))) ⟨by decide, by decide⟩ rfl (Nat.le_of_ble_eq_true rfl) (List.mem_of_getElem? (i := 0) rfl) (pc' := 15) rfl ?_
  intro h70 W71 A72
  refine g_aloadN d_jdk_38_m24_15 (pc' := 16) rfl rfl rfl ?_
  refine g_iloadN d_jdk_38_m24_16 (pc' := 17) rfl rfl ?_
  refine g_iconst d_jdk_38_m24_17 (pc' := 18) rfl (z := 1) rfl ?_
  refine g_iadd d_jdk_38_m24_18 (pc' := 19) rfl ?_
  have ne73 : li ≠ ea := Nat.ne_of_lt (Nat.lt_of_lt_of_le E.lt hea)
  refine go_putfield d_jdk_38_m24_19 (w88 hw) Via.refl (Fld.other W71 F2 (Or.inl ne73)) (Exa.wr W71 (E.keep Kg)) (Or.inl (w89 hw)) (w58 hw) (ty := .int) (by decide) (v' := (.int ((0 : Int32) + (1 : Int32)))) rfl rfl (List.mem_of_getElem? (i := 1) rfl) (pc' := 22) rfl ?_
  intro h74 W75
  have F76 := Fld.same W75 (Fld.other W71 F2 (Or.inl ne73))
  have K77 : Keep h0 h69 [li] := ((Keep.refl h0 [li]).trans Kg (allS (Or.inl (List.mem_of_getElem? (i := 0) rfl)) all0))
  have K78 : Keep h0 h70 [li] := (K77.wr W71 (Or.inr hea))
  have K79 : Keep h0 h74 [li] := (K78.wr W75 (Or.inl (List.mem_of_getElem? (i := 0) rfl)))
  have f80 := (Fld.other W75 (Fld.other W71 F1 (Or.inl ne73)) (Or.inr (slot_ne (Or.inl (w80 hw)) (Or.inl (w89 hw)) (by decide) (t := (.array (.object "java/lang/Object"))) (t' := .int) (by decide) (by decide))))
  have f81 := (Fld.other W75 (Fld.other W71 F3 (Or.inl ne73)) (Or.inr (slot_ne (Or.inl (w77 hw)) (Or.inl (w89 hw)) (by decide) (t := .int) (t' := .int) (by decide) (by decide))))
  exact go_return d_jdk_38_m24_22 rfl (ws' := [ea]) (allS (List.mem_of_getElem? (i := 0) rfl) all0) ⟨rfl, _, _, rfl, hea, K79, f80, F76, f81, (A72.other W75 (Ne.symm ne73)), O, (Exa.wr W75 (Exa.wr W71 Xe))⟩
set_option maxRecDepth 65536 in
set_option maxHeartbeats 40000000 in
theorem rm_add_0 {l : Launch} {Z : State} {a0 : Array Value} (hw : ∀ d ∈ tables_1, d.before a0 Z = true) (li de : Addr) (kd : ClassId) (mc : Int32) (x : Addr) (h0 : Heap) (E : Exa Z h0 li "java/util/ArrayList") (Fe : Fld Z h0 li "java/util/ArrayList" "elementData" "[Ljava/lang/Object;" (.ref de)) (Fs : Fld Z h0 li "java/util/ArrayList" "size" "I" (.int 0)) (Fm : Fld Z h0 li "java/util/AbstractList" "modCount" "I" (.int mc)) (Ad : Arv Z h0 de kd (.object "java/lang/Object") 0 [] .null) (Sd : Sta Z Z.heap "java/util/ArrayList" "DEFAULTCAPACITY_EMPTY_ELEMENTDATA" "[Ljava/lang/Object;" (.ref de)) (Xx : Exa Z h0 x "com/example/keyhold/keyhold/model/SigningKey") :
    Con l Z EL ⟨"java/util/ArrayList", "add", "(Ljava/lang/Object;)Z"⟩ jdk_38_method_25_code 2 (some .boolean) [] { frames := 4, cells := 1, slots := 10, locals := 56 } #[(.ref li), (.ref x)] h0 [li] (fun v h ws => v = some (.int 1) ∧ ∃ ea ke, ws = [ea] ∧ h0.size ≤ ea ∧ Keep h0 h [li] ∧ Fld Z h li "java/util/ArrayList" "elementData" "[Ljava/lang/Object;" (.ref ea) ∧ Fld Z h li "java/util/ArrayList" "size" "I" (.int 1) ∧ Fld Z h li "java/util/AbstractList" "modCount" "I" (.int (mc + (1 : Int32))) ∧ Arv Z h ea ke (.object "java/lang/Object") 10 [.ref x, .null, .null, .null, .null, .null, .null, .null, .null, .null] .null ∧ Ovr Z ke "java/lang/Object" ∧ Exa Z h ea "[Ljava/lang/Object;") := by
  refine con_of (a0 := a0) (Ls := #[.val (.ref li), .val (.ref x)]) (plainFor_of_name pn6) (eW hw) (fun m => by first | (simp [entryFrame, mkF, argsToLocals, Value.category]; done) | rfl) ?_
  intro p e s m below meth c
  refine g_aloadN d_jdk_38_m25_0 (pc' := 1) rfl rfl rfl ?_
  refine g_dup d_jdk_38_m25_1 (pc' := 2) rfl rfl ?_
  refine go_getfield d_jdk_38_m25_2 (host := "") (Or.inl (w86 hw)) (Via.of (w87 hw)) Fm (pc' := 5) rfl ?_
  refine g_iconst d_jdk_38_m25_5 (pc' := 6) rfl (z := 1) rfl ?_
  refine g_iadd d_jdk_38_m25_6 (pc' := 7) rfl ?_
  refine go_putfield d_jdk_38_m25_7 (w86 hw) (Via.of (w87 hw)) Fm E (Or.inl (w77 hw)) (w58 hw) (ty := .int) (by decide) (v' := (.int (mc + (1 : Int32)))) rfl rfl (List.mem_of_getElem? (i := 0) rfl) (pc' := 10) rfl ?_
  intro h82 W83
  have F84 := Fld.same W83 Fm
  refine g_aloadN d_jdk_38_m25_10 (pc' := 11) rfl rfl rfl ?_
  refine g_aloadN d_jdk_38_m25_11 (pc' := 12) rfl rfl rfl ?_
  refine g_aloadN d_jdk_38_m25_12 (pc' := 13) rfl rfl rfl ?_
  have f85 := (Fld.other W83 Fe (Or.inr (slot_ne (Or.inl (w80 hw)) (Or.inl (w77 hw)) (by decide) (t := (.array (.object "java/lang/Object"))) (t' := .int) (by decide) (by decide))))
  refine go_getfield d_jdk_38_m25_13 (host := "") (Or.inl (w79 hw)) Via.refl f85 (pc' := 16) rfl ?_
  refine g_aloadN d_jdk_38_m25_16 (pc' := 17) rfl rfl rfl ?_
  have f86 := (Fld.other W83 Fs (Or.inr (slot_ne (Or.inl (w89 hw)) (Or.inl (w77 hw)) (by decide) (t := .int) (t' := .int) (by decide) (by decide))))
  refine go_getfield d_jdk_38_m25_17 (host := "") (Or.inl (w88 hw)) Via.refl f86 (pc' := 20) rfl ?_
  have ne87 : de ≠ li := Ne.symm (Exa.neArv E Ad (w58 hw))
  refine go_private d_jdk_38_m25_20 (rm_add3_0 hw li de kd (mc + (1 : Int32)) x h82 (Exa.wr W83 E) f85 f86 F84 (Ad.other W83 ne87) Sd (Exa.wr W83 Xx)) (fun _ q => q) (Exa.wr W83 E) (w90 hw) (w91 hw) (w93 hw) (w92 hw) (w59 hw) (w94 hw) (by decide) (argsL := [(.ref x), (.ref de), (.int (0 : Int32))]) (rest := []) (lenOf pd8 rfl) rfl rfl rfl (W := 0) (Nat.le_of_ble_eq_true rfl) (by decide) (by decide) (by decide) (by decide) (pc' := 23) rfl ?_
  rintro _ h88 _ ⟨rfl, ea, ke, rfl, hea, Kg, F1, F2, F3, A4, O, Xe⟩ hzg
  show Go _ _ _ _ _ _ _ _ _ _ _ _ _ _ _ _ _ _ _ _ _ _ _ _ [] _
  refine g_iconst d_jdk_38_m25_23 (pc' := 24) rfl (z := 1) rfl ?_
  have K89 : Keep h0 h82 [li] := ((Keep.refl h0 [li]).wr W83 (Or.inl (List.mem_of_getElem? (i := 0) rfl)))
  have K90 : Keep h0 h88 [li] := (K89.trans Kg (allS (Or.inl (List.mem_of_getElem? (i := 0) rfl)) all0))
  exact go_ireturn d_jdk_38_m25_24 rfl (Or.inr (Or.inl rfl)) rfl (ws' := [ea]) (allS (List.mem_of_getElem? (i := 0) rfl) all0) ⟨rfl, _, _, rfl, (Nat.le_trans (K89).1 hea), K90, F1, F2, F3, A4, O, Xe⟩
set_option maxRecDepth 65536 in
set_option maxHeartbeats 40000000 in
theorem rm_add3_1 {l : Launch} {Z : State} {a0 : Array Value} (hw : ∀ d ∈ tables_1, d.before a0 Z = true) (li ea : Addr) (ke : ClassId) (mc : Int32) (x0 : Addr) (x : Addr) (h0 : Heap) (E : Exa Z h0 li "java/util/ArrayList") (Fe : Fld Z h0 li "java/util/ArrayList" "elementData" "[Ljava/lang/Object;" (.ref ea)) (Fs : Fld Z h0 li "java/util/ArrayList" "size" "I" (.int 1)) (Fm : Fld Z h0 li "java/util/AbstractList" "modCount" "I" (.int mc)) (A : Arv Z h0 ea ke (.object "java/lang/Object") 10 [.ref x0, .null, .null, .null, .null, .null, .null, .null, .null, .null] .null) (O : Ovr Z ke "java/lang/Object") (Xe : Exa Z h0 ea "[Ljava/lang/Object;") (Xx : Exa Z h0 x "com/example/keyhold/keyhold/model/SigningKey") :
    Con l Z EL ⟨"java/util/ArrayList", "add", "(Ljava/lang/Object;[Ljava/lang/Object;I)V"⟩ jdk_38_method_24_code 4 none [] { frames := 0, cells := 0, slots := 0, locals := 0 } #[(.ref li), (.ref x), (.ref ea), (.int (1 : Int32))] h0 [li, ea] (fun v h ws => v = none ∧ ws = [] ∧ Keep h0 h [li, ea] ∧ Fld Z h li "java/util/ArrayList" "elementData" "[Ljava/lang/Object;" (.ref ea) ∧ Fld Z h li "java/util/ArrayList" "size" "I" (.int 2) ∧ Fld Z h li "java/util/AbstractList" "modCount" "I" (.int mc) ∧ Arv Z h ea ke (.object "java/lang/Object") 10 [.ref x0, .ref x, .null, .null, .null, .null, .null, .null, .null, .null] .null) := by
  refine con_of (a0 := a0) (Ls := #[.val (.ref li), .val (.ref x), .val (.ref ea), .val (.int (1 : Int32))]) (plainFor_of_name pn6) (eW hw) (fun m => by first | (simp [entryFrame, mkF, argsToLocals, Value.category]; done) | rfl) ?_
  intro p e s m below meth c
  refine g_iloadN d_jdk_38_m24_0 (pc' := 1) rfl rfl ?_
  refine g_aloadN d_jdk_38_m24_1 (pc' := 2) rfl rfl rfl ?_
  refine go_arraylength d_jdk_38_m24_2 A (pc' := 3) rfl ?_
  refine g_icmpYes d_jdk_38_m24_3 (pc' := 11) (feq (by decide : ¬ ((1 : Int32) = (10 : Int32)))).2 (by decide) (by decide) ?_
  refine g_aloadN d_jdk_38_m24_11 (pc' := 12) rfl rfl rfl ?_
  refine g_iloadN d_jdk_38_m24_12 (pc' := 13) rfl rfl ?_
  refine g_aloadN d_jdk_38_m24_13 (pc' := 14) rfl rfl rfl ?_
  refine go_aastore 1 d_jdk_38_m24_14 rfl A rfl (sto_arv A O (Ins.of_exa Xx (w111 hw))) ⟨by decide, by decide⟩ rfl (Nat.le_of_ble_eq_true rfl) (List.mem_of_getElem? (i := 1) rfl) (pc' := 15) rfl ?_
  intro h91 W92 A93
  refine g_aloadN d_jdk_38_m24_15 (pc' := 16) rfl rfl rfl ?_
  refine g_iloadN d_jdk_38_m24_16 (pc' := 17) rfl rfl ?_
  refine g_iconst d_jdk_38_m24_17 (pc' := 18) rfl (z := 1) rfl ?_
  refine g_iadd d_jdk_38_m24_18 (pc' := 19) rfl ?_
  have ne94 : li ≠ ea := Exa.ne E Xe (by decide)
  refine go_putfield d_jdk_38_m24_19 (w88 hw) Via.refl (Fld.other W92 Fs (Or.inl ne94)) (Exa.wr W92 E) (Or.inl (w89 hw)) (w58 hw) (ty := .int) (by decide) (v' := (.int ((1 : Int32) + (1 : Int32)))) rfl rfl (List.mem_of_getElem? (i := 0) rfl) (pc' := 22) rfl ?_
  intro h95 W96
  have F97 := Fld.same W96 (Fld.other W92 Fs (Or.inl ne94))
  have K98 : Keep h0 h91 [li, ea] := ((Keep.refl h0 [li, ea]).wr W92 (Or.inl (List.mem_of_getElem? (i := 1) rfl)))
  have K99 : Keep h0 h95 [li, ea] := (K98.wr W96 (Or.inl (List.mem_of_getElem? (i := 0) rfl)))
  have f100 := (Fld.other W96 (Fld.other W92 Fe (Or.inl ne94)) (Or.inr (slot_ne (Or.inl (w80 hw)) (Or.inl (w89 hw)) (by decide) (t := (.array (.object "java/lang/Object"))) (t' := .int) (by decide) (by decide))))
  have f101 := (Fld.other W96 (Fld.other W92 Fm (Or.inl ne94)) (Or.inr (slot_ne (Or.inl (w77 hw)) (Or.inl (w89 hw)) (by decide) (t := .int) (t' := .int) (by decide) (by decide))))
  exact go_return d_jdk_38_m24_22 rfl (ws' := []) all0 ⟨rfl, rfl, K99, f100, F97, f101, (A93.other W96 (Ne.symm ne94))⟩
set_option maxRecDepth 65536 in
set_option maxHeartbeats 40000000 in
theorem rm_add_1 {l : Launch} {Z : State} {a0 : Array Value} (hw : ∀ d ∈ tables_1, d.before a0 Z = true) (li ea : Addr) (ke : ClassId) (mc : Int32) (x0 : Addr) (x : Addr) (h0 : Heap) (E : Exa Z h0 li "java/util/ArrayList") (Fe : Fld Z h0 li "java/util/ArrayList" "elementData" "[Ljava/lang/Object;" (.ref ea)) (Fs : Fld Z h0 li "java/util/ArrayList" "size" "I" (.int 1)) (Fm : Fld Z h0 li "java/util/AbstractList" "modCount" "I" (.int mc)) (A : Arv Z h0 ea ke (.object "java/lang/Object") 10 [.ref x0, .null, .null, .null, .null, .null, .null, .null, .null, .null] .null) (O : Ovr Z ke "java/lang/Object") (Xe : Exa Z h0 ea "[Ljava/lang/Object;") (Xx : Exa Z h0 x "com/example/keyhold/keyhold/model/SigningKey") :
    Con l Z EL ⟨"java/util/ArrayList", "add", "(Ljava/lang/Object;)Z"⟩ jdk_38_method_25_code 2 (some .boolean) [] { frames := 1, cells := 0, slots := 0, locals := 15 } #[(.ref li), (.ref x)] h0 [li, ea] (fun v h ws => v = some (.int 1) ∧ ws = [] ∧ Keep h0 h [li, ea] ∧ Fld Z h li "java/util/ArrayList" "elementData" "[Ljava/lang/Object;" (.ref ea) ∧ Fld Z h li "java/util/ArrayList" "size" "I" (.int 2) ∧ Fld Z h li "java/util/AbstractList" "modCount" "I" (.int (mc + (1 : Int32))) ∧ Arv Z h ea ke (.object "java/lang/Object") 10 [.ref x0, .ref x, .null, .null, .null, .null, .null, .null, .null, .null] .null) := by
  refine con_of (a0 := a0) (Ls := #[.val (.ref li), .val (.ref x)]) (plainFor_of_name pn6) (eW hw) (fun m => by first | (simp [entryFrame, mkF, argsToLocals, Value.category]; done) | rfl) ?_
  intro p e s m below meth c
  refine g_aloadN d_jdk_38_m25_0 (pc' := 1) rfl rfl rfl ?_
  refine g_dup d_jdk_38_m25_1 (pc' := 2) rfl rfl ?_
  refine go_getfield d_jdk_38_m25_2 (host := "") (Or.inl (w86 hw)) (Via.of (w87 hw)) Fm (pc' := 5) rfl ?_
  refine g_iconst d_jdk_38_m25_5 (pc' := 6) rfl (z := 1) rfl ?_
  refine g_iadd d_jdk_38_m25_6 (pc' := 7) rfl ?_
  refine go_putfield d_jdk_38_m25_7 (w86 hw) (Via.of (w87 hw)) Fm E (Or.inl (w77 hw)) (w58 hw) (ty := .int) (by decide) (v' := (.int (mc + (1 : Int32)))) rfl rfl (List.mem_of_getElem? (i := 0) rfl) (pc' := 10) rfl ?_
  intro h102 W103
  have F104 := Fld.same W103 Fm
  refine g_aloadN d_jdk_38_m25_10 (pc' := 11) rfl rfl rfl ?_
  refine g_aloadN d_jdk_38_m25_11 (pc' := 12) rfl rfl rfl ?_
  refine g_aloadN d_jdk_38_m25_12 (pc' := 13) rfl rfl rfl ?_
  have f105 := (Fld.other W103 Fe (Or.inr (slot_ne (Or.inl (w80 hw)) (Or.inl (w77 hw)) (by decide) (t := (.array (.object "java/lang/Object"))) (t' := .int) (by decide) (by decide))))
  refine go_getfield d_jdk_38_m25_13 (host := "") (Or.inl (w79 hw)) Via.refl f105 (pc' := 16) rfl ?_
  refine g_aloadN d_jdk_38_m25_16 (pc' := 17) rfl rfl rfl ?_
  have f106 := (Fld.other W103 Fs (Or.inr (slot_ne (Or.inl (w89 hw)) (Or.inl (w77 hw)) (by decide) (t := .int) (t' := .int) (by decide) (by decide))))
  refine go_getfield d_jdk_38_m25_17 (host := "") (Or.inl (w88 hw)) Via.refl f106 (pc' := 20) rfl ?_
  have ne107 : ea ≠ li := Exa.ne Xe E (by decide)
  refine go_private d_jdk_38_m25_20 (rm_add3_1 hw li ea ke (mc + (1 : Int32)) x0 x h102 (Exa.wr W103 E) f105 f106 F104 (A.other W103 ne107) O (Exa.wr W103 Xe) (Exa.wr W103 Xx)) (fun _ q => q) (Exa.wr W103 E) (w90 hw) (w91 hw) (w93 hw) (w92 hw) (w59 hw) (w94 hw) (by decide) (argsL := [(.ref x), (.ref ea), (.int (1 : Int32))]) (rest := []) (lenOf pd8 rfl) rfl rfl rfl (W := 0) (Nat.le_of_ble_eq_true rfl) (by decide) (by decide) (by decide) (by decide) (pc' := 23) rfl ?_
  rintro _ h108 _ ⟨rfl, rfl, Kg, F1, F2, F3, A4⟩ hzg
  show Go _ _ _ _ _ _ _ _ _ _ _ _ _ _ _ _ _ _ _ _ _ _ _ _ [] _
  refine g_iconst d_jdk_38_m25_23 (pc' := 24) rfl (z := 1) rfl ?_
  have K109 : Keep h0 h102 [li, ea] := ((Keep.refl h0 [li, ea]).wr W103 (Or.inl (List.mem_of_getElem? (i := 0) rfl)))
  have K110 : Keep h0 h108 [li, ea] := (K109.trans Kg (allS (Or.inl (List.mem_of_getElem? (i := 0) rfl)) (allS (Or.inl (List.mem_of_getElem? (i := 1) rfl)) all0)))
  exact go_ireturn d_jdk_38_m25_24 rfl (Or.inr (Or.inl rfl)) rfl (ws' := []) all0 ⟨rfl, rfl, K110, F1, F2, F3, A4⟩
set_option maxRecDepth 65536 in
set_option maxHeartbeats 40000000 in
theorem rm_add3_2 {l : Launch} {Z : State} {a0 : Array Value} (hw : ∀ d ∈ tables_1, d.before a0 Z = true) (li ea : Addr) (ke : ClassId) (mc : Int32) (x0 x1 : Addr) (x : Addr) (h0 : Heap) (E : Exa Z h0 li "java/util/ArrayList") (Fe : Fld Z h0 li "java/util/ArrayList" "elementData" "[Ljava/lang/Object;" (.ref ea)) (Fs : Fld Z h0 li "java/util/ArrayList" "size" "I" (.int 2)) (Fm : Fld Z h0 li "java/util/AbstractList" "modCount" "I" (.int mc)) (A : Arv Z h0 ea ke (.object "java/lang/Object") 10 [.ref x0, .ref x1, .null, .null, .null, .null, .null, .null, .null, .null] .null) (O : Ovr Z ke "java/lang/Object") (Xe : Exa Z h0 ea "[Ljava/lang/Object;") (Xx : Exa Z h0 x "com/example/keyhold/keyhold/model/SigningKey") :
    Con l Z EL ⟨"java/util/ArrayList", "add", "(Ljava/lang/Object;[Ljava/lang/Object;I)V"⟩ jdk_38_method_24_code 4 none [] { frames := 0, cells := 0, slots := 0, locals := 0 } #[(.ref li), (.ref x), (.ref ea), (.int (2 : Int32))] h0 [li, ea] (fun v h ws => v = none ∧ ws = [] ∧ Keep h0 h [li, ea] ∧ Fld Z h li "java/util/ArrayList" "elementData" "[Ljava/lang/Object;" (.ref ea) ∧ Fld Z h li "java/util/ArrayList" "size" "I" (.int 3) ∧ Fld Z h li "java/util/AbstractList" "modCount" "I" (.int mc) ∧ Arv Z h ea ke (.object "java/lang/Object") 10 [.ref x0, .ref x1, .ref x, .null, .null, .null, .null, .null, .null, .null] .null) := by
  refine con_of (a0 := a0) (Ls := #[.val (.ref li), .val (.ref x), .val (.ref ea), .val (.int (2 : Int32))]) (plainFor_of_name pn6) (eW hw) (fun m => by first | (simp [entryFrame, mkF, argsToLocals, Value.category]; done) | rfl) ?_
  intro p e s m below meth c
  refine g_iloadN d_jdk_38_m24_0 (pc' := 1) rfl rfl ?_
  refine g_aloadN d_jdk_38_m24_1 (pc' := 2) rfl rfl rfl ?_
  refine go_arraylength d_jdk_38_m24_2 A (pc' := 3) rfl ?_
  refine g_icmpYes d_jdk_38_m24_3 (pc' := 11) (feq (by decide : ¬ ((2 : Int32) = (10 : Int32)))).2 (by decide) (by decide) ?_
  refine g_aloadN d_jdk_38_m24_11 (pc' := 12) rfl rfl rfl ?_
  refine g_iloadN d_jdk_38_m24_12 (pc' := 13) rfl rfl ?_
  refine g_aloadN d_jdk_38_m24_13 (pc' := 14) rfl rfl rfl ?_
  refine go_aastore 2 d_jdk_38_m24_14 rfl A rfl (sto_arv A O (Ins.of_exa Xx (w111 hw))) ⟨by decide, by decide⟩ rfl (Nat.le_of_ble_eq_true rfl) (List.mem_of_getElem? (i := 1) rfl) (pc' := 15) rfl ?_
  intro h111 W112 A113
  refine g_aloadN d_jdk_38_m24_15 (pc' := 16) rfl rfl rfl ?_
  refine g_iloadN d_jdk_38_m24_16 (pc' := 17) rfl rfl ?_
  refine g_iconst d_jdk_38_m24_17 (pc' := 18) rfl (z := 1) rfl ?_
  refine g_iadd d_jdk_38_m24_18 (pc' := 19) rfl ?_
  have ne114 : li ≠ ea := Exa.ne E Xe (by decide)
  refine go_putfield d_jdk_38_m24_19 (w88 hw) Via.refl (Fld.other W112 Fs (Or.inl ne114)) (Exa.wr W112 E) (Or.inl (w89 hw)) (w58 hw) (ty := .int) (by decide) (v' := (.int ((2 : Int32) + (1 : Int32)))) rfl rfl (List.mem_of_getElem? (i := 0) rfl) (pc' := 22) rfl ?_
  intro h115 W116
  have F117 := Fld.same W116 (Fld.other W112 Fs (Or.inl ne114))
  have K118 : Keep h0 h111 [li, ea] := ((Keep.refl h0 [li, ea]).wr W112 (Or.inl (List.mem_of_getElem? (i := 1) rfl)))
  have K119 : Keep h0 h115 [li, ea] := (K118.wr W116 (Or.inl (List.mem_of_getElem? (i := 0) rfl)))
  have f120 := (Fld.other W116 (Fld.other W112 Fe (Or.inl ne114)) (Or.inr (slot_ne (Or.inl (w80 hw)) (Or.inl (w89 hw)) (by decide) (t := (.array (.object "java/lang/Object"))) (t' := .int) (by decide) (by decide))))
  have f121 := (Fld.other W116 (Fld.other W112 Fm (Or.inl ne114)) (Or.inr (slot_ne (Or.inl (w77 hw)) (Or.inl (w89 hw)) (by decide) (t := .int) (t' := .int) (by decide) (by decide))))
  exact go_return d_jdk_38_m24_22 rfl (ws' := []) all0 ⟨rfl, rfl, K119, f120, F117, f121, (A113.other W116 (Ne.symm ne114))⟩
set_option maxRecDepth 65536 in
set_option maxHeartbeats 40000000 in
theorem rm_add_2 {l : Launch} {Z : State} {a0 : Array Value} (hw : ∀ d ∈ tables_1, d.before a0 Z = true) (li ea : Addr) (ke : ClassId) (mc : Int32) (x0 x1 : Addr) (x : Addr) (h0 : Heap) (E : Exa Z h0 li "java/util/ArrayList") (Fe : Fld Z h0 li "java/util/ArrayList" "elementData" "[Ljava/lang/Object;" (.ref ea)) (Fs : Fld Z h0 li "java/util/ArrayList" "size" "I" (.int 2)) (Fm : Fld Z h0 li "java/util/AbstractList" "modCount" "I" (.int mc)) (A : Arv Z h0 ea ke (.object "java/lang/Object") 10 [.ref x0, .ref x1, .null, .null, .null, .null, .null, .null, .null, .null] .null) (O : Ovr Z ke "java/lang/Object") (Xe : Exa Z h0 ea "[Ljava/lang/Object;") (Xx : Exa Z h0 x "com/example/keyhold/keyhold/model/SigningKey") :
    Con l Z EL ⟨"java/util/ArrayList", "add", "(Ljava/lang/Object;)Z"⟩ jdk_38_method_25_code 2 (some .boolean) [] { frames := 1, cells := 0, slots := 0, locals := 15 } #[(.ref li), (.ref x)] h0 [li, ea] (fun v h ws => v = some (.int 1) ∧ ws = [] ∧ Keep h0 h [li, ea] ∧ Fld Z h li "java/util/ArrayList" "elementData" "[Ljava/lang/Object;" (.ref ea) ∧ Fld Z h li "java/util/ArrayList" "size" "I" (.int 3) ∧ Fld Z h li "java/util/AbstractList" "modCount" "I" (.int (mc + (1 : Int32))) ∧ Arv Z h ea ke (.object "java/lang/Object") 10 [.ref x0, .ref x1, .ref x, .null, .null, .null, .null, .null, .null, .null] .null) := by
  refine con_of (a0 := a0) (Ls := #[.val (.ref li), .val (.ref x)]) (plainFor_of_name pn6) (eW hw) (fun m => by first | (simp [entryFrame, mkF, argsToLocals, Value.category]; done) | rfl) ?_
  intro p e s m below meth c
  refine g_aloadN d_jdk_38_m25_0 (pc' := 1) rfl rfl rfl ?_
  refine g_dup d_jdk_38_m25_1 (pc' := 2) rfl rfl ?_
  refine go_getfield d_jdk_38_m25_2 (host := "") (Or.inl (w86 hw)) (Via.of (w87 hw)) Fm (pc' := 5) rfl ?_
  refine g_iconst d_jdk_38_m25_5 (pc' := 6) rfl (z := 1) rfl ?_
  refine g_iadd d_jdk_38_m25_6 (pc' := 7) rfl ?_
  refine go_putfield d_jdk_38_m25_7 (w86 hw) (Via.of (w87 hw)) Fm E (Or.inl (w77 hw)) (w58 hw) (ty := .int) (by decide) (v' := (.int (mc + (1 : Int32)))) rfl rfl (List.mem_of_getElem? (i := 0) rfl) (pc' := 10) rfl ?_
  intro h122 W123
  have F124 := Fld.same W123 Fm
  refine g_aloadN d_jdk_38_m25_10 (pc' := 11) rfl rfl rfl ?_
  refine g_aloadN d_jdk_38_m25_11 (pc' := 12) rfl rfl rfl ?_
  refine g_aloadN d_jdk_38_m25_12 (pc' := 13) rfl rfl rfl ?_
  have f125 := (Fld.other W123 Fe (Or.inr (slot_ne (Or.inl (w80 hw)) (Or.inl (w77 hw)) (by decide) (t := (.array (.object "java/lang/Object"))) (t' := .int) (by decide) (by decide))))
  refine go_getfield d_jdk_38_m25_13 (host := "") (Or.inl (w79 hw)) Via.refl f125 (pc' := 16) rfl ?_
  refine g_aloadN d_jdk_38_m25_16 (pc' := 17) rfl rfl rfl ?_
  have f126 := (Fld.other W123 Fs (Or.inr (slot_ne (Or.inl (w89 hw)) (Or.inl (w77 hw)) (by decide) (t := .int) (t' := .int) (by decide) (by decide))))
  refine go_getfield d_jdk_38_m25_17 (host := "") (Or.inl (w88 hw)) Via.refl f126 (pc' := 20) rfl ?_
  have ne127 : ea ≠ li := Exa.ne Xe E (by decide)
  refine go_private d_jdk_38_m25_20 (rm_add3_2 hw li ea ke (mc + (1 : Int32)) x0 x1 x h122 (Exa.wr W123 E) f125 f126 F124 (A.other W123 ne127) O (Exa.wr W123 Xe) (Exa.wr W123 Xx)) (fun _ q => q) (Exa.wr W123 E) (w90 hw) (w91 hw) (w93 hw) (w92 hw) (w59 hw) (w94 hw) (by decide) (argsL := [(.ref x), (.ref ea), (.int (2 : Int32))]) (rest := []) (lenOf pd8 rfl) rfl rfl rfl (W := 0) (Nat.le_of_ble_eq_true rfl) (by decide) (by decide) (by decide) (by decide) (pc' := 23) rfl ?_
  rintro _ h128 _ ⟨rfl, rfl, Kg, F1, F2, F3, A4⟩ hzg
  show Go _ _ _ _ _ _ _ _ _ _ _ _ _ _ _ _ _ _ _ _ _ _ _ _ [] _
  refine g_iconst d_jdk_38_m25_23 (pc' := 24) rfl (z := 1) rfl ?_
  have K129 : Keep h0 h122 [li, ea] := ((Keep.refl h0 [li, ea]).wr W123 (Or.inl (List.mem_of_getElem? (i := 0) rfl)))
  have K130 : Keep h0 h128 [li, ea] := (K129.trans Kg (allS (Or.inl (List.mem_of_getElem? (i := 0) rfl)) (allS (Or.inl (List.mem_of_getElem? (i := 1) rfl)) all0)))
  exact go_ireturn d_jdk_38_m25_24 rfl (Or.inr (Or.inl rfl)) rfl (ws' := []) all0 ⟨rfl, rfl, K130, F1, F2, F3, A4⟩
set_option maxRecDepth 65536 in
set_option maxHeartbeats 40000000 in
theorem rm_isEmpty1 {l : Launch} {Z : State} {a0 : Array Value} (hw : ∀ d ∈ tables_1, d.before a0 Z = true) (li : Addr) (h0 : Heap) (Fs : Fld Z h0 li "java/util/ArrayList" "size" "I" (.int 1)) :
    Con l Z EL ⟨"java/util/ArrayList", "isEmpty", "()Z"⟩ jdk_38_method_9_code 1 (some .boolean) [] { frames := 0, cells := 0, slots := 0, locals := 0 } #[(.ref li)] h0 [] (fun v h ws => v = some (.int 0) ∧ h0 = h ∧ ws = []) := by
  refine con_of (a0 := a0) (Ls := #[.val (.ref li)]) (plainFor_of_name pn6) (eW hw) (fun m => by first | (simp [entryFrame, mkF, argsToLocals, Value.category]; done) | rfl) ?_
  intro p e s m below meth c
  refine g_aloadN d_jdk_38_m9_0 (pc' := 1) rfl rfl rfl ?_
  refine go_getfield d_jdk_38_m9_1 (host := "") (Or.inl (w88 hw)) Via.refl Fs (pc' := 4) rfl ?_
  refine g_ifYes d_jdk_38_m9_4 (pc' := 11) (feq (by decide : ¬ ((1 : Int32) = (0 : Int32)))).2 (by decide) (by decide) ?_
  refine g_iconst d_jdk_38_m9_11 (pc' := 12) rfl (z := 0) rfl ?_
  exact go_ireturn d_jdk_38_m9_12 rfl (Or.inr (Or.inl rfl)) rfl (ws' := []) (fun _ q => q) ⟨rfl, rfl, rfl⟩
set_option maxRecDepth 65536 in
set_option maxHeartbeats 40000000 in
theorem rm_isEmpty2 {l : Launch} {Z : State} {a0 : Array Value} (hw : ∀ d ∈ tables_1, d.before a0 Z = true) (li : Addr) (h0 : Heap) (Fs : Fld Z h0 li "java/util/ArrayList" "size" "I" (.int 2)) :
    Con l Z EL ⟨"java/util/ArrayList", "isEmpty", "()Z"⟩ jdk_38_method_9_code 1 (some .boolean) [] { frames := 0, cells := 0, slots := 0, locals := 0 } #[(.ref li)] h0 [] (fun v h ws => v = some (.int 0) ∧ h0 = h ∧ ws = []) := by
  refine con_of (a0 := a0) (Ls := #[.val (.ref li)]) (plainFor_of_name pn6) (eW hw) (fun m => by first | (simp [entryFrame, mkF, argsToLocals, Value.category]; done) | rfl) ?_
  intro p e s m below meth c
  refine g_aloadN d_jdk_38_m9_0 (pc' := 1) rfl rfl rfl ?_
  refine go_getfield d_jdk_38_m9_1 (host := "") (Or.inl (w88 hw)) Via.refl Fs (pc' := 4) rfl ?_
  refine g_ifYes d_jdk_38_m9_4 (pc' := 11) (feq (by decide : ¬ ((2 : Int32) = (0 : Int32)))).2 (by decide) (by decide) ?_
  refine g_iconst d_jdk_38_m9_11 (pc' := 12) rfl (z := 0) rfl ?_
  exact go_ireturn d_jdk_38_m9_12 rfl (Or.inr (Or.inl rfl)) rfl (ws' := []) (fun _ q => q) ⟨rfl, rfl, rfl⟩
set_option maxRecDepth 65536 in
set_option maxHeartbeats 40000000 in
theorem rm_isEmpty3 {l : Launch} {Z : State} {a0 : Array Value} (hw : ∀ d ∈ tables_1, d.before a0 Z = true) (li : Addr) (h0 : Heap) (Fs : Fld Z h0 li "java/util/ArrayList" "size" "I" (.int 3)) :
    Con l Z EL ⟨"java/util/ArrayList", "isEmpty", "()Z"⟩ jdk_38_method_9_code 1 (some .boolean) [] { frames := 0, cells := 0, slots := 0, locals := 0 } #[(.ref li)] h0 [] (fun v h ws => v = some (.int 0) ∧ h0 = h ∧ ws = []) := by
  refine con_of (a0 := a0) (Ls := #[.val (.ref li)]) (plainFor_of_name pn6) (eW hw) (fun m => by first | (simp [entryFrame, mkF, argsToLocals, Value.category]; done) | rfl) ?_
  intro p e s m below meth c
  refine g_aloadN d_jdk_38_m9_0 (pc' := 1) rfl rfl rfl ?_
  refine go_getfield d_jdk_38_m9_1 (host := "") (Or.inl (w88 hw)) Via.refl Fs (pc' := 4) rfl ?_
  refine g_ifYes d_jdk_38_m9_4 (pc' := 11) (feq (by decide : ¬ ((3 : Int32) = (0 : Int32)))).2 (by decide) (by decide) ?_
  refine g_iconst d_jdk_38_m9_11 (pc' := 12) rfl (z := 0) rfl ?_
  exact go_ireturn d_jdk_38_m9_12 rfl (Or.inr (Or.inl rfl)) rfl (ws' := []) (fun _ q => q) ⟨rfl, rfl, rfl⟩
set_option maxRecDepth 65536 in
set_option maxHeartbeats 40000000 in
theorem rm_copy3_1 {l : Launch} {Z : State} {a0 : Array Value} (hw : ∀ d ∈ tables_1, d.before a0 Z = true) (ea : Addr) (ke : ClassId) (mo : Addr) (x0 : Addr)  (h0 : Heap) (A : Arv Z h0 ea ke (.object "java/lang/Object") 10 [.ref x0, .null, .null, .null, .null, .null, .null, .null, .null, .null] .null) (Xe : Exa Z h0 ea "[Ljava/lang/Object;") (Mo : Mir Z "[Ljava/lang/Object;" mo) (X0 : Exa Z h0 x0 "com/example/keyhold/keyhold/model/SigningKey") :
    Con l Z EL ⟨"java/util/Arrays", "copyOf", "([Ljava/lang/Object;ILjava/lang/Class;)[Ljava/lang/Object;"⟩ jdk_65_method_120_code 4 (some (.array (.object "java/lang/Object"))) [] { frames := 1, cells := 1, slots := 1, locals := 40 } #[(.ref ea), (.int (1 : Int32)), (.ref mo)] h0 [] (fun v h ws => ∃ na k, v = some (.ref na) ∧ ws = [] ∧ h0.size ≤ na ∧ Keep h0 h [] ∧ Arv Z h na k (.object "java/lang/Object") 1 [.ref x0] .null) := by
  refine con_of (a0 := a0) (Ls := #[.val (.ref ea), .val (.int (1 : Int32)), .val (.ref mo), .unset]) (plainFor_of_name pn7) (eW hw) (fun m => by first | (simp [entryFrame, mkF, argsToLocals, Value.category]; done) | rfl) ?_
  intro p e s m below meth c
  refine g_aloadN d_jdk_65_m120_0 (pc' := 1) rfl rfl rfl ?_
  refine go_ldcClass d_jdk_65_m120_1 (w170 hw) Mo (pc' := 3) rfl ?_
  refine g_acmp d_jdk_65_m120_3 rfl rfl (same := true) (decide_eq_true rfl) (by decide) (pc' := 6) rfl ?_
  refine g_iloadN d_jdk_65_m120_6 (pc' := 7) rfl rfl ?_
  refine go_anewarray d_jdk_65_m120_7 (w171 hw) (w110 hw) (by decide) (cap := 1) (by decide) (by decide) (by decide) (by decide) (ad := "[Ljava/lang/Object;") rfl (pc' := 10) rfl ?_
  intro h131 a132 k133 g134 E135 A136 X137 O138
  have A139 : Arv Z h131 a132 k133 (.object "java/lang/Object") (1 : Int32) [.null] .null := Arv.pad A136 (pad_rep [] .null 1)
  refine g_goto d_jdk_65_m120_10 (pc' := 24) (by decide) (by decide) ?_
  refine g_astoreN d_jdk_65_m120_24 (pc' := 25) (Ls' := #[.val (.ref ea), .val (.int (1 : Int32)), .val (.ref mo), .val (.ref a132)]) rfl rfl rfl ?_
  refine g_aloadN d_jdk_65_m120_25 (pc' := 26) rfl rfl rfl ?_
  refine g_iconst d_jdk_65_m120_26 (pc' := 27) rfl (z := 0) rfl ?_
  refine g_aloadN d_jdk_65_m120_27 (pc' := 28) rfl rfl rfl ?_
  refine g_iconst d_jdk_65_m120_28 (pc' := 29) rfl (z := 0) rfl ?_
  refine g_aloadN d_jdk_65_m120_29 (pc' := 30) rfl rfl rfl ?_
  refine go_arraylength d_jdk_65_m120_30 (A.ext E135) (pc' := 31) rfl ?_
  refine g_iloadN d_jdk_65_m120_31 (pc' := 32) rfl rfl ?_
  refine go_static d_jdk_65_m120_32 (rm_min hw (10 : Int32) (1 : Int32) h131) all0 (w172 hw) (w173 hw) (w107 hw) (w174 hw) (by decide) (argsL := [(.int (10 : Int32)), (.int (1 : Int32))]) (rest := [(.int (0 : Int32)), (.ref a132), (.int (0 : Int32)), (.ref ea)]) (lenOf pd5 rfl) rfl rfl rfl (W := 4) (Nat.le_of_ble_eq_true rfl) (by decide) (by decide) (by decide) (by decide) (pc' := 35) rfl ?_
  rintro _ _ _ ⟨rfl, rfl, rfl⟩ z140
  rw [show (if (1 : Int32) < (10 : Int32) then (1 : Int32) else (10 : Int32)) = (1 : Int32) from by decide]
  show Go _ _ _ _ _ _ _ _ _ _ _ _ _ _ _ _ _ _ _ _ _ _ _ _ [(.int (1 : Int32)), (.int (0 : Int32)), (.ref a132), (.int (0 : Int32)), (.ref ea)] _
  refine go_arraycopy d_jdk_65_m120_35 (w175 hw) (w178 hw) (w176 hw) (w177 hw) (A.ext E135) A139 (us := [(.ref x0)]) (Or.inr ⟨rfl, rfl, ⟨(sto_arv A139 O138 (Ins.of_exa (X0.ext E135) (w111 hw))), trivial⟩⟩) (by decide) (by decide) (by decide) (by decide) (by decide) rfl (Nat.le_of_ble_eq_true rfl) (List.mem_of_getElem? (i := 0) rfl) rfl (by decide) (W := 0) (Nat.le_of_ble_eq_true rfl) (by decide) (pc' := 38) rfl ?_
  intro h141 K142 A143
  have A144 : Arv Z h141 a132 k133 (.object "java/lang/Object") (1 : Int32) [(.ref x0)] .null := A143
  refine g_aloadN d_jdk_65_m120_38 (pc' := 39) rfl rfl rfl ?_
  have K145 : Keep h0 h131 [] := ((Keep.refl h0 []).ext E135)
  have K146 : Keep h0 h141 [] := (K145.trans K142 (allS (Or.inr (Nat.le_of_eq g134.symm)) all0))
  exact go_areturn d_jdk_65_m120_39 rfl rfl rfl (ws' := []) all0 ⟨_, _, rfl, rfl, (Nat.le_of_eq g134.symm), K146, A144⟩
set_option maxRecDepth 65536 in
set_option maxHeartbeats 40000000 in
theorem rm_copy2_1 {l : Launch} {Z : State} {a0 : Array Value} (hw : ∀ d ∈ tables_1, d.before a0 Z = true) (ea : Addr) (ke : ClassId) (mo : Addr) (x0 : Addr)  (h0 : Heap) (A : Arv Z h0 ea ke (.object "java/lang/Object") 10 [.ref x0, .null, .null, .null, .null, .null, .null, .null, .null, .null] .null) (Xe : Exa Z h0 ea "[Ljava/lang/Object;") (Mo : Mir Z "[Ljava/lang/Object;" mo) (X0 : Exa Z h0 x0 "com/example/keyhold/keyhold/model/SigningKey") :
    Con l Z EL ⟨"java/util/Arrays", "copyOf", "([Ljava/lang/Object;I)[Ljava/lang/Object;"⟩ jdk_65_method_119_code 2 (some (.array (.object "java/lang/Object"))) [] { frames := 2, cells := 1, slots := 1, locals := 55 } #[(.ref ea), (.int (1 : Int32))] h0 [] (fun v h ws => ∃ na k, v = some (.ref na) ∧ ws = [] ∧ h0.size ≤ na ∧ Keep h0 h [] ∧ Arv Z h na k (.object "java/lang/Object") 1 [.ref x0] .null) := by
  refine con_of (a0 := a0) (Ls := #[.val (.ref ea), .val (.int (1 : Int32))]) (plainFor_of_name pn7) (eW hw) (fun m => by first | (simp [entryFrame, mkF, argsToLocals, Value.category]; done) | rfl) ?_
  intro p e s m below meth c
  refine g_aloadN d_jdk_65_m119_0 (pc' := 1) rfl rfl rfl ?_
  refine g_iloadN d_jdk_65_m119_1 (pc' := 2) rfl rfl ?_
  refine g_aloadN d_jdk_65_m119_2 (pc' := 3) rfl rfl rfl ?_
  refine go_getClass d_jdk_65_m119_3 (w161 hw) (w162 hw) (w142 hw) (w164 hw) (w163 hw) (w165 hw) Xe Mo rfl (by decide) (W := 2) (Nat.le_of_ble_eq_true rfl) (by decide) (pc' := 6) rfl ?_
  refine go_static d_jdk_65_m119_6 (rm_copy3_1 hw ea ke mo x0 h0 A Xe Mo X0) (fun _ q => q) (w167 hw) (w168 hw) (w159 hw) (w169 hw) (by decide) (argsL := [(.ref ea), (.int (1 : Int32)), (.ref mo)]) (rest := []) (lenOf pd9 rfl) rfl rfl rfl (W := 0) (Nat.le_of_ble_eq_true rfl) (by decide) (by decide) (by decide) (by decide) (pc' := 9) rfl ?_
  rintro _ h147 _ ⟨na, kn, rfl, rfl, hna, Kn, An⟩ hzn
  show Go _ _ _ _ _ _ _ _ _ _ _ _ _ _ _ _ _ _ _ _ _ _ _ _ [(.ref na)] _
  have K148 : Keep h0 h147 [] := ((Keep.refl h0 []).trans Kn all0)
  exact go_areturn d_jdk_65_m119_9 rfl rfl rfl (ws' := []) (fun _ q => q) ⟨_, _, rfl, rfl, hna, K148, An⟩
set_option maxRecDepth 65536 in
set_option maxHeartbeats 40000000 in
theorem rm_toArray1 {l : Launch} {Z : State} {a0 : Array Value} (hw : ∀ d ∈ tables_1, d.before a0 Z = true) (li : Addr) (ea : Addr) (ke : ClassId) (mo : Addr) (x0 : Addr)  (h0 : Heap) (Fe : Fld Z h0 li "java/util/ArrayList" "elementData" "[Ljava/lang/Object;" (.ref ea)) (Fs : Fld Z h0 li "java/util/ArrayList" "size" "I" (.int 1)) (A : Arv Z h0 ea ke (.object "java/lang/Object") 10 [.ref x0, .null, .null, .null, .null, .null, .null, .null, .null, .null] .null) (Xe : Exa Z h0 ea "[Ljava/lang/Object;") (Mo : Mir Z "[Ljava/lang/Object;" mo) (X0 : Exa Z h0 x0 "com/example/keyhold/keyhold/model/SigningKey") :
    Con l Z EL ⟨"java/util/ArrayList", "toArray", "()[Ljava/lang/Object;"⟩ jdk_38_method_16_code 1 (some (.array (.object "java/lang/Object"))) [] { frames := 3, cells := 1, slots := 1, locals := 68 } #[(.ref li)] h0 [] (fun v h ws => ∃ na k, v = some (.ref na) ∧ ws = [] ∧ h0.size ≤ na ∧ Keep h0 h [] ∧ Arv Z h na k (.object "java/lang/Object") 1 [.ref x0] .null) := by
  refine con_of (a0 := a0) (Ls := #[.val (.ref li)]) (plainFor_of_name pn6) (eW hw) (fun m => by first | (simp [entryFrame, mkF, argsToLocals, Value.category]; done) | rfl) ?_
  intro p e s m below meth c
  refine g_aloadN d_jdk_38_m16_0 (pc' := 1) rfl rfl rfl ?_
  refine go_getfield d_jdk_38_m16_1 (host := "") (Or.inl (w79 hw)) Via.refl Fe (pc' := 4) rfl ?_
  refine g_aloadN d_jdk_38_m16_4 (pc' := 5) rfl rfl rfl ?_
  refine go_getfield d_jdk_38_m16_5 (host := "") (Or.inl (w88 hw)) Via.refl Fs (pc' := 8) rfl ?_
  refine go_static d_jdk_38_m16_8 (rm_copy2_1 hw ea ke mo x0 h0 A Xe Mo X0) (fun _ q => q) (w157 hw) (w158 hw) (w159 hw) (w160 hw) (by decide) (argsL := [(.ref ea), (.int (1 : Int32))]) (rest := []) (lenOf pd10 rfl) rfl rfl rfl (W := 0) (Nat.le_of_ble_eq_true rfl) (by decide) (by decide) (by decide) (by decide) (pc' := 11) rfl ?_
  rintro _ h149 _ ⟨na, kn, rfl, rfl, hna, Kn, An⟩ hzn
  show Go _ _ _ _ _ _ _ _ _ _ _ _ _ _ _ _ _ _ _ _ _ _ _ _ [(.ref na)] _
  have K150 : Keep h0 h149 [] := ((Keep.refl h0 []).trans Kn all0)
  exact go_areturn d_jdk_38_m16_11 rfl rfl rfl (ws' := []) (fun _ q => q) ⟨_, _, rfl, rfl, hna, K150, An⟩
set_option maxRecDepth 65536 in
set_option maxHeartbeats 40000000 in
theorem rm_copy3_2 {l : Launch} {Z : State} {a0 : Array Value} (hw : ∀ d ∈ tables_1, d.before a0 Z = true) (ea : Addr) (ke : ClassId) (mo : Addr) (x0 x1 : Addr)  (h0 : Heap) (A : Arv Z h0 ea ke (.object "java/lang/Object") 10 [.ref x0, .ref x1, .null, .null, .null, .null, .null, .null, .null, .null] .null) (Xe : Exa Z h0 ea "[Ljava/lang/Object;") (Mo : Mir Z "[Ljava/lang/Object;" mo) (X0 : Exa Z h0 x0 "com/example/keyhold/keyhold/model/SigningKey") (X1 : Exa Z h0 x1 "com/example/keyhold/keyhold/model/SigningKey") :
    Con l Z EL ⟨"java/util/Arrays", "copyOf", "([Ljava/lang/Object;ILjava/lang/Class;)[Ljava/lang/Object;"⟩ jdk_65_method_120_code 4 (some (.array (.object "java/lang/Object"))) [] { frames := 1, cells := 1, slots := 2, locals := 40 } #[(.ref ea), (.int (2 : Int32)), (.ref mo)] h0 [] (fun v h ws => ∃ na k, v = some (.ref na) ∧ ws = [] ∧ h0.size ≤ na ∧ Keep h0 h [] ∧ Arv Z h na k (.object "java/lang/Object") 2 [.ref x0, .ref x1] .null) := by
  refine con_of (a0 := a0) (Ls := #[.val (.ref ea), .val (.int (2 : Int32)), .val (.ref mo), .unset]) (plainFor_of_name pn7) (eW hw) (fun m => by first | (simp [entryFrame, mkF, argsToLocals, Value.category]; done) | rfl) ?_
  intro p e s m below meth c
  refine g_aloadN d_jdk_65_m120_0 (pc' := 1) rfl rfl rfl ?_
  refine go_ldcClass d_jdk_65_m120_1 (w170 hw) Mo (pc' := 3) rfl ?_
  refine g_acmp d_jdk_65_m120_3 rfl rfl (same := true) (decide_eq_true rfl) (by decide) (pc' := 6) rfl ?_
  refine g_iloadN d_jdk_65_m120_6 (pc' := 7) rfl rfl ?_
  refine go_anewarray d_jdk_65_m120_7 (w171 hw) (w110 hw) (by decide) (cap := 2) (by decide) (by decide) (by decide) (by decide) (ad := "[Ljava/lang/Object;") rfl (pc' := 10) rfl ?_
  intro h151 a152 k153 g154 E155 A156 X157 O158
  have A159 : Arv Z h151 a152 k153 (.object "java/lang/Object") (2 : Int32) [.null, .null] .null := Arv.pad A156 (pad_rep [] .null 2)
  refine g_goto d_jdk_65_m120_10 (pc' := 24) (by decide) (by decide) ?_
  refine g_astoreN d_jdk_65_m120_24 (pc' := 25) (Ls' := #[.val (.ref ea), .val (.int (2 : Int32)), .val (.ref mo), .val (.ref a152)]) rfl rfl rfl ?_
  refine g_aloadN d_jdk_65_m120_25 (pc' := 26) rfl rfl rfl ?_
  refine g_iconst d_jdk_65_m120_26 (pc' := 27) rfl (z := 0) rfl ?_
  refine g_aloadN d_jdk_65_m120_27 (pc' := 28) rfl rfl rfl ?_
  refine g_iconst d_jdk_65_m120_28 (pc' := 29) rfl (z := 0) rfl ?_
  refine g_aloadN d_jdk_65_m120_29 (pc' := 30) rfl rfl rfl ?_
  refine go_arraylength d_jdk_65_m120_30 (A.ext E155) (pc' := 31) rfl ?_
  refine g_iloadN d_jdk_65_m120_31 (pc' := 32) rfl rfl ?_
  refine go_static d_jdk_65_m120_32 (rm_min hw (10 : Int32) (2 : Int32) h151) all0 (w172 hw) (w173 hw) (w107 hw) (w174 hw) (by decide) (argsL := [(.int (10 : Int32)), (.int (2 : Int32))]) (rest := [(.int (0 : Int32)), (.ref a152), (.int (0 : Int32)), (.ref ea)]) (lenOf pd5 rfl) rfl rfl rfl (W := 4) (Nat.le_of_ble_eq_true rfl) (by decide) (by decide) (by decide) (by decide) (pc' := 35) rfl ?_
  rintro _ _ _ ⟨rfl, rfl, rfl⟩ z160
  rw [show (if (2 : Int32) < (10 : Int32) then (2 : Int32) else (10 : Int32)) = (2 : Int32) from by decide]
  show Go _ _ _ _ _ _ _ _ _ _ _ _ _ _ _ _ _ _ _ _ _ _ _ _ [(.int (2 : Int32)), (.int (0 : Int32)), (.ref a152), (.int (0 : Int32)), (.ref ea)] _
  refine go_arraycopy d_jdk_65_m120_35 (w175 hw) (w178 hw) (w176 hw) (w177 hw) (A.ext E155) A159 (us := [(.ref x0), (.ref x1)]) (Or.inr ⟨rfl, rfl, ⟨(sto_arv A159 O158 (Ins.of_exa (X0.ext E155) (w111 hw))), (sto_arv A159 O158 (Ins.of_exa (X1.ext E155) (w111 hw))), trivial⟩⟩) (by decide) (by decide) (by decide) (by decide) (by decide) rfl (Nat.le_of_ble_eq_true rfl) (List.mem_of_getElem? (i := 0) rfl) rfl (by decide) (W := 0) (Nat.le_of_ble_eq_true rfl) (by decide) (pc' := 38) rfl ?_
  intro h161 K162 A163
  have A164 : Arv Z h161 a152 k153 (.object "java/lang/Object") (2 : Int32) [(.ref x0), (.ref x1)] .null := A163
  refine g_aloadN d_jdk_65_m120_38 (pc' := 39) rfl rfl rfl ?_
  have K165 : Keep h0 h151 [] := ((Keep.refl h0 []).ext E155)
  have K166 : Keep h0 h161 [] := (K165.trans K162 (allS (Or.inr (Nat.le_of_eq g154.symm)) all0))
  exact go_areturn d_jdk_65_m120_39 rfl rfl rfl (ws' := []) all0 ⟨_, _, rfl, rfl, (Nat.le_of_eq g154.symm), K166, A164⟩
set_option maxRecDepth 65536 in
set_option maxHeartbeats 40000000 in
theorem rm_copy2_2 {l : Launch} {Z : State} {a0 : Array Value} (hw : ∀ d ∈ tables_1, d.before a0 Z = true) (ea : Addr) (ke : ClassId) (mo : Addr) (x0 x1 : Addr)  (h0 : Heap) (A : Arv Z h0 ea ke (.object "java/lang/Object") 10 [.ref x0, .ref x1, .null, .null, .null, .null, .null, .null, .null, .null] .null) (Xe : Exa Z h0 ea "[Ljava/lang/Object;") (Mo : Mir Z "[Ljava/lang/Object;" mo) (X0 : Exa Z h0 x0 "com/example/keyhold/keyhold/model/SigningKey") (X1 : Exa Z h0 x1 "com/example/keyhold/keyhold/model/SigningKey") :
    Con l Z EL ⟨"java/util/Arrays", "copyOf", "([Ljava/lang/Object;I)[Ljava/lang/Object;"⟩ jdk_65_method_119_code 2 (some (.array (.object "java/lang/Object"))) [] { frames := 2, cells := 1, slots := 2, locals := 55 } #[(.ref ea), (.int (2 : Int32))] h0 [] (fun v h ws => ∃ na k, v = some (.ref na) ∧ ws = [] ∧ h0.size ≤ na ∧ Keep h0 h [] ∧ Arv Z h na k (.object "java/lang/Object") 2 [.ref x0, .ref x1] .null) := by
  refine con_of (a0 := a0) (Ls := #[.val (.ref ea), .val (.int (2 : Int32))]) (plainFor_of_name pn7) (eW hw) (fun m => by first | (simp [entryFrame, mkF, argsToLocals, Value.category]; done) | rfl) ?_
  intro p e s m below meth c
  refine g_aloadN d_jdk_65_m119_0 (pc' := 1) rfl rfl rfl ?_
  refine g_iloadN d_jdk_65_m119_1 (pc' := 2) rfl rfl ?_
  refine g_aloadN d_jdk_65_m119_2 (pc' := 3) rfl rfl rfl ?_
  refine go_getClass d_jdk_65_m119_3 (w161 hw) (w162 hw) (w142 hw) (w164 hw) (w163 hw) (w165 hw) Xe Mo rfl (by decide) (W := 2) (Nat.le_of_ble_eq_true rfl) (by decide) (pc' := 6) rfl ?_
  refine go_static d_jdk_65_m119_6 (rm_copy3_2 hw ea ke mo x0 x1 h0 A Xe Mo X0 X1) (fun _ q => q) (w167 hw) (w168 hw) (w159 hw) (w169 hw) (by decide) (argsL := [(.ref ea), (.int (2 : Int32)), (.ref mo)]) (rest := []) (lenOf pd9 rfl) rfl rfl rfl (W := 0) (Nat.le_of_ble_eq_true rfl) (by decide) (by decide) (by decide) (by decide) (pc' := 9) rfl ?_
  rintro _ h167 _ ⟨na, kn, rfl, rfl, hna, Kn, An⟩ hzn
  show Go _ _ _ _ _ _ _ _ _ _ _ _ _ _ _ _ _ _ _ _ _ _ _ _ [(.ref na)] _
  have K168 : Keep h0 h167 [] := ((Keep.refl h0 []).trans Kn all0)
  exact go_areturn d_jdk_65_m119_9 rfl rfl rfl (ws' := []) (fun _ q => q) ⟨_, _, rfl, rfl, hna, K168, An⟩
set_option maxRecDepth 65536 in
set_option maxHeartbeats 40000000 in
theorem rm_toArray2 {l : Launch} {Z : State} {a0 : Array Value} (hw : ∀ d ∈ tables_1, d.before a0 Z = true) (li : Addr) (ea : Addr) (ke : ClassId) (mo : Addr) (x0 x1 : Addr)  (h0 : Heap) (Fe : Fld Z h0 li "java/util/ArrayList" "elementData" "[Ljava/lang/Object;" (.ref ea)) (Fs : Fld Z h0 li "java/util/ArrayList" "size" "I" (.int 2)) (A : Arv Z h0 ea ke (.object "java/lang/Object") 10 [.ref x0, .ref x1, .null, .null, .null, .null, .null, .null, .null, .null] .null) (Xe : Exa Z h0 ea "[Ljava/lang/Object;") (Mo : Mir Z "[Ljava/lang/Object;" mo) (X0 : Exa Z h0 x0 "com/example/keyhold/keyhold/model/SigningKey") (X1 : Exa Z h0 x1 "com/example/keyhold/keyhold/model/SigningKey") :
    Con l Z EL ⟨"java/util/ArrayList", "toArray", "()[Ljava/lang/Object;"⟩ jdk_38_method_16_code 1 (some (.array (.object "java/lang/Object"))) [] { frames := 3, cells := 1, slots := 2, locals := 68 } #[(.ref li)] h0 [] (fun v h ws => ∃ na k, v = some (.ref na) ∧ ws = [] ∧ h0.size ≤ na ∧ Keep h0 h [] ∧ Arv Z h na k (.object "java/lang/Object") 2 [.ref x0, .ref x1] .null) := by
  refine con_of (a0 := a0) (Ls := #[.val (.ref li)]) (plainFor_of_name pn6) (eW hw) (fun m => by first | (simp [entryFrame, mkF, argsToLocals, Value.category]; done) | rfl) ?_
  intro p e s m below meth c
  refine g_aloadN d_jdk_38_m16_0 (pc' := 1) rfl rfl rfl ?_
  refine go_getfield d_jdk_38_m16_1 (host := "") (Or.inl (w79 hw)) Via.refl Fe (pc' := 4) rfl ?_
  refine g_aloadN d_jdk_38_m16_4 (pc' := 5) rfl rfl rfl ?_
  refine go_getfield d_jdk_38_m16_5 (host := "") (Or.inl (w88 hw)) Via.refl Fs (pc' := 8) rfl ?_
  refine go_static d_jdk_38_m16_8 (rm_copy2_2 hw ea ke mo x0 x1 h0 A Xe Mo X0 X1) (fun _ q => q) (w157 hw) (w158 hw) (w159 hw) (w160 hw) (by decide) (argsL := [(.ref ea), (.int (2 : Int32))]) (rest := []) (lenOf pd10 rfl) rfl rfl rfl (W := 0) (Nat.le_of_ble_eq_true rfl) (by decide) (by decide) (by decide) (by decide) (pc' := 11) rfl ?_
  rintro _ h169 _ ⟨na, kn, rfl, rfl, hna, Kn, An⟩ hzn
  show Go _ _ _ _ _ _ _ _ _ _ _ _ _ _ _ _ _ _ _ _ _ _ _ _ [(.ref na)] _
  have K170 : Keep h0 h169 [] := ((Keep.refl h0 []).trans Kn all0)
  exact go_areturn d_jdk_38_m16_11 rfl rfl rfl (ws' := []) (fun _ q => q) ⟨_, _, rfl, rfl, hna, K170, An⟩
set_option maxRecDepth 65536 in
set_option maxHeartbeats 40000000 in
theorem rm_copy3_3 {l : Launch} {Z : State} {a0 : Array Value} (hw : ∀ d ∈ tables_1, d.before a0 Z = true) (ea : Addr) (ke : ClassId) (mo : Addr) (x0 x1 x2 : Addr)  (h0 : Heap) (A : Arv Z h0 ea ke (.object "java/lang/Object") 10 [.ref x0, .ref x1, .ref x2, .null, .null, .null, .null, .null, .null, .null] .null) (Xe : Exa Z h0 ea "[Ljava/lang/Object;") (Mo : Mir Z "[Ljava/lang/Object;" mo) (X0 : Exa Z h0 x0 "com/example/keyhold/keyhold/model/SigningKey") (X1 : Exa Z h0 x1 "com/example/keyhold/keyhold/model/SigningKey") (X2 : Exa Z h0 x2 "com/example/keyhold/keyhold/model/SigningKey") :
    Con l Z EL ⟨"java/util/Arrays", "copyOf", "([Ljava/lang/Object;ILjava/lang/Class;)[Ljava/lang/Object;"⟩ jdk_65_method_120_code 4 (some (.array (.object "java/lang/Object"))) [] { frames := 1, cells := 1, slots := 3, locals := 40 } #[(.ref ea), (.int (3 : Int32)), (.ref mo)] h0 [] (fun v h ws => ∃ na k, v = some (.ref na) ∧ ws = [] ∧ h0.size ≤ na ∧ Keep h0 h [] ∧ Arv Z h na k (.object "java/lang/Object") 3 [.ref x0, .ref x1, .ref x2] .null) := by
  refine con_of (a0 := a0) (Ls := #[.val (.ref ea), .val (.int (3 : Int32)), .val (.ref mo), .unset]) (plainFor_of_name pn7) (eW hw) (fun m => by first | (simp [entryFrame, mkF, argsToLocals, Value.category]; done) | rfl) ?_
  intro p e s m below meth c
  refine g_aloadN d_jdk_65_m120_0 (pc' := 1) rfl rfl rfl ?_
  refine go_ldcClass d_jdk_65_m120_1 (w170 hw) Mo (pc' := 3) rfl ?_
  refine g_acmp d_jdk_65_m120_3 rfl rfl (same := true) (decide_eq_true rfl) (by decide) (pc' := 6) rfl ?_
  refine g_iloadN d_jdk_65_m120_6 (pc' := 7) rfl rfl ?_
  refine go_anewarray d_jdk_65_m120_7 (w171 hw) (w110 hw) (by decide) (cap := 3) (by decide) (by decide) (by decide) (by decide) (ad := "[Ljava/lang/Object;") rfl (pc' := 10) rfl ?_
  intro h171 a172 k173 g174 E175 A176 X177 O178
  have A179 : Arv Z h171 a172 k173 (.object "java/lang/Object") (3 : Int32) [.null, .null, .null] .null := Arv.pad A176 (pad_rep [] .null 3)
  refine g_goto d_jdk_65_m120_10 (pc' := 24) (by decide) (by decide) ?_
  refine g_astoreN d_jdk_65_m120_24 (pc' := 25) (Ls' := #[.val (.ref ea), .val (.int (3 : Int32)), .val (.ref mo), .val (.ref a172)]) rfl rfl rfl ?_
  refine g_aloadN d_jdk_65_m120_25 (pc' := 26) rfl rfl rfl ?_
  refine g_iconst d_jdk_65_m120_26 (pc' := 27) rfl (z := 0) rfl ?_
  refine g_aloadN d_jdk_65_m120_27 (pc' := 28) rfl rfl rfl ?_
  refine g_iconst d_jdk_65_m120_28 (pc' := 29) rfl (z := 0) rfl ?_
  refine g_aloadN d_jdk_65_m120_29 (pc' := 30) rfl rfl rfl ?_
  refine go_arraylength d_jdk_65_m120_30 (A.ext E175) (pc' := 31) rfl ?_
  refine g_iloadN d_jdk_65_m120_31 (pc' := 32) rfl rfl ?_
  refine go_static d_jdk_65_m120_32 (rm_min hw (10 : Int32) (3 : Int32) h171) all0 (w172 hw) (w173 hw) (w107 hw) (w174 hw) (by decide) (argsL := [(.int (10 : Int32)), (.int (3 : Int32))]) (rest := [(.int (0 : Int32)), (.ref a172), (.int (0 : Int32)), (.ref ea)]) (lenOf pd5 rfl) rfl rfl rfl (W := 4) (Nat.le_of_ble_eq_true rfl) (by decide) (by decide) (by decide) (by decide) (pc' := 35) rfl ?_
  rintro _ _ _ ⟨rfl, rfl, rfl⟩ z180
  rw [show (if (3 : Int32) < (10 : Int32) then (3 : Int32) else (10 : Int32)) = (3 : Int32) from by decide]
  show Go _ _ _ _ _ _ _ _ _ _ _ _ _ _ _ _ _ _ _ _ _ _ _ _ [(.int (3 : Int32)), (.int (0 : Int32)), (.ref a172), (.int (0 : Int32)), (.ref ea)] _
  refine go_arraycopy d_jdk_65_m120_35 (w175 hw) (w178 hw) (w176 hw) (w177 hw) (A.ext E175) A179 (us := [(.ref x0), (.ref x1), (.ref x2)]) (Or.inr ⟨rfl, rfl, ⟨(sto_arv A179 O178 (Ins.of_exa (X0.ext E175) (w111 hw))), (sto_arv A179 O178 (Ins.of_exa (X1.ext E175) (w111 hw))), (sto_arv A179 O178 (Ins.of_exa (X2.ext E175) (w111 hw))), trivial⟩⟩) (by decide) (by decide) (by decide) (by decide) (by decide) rfl (Nat.le_of_ble_eq_true rfl) (List.mem_of_getElem? (i := 0) rfl) rfl (by decide) (W := 0) (Nat.le_of_ble_eq_true rfl) (by decide) (pc' := 38) rfl ?_
  intro h181 K182 A183
  have A184 : Arv Z h181 a172 k173 (.object "java/lang/Object") (3 : Int32) [(.ref x0), (.ref x1), (.ref x2)] .null := A183
  refine g_aloadN d_jdk_65_m120_38 (pc' := 39) rfl rfl rfl ?_
  have K185 : Keep h0 h171 [] := ((Keep.refl h0 []).ext E175)
  have K186 : Keep h0 h181 [] := (K185.trans K182 (allS (Or.inr (Nat.le_of_eq g174.symm)) all0))
  exact go_areturn d_jdk_65_m120_39 rfl rfl rfl (ws' := []) all0 ⟨_, _, rfl, rfl, (Nat.le_of_eq g174.symm), K186, A184⟩
set_option maxRecDepth 65536 in
set_option maxHeartbeats 40000000 in
theorem rm_copy2_3 {l : Launch} {Z : State} {a0 : Array Value} (hw : ∀ d ∈ tables_1, d.before a0 Z = true) (ea : Addr) (ke : ClassId) (mo : Addr) (x0 x1 x2 : Addr)  (h0 : Heap) (A : Arv Z h0 ea ke (.object "java/lang/Object") 10 [.ref x0, .ref x1, .ref x2, .null, .null, .null, .null, .null, .null, .null] .null) (Xe : Exa Z h0 ea "[Ljava/lang/Object;") (Mo : Mir Z "[Ljava/lang/Object;" mo) (X0 : Exa Z h0 x0 "com/example/keyhold/keyhold/model/SigningKey") (X1 : Exa Z h0 x1 "com/example/keyhold/keyhold/model/SigningKey") (X2 : Exa Z h0 x2 "com/example/keyhold/keyhold/model/SigningKey") :
    Con l Z EL ⟨"java/util/Arrays", "copyOf", "([Ljava/lang/Object;I)[Ljava/lang/Object;"⟩ jdk_65_method_119_code 2 (some (.array (.object "java/lang/Object"))) [] { frames := 2, cells := 1, slots := 3, locals := 55 } #[(.ref ea), (.int (3 : Int32))] h0 [] (fun v h ws => ∃ na k, v = some (.ref na) ∧ ws = [] ∧ h0.size ≤ na ∧ Keep h0 h [] ∧ Arv Z h na k (.object "java/lang/Object") 3 [.ref x0, .ref x1, .ref x2] .null) := by
  refine con_of (a0 := a0) (Ls := #[.val (.ref ea), .val (.int (3 : Int32))]) (plainFor_of_name pn7) (eW hw) (fun m => by first | (simp [entryFrame, mkF, argsToLocals, Value.category]; done) | rfl) ?_
  intro p e s m below meth c
  refine g_aloadN d_jdk_65_m119_0 (pc' := 1) rfl rfl rfl ?_
  refine g_iloadN d_jdk_65_m119_1 (pc' := 2) rfl rfl ?_
  refine g_aloadN d_jdk_65_m119_2 (pc' := 3) rfl rfl rfl ?_
  refine go_getClass d_jdk_65_m119_3 (w161 hw) (w162 hw) (w142 hw) (w164 hw) (w163 hw) (w165 hw) Xe Mo rfl (by decide) (W := 2) (Nat.le_of_ble_eq_true rfl) (by decide) (pc' := 6) rfl ?_
  refine go_static d_jdk_65_m119_6 (rm_copy3_3 hw ea ke mo x0 x1 x2 h0 A Xe Mo X0 X1 X2) (fun _ q => q) (w167 hw) (w168 hw) (w159 hw) (w169 hw) (by decide) (argsL := [(.ref ea), (.int (3 : Int32)), (.ref mo)]) (rest := []) (lenOf pd9 rfl) rfl rfl rfl (W := 0) (Nat.le_of_ble_eq_true rfl) (by decide) (by decide) (by decide) (by decide) (pc' := 9) rfl ?_
  rintro _ h187 _ ⟨na, kn, rfl, rfl, hna, Kn, An⟩ hzn
  show Go _ _ _ _ _ _ _ _ _ _ _ _ _ _ _ _ _ _ _ _ _ _ _ _ [(.ref na)] _
  have K188 : Keep h0 h187 [] := ((Keep.refl h0 []).trans Kn all0)
  exact go_areturn d_jdk_65_m119_9 rfl rfl rfl (ws' := []) (fun _ q => q) ⟨_, _, rfl, rfl, hna, K188, An⟩
set_option maxRecDepth 65536 in
set_option maxHeartbeats 40000000 in
theorem rm_toArray3 {l : Launch} {Z : State} {a0 : Array Value} (hw : ∀ d ∈ tables_1, d.before a0 Z = true) (li : Addr) (ea : Addr) (ke : ClassId) (mo : Addr) (x0 x1 x2 : Addr)  (h0 : Heap) (Fe : Fld Z h0 li "java/util/ArrayList" "elementData" "[Ljava/lang/Object;" (.ref ea)) (Fs : Fld Z h0 li "java/util/ArrayList" "size" "I" (.int 3)) (A : Arv Z h0 ea ke (.object "java/lang/Object") 10 [.ref x0, .ref x1, .ref x2, .null, .null, .null, .null, .null, .null, .null] .null) (Xe : Exa Z h0 ea "[Ljava/lang/Object;") (Mo : Mir Z "[Ljava/lang/Object;" mo) (X0 : Exa Z h0 x0 "com/example/keyhold/keyhold/model/SigningKey") (X1 : Exa Z h0 x1 "com/example/keyhold/keyhold/model/SigningKey") (X2 : Exa Z h0 x2 "com/example/keyhold/keyhold/model/SigningKey") :
    Con l Z EL ⟨"java/util/ArrayList", "toArray", "()[Ljava/lang/Object;"⟩ jdk_38_method_16_code 1 (some (.array (.object "java/lang/Object"))) [] { frames := 3, cells := 1, slots := 3, locals := 68 } #[(.ref li)] h0 [] (fun v h ws => ∃ na k, v = some (.ref na) ∧ ws = [] ∧ h0.size ≤ na ∧ Keep h0 h [] ∧ Arv Z h na k (.object "java/lang/Object") 3 [.ref x0, .ref x1, .ref x2] .null) := by
  refine con_of (a0 := a0) (Ls := #[.val (.ref li)]) (plainFor_of_name pn6) (eW hw) (fun m => by first | (simp [entryFrame, mkF, argsToLocals, Value.category]; done) | rfl) ?_
  intro p e s m below meth c
  refine g_aloadN d_jdk_38_m16_0 (pc' := 1) rfl rfl rfl ?_
  refine go_getfield d_jdk_38_m16_1 (host := "") (Or.inl (w79 hw)) Via.refl Fe (pc' := 4) rfl ?_
  refine g_aloadN d_jdk_38_m16_4 (pc' := 5) rfl rfl rfl ?_
  refine go_getfield d_jdk_38_m16_5 (host := "") (Or.inl (w88 hw)) Via.refl Fs (pc' := 8) rfl ?_
  refine go_static d_jdk_38_m16_8 (rm_copy2_3 hw ea ke mo x0 x1 x2 h0 A Xe Mo X0 X1 X2) (fun _ q => q) (w157 hw) (w158 hw) (w159 hw) (w160 hw) (by decide) (argsL := [(.ref ea), (.int (3 : Int32))]) (rest := []) (lenOf pd10 rfl) rfl rfl rfl (W := 0) (Nat.le_of_ble_eq_true rfl) (by decide) (by decide) (by decide) (by decide) (pc' := 11) rfl ?_
  rintro _ h189 _ ⟨na, kn, rfl, rfl, hna, Kn, An⟩ hzn
  show Go _ _ _ _ _ _ _ _ _ _ _ _ _ _ _ _ _ _ _ _ _ _ _ _ [(.ref na)] _
  have K190 : Keep h0 h189 [] := ((Keep.refl h0 []).trans Kn all0)
  exact go_areturn d_jdk_38_m16_11 rfl rfl rfl (ws' := []) (fun _ q => q) ⟨_, _, rfl, rfl, hna, K190, An⟩
set_option maxRecDepth 65536 in
set_option maxHeartbeats 40000000 in
theorem rm_aic {l : Launch} {Z : State} {a0 : Array Value} (hw : ∀ d ∈ tables_1, d.before a0 Z = true) (a : Addr) (h0 : Heap) :
    Con l Z EL ⟨"java/util/ImmutableCollections$AbstractImmutableCollection", "<init>", "()V"⟩ jdk_47_method_1_code 1 none [] { frames := 2, cells := 0, slots := 0, locals := 24 } #[(.ref a)] h0 [] (fun v h ws => v = none ∧ h0 = h ∧ ws = []) := by
  refine con_of (a0 := a0) (Ls := #[.val (.ref a)]) (plainFor_of_name pn8) (eW hw) (fun m => by first | (simp [entryFrame, mkF, argsToLocals, Value.category]; done) | rfl) ?_
  intro p e s m below meth c
  refine g_aloadN d_jdk_47_m1_0 (pc' := 1) rfl rfl rfl ?_
  refine go_special d_jdk_47_m1_1 (rm_abc hw a h0) (fun _ q => q) rfl (w201 hw) (w70 hw) (w73 hw) (w74 hw) (by decide) (argsL := []) (rest := []) (lenOf pd4 rfl) rfl rfl rfl (W := 0) (Nat.le_of_ble_eq_true rfl) (by decide) (by decide) (by decide) (by decide) (pc' := 4) rfl ?_
  rintro _ _ _ ⟨rfl, rfl, rfl⟩ z191
  show Go _ _ _ _ _ _ _ _ _ _ _ _ _ _ _ _ _ _ _ _ _ _ _ _ [] _
  exact go_return d_jdk_47_m1_4 rfl (ws' := []) (fun _ q => q) ⟨rfl, rfl, rfl⟩
set_option maxRecDepth 65536 in
set_option maxHeartbeats 40000000 in
theorem rm_ail {l : Launch} {Z : State} {a0 : Array Value} (hw : ∀ d ∈ tables_1, d.before a0 Z = true) (a : Addr) (h0 : Heap) :
    Con l Z EL ⟨"java/util/ImmutableCollections$AbstractImmutableList", "<init>", "()V"⟩ jdk_46_method_1_code 1 none [] { frames := 3, cells := 0, slots := 0, locals := 36 } #[(.ref a)] h0 [] (fun v h ws => v = none ∧ h0 = h ∧ ws = []) := by
  refine con_of (a0 := a0) (Ls := #[.val (.ref a)]) (plainFor_of_name pn9) (eW hw) (fun m => by first | (simp [entryFrame, mkF, argsToLocals, Value.category]; done) | rfl) ?_
  intro p e s m below meth c
  refine g_aloadN d_jdk_46_m1_0 (pc' := 1) rfl rfl rfl ?_
  refine go_special d_jdk_46_m1_1 (rm_aic hw a h0) (fun _ q => q) rfl (w195 hw) (w196 hw) (w199 hw) (w200 hw) (by decide) (argsL := []) (rest := []) (lenOf pd4 rfl) rfl rfl rfl (W := 0) (Nat.le_of_ble_eq_true rfl) (by decide) (by decide) (by decide) (by decide) (pc' := 4) rfl ?_
  rintro _ _ _ ⟨rfl, rfl, rfl⟩ z192
  show Go _ _ _ _ _ _ _ _ _ _ _ _ _ _ _ _ _ _ _ _ _ _ _ _ [] _
  exact go_return d_jdk_46_m1_4 rfl (ws' := []) (fun _ q => q) ⟨rfl, rfl, rfl⟩
set_option maxRecDepth 65536 in
set_option maxHeartbeats 40000000 in
theorem rm_l12_1 {l : Launch} {Z : State} {a0 : Array Value} (hw : ∀ d ∈ tables_1, d.before a0 Z = true) (r em : Addr) (o1 o2 : Value) (x0 : Addr)  (h0 : Heap) (E : Exa Z h0 r "java/util/ImmutableCollections$List12") (F0 : Fld Z h0 r "java/util/ImmutableCollections$List12" "e0" "Ljava/lang/Object;" o1) (F1 : Fld Z h0 r "java/util/ImmutableCollections$List12" "e1" "Ljava/lang/Object;" o2) (Se : Sta Z Z.heap "java/util/ImmutableCollections" "EMPTY" "Ljava/lang/Object;" (.ref em)) :
    Con l Z EL ⟨"java/util/ImmutableCollections$List12", "<init>", "(Ljava/lang/Object;)V"⟩ jdk_44_method_1_code 2 none [] { frames := 4, cells := 0, slots := 0, locals := 48 } #[(.ref r), (.ref x0)] h0 [r] (fun v h ws => v = none ∧ ws = [] ∧ Keep h0 h [r] ∧ Fld Z h r "java/util/ImmutableCollections$List12" "e0" "Ljava/lang/Object;" (.ref x0)) := by
  refine con_of (a0 := a0) (Ls := #[.val (.ref r), .val (.ref x0)]) (plainFor_of_name pn10) (eW hw) (fun m => by first | (simp [entryFrame, mkF, argsToLocals, Value.category]; done) | rfl) ?_
  intro p e s m below meth c
  refine g_aloadN d_jdk_44_m1_0 (pc' := 1) rfl rfl rfl ?_
  refine go_special d_jdk_44_m1_1 (rm_ail hw r h0) all0 rfl (w189 hw) (w190 hw) (w193 hw) (w194 hw) (by decide) (argsL := []) (rest := []) (lenOf pd4 rfl) rfl rfl rfl (W := 0) (Nat.le_of_ble_eq_true rfl) (by decide) (by decide) (by decide) (by decide) (pc' := 4) rfl ?_
  rintro _ _ _ ⟨rfl, rfl, rfl⟩ z193
  show Go _ _ _ _ _ _ _ _ _ _ _ _ _ _ _ _ _ _ _ _ _ _ _ _ [] _
  refine g_aloadN d_jdk_44_m1_4 (pc' := 5) rfl rfl rfl ?_
  refine g_aloadN d_jdk_44_m1_5 (pc' := 6) rfl rfl rfl ?_
  refine go_static d_jdk_44_m1_6 (rm_require1 hw x0 h0) all0 (w203 hw) (w204 hw) (w48 hw) (w205 hw) (by decide) (argsL := [(.ref x0)]) (rest := [(.ref r)]) (lenOf pd11 rfl) rfl rfl rfl (W := 1) (Nat.le_of_ble_eq_true rfl) (by decide) (by decide) (by decide) (by decide) (pc' := 9) rfl ?_
  rintro _ _ _ ⟨rfl, rfl, rfl⟩ z194
  show Go _ _ _ _ _ _ _ _ _ _ _ _ _ _ _ _ _ _ _ _ _ _ _ _ [(.ref x0), (.ref r)] _
  refine go_putfield d_jdk_44_m1_9 (w206 hw) Via.refl F0 E (Or.inr ⟨(w207 hw), rfl, rfl⟩) (w183 hw) (ty := (.object "java/lang/Object")) (by decide) (v' := (.ref x0)) rfl rfl (List.mem_of_getElem? (i := 0) rfl) (pc' := 12) rfl ?_
  intro h195 W196
  have F197 := Fld.same W196 F0
  refine g_aloadN d_jdk_44_m1_12 (pc' := 13) rfl rfl rfl ?_
  refine go_getstaticN d_jdk_44_m1_13 (w208 hw) Via.refl Se (pc' := 16) rfl ?_
  have f198 := (Fld.other W196 F1 (Or.inr (slot_ne (Or.inr (w210 hw)) (Or.inr (w207 hw)) (by decide) (t := (.object "java/lang/Object")) (t' := (.object "java/lang/Object")) (by decide) (by decide))))
  refine go_putfield d_jdk_44_m1_16 (w209 hw) Via.refl f198 (Exa.wr W196 E) (Or.inr ⟨(w210 hw), rfl, rfl⟩) (w183 hw) (ty := (.object "java/lang/Object")) (by decide) (v' := (.ref em)) rfl rfl (List.mem_of_getElem? (i := 0) rfl) (pc' := 19) rfl ?_
  intro h199 W200
  have F201 := Fld.same W200 f198
  have K202 : Keep h0 h195 [r] := ((Keep.refl h0 [r]).wr W196 (Or.inl (List.mem_of_getElem? (i := 0) rfl)))
  have K203 : Keep h0 h199 [r] := (K202.wr W200 (Or.inl (List.mem_of_getElem? (i := 0) rfl)))
  have f204 := (Fld.other W200 F197 (Or.inr (slot_ne (Or.inr (w207 hw)) (Or.inr (w210 hw)) (by decide) (t := (.object "java/lang/Object")) (t' := (.object "java/lang/Object")) (by decide) (by decide))))
  exact go_return d_jdk_44_m1_19 rfl (ws' := []) all0 ⟨rfl, rfl, K203, f204⟩
set_option maxRecDepth 65536 in
set_option maxHeartbeats 40000000 in
theorem rm_l12_2 {l : Launch} {Z : State} {a0 : Array Value} (hw : ∀ d ∈ tables_1, d.before a0 Z = true) (r em : Addr) (o1 o2 : Value) (x0 x1 : Addr)  (h0 : Heap) (E : Exa Z h0 r "java/util/ImmutableCollections$List12") (F0 : Fld Z h0 r "java/util/ImmutableCollections$List12" "e0" "Ljava/lang/Object;" o1) (F1 : Fld Z h0 r "java/util/ImmutableCollections$List12" "e1" "Ljava/lang/Object;" o2) (Se : Sta Z Z.heap "java/util/ImmutableCollections" "EMPTY" "Ljava/lang/Object;" (.ref em)) :
    Con l Z EL ⟨"java/util/ImmutableCollections$List12", "<init>", "(Ljava/lang/Object;Ljava/lang/Object;)V"⟩ jdk_44_method_2_code 3 none [] { frames := 4, cells := 0, slots := 0, locals := 48 } #[(.ref r), (.ref x0), (.ref x1)] h0 [r] (fun v h ws => v = none ∧ ws = [] ∧ Keep h0 h [r] ∧ Fld Z h r "java/util/ImmutableCollections$List12" "e0" "Ljava/lang/Object;" (.ref x0)) := by
  refine con_of (a0 := a0) (Ls := #[.val (.ref r), .val (.ref x0), .val (.ref x1)]) (plainFor_of_name pn10) (eW hw) (fun m => by first | (simp [entryFrame, mkF, argsToLocals, Value.category]; done) | rfl) ?_
  intro p e s m below meth c
  refine g_aloadN d_jdk_44_m2_0 (pc' := 1) rfl rfl rfl ?_
  refine go_special d_jdk_44_m2_1 (rm_ail hw r h0) all0 rfl (w189 hw) (w190 hw) (w193 hw) (w194 hw) (by decide) (argsL := []) (rest := []) (lenOf pd4 rfl) rfl rfl rfl (W := 0) (Nat.le_of_ble_eq_true rfl) (by decide) (by decide) (by decide) (by decide) (pc' := 4) rfl ?_
  rintro _ _ _ ⟨rfl, rfl, rfl⟩ z205
  show Go _ _ _ _ _ _ _ _ _ _ _ _ _ _ _ _ _ _ _ _ _ _ _ _ [] _
  refine g_aloadN d_jdk_44_m2_4 (pc' := 5) rfl rfl rfl ?_
  refine g_aloadN d_jdk_44_m2_5 (pc' := 6) rfl rfl rfl ?_
  refine go_static d_jdk_44_m2_6 (rm_require1 hw x0 h0) all0 (w203 hw) (w204 hw) (w48 hw) (w205 hw) (by decide) (argsL := [(.ref x0)]) (rest := [(.ref r)]) (lenOf pd11 rfl) rfl rfl rfl (W := 1) (Nat.le_of_ble_eq_true rfl) (by decide) (by decide) (by decide) (by decide) (pc' := 9) rfl ?_
  rintro _ _ _ ⟨rfl, rfl, rfl⟩ z206
  show Go _ _ _ _ _ _ _ _ _ _ _ _ _ _ _ _ _ _ _ _ _ _ _ _ [(.ref x0), (.ref r)] _
  refine go_putfield d_jdk_44_m2_9 (w206 hw) Via.refl F0 E (Or.inr ⟨(w207 hw), rfl, rfl⟩) (w183 hw) (ty := (.object "java/lang/Object")) (by decide) (v' := (.ref x0)) rfl rfl (List.mem_of_getElem? (i := 0) rfl) (pc' := 12) rfl ?_
  intro h207 W208
  have F209 := Fld.same W208 F0
  refine g_aloadN d_jdk_44_m2_12 (pc' := 13) rfl rfl rfl ?_
  refine g_aloadN d_jdk_44_m2_13 (pc' := 14) rfl rfl rfl ?_
  refine go_static d_jdk_44_m2_14 (rm_require1 hw x1 h207) all0 (w203 hw) (w204 hw) (w48 hw) (w205 hw) (by decide) (argsL := [(.ref x1)]) (rest := [(.ref r)]) (lenOf pd11 rfl) rfl rfl rfl (W := 1) (Nat.le_of_ble_eq_true rfl) (by decide) (by decide) (by decide) (by decide) (pc' := 17) rfl ?_
  rintro _ _ _ ⟨rfl, rfl, rfl⟩ z210
  show Go _ _ _ _ _ _ _ _ _ _ _ _ _ _ _ _ _ _ _ _ _ _ _ _ [(.ref x1), (.ref r)] _
  have f211 := (Fld.other W208 F1 (Or.inr (slot_ne (Or.inr (w210 hw)) (Or.inr (w207 hw)) (by decide) (t := (.object "java/lang/Object")) (t' := (.object "java/lang/Object")) (by decide) (by decide))))
  refine go_putfield d_jdk_44_m2_17 (w209 hw) Via.refl f211 (Exa.wr W208 E) (Or.inr ⟨(w210 hw), rfl, rfl⟩) (w183 hw) (ty := (.object "java/lang/Object")) (by decide) (v' := (.ref x1)) rfl rfl (List.mem_of_getElem? (i := 0) rfl) (pc' := 20) rfl ?_
  intro h212 W213
  have F214 := Fld.same W213 f211
  have K215 : Keep h0 h207 [r] := ((Keep.refl h0 [r]).wr W208 (Or.inl (List.mem_of_getElem? (i := 0) rfl)))
  have K216 : Keep h0 h212 [r] := (K215.wr W213 (Or.inl (List.mem_of_getElem? (i := 0) rfl)))
  have f217 := (Fld.other W213 F209 (Or.inr (slot_ne (Or.inr (w207 hw)) (Or.inr (w210 hw)) (by decide) (t := (.object "java/lang/Object")) (t' := (.object "java/lang/Object")) (by decide) (by decide))))
  exact go_return d_jdk_44_m2_20 rfl (ws' := []) all0 ⟨rfl, rfl, K216, f217⟩
set_option maxRecDepth 65536 in
set_option maxHeartbeats 40000000 in
theorem rm_ln {l : Launch} {Z : State} {a0 : Array Value} (hw : ∀ d ∈ tables_1, d.before a0 Z = true) (r ra : Addr) (o1 o2 : Value) (h0 : Heap) (E : Exa Z h0 r "java/util/ImmutableCollections$ListN") (F0 : Fld Z h0 r "java/util/ImmutableCollections$ListN" "elements" "[Ljava/lang/Object;" o1) (F1 : Fld Z h0 r "java/util/ImmutableCollections$ListN" "allowNulls" "Z" o2) :
    Con l Z EL ⟨"java/util/ImmutableCollections$ListN", "<init>", "([Ljava/lang/Object;Z)V"⟩ jdk_45_method_1_code 3 none [] { frames := 4, cells := 0, slots := 0, locals := 48 } #[(.ref r), (.ref ra), (.int (0 : Int32))] h0 [r] (fun v h ws => v = none ∧ ws = [] ∧ Keep h0 h [r] ∧ Fld Z h r "java/util/ImmutableCollections$ListN" "elements" "[Ljava/lang/Object;" (.ref ra)) := by
  refine con_of (a0 := a0) (Ls := #[.val (.ref r), .val (.ref ra), .val (.int (0 : Int32))]) (plainFor_of_name pn11) (eW hw) (fun m => by first | (simp [entryFrame, mkF, argsToLocals, Value.category]; done) | rfl) ?_
  intro p e s m below meth c
  refine g_aloadN d_jdk_45_m1_0 (pc' := 1) rfl rfl rfl ?_
  refine go_special d_jdk_45_m1_1 (rm_ail hw r h0) all0 rfl (w251 hw) (w190 hw) (w193 hw) (w194 hw) (by decide) (argsL := []) (rest := []) (lenOf pd4 rfl) rfl rfl rfl (W := 0) (Nat.le_of_ble_eq_true rfl) (by decide) (by decide) (by decide) (by decide) (pc' := 4) rfl ?_
  rintro _ _ _ ⟨rfl, rfl, rfl⟩ z218
  show Go _ _ _ _ _ _ _ _ _ _ _ _ _ _ _ _ _ _ _ _ _ _ _ _ [] _
  refine g_aloadN d_jdk_45_m1_4 (pc' := 5) rfl rfl rfl ?_
  refine g_aloadN d_jdk_45_m1_5 (pc' := 6) rfl rfl rfl ?_
  refine go_putfield d_jdk_45_m1_6 (w255 hw) Via.refl F0 E (Or.inr ⟨(w256 hw), rfl, rfl⟩) (w245 hw) (ty := (.array (.object "java/lang/Object"))) (by decide) (v' := (.ref ra)) rfl rfl (List.mem_of_getElem? (i := 0) rfl) (pc' := 9) rfl ?_
  intro h219 W220
  have F221 := Fld.same W220 F0
  refine g_aloadN d_jdk_45_m1_9 (pc' := 10) rfl rfl rfl ?_
  refine g_iloadN d_jdk_45_m1_10 (pc' := 11) rfl rfl ?_
  have f222 := (Fld.other W220 F1 (Or.inr (slot_ne (Or.inr (w258 hw)) (Or.inr (w256 hw)) (by decide) (t := .boolean) (t' := (.array (.object "java/lang/Object"))) (by decide) (by decide))))
  refine go_putfield d_jdk_45_m1_11 (w257 hw) Via.refl f222 (Exa.wr W220 E) (Or.inr ⟨(w258 hw), rfl, rfl⟩) (w245 hw) (ty := .boolean) (by decide) (v' := (.int (0 : Int32))) rfl rfl (List.mem_of_getElem? (i := 0) rfl) (pc' := 14) rfl ?_
  intro h223 W224
  have F225 := Fld.same W224 f222
  have K226 : Keep h0 h219 [r] := ((Keep.refl h0 [r]).wr W220 (Or.inl (List.mem_of_getElem? (i := 0) rfl)))
  have K227 : Keep h0 h223 [r] := (K226.wr W224 (Or.inl (List.mem_of_getElem? (i := 0) rfl)))
  have f228 := (Fld.other W224 F221 (Or.inr (slot_ne (Or.inr (w256 hw)) (Or.inr (w258 hw)) (by decide) (t := (.array (.object "java/lang/Object"))) (t' := .boolean) (by decide) (by decide))))
  exact go_return d_jdk_45_m1_14 rfl (ws' := []) all0 ⟨rfl, rfl, K227, f228⟩
set_option maxRecDepth 65536 in
set_option maxHeartbeats 40000000 in
theorem rm_listOf1 {l : Launch} {Z : State} {a0 : Array Value} (hw : ∀ d ∈ tables_1, d.before a0 Z = true) (na : Addr) (kn : ClassId) (em : Addr) (x0 : Addr)  (h0 : Heap) (An : Arv Z h0 na kn (.object "java/lang/Object") 1 [.ref x0] .null) (Se : Sta Z Z.heap "java/util/ImmutableCollections" "EMPTY" "Ljava/lang/Object;" (.ref em)) (X0 : Exa Z h0 x0 "com/example/keyhold/keyhold/model/SigningKey") :
    Con l Z EL ⟨"java/util/List", "of", "([Ljava/lang/Object;)Ljava/util/List;"⟩ jdk_40_method_47_code 2 (some (.object "java/util/List")) [] { frames := 5, cells := 1, slots := 2, locals := 62 } #[(.ref na)] h0 [] (fun v h ws => ∃ r, v = some (.ref r) ∧ ws = [] ∧ h0.size ≤ r ∧ Keep h0 h [] ∧ Exa Z h r "java/util/ImmutableCollections$List12" ∧ Fld Z h r "java/util/ImmutableCollections$List12" "e0" "Ljava/lang/Object;" (.ref x0)) := by
  refine con_of (a0 := a0) (Ls := #[.val (.ref na), .unset]) (plainFor_of_name pn12) (eW hw) (fun m => by first | (simp [entryFrame, mkF, argsToLocals, Value.category]; done) | rfl) ?_
  intro p e s m below meth c
  refine g_aloadN d_jdk_40_m47_0 (pc' := 1) rfl rfl rfl ?_
  refine go_arraylength d_jdk_40_m47_1 An (pc' := 2) rfl ?_
  refine g_tswIn d_jdk_40_m47_2 (o := 32) (by decide) (by decide) (by decide) (pc' := 34) (by decide) ?_
  refine go_new d_jdk_40_m47_34 (w182 hw) (w183 hw) (w184 hw) (by decide) (by decide) (pc' := 37) rfl ?_
  intro h229 a230 g231 E232 A233 D234
  have F235 : Fld Z h229 a230 "java/util/ImmutableCollections$List12" "e0" "Ljava/lang/Object;" .null := D234 (Or.inr (w207 hw)) (ty := (.object "java/lang/Object")) (by decide)
  have F236 : Fld Z h229 a230 "java/util/ImmutableCollections$List12" "e1" "Ljava/lang/Object;" .null := D234 (Or.inr (w210 hw)) (ty := (.object "java/lang/Object")) (by decide)
  refine g_dup d_jdk_40_m47_37 (pc' := 38) rfl rfl ?_
  refine g_aloadN d_jdk_40_m47_38 (pc' := 39) rfl rfl rfl ?_
  refine g_iconst d_jdk_40_m47_39 (pc' := 40) rfl (z := 0) rfl ?_
  refine go_aaload d_jdk_40_m47_40 rfl (An.ext E232) (v := (.ref x0)) ⟨by decide, by decide⟩ rfl (pc' := 41) rfl ?_
  refine go_special d_jdk_40_m47_41 (rm_l12_1 hw a230 em _ _ x0 h229 A233 F235 F236 Se) (fun _ q => q) rfl (w185 hw) (w186 hw) (w184 hw) (w188 hw) (by decide) (argsL := [(.ref x0)]) (rest := [(.ref a230)]) (lenOf pd12 rfl) rfl rfl rfl (W := 1) (Nat.le_of_ble_eq_true rfl) (by decide) (by decide) (by decide) (by decide) (pc' := 44) rfl ?_
  rintro _ h237 _ ⟨rfl, rfl, Kr, Fr0⟩ hzr
  show Go _ _ _ _ _ _ _ _ _ _ _ _ _ _ _ _ _ _ _ _ _ _ _ _ [(.ref a230)] _
  have K238 : Keep h0 h229 [] := ((Keep.refl h0 []).ext E232)
  have K239 : Keep h0 h237 [] := (K238.trans Kr (allS (Or.inr (Nat.le_of_eq g231.symm)) all0))
  exact go_areturn d_jdk_40_m47_44 rfl rfl rfl (ws' := []) all0 ⟨_, rfl, rfl, (Nat.le_of_eq g231.symm), K239, (A233.keep Kr), Fr0⟩
set_option maxRecDepth 65536 in
set_option maxHeartbeats 40000000 in
theorem rm_listOf2 {l : Launch} {Z : State} {a0 : Array Value} (hw : ∀ d ∈ tables_1, d.before a0 Z = true) (na : Addr) (kn : ClassId) (em : Addr) (x0 x1 : Addr)  (h0 : Heap) (An : Arv Z h0 na kn (.object "java/lang/Object") 2 [.ref x0, .ref x1] .null) (Se : Sta Z Z.heap "java/util/ImmutableCollections" "EMPTY" "Ljava/lang/Object;" (.ref em)) (X0 : Exa Z h0 x0 "com/example/keyhold/keyhold/model/SigningKey") (X1 : Exa Z h0 x1 "com/example/keyhold/keyhold/model/SigningKey") :
    Con l Z EL ⟨"java/util/List", "of", "([Ljava/lang/Object;)Ljava/util/List;"⟩ jdk_40_method_47_code 2 (some (.object "java/util/List")) [] { frames := 5, cells := 1, slots := 2, locals := 63 } #[(.ref na)] h0 [] (fun v h ws => ∃ r, v = some (.ref r) ∧ ws = [] ∧ h0.size ≤ r ∧ Keep h0 h [] ∧ Exa Z h r "java/util/ImmutableCollections$List12" ∧ Fld Z h r "java/util/ImmutableCollections$List12" "e0" "Ljava/lang/Object;" (.ref x0)) := by
  refine con_of (a0 := a0) (Ls := #[.val (.ref na), .unset]) (plainFor_of_name pn12) (eW hw) (fun m => by first | (simp [entryFrame, mkF, argsToLocals, Value.category]; done) | rfl) ?_
  intro p e s m below meth c
  refine g_aloadN d_jdk_40_m47_0 (pc' := 1) rfl rfl rfl ?_
  refine go_arraylength d_jdk_40_m47_1 An (pc' := 2) rfl ?_
  refine g_tswIn d_jdk_40_m47_2 (o := 43) (by decide) (by decide) (by decide) (pc' := 45) (by decide) ?_
  refine go_new d_jdk_40_m47_45 (w182 hw) (w183 hw) (w184 hw) (by decide) (by decide) (pc' := 48) rfl ?_
  intro h240 a241 g242 E243 A244 D245
  have F246 : Fld Z h240 a241 "java/util/ImmutableCollections$List12" "e0" "Ljava/lang/Object;" .null := D245 (Or.inr (w207 hw)) (ty := (.object "java/lang/Object")) (by decide)
  have F247 : Fld Z h240 a241 "java/util/ImmutableCollections$List12" "e1" "Ljava/lang/Object;" .null := D245 (Or.inr (w210 hw)) (ty := (.object "java/lang/Object")) (by decide)
  refine g_dup d_jdk_40_m47_48 (pc' := 49) rfl rfl ?_
  refine g_aloadN d_jdk_40_m47_49 (pc' := 50) rfl rfl rfl ?_
  refine g_iconst d_jdk_40_m47_50 (pc' := 51) rfl (z := 0) rfl ?_
  refine go_aaload d_jdk_40_m47_51 rfl (An.ext E243) (v := (.ref x0)) ⟨by decide, by decide⟩ rfl (pc' := 52) rfl ?_
  refine g_aloadN d_jdk_40_m47_52 (pc' := 53) rfl rfl rfl ?_
  refine g_iconst d_jdk_40_m47_53 (pc' := 54) rfl (z := 1) rfl ?_
  refine go_aaload d_jdk_40_m47_54 rfl (An.ext E243) (v := (.ref x1)) ⟨by decide, by decide⟩ rfl (pc' := 55) rfl ?_
  refine go_special d_jdk_40_m47_55 (rm_l12_2 hw a241 em _ _ x0 x1 h240 A244 F246 F247 Se) (fun _ q => q) rfl (w265 hw) (w266 hw) (w184 hw) (w267 hw) (by decide) (argsL := [(.ref x0), (.ref x1)]) (rest := [(.ref a241)]) (lenOf pd13 rfl) rfl rfl rfl (W := 1) (Nat.le_of_ble_eq_true rfl) (by decide) (by decide) (by decide) (by decide) (pc' := 58) rfl ?_
  rintro _ h248 _ ⟨rfl, rfl, Kr, Fr0⟩ hzr
  show Go _ _ _ _ _ _ _ _ _ _ _ _ _ _ _ _ _ _ _ _ _ _ _ _ [(.ref a241)] _
  have K249 : Keep h0 h240 [] := ((Keep.refl h0 []).ext E243)
  have K250 : Keep h0 h248 [] := (K249.trans Kr (allS (Or.inr (Nat.le_of_eq g242.symm)) all0))
  exact go_areturn d_jdk_40_m47_58 rfl rfl rfl (ws' := []) all0 ⟨_, rfl, rfl, (Nat.le_of_eq g242.symm), K250, (A244.keep Kr), Fr0⟩
set_option maxRecDepth 65536 in
set_option maxHeartbeats 40000000 in
theorem rm_lfa3 {l : Launch} {Z : State} {a0 : Array Value} (hw : ∀ d ∈ tables_1, d.before a0 Z = true) (na : Addr) (kn : ClassId) (em : Addr) (x0 x1 x2 : Addr)  (h0 : Heap) (An : Arv Z h0 na kn (.object "java/lang/Object") 3 [.ref x0, .ref x1, .ref x2] .null) (Se : Sta Z Z.heap "java/util/ImmutableCollections" "EMPTY" "Ljava/lang/Object;" (.ref em)) (X0 : Exa Z h0 x0 "com/example/keyhold/keyhold/model/SigningKey") (X1 : Exa Z h0 x1 "com/example/keyhold/keyhold/model/SigningKey") (X2 : Exa Z h0 x2 "com/example/keyhold/keyhold/model/SigningKey") :
    Con l Z EL ⟨"java/util/ImmutableCollections", "listFromArray", "([Ljava/lang/Object;)Ljava/util/List;"⟩ jdk_56_method_4_code 3 (some (.object "java/util/List")) [] { frames := 5, cells := 2, slots := 5, locals := 63 } #[(.ref na)] h0 [] (fun v h ws => ∃ r ra kr, v = some (.ref r) ∧ ws = [] ∧ h0.size ≤ r ∧ h0.size ≤ ra ∧ Keep h0 h [] ∧ Exa Z h r "java/util/ImmutableCollections$ListN" ∧ Fld Z h r "java/util/ImmutableCollections$ListN" "elements" "[Ljava/lang/Object;" (.ref ra) ∧ Arv Z h ra kr (.object "java/lang/Object") 3 [.ref x0, .ref x1, .ref x2] .null) := by
  refine con_of (a0 := a0) (Ls := #[.val (.ref na), .unset, .unset]) (plainFor_of_name pn13) (eW hw) (fun m => by first | (simp [entryFrame, mkF, argsToLocals, Value.category]; done) | rfl) ?_
  intro p e s m below meth c
  refine g_aloadN d_jdk_56_m4_0 (pc' := 1) rfl rfl rfl ?_
  refine go_arraylength d_jdk_56_m4_1 An (pc' := 2) rfl ?_
  refine go_anewarray d_jdk_56_m4_2 (w243 hw) (w110 hw) (by decide) (cap := 3) (by decide) (by decide) (by decide) (by decide) (ad := "[Ljava/lang/Object;") rfl (pc' := 5) rfl ?_
  intro h251 a252 k253 g254 E255 A256 X257 O258
  have A259 : Arv Z h251 a252 k253 (.object "java/lang/Object") (3 : Int32) [.null, .null, .null] .null := Arv.pad A256 (pad_rep [] .null 3)
  refine g_astoreN d_jdk_56_m4_5 (pc' := 6) (Ls' := #[.val (.ref na), .val (.ref a252), .unset]) rfl rfl rfl ?_
  refine g_iconst d_jdk_56_m4_6 (pc' := 7) rfl (z := 0) rfl ?_
  refine g_istoreN d_jdk_56_m4_7 (pc' := 8) (Ls' := #[.val (.ref na), .val (.ref a252), .val (.int (0 : Int32))]) rfl rfl ?_
  refine g_iloadN d_jdk_56_m4_8 (pc' := 9) rfl rfl ?_
  refine g_aloadN d_jdk_56_m4_9 (pc' := 10) rfl rfl rfl ?_
  refine go_arraylength d_jdk_56_m4_10 (An.ext E255) (pc' := 11) rfl ?_
  refine g_icmpNo d_jdk_56_m4_11 (pc' := 14) rfl (tlt (by decide : (0 : Int32) < (3 : Int32))).2.1 ?_
  refine g_aloadN d_jdk_56_m4_14 (pc' := 15) rfl rfl rfl ?_
  refine g_iloadN d_jdk_56_m4_15 (pc' := 16) rfl rfl ?_
  refine g_aloadN d_jdk_56_m4_16 (pc' := 17) rfl rfl rfl ?_
  refine g_iloadN d_jdk_56_m4_17 (pc' := 18) rfl rfl ?_
  refine go_aaload d_jdk_56_m4_18 rfl (An.ext E255) (v := (.ref x0)) ⟨by decide, by decide⟩ rfl (pc' := 19) rfl ?_
  refine go_static d_jdk_56_m4_19 (rm_require1 hw x0 h251) all0 (w244 hw) (w204 hw) (w48 hw) (w205 hw) (by decide) (argsL := [(.ref x0)]) (rest := [(.int (0 : Int32)), (.ref a252)]) (lenOf pd11 rfl) rfl rfl rfl (W := 2) (Nat.le_of_ble_eq_true rfl) (by decide) (by decide) (by decide) (by decide) (pc' := 22) rfl ?_
  rintro _ _ _ ⟨rfl, rfl, rfl⟩ z260
  show Go _ _ _ _ _ _ _ _ _ _ _ _ _ _ _ _ _ _ _ _ _ _ _ _ [(.ref x0), (.int (0 : Int32)), (.ref a252)] _
  refine go_aastore 0 d_jdk_56_m4_22 rfl A259 rfl (sto_arv A259 O258 (Ins.of_exa (X0.ext E255) (w111 hw))) ⟨by decide, by decide⟩ rfl (Nat.le_of_ble_eq_true rfl) (List.mem_of_getElem? (i := 0) rfl) (pc' := 23) rfl ?_
  intro h261 W262 A263
  refine g_iinc d_jdk_56_m4_23 (pc' := 26) (Ls' := #[.val (.ref na), .val (.ref a252), .val (.int ((0 : Int32) + (1 : Int32)))]) rfl rfl rfl ?_
  refine g_goto d_jdk_56_m4_26 (pc' := 8) (by decide) (by decide) ?_
  refine g_iloadN d_jdk_56_m4_8 (pc' := 9) rfl rfl ?_
  refine g_aloadN d_jdk_56_m4_9 (pc' := 10) rfl rfl rfl ?_
  have ne264 : na ≠ a252 := Nat.ne_of_lt (Nat.lt_of_lt_of_le An.lt (Nat.le_of_eq g254.symm))
  refine go_arraylength d_jdk_56_m4_10 ((An.ext E255).other W262 ne264) (pc' := 11) rfl ?_
  refine g_icmpNo d_jdk_56_m4_11 (pc' := 14) rfl (tlt (by decide : ((0 : Int32) + (1 : Int32)) < (3 : Int32))).2.1 ?_
  refine g_aloadN d_jdk_56_m4_14 (pc' := 15) rfl rfl rfl ?_
  refine g_iloadN d_jdk_56_m4_15 (pc' := 16) rfl rfl ?_
  refine g_aloadN d_jdk_56_m4_16 (pc' := 17) rfl rfl rfl ?_
  refine g_iloadN d_jdk_56_m4_17 (pc' := 18) rfl rfl ?_
  refine go_aaload d_jdk_56_m4_18 rfl ((An.ext E255).other W262 ne264) (v := (.ref x1)) ⟨by decide, by decide⟩ rfl (pc' := 19) rfl ?_
  refine go_static d_jdk_56_m4_19 (rm_require1 hw x1 h261) all0 (w244 hw) (w204 hw) (w48 hw) (w205 hw) (by decide) (argsL := [(.ref x1)]) (rest := [(.int ((0 : Int32) + (1 : Int32))), (.ref a252)]) (lenOf pd11 rfl) rfl rfl rfl (W := 2) (Nat.le_of_ble_eq_true rfl) (by decide) (by decide) (by decide) (by decide) (pc' := 22) rfl ?_
  rintro _ _ _ ⟨rfl, rfl, rfl⟩ z265
  show Go _ _ _ _ _ _ _ _ _ _ _ _ _ _ _ _ _ _ _ _ _ _ _ _ [(.ref x1), (.int ((0 : Int32) + (1 : Int32))), (.ref a252)] _
  refine go_aastore 1 d_jdk_56_m4_22 rfl A263 rfl (sto_arv A263 O258 (Ins.of_exa (Exa.wr W262 (X1.ext E255)) (w111 hw))) ⟨by decide, by decide⟩ rfl (Nat.le_of_ble_eq_true rfl) (List.mem_of_getElem? (i := 0) rfl) (pc' := 23) rfl ?_
  intro h266 W267 A268
  refine g_iinc d_jdk_56_m4_23 (pc' := 26) (Ls' := #[.val (.ref na), .val (.ref a252), .val (.int (((0 : Int32) + (1 : Int32)) + (1 : Int32)))]) rfl rfl rfl ?_
  refine g_goto d_jdk_56_m4_26 (pc' := 8) (by decide) (by decide) ?_
  refine g_iloadN d_jdk_56_m4_8 (pc' := 9) rfl rfl ?_
  refine g_aloadN d_jdk_56_m4_9 (pc' := 10) rfl rfl rfl ?_
  refine go_arraylength d_jdk_56_m4_10 (((An.ext E255).other W262 ne264).other W267 ne264) (pc' := 11) rfl ?_
  refine g_icmpNo d_jdk_56_m4_11 (pc' := 14) rfl (tlt (by decide : (((0 : Int32) + (1 : Int32)) + (1 : Int32)) < (3 : Int32))).2.1 ?_
  refine g_aloadN d_jdk_56_m4_14 (pc' := 15) rfl rfl rfl ?_
  refine g_iloadN d_jdk_56_m4_15 (pc' := 16) rfl rfl ?_
  refine g_aloadN d_jdk_56_m4_16 (pc' := 17) rfl rfl rfl ?_
  refine g_iloadN d_jdk_56_m4_17 (pc' := 18) rfl rfl ?_
  refine go_aaload d_jdk_56_m4_18 rfl (((An.ext E255).other W262 ne264).other W267 ne264) (v := (.ref x2)) ⟨by decide, by decide⟩ rfl (pc' := 19) rfl ?_
  refine go_static d_jdk_56_m4_19 (rm_require1 hw x2 h266) all0 (w244 hw) (w204 hw) (w48 hw) (w205 hw) (by decide) (argsL := [(.ref x2)]) (rest := [(.int (((0 : Int32) + (1 : Int32)) + (1 : Int32))), (.ref a252)]) (lenOf pd11 rfl) rfl rfl rfl (W := 2) (Nat.le_of_ble_eq_true rfl) (by decide) (by decide) (by decide) (by decide) (pc' := 22) rfl ?_
  rintro _ _ _ ⟨rfl, rfl, rfl⟩ z269
  show Go _ _ _ _ _ _ _ _ _ _ _ _ _ _ _ _ _ _ _ _ _ _ _ _ [(.ref x2), (.int (((0 : Int32) + (1 : Int32)) + (1 : Int32))), (.ref a252)] _
  refine go_aastore 2 d_jdk_56_m4_22 rfl A268 rfl (sto_arv A268 O258 (Ins.of_exa (Exa.wr W267 (Exa.wr W262 (X2.ext E255))) (w111 hw))) ⟨by decide, by decide⟩ rfl (Nat.le_of_ble_eq_true rfl) (List.mem_of_getElem? (i := 0) rfl) (pc' := 23) rfl ?_
  intro h270 W271 A272
  refine g_iinc d_jdk_56_m4_23 (pc' := 26) (Ls' := #[.val (.ref na), .val (.ref a252), .val (.int ((((0 : Int32) + (1 : Int32)) + (1 : Int32)) + (1 : Int32)))]) rfl rfl rfl ?_
  refine g_goto d_jdk_56_m4_26 (pc' := 8) (by decide) (by decide) ?_
  refine g_iloadN d_jdk_56_m4_8 (pc' := 9) rfl rfl ?_
  refine g_aloadN d_jdk_56_m4_9 (pc' := 10) rfl rfl rfl ?_
  have f273 := ((((An.ext E255).other W262 ne264).other W267 ne264).other W271 ne264)
  refine go_arraylength d_jdk_56_m4_10 f273 (pc' := 11) rfl ?_
  refine g_icmpYes d_jdk_56_m4_11 (pc' := 29) (flt (by decide : ¬ (((((0 : Int32) + (1 : Int32)) + (1 : Int32)) + (1 : Int32)) < (3 : Int32)))).2.1 (by decide) (by decide) ?_
  refine go_new d_jdk_56_m4_29 (w143 hw) (w245 hw) (w246 hw) (by decide) (by decide) (pc' := 32) rfl ?_
  intro h274 a275 g276 E277 A278 D279
  have F280 : Fld Z h274 a275 "java/util/ImmutableCollections$ListN" "elements" "[Ljava/lang/Object;" .null := D279 (Or.inr (w256 hw)) (ty := (.array (.object "java/lang/Object"))) (by decide)
  have F281 : Fld Z h274 a275 "java/util/ImmutableCollections$ListN" "allowNulls" "Z" (.int (0 : Int32)) := D279 (Or.inr (w258 hw)) (ty := .boolean) (by decide)
  refine g_dup d_jdk_56_m4_32 (pc' := 33) rfl rfl ?_
  refine g_aloadN d_jdk_56_m4_33 (pc' := 34) rfl rfl rfl ?_
  refine g_iconst d_jdk_56_m4_34 (pc' := 35) rfl (z := 0) rfl ?_
  refine go_specialN d_jdk_56_m4_35 (rm_ln hw a275 a252 _ _ h274 A278 F280 F281) (allS (List.mem_of_getElem? (i := 0) rfl) all0) rfl (w247 hw) (w248 hw) (w246 hw) (w250 hw) (by decide) (argsL := [(.ref a252), (.int (0 : Int32))]) (rest := [(.ref a275)]) (lenOf pd14 rfl) rfl rfl rfl (W := 1) (Nat.le_of_ble_eq_true rfl) (by decide) (by decide) (by decide) (by decide) (pc' := 38) rfl ?_
  rintro _ h282 _ ⟨rfl, rfl, Kr, Fr0⟩ hzr
  show Go _ _ _ _ _ _ _ _ _ _ _ _ _ _ _ _ _ _ _ _ _ _ _ _ [(.ref a275)] _
  have K283 : Keep h0 h251 [] := ((Keep.refl h0 []).ext E255)
  have K284 : Keep h0 h261 [] := (K283.wr W262 (Or.inr (Nat.le_of_eq g254.symm)))
  have K285 : Keep h0 h266 [] := (K284.wr W267 (Or.inr (Nat.le_of_eq g254.symm)))
  have K286 : Keep h0 h270 [] := (K285.wr W271 (Or.inr (Nat.le_of_eq g254.symm)))
  have K287 : Keep h0 h274 [] := (K286.ext E277)
  have K288 : Keep h0 h282 [] := (K287.trans Kr (allS (Or.inr (Nat.le_trans (K286).1 (Nat.le_of_eq g276.symm))) all0))
  have ne289 : a252 ≠ a275 := Nat.ne_of_lt (Nat.lt_of_lt_of_le (Exa.wr W271 (Exa.wr W267 (Exa.wr W262 X257))).lt (Nat.le_of_eq g276.symm))
  exact go_areturn d_jdk_56_m4_38 rfl rfl rfl (ws' := []) all0 ⟨_, _, _, rfl, rfl, (Nat.le_trans (K286).1 (Nat.le_of_eq g276.symm)), (Nat.le_of_eq g254.symm), K288, (A278.keep Kr), Fr0, ((A272.ext E277).keep Kr (ninS ne289 nin0))⟩
set_option maxRecDepth 65536 in
set_option maxHeartbeats 40000000 in
theorem rm_listOf3 {l : Launch} {Z : State} {a0 : Array Value} (hw : ∀ d ∈ tables_1, d.before a0 Z = true) (na : Addr) (kn : ClassId) (em : Addr) (x0 x1 x2 : Addr)  (h0 : Heap) (An : Arv Z h0 na kn (.object "java/lang/Object") 3 [.ref x0, .ref x1, .ref x2] .null) (Se : Sta Z Z.heap "java/util/ImmutableCollections" "EMPTY" "Ljava/lang/Object;" (.ref em)) (X0 : Exa Z h0 x0 "com/example/keyhold/keyhold/model/SigningKey") (X1 : Exa Z h0 x1 "com/example/keyhold/keyhold/model/SigningKey") (X2 : Exa Z h0 x2 "com/example/keyhold/keyhold/model/SigningKey") :
    Con l Z EL ⟨"java/util/List", "of", "([Ljava/lang/Object;)Ljava/util/List;"⟩ jdk_40_method_47_code 2 (some (.object "java/util/List")) [] { frames := 6, cells := 2, slots := 5, locals := 77 } #[(.ref na)] h0 [] (fun v h ws => ∃ r ra kr, v = some (.ref r) ∧ ws = [] ∧ h0.size ≤ r ∧ h0.size ≤ ra ∧ Keep h0 h [] ∧ Exa Z h r "java/util/ImmutableCollections$ListN" ∧ Fld Z h r "java/util/ImmutableCollections$ListN" "elements" "[Ljava/lang/Object;" (.ref ra) ∧ Arv Z h ra kr (.object "java/lang/Object") 3 [.ref x0, .ref x1, .ref x2] .null) := by
  refine con_of (a0 := a0) (Ls := #[.val (.ref na), .unset]) (plainFor_of_name pn12) (eW hw) (fun m => by first | (simp [entryFrame, mkF, argsToLocals, Value.category]; done) | rfl) ?_
  intro p e s m below meth c
  refine g_aloadN d_jdk_40_m47_0 (pc' := 1) rfl rfl rfl ?_
  refine go_arraylength d_jdk_40_m47_1 An (pc' := 2) rfl ?_
  refine g_tswOut d_jdk_40_m47_2 (by decide) (by decide) (pc' := 59) (by decide) ?_
  refine g_aloadN d_jdk_40_m47_59 (pc' := 60) rfl rfl rfl ?_
  refine go_static d_jdk_40_m47_60 (rm_lfa3 hw na kn em x0 x1 x2 h0 An Se X0 X1 X2) (fun _ q => q) (w240 hw) (w241 hw) (w136 hw) (w242 hw) (by decide) (argsL := [(.ref na)]) (rest := []) (lenOf pd15 rfl) rfl rfl rfl (W := 0) (Nat.le_of_ble_eq_true rfl) (by decide) (by decide) (by decide) (by decide) (pc' := 63) rfl ?_
  rintro _ h290 _ ⟨r, ra, kr, rfl, rfl, hr, hra, Kr, Xr, Fr, Ar⟩ hzo
  show Go _ _ _ _ _ _ _ _ _ _ _ _ _ _ _ _ _ _ _ _ _ _ _ _ [(.ref r)] _
  have K291 : Keep h0 h290 [] := ((Keep.refl h0 []).trans Kr all0)
  exact go_areturn d_jdk_40_m47_63 rfl rfl rfl (ws' := []) (fun _ q => q) ⟨_, _, _, rfl, rfl, hr, hra, K291, Xr, Fr, Ar⟩
set_option maxRecDepth 65536 in
set_option maxHeartbeats 40000000 in
theorem rm_listCopy1 {l : Launch} {Z : State} {a0 : Array Value} (hw : ∀ d ∈ tables_1, d.before a0 Z = true) (li ea : Addr) (ke : ClassId) (mc : Int32) (x0 : Addr) (mo em : Addr) (h0 : Heap) (E : Exa Z h0 li "java/util/ArrayList") (Fe : Fld Z h0 li "java/util/ArrayList" "elementData" "[Ljava/lang/Object;" (.ref ea)) (Fs : Fld Z h0 li "java/util/ArrayList" "size" "I" (.int 1)) (Fm : Fld Z h0 li "java/util/AbstractList" "modCount" "I" (.int mc)) (A : Arv Z h0 ea ke (.object "java/lang/Object") 10 [.ref x0, .null, .null, .null, .null, .null, .null, .null, .null, .null] .null) (O : Ovr Z ke "java/lang/Object") (Xe : Exa Z h0 ea "[Ljava/lang/Object;") (Mo : Mir Z "[Ljava/lang/Object;" mo) (Se : Sta Z Z.heap "java/util/ImmutableCollections" "EMPTY" "Ljava/lang/Object;" (.ref em)) (X0 : Exa Z h0 x0 "com/example/keyhold/keyhold/model/SigningKey") :
    Con l Z EL ⟨"java/util/ImmutableCollections", "listCopy", "(Ljava/util/Collection;)Ljava/util/List;"⟩ jdk_56_method_3_code 2 (some (.object "java/util/List")) [] { frames := 6, cells := 2, slots := 3, locals := 80 } #[(.ref li)] h0 [] (fun v h ws => ∃ r, v = some (.ref r) ∧ ws = [] ∧ h0.size ≤ r ∧ Keep h0 h [] ∧ Exa Z h r "java/util/ImmutableCollections$List12" ∧ Fld Z h r "java/util/ImmutableCollections$List12" "e0" "Ljava/lang/Object;" (.ref x0)) := by
  refine con_of (a0 := a0) (Ls := #[.val (.ref li), .unset]) (plainFor_of_name pn13) (eW hw) (fun m => by first | (simp [entryFrame, mkF, argsToLocals, Value.category]; done) | rfl) ?_
  intro p e s m below meth c
  refine g_aloadN d_jdk_56_m3_0 (pc' := 1) rfl rfl rfl ?_
  refine go_instNo d_jdk_56_m3_1 (w138 hw) E (not_of (X := "java/util/ArrayList") (t := ["java/util/AbstractList", "java/util/AbstractCollection", "java/lang/Object"]) (allC (w139 hw) (allC (w140 hw) (allC (w141 hw) (allC (w142 hw) allCN)))) (w183 hw) (by decide)) (pc' := 4) rfl ?_
  refine g_ifNo d_jdk_56_m3_4 (pc' := 7) rfl (teq (by decide : (0 : Int32) = (0 : Int32))).2 ?_
  refine g_aloadN d_jdk_56_m3_7 (pc' := 8) rfl rfl rfl ?_
  refine go_instNo d_jdk_56_m3_8 (w143 hw) E (not_of (X := "java/util/ArrayList") (t := ["java/util/AbstractList", "java/util/AbstractCollection", "java/lang/Object"]) (allC (w139 hw) (allC (w140 hw) (allC (w141 hw) (allC (w142 hw) allCN)))) (w245 hw) (by decide)) (pc' := 11) rfl ?_
  refine g_ifYes d_jdk_56_m3_11 (pc' := 31) (teq (by decide : (0 : Int32) = (0 : Int32))).1 (by decide) (by decide) ?_
  refine g_aloadN d_jdk_56_m3_31 (pc' := 32) rfl rfl rfl ?_
  refine go_interface d_jdk_56_m3_32 (rm_isEmpty1 hw li h0 Fs) (fun _ q => q) E (w144 hw) (w145 hw) (w146 hw) rfl (w147 hw) (w125 hw) (w126 hw) (w127 hw) (w148 hw) (w59 hw) (w129 hw) (by decide) (argsL := []) (rest := []) (lenOf pd16 rfl) rfl rfl rfl (W := 0) (Nat.le_of_ble_eq_true rfl) (by decide) (by decide) (by decide) (by decide) (pc' := 37) rfl ?_
  rintro _ _ _ ⟨rfl, rfl, rfl⟩ z292
  show Go _ _ _ _ _ _ _ _ _ _ _ _ _ _ _ _ _ _ _ _ _ _ _ _ [(.int (0 : Int32))] _
  refine g_ifYes d_jdk_56_m3_37 (pc' := 44) (teq (by decide : (0 : Int32) = (0 : Int32))).1 (by decide) (by decide) ?_
  refine g_aloadN d_jdk_56_m3_44 (pc' := 45) rfl rfl rfl ?_
  refine go_interface d_jdk_56_m3_45 (rm_toArray1 hw li ea ke mo x0 h0 Fe Fs A Xe Mo X0) (fun _ q => q) E (w149 hw) (w150 hw) (w151 hw) rfl (w152 hw) (w153 hw) (w154 hw) (w155 hw) (w148 hw) (w59 hw) (w156 hw) (by decide) (argsL := []) (rest := []) (lenOf pd7 rfl) rfl rfl rfl (W := 0) (Nat.le_of_ble_eq_true rfl) (by decide) (by decide) (by decide) (by decide) (pc' := 50) rfl ?_
  rintro _ h293 _ ⟨na, kn, rfl, rfl, hna, Kn, An⟩ hzn
  show Go _ _ _ _ _ _ _ _ _ _ _ _ _ _ _ _ _ _ _ _ _ _ _ _ [(.ref na)] _
  refine go_static d_jdk_56_m3_50 (rm_listOf1 hw na kn em x0 h293 An Se (X0.keep Kn)) (fun _ q => q) (w179 hw) (w180 hw) (w132 hw) (w181 hw) (by decide) (argsL := [(.ref na)]) (rest := []) (lenOf pd15 rfl) rfl rfl rfl (W := 0) (Nat.le_of_ble_eq_true rfl) (by decide) (by decide) (by decide) (by decide) (pc' := 53) rfl ?_
  rintro _ h294 _ ⟨r, rfl, rfl, hr, Kr, Xr, Fr⟩ hzo
  show Go _ _ _ _ _ _ _ _ _ _ _ _ _ _ _ _ _ _ _ _ _ _ _ _ [(.ref r)] _
  have K295 : Keep h0 h293 [] := ((Keep.refl h0 []).trans Kn all0)
  have K296 : Keep h0 h294 [] := (K295.trans Kr all0)
  exact go_areturn d_jdk_56_m3_53 rfl rfl rfl (ws' := []) (fun _ q => q) ⟨_, rfl, rfl, (Nat.le_trans (K295).1 hr), K296, Xr, Fr⟩
set_option maxRecDepth 65536 in
set_option maxHeartbeats 40000000 in
theorem rm_copyOf1 {l : Launch} {Z : State} {a0 : Array Value} (hw : ∀ d ∈ tables_1, d.before a0 Z = true) (li ea : Addr) (ke : ClassId) (mc : Int32) (x0 : Addr) (mo em : Addr) (h0 : Heap) (E : Exa Z h0 li "java/util/ArrayList") (Fe : Fld Z h0 li "java/util/ArrayList" "elementData" "[Ljava/lang/Object;" (.ref ea)) (Fs : Fld Z h0 li "java/util/ArrayList" "size" "I" (.int 1)) (Fm : Fld Z h0 li "java/util/AbstractList" "modCount" "I" (.int mc)) (A : Arv Z h0 ea ke (.object "java/lang/Object") 10 [.ref x0, .null, .null, .null, .null, .null, .null, .null, .null, .null] .null) (O : Ovr Z ke "java/lang/Object") (Xe : Exa Z h0 ea "[Ljava/lang/Object;") (Mo : Mir Z "[Ljava/lang/Object;" mo) (Se : Sta Z Z.heap "java/util/ImmutableCollections" "EMPTY" "Ljava/lang/Object;" (.ref em)) (X0 : Exa Z h0 x0 "com/example/keyhold/keyhold/model/SigningKey") :
    Con l Z EL ⟨"java/util/List", "copyOf", "(Ljava/util/Collection;)Ljava/util/List;"⟩ jdk_40_method_48_code 1 (some (.object "java/util/List")) [] { frames := 7, cells := 2, slots := 3, locals := 93 } #[(.ref li)] h0 [] (fun v h ws => ∃ r, v = some (.ref r) ∧ ws = [] ∧ h0.size ≤ r ∧ Keep h0 h [] ∧ Exa Z h r "java/util/ImmutableCollections$List12" ∧ Fld Z h r "java/util/ImmutableCollections$List12" "e0" "Ljava/lang/Object;" (.ref x0)) := by
  refine con_of (a0 := a0) (Ls := #[.val (.ref li)]) (plainFor_of_name pn12) (eW hw) (fun m => by first | (simp [entryFrame, mkF, argsToLocals, Value.category]; done) | rfl) ?_
  intro p e s m below meth c
  refine g_aloadN d_jdk_40_m48_0 (pc' := 1) rfl rfl rfl ?_
  refine go_static d_jdk_40_m48_1 (rm_listCopy1 hw li ea ke mc x0 mo em h0 E Fe Fs Fm A O Xe Mo Se X0) (fun _ q => q) (w134 hw) (w135 hw) (w136 hw) (w137 hw) (by decide) (argsL := [(.ref li)]) (rest := []) (lenOf pd17 rfl) rfl rfl rfl (W := 0) (Nat.le_of_ble_eq_true rfl) (by decide) (by decide) (by decide) (by decide) (pc' := 4) rfl ?_
  rintro _ h297 _ ⟨r, rfl, rfl, hr, Kr, Xr, Fr⟩ hzo
  show Go _ _ _ _ _ _ _ _ _ _ _ _ _ _ _ _ _ _ _ _ _ _ _ _ [(.ref r)] _
  have K298 : Keep h0 h297 [] := ((Keep.refl h0 []).trans Kr all0)
  exact go_areturn d_jdk_40_m48_4 rfl rfl rfl (ws' := []) (fun _ q => q) ⟨_, rfl, rfl, hr, K298, Xr, Fr⟩
set_option maxRecDepth 65536 in
set_option maxHeartbeats 40000000 in
theorem rm_listCopy2 {l : Launch} {Z : State} {a0 : Array Value} (hw : ∀ d ∈ tables_1, d.before a0 Z = true) (li ea : Addr) (ke : ClassId) (mc : Int32) (x0 x1 : Addr) (mo em : Addr) (h0 : Heap) (E : Exa Z h0 li "java/util/ArrayList") (Fe : Fld Z h0 li "java/util/ArrayList" "elementData" "[Ljava/lang/Object;" (.ref ea)) (Fs : Fld Z h0 li "java/util/ArrayList" "size" "I" (.int 2)) (Fm : Fld Z h0 li "java/util/AbstractList" "modCount" "I" (.int mc)) (A : Arv Z h0 ea ke (.object "java/lang/Object") 10 [.ref x0, .ref x1, .null, .null, .null, .null, .null, .null, .null, .null] .null) (O : Ovr Z ke "java/lang/Object") (Xe : Exa Z h0 ea "[Ljava/lang/Object;") (Mo : Mir Z "[Ljava/lang/Object;" mo) (Se : Sta Z Z.heap "java/util/ImmutableCollections" "EMPTY" "Ljava/lang/Object;" (.ref em)) (X0 : Exa Z h0 x0 "com/example/keyhold/keyhold/model/SigningKey") (X1 : Exa Z h0 x1 "com/example/keyhold/keyhold/model/SigningKey") :
    Con l Z EL ⟨"java/util/ImmutableCollections", "listCopy", "(Ljava/util/Collection;)Ljava/util/List;"⟩ jdk_56_method_3_code 2 (some (.object "java/util/List")) [] { frames := 6, cells := 2, slots := 4, locals := 80 } #[(.ref li)] h0 [] (fun v h ws => ∃ r, v = some (.ref r) ∧ ws = [] ∧ h0.size ≤ r ∧ Keep h0 h [] ∧ Exa Z h r "java/util/ImmutableCollections$List12" ∧ Fld Z h r "java/util/ImmutableCollections$List12" "e0" "Ljava/lang/Object;" (.ref x0)) := by
  refine con_of (a0 := a0) (Ls := #[.val (.ref li), .unset]) (plainFor_of_name pn13) (eW hw) (fun m => by first | (simp [entryFrame, mkF, argsToLocals, Value.category]; done) | rfl) ?_
  intro p e s m below meth c
  refine g_aloadN d_jdk_56_m3_0 (pc' := 1) rfl rfl rfl ?_
  refine go_instNo d_jdk_56_m3_1 (w138 hw) E (not_of (X := "java/util/ArrayList") (t := ["java/util/AbstractList", "java/util/AbstractCollection", "java/lang/Object"]) (allC (w139 hw) (allC (w140 hw) (allC (w141 hw) (allC (w142 hw) allCN)))) (w183 hw) (by decide)) (pc' := 4) rfl ?_
  refine g_ifNo d_jdk_56_m3_4 (pc' := 7) rfl (teq (by decide : (0 : Int32) = (0 : Int32))).2 ?_
  refine g_aloadN d_jdk_56_m3_7 (pc' := 8) rfl rfl rfl ?_
  refine go_instNo d_jdk_56_m3_8 (w143 hw) E (not_of (X := "java/util/ArrayList") (t := ["java/util/AbstractList", "java/util/AbstractCollection", "java/lang/Object"]) (allC (w139 hw) (allC (w140 hw) (allC (w141 hw) (allC (w142 hw) allCN)))) (w245 hw) (by decide)) (pc' := 11) rfl ?_
  refine g_ifYes d_jdk_56_m3_11 (pc' := 31) (teq (by decide : (0 : Int32) = (0 : Int32))).1 (by decide) (by decide) ?_
  refine g_aloadN d_jdk_56_m3_31 (pc' := 32) rfl rfl rfl ?_
  refine go_interface d_jdk_56_m3_32 (rm_isEmpty2 hw li h0 Fs) (fun _ q => q) E (w144 hw) (w145 hw) (w146 hw) rfl (w147 hw) (w125 hw) (w126 hw) (w127 hw) (w148 hw) (w59 hw) (w129 hw) (by decide) (argsL := []) (rest := []) (lenOf pd16 rfl) rfl rfl rfl (W := 0) (Nat.le_of_ble_eq_true rfl) (by decide) (by decide) (by decide) (by decide) (pc' := 37) rfl ?_
  rintro _ _ _ ⟨rfl, rfl, rfl⟩ z299
  show Go _ _ _ _ _ _ _ _ _ _ _ _ _ _ _ _ _ _ _ _ _ _ _ _ [(.int (0 : Int32))] _
  refine g_ifYes d_jdk_56_m3_37 (pc' := 44) (teq (by decide : (0 : Int32) = (0 : Int32))).1 (by decide) (by decide) ?_
  refine g_aloadN d_jdk_56_m3_44 (pc' := 45) rfl rfl rfl ?_
  refine go_interface d_jdk_56_m3_45 (rm_toArray2 hw li ea ke mo x0 x1 h0 Fe Fs A Xe Mo X0 X1) (fun _ q => q) E (w149 hw) (w150 hw) (w151 hw) rfl (w152 hw) (w153 hw) (w154 hw) (w155 hw) (w148 hw) (w59 hw) (w156 hw) (by decide) (argsL := []) (rest := []) (lenOf pd7 rfl) rfl rfl rfl (W := 0) (Nat.le_of_ble_eq_true rfl) (by decide) (by decide) (by decide) (by decide) (pc' := 50) rfl ?_
  rintro _ h300 _ ⟨na, kn, rfl, rfl, hna, Kn, An⟩ hzn
  show Go _ _ _ _ _ _ _ _ _ _ _ _ _ _ _ _ _ _ _ _ _ _ _ _ [(.ref na)] _
  refine go_static d_jdk_56_m3_50 (rm_listOf2 hw na kn em x0 x1 h300 An Se (X0.keep Kn) (X1.keep Kn)) (fun _ q => q) (w179 hw) (w180 hw) (w132 hw) (w181 hw) (by decide) (argsL := [(.ref na)]) (rest := []) (lenOf pd15 rfl) rfl rfl rfl (W := 0) (Nat.le_of_ble_eq_true rfl) (by decide) (by decide) (by decide) (by decide) (pc' := 53) rfl ?_
  rintro _ h301 _ ⟨r, rfl, rfl, hr, Kr, Xr, Fr⟩ hzo
  show Go _ _ _ _ _ _ _ _ _ _ _ _ _ _ _ _ _ _ _ _ _ _ _ _ [(.ref r)] _
  have K302 : Keep h0 h300 [] := ((Keep.refl h0 []).trans Kn all0)
  have K303 : Keep h0 h301 [] := (K302.trans Kr all0)
  exact go_areturn d_jdk_56_m3_53 rfl rfl rfl (ws' := []) (fun _ q => q) ⟨_, rfl, rfl, (Nat.le_trans (K302).1 hr), K303, Xr, Fr⟩
set_option maxRecDepth 65536 in
set_option maxHeartbeats 40000000 in
theorem rm_copyOf2 {l : Launch} {Z : State} {a0 : Array Value} (hw : ∀ d ∈ tables_1, d.before a0 Z = true) (li ea : Addr) (ke : ClassId) (mc : Int32) (x0 x1 : Addr) (mo em : Addr) (h0 : Heap) (E : Exa Z h0 li "java/util/ArrayList") (Fe : Fld Z h0 li "java/util/ArrayList" "elementData" "[Ljava/lang/Object;" (.ref ea)) (Fs : Fld Z h0 li "java/util/ArrayList" "size" "I" (.int 2)) (Fm : Fld Z h0 li "java/util/AbstractList" "modCount" "I" (.int mc)) (A : Arv Z h0 ea ke (.object "java/lang/Object") 10 [.ref x0, .ref x1, .null, .null, .null, .null, .null, .null, .null, .null] .null) (O : Ovr Z ke "java/lang/Object") (Xe : Exa Z h0 ea "[Ljava/lang/Object;") (Mo : Mir Z "[Ljava/lang/Object;" mo) (Se : Sta Z Z.heap "java/util/ImmutableCollections" "EMPTY" "Ljava/lang/Object;" (.ref em)) (X0 : Exa Z h0 x0 "com/example/keyhold/keyhold/model/SigningKey") (X1 : Exa Z h0 x1 "com/example/keyhold/keyhold/model/SigningKey") :
    Con l Z EL ⟨"java/util/List", "copyOf", "(Ljava/util/Collection;)Ljava/util/List;"⟩ jdk_40_method_48_code 1 (some (.object "java/util/List")) [] { frames := 7, cells := 2, slots := 4, locals := 93 } #[(.ref li)] h0 [] (fun v h ws => ∃ r, v = some (.ref r) ∧ ws = [] ∧ h0.size ≤ r ∧ Keep h0 h [] ∧ Exa Z h r "java/util/ImmutableCollections$List12" ∧ Fld Z h r "java/util/ImmutableCollections$List12" "e0" "Ljava/lang/Object;" (.ref x0)) := by
  refine con_of (a0 := a0) (Ls := #[.val (.ref li)]) (plainFor_of_name pn12) (eW hw) (fun m => by first | (simp [entryFrame, mkF, argsToLocals, Value.category]; done) | rfl) ?_
  intro p e s m below meth c
  refine g_aloadN d_jdk_40_m48_0 (pc' := 1) rfl rfl rfl ?_
  refine go_static d_jdk_40_m48_1 (rm_listCopy2 hw li ea ke mc x0 x1 mo em h0 E Fe Fs Fm A O Xe Mo Se X0 X1) (fun _ q => q) (w134 hw) (w135 hw) (w136 hw) (w137 hw) (by decide) (argsL := [(.ref li)]) (rest := []) (lenOf pd17 rfl) rfl rfl rfl (W := 0) (Nat.le_of_ble_eq_true rfl) (by decide) (by decide) (by decide) (by decide) (pc' := 4) rfl ?_
  rintro _ h304 _ ⟨r, rfl, rfl, hr, Kr, Xr, Fr⟩ hzo
  show Go _ _ _ _ _ _ _ _ _ _ _ _ _ _ _ _ _ _ _ _ _ _ _ _ [(.ref r)] _
  have K305 : Keep h0 h304 [] := ((Keep.refl h0 []).trans Kr all0)
  exact go_areturn d_jdk_40_m48_4 rfl rfl rfl (ws' := []) (fun _ q => q) ⟨_, rfl, rfl, hr, K305, Xr, Fr⟩
set_option maxRecDepth 65536 in
set_option maxHeartbeats 40000000 in
theorem rm_listCopy3 {l : Launch} {Z : State} {a0 : Array Value} (hw : ∀ d ∈ tables_1, d.before a0 Z = true) (li ea : Addr) (ke : ClassId) (mc : Int32) (x0 x1 x2 : Addr) (mo em : Addr) (h0 : Heap) (E : Exa Z h0 li "java/util/ArrayList") (Fe : Fld Z h0 li "java/util/ArrayList" "elementData" "[Ljava/lang/Object;" (.ref ea)) (Fs : Fld Z h0 li "java/util/ArrayList" "size" "I" (.int 3)) (Fm : Fld Z h0 li "java/util/AbstractList" "modCount" "I" (.int mc)) (A : Arv Z h0 ea ke (.object "java/lang/Object") 10 [.ref x0, .ref x1, .ref x2, .null, .null, .null, .null, .null, .null, .null] .null) (O : Ovr Z ke "java/lang/Object") (Xe : Exa Z h0 ea "[Ljava/lang/Object;") (Mo : Mir Z "[Ljava/lang/Object;" mo) (Se : Sta Z Z.heap "java/util/ImmutableCollections" "EMPTY" "Ljava/lang/Object;" (.ref em)) (X0 : Exa Z h0 x0 "com/example/keyhold/keyhold/model/SigningKey") (X1 : Exa Z h0 x1 "com/example/keyhold/keyhold/model/SigningKey") (X2 : Exa Z h0 x2 "com/example/keyhold/keyhold/model/SigningKey") :
    Con l Z EL ⟨"java/util/ImmutableCollections", "listCopy", "(Ljava/util/Collection;)Ljava/util/List;"⟩ jdk_56_method_3_code 2 (some (.object "java/util/List")) [] { frames := 7, cells := 3, slots := 8, locals := 90 } #[(.ref li)] h0 [] (fun v h ws => ∃ r ra kr, v = some (.ref r) ∧ ws = [] ∧ h0.size ≤ r ∧ h0.size ≤ ra ∧ Keep h0 h [] ∧ Exa Z h r "java/util/ImmutableCollections$ListN" ∧ Fld Z h r "java/util/ImmutableCollections$ListN" "elements" "[Ljava/lang/Object;" (.ref ra) ∧ Arv Z h ra kr (.object "java/lang/Object") 3 [.ref x0, .ref x1, .ref x2] .null) := by
  refine con_of (a0 := a0) (Ls := #[.val (.ref li), .unset]) (plainFor_of_name pn13) (eW hw) (fun m => by first | (simp [entryFrame, mkF, argsToLocals, Value.category]; done) | rfl) ?_
  intro p e s m below meth c
  refine g_aloadN d_jdk_56_m3_0 (pc' := 1) rfl rfl rfl ?_
  refine go_instNo d_jdk_56_m3_1 (w138 hw) E (not_of (X := "java/util/ArrayList") (t := ["java/util/AbstractList", "java/util/AbstractCollection", "java/lang/Object"]) (allC (w139 hw) (allC (w140 hw) (allC (w141 hw) (allC (w142 hw) allCN)))) (w183 hw) (by decide)) (pc' := 4) rfl ?_
  refine g_ifNo d_jdk_56_m3_4 (pc' := 7) rfl (teq (by decide : (0 : Int32) = (0 : Int32))).2 ?_
  refine g_aloadN d_jdk_56_m3_7 (pc' := 8) rfl rfl rfl ?_
  refine go_instNo d_jdk_56_m3_8 (w143 hw) E (not_of (X := "java/util/ArrayList") (t := ["java/util/AbstractList", "java/util/AbstractCollection", "java/lang/Object"]) (allC (w139 hw) (allC (w140 hw) (allC (w141 hw) (allC (w142 hw) allCN)))) (w245 hw) (by decide)) (pc' := 11) rfl ?_
  refine g_ifYes d_jdk_56_m3_11 (pc' := 31) (teq (by decide : (0 : Int32) = (0 : Int32))).1 (by decide) (by decide) ?_
  refine g_aloadN d_jdk_56_m3_31 (pc' := 32) rfl rfl rfl ?_
  refine go_interface d_jdk_56_m3_32 (rm_isEmpty3 hw li h0 Fs) (fun _ q => q) E (w144 hw) (w145 hw) (w146 hw) rfl (w147 hw) (w125 hw) (w126 hw) (w127 hw) (w148 hw) (w59 hw) (w129 hw) (by decide) (argsL := []) (rest := []) (lenOf pd16 rfl) rfl rfl rfl (W := 0) (Nat.le_of_ble_eq_true rfl) (by decide) (by decide) (by decide) (by decide) (pc' := 37) rfl ?_
  rintro _ _ _ ⟨rfl, rfl, rfl⟩ z306
  show Go _ _ _ _ _ _ _ _ _ _ _ _ _ _ _ _ _ _ _ _ _ _ _ _ [(.int (0 : Int32))] _
  refine g_ifYes d_jdk_56_m3_37 (pc' := 44) (teq (by decide : (0 : Int32) = (0 : Int32))).1 (by decide) (by decide) ?_
  refine g_aloadN d_jdk_56_m3_44 (pc' := 45) rfl rfl rfl ?_
  refine go_interface d_jdk_56_m3_45 (rm_toArray3 hw li ea ke mo x0 x1 x2 h0 Fe Fs A Xe Mo X0 X1 X2) (fun _ q => q) E (w149 hw) (w150 hw) (w151 hw) rfl (w152 hw) (w153 hw) (w154 hw) (w155 hw) (w148 hw) (w59 hw) (w156 hw) (by decide) (argsL := []) (rest := []) (lenOf pd7 rfl) rfl rfl rfl (W := 0) (Nat.le_of_ble_eq_true rfl) (by decide) (by decide) (by decide) (by decide) (pc' := 50) rfl ?_
  rintro _ h307 _ ⟨na, kn, rfl, rfl, hna, Kn, An⟩ hzn
  show Go _ _ _ _ _ _ _ _ _ _ _ _ _ _ _ _ _ _ _ _ _ _ _ _ [(.ref na)] _
  refine go_static d_jdk_56_m3_50 (rm_listOf3 hw na kn em x0 x1 x2 h307 An Se (X0.keep Kn) (X1.keep Kn) (X2.keep Kn)) (fun _ q => q) (w179 hw) (w180 hw) (w132 hw) (w181 hw) (by decide) (argsL := [(.ref na)]) (rest := []) (lenOf pd15 rfl) rfl rfl rfl (W := 0) (Nat.le_of_ble_eq_true rfl) (by decide) (by decide) (by decide) (by decide) (pc' := 53) rfl ?_
  rintro _ h308 _ ⟨r, ra, kr, rfl, rfl, hr, hra, Kr, Xr, Fr, Ar⟩ hzo
  show Go _ _ _ _ _ _ _ _ _ _ _ _ _ _ _ _ _ _ _ _ _ _ _ _ [(.ref r)] _
  have K309 : Keep h0 h307 [] := ((Keep.refl h0 []).trans Kn all0)
  have K310 : Keep h0 h308 [] := (K309.trans Kr all0)
  exact go_areturn d_jdk_56_m3_53 rfl rfl rfl (ws' := []) (fun _ q => q) ⟨_, _, _, rfl, rfl, (Nat.le_trans (K309).1 hr), (Nat.le_trans (K309).1 hra), K310, Xr, Fr, Ar⟩
set_option maxRecDepth 65536 in
set_option maxHeartbeats 40000000 in
theorem rm_copyOf3 {l : Launch} {Z : State} {a0 : Array Value} (hw : ∀ d ∈ tables_1, d.before a0 Z = true) (li ea : Addr) (ke : ClassId) (mc : Int32) (x0 x1 x2 : Addr) (mo em : Addr) (h0 : Heap) (E : Exa Z h0 li "java/util/ArrayList") (Fe : Fld Z h0 li "java/util/ArrayList" "elementData" "[Ljava/lang/Object;" (.ref ea)) (Fs : Fld Z h0 li "java/util/ArrayList" "size" "I" (.int 3)) (Fm : Fld Z h0 li "java/util/AbstractList" "modCount" "I" (.int mc)) (A : Arv Z h0 ea ke (.object "java/lang/Object") 10 [.ref x0, .ref x1, .ref x2, .null, .null, .null, .null, .null, .null, .null] .null) (O : Ovr Z ke "java/lang/Object") (Xe : Exa Z h0 ea "[Ljava/lang/Object;") (Mo : Mir Z "[Ljava/lang/Object;" mo) (Se : Sta Z Z.heap "java/util/ImmutableCollections" "EMPTY" "Ljava/lang/Object;" (.ref em)) (X0 : Exa Z h0 x0 "com/example/keyhold/keyhold/model/SigningKey") (X1 : Exa Z h0 x1 "com/example/keyhold/keyhold/model/SigningKey") (X2 : Exa Z h0 x2 "com/example/keyhold/keyhold/model/SigningKey") :
    Con l Z EL ⟨"java/util/List", "copyOf", "(Ljava/util/Collection;)Ljava/util/List;"⟩ jdk_40_method_48_code 1 (some (.object "java/util/List")) [] { frames := 8, cells := 3, slots := 8, locals := 103 } #[(.ref li)] h0 [] (fun v h ws => ∃ r ra kr, v = some (.ref r) ∧ ws = [] ∧ h0.size ≤ r ∧ h0.size ≤ ra ∧ Keep h0 h [] ∧ Exa Z h r "java/util/ImmutableCollections$ListN" ∧ Fld Z h r "java/util/ImmutableCollections$ListN" "elements" "[Ljava/lang/Object;" (.ref ra) ∧ Arv Z h ra kr (.object "java/lang/Object") 3 [.ref x0, .ref x1, .ref x2] .null) := by
  refine con_of (a0 := a0) (Ls := #[.val (.ref li)]) (plainFor_of_name pn12) (eW hw) (fun m => by first | (simp [entryFrame, mkF, argsToLocals, Value.category]; done) | rfl) ?_
  intro p e s m below meth c
  refine g_aloadN d_jdk_40_m48_0 (pc' := 1) rfl rfl rfl ?_
  refine go_static d_jdk_40_m48_1 (rm_listCopy3 hw li ea ke mc x0 x1 x2 mo em h0 E Fe Fs Fm A O Xe Mo Se X0 X1 X2) (fun _ q => q) (w134 hw) (w135 hw) (w136 hw) (w137 hw) (by decide) (argsL := [(.ref li)]) (rest := []) (lenOf pd17 rfl) rfl rfl rfl (W := 0) (Nat.le_of_ble_eq_true rfl) (by decide) (by decide) (by decide) (by decide) (pc' := 4) rfl ?_
  rintro _ h311 _ ⟨r, ra, kr, rfl, rfl, hr, hra, Kr, Xr, Fr, Ar⟩ hzo
  show Go _ _ _ _ _ _ _ _ _ _ _ _ _ _ _ _ _ _ _ _ _ _ _ _ [(.ref r)] _
  have K312 : Keep h0 h311 [] := ((Keep.refl h0 []).trans Kr all0)
  exact go_areturn d_jdk_40_m48_4 rfl rfl rfl (ws' := []) (fun _ q => q) ⟨_, _, _, rfl, rfl, hr, hra, K312, Xr, Fr, Ar⟩
set_option maxRecDepth 65536 in
set_option maxHeartbeats 40000000 in
theorem rm_key {l : Launch} {Z : State} {a0 : Array Value} (hw : ∀ d ∈ tables_1, d.before a0 Z = true) (k0 sa sb : Addr) (t : Int64) (o1 o2 o3 : Value) (h0 : Heap) (E : Exa Z h0 k0 "com/example/keyhold/keyhold/model/SigningKey") (F1 : Fld Z h0 k0 "com/example/keyhold/keyhold/model/SigningKey" "kid" "Ljava/lang/String;" o1) (F2 : Fld Z h0 k0 "com/example/keyhold/keyhold/model/SigningKey" "secret" "[B" o2) (F3 : Fld Z h0 k0 "com/example/keyhold/keyhold/model/SigningKey" "createdAt" "J" o3) :
    Con l Z EL ⟨"com/example/keyhold/keyhold/model/SigningKey", "<init>", "(Ljava/lang/String;[BJ)V"⟩ prog_10_method_1_code 5 none [] { frames := 2, cells := 4, slots := 264, locals := 24 } #[(.ref k0), (.ref sa), (.ref sb), (.long t)] h0 [k0] (fun v h ws => v = none ∧ ws = [] ∧ Keep h0 h [k0]) := by
  refine con_of (a0 := a0) (Ls := #[.val (.ref k0), .val (.ref sa), .val (.ref sb), .val (.long t), .second]) (plainFor_of_name pn14) (eW hw) (fun m => by first | (simp [entryFrame, mkF, argsToLocals, Value.category]; done) | rfl) ?_
  intro p e s m below meth c
  refine g_aloadN d_prog_10_m1_0 (pc' := 1) rfl rfl rfl ?_
  refine go_special d_prog_10_m1_1 (rm_record hw k0 h0) all0 rfl (w37 hw) (w38 hw) (w40 hw) (w41 hw) (by decide) (argsL := []) (rest := []) (lenOf pd4 rfl) rfl rfl rfl (W := 0) (Nat.le_of_ble_eq_true rfl) (by decide) (by decide) (by decide) (by decide) (pc' := 4) rfl ?_
  rintro _ _ _ ⟨rfl, rfl, rfl⟩ z313
  show Go _ _ _ _ _ _ _ _ _ _ _ _ _ _ _ _ _ _ _ _ _ _ _ _ [] _
  refine g_aloadN d_prog_10_m1_4 (pc' := 5) rfl rfl rfl ?_
  refine go_ldcO d_prog_10_m1_5 (w43 hw) (sA hw) (n := 120) (by decide) (by decide) (by decide) (by decide) (pc' := 7) rfl ?_
  intro h314 a315 E316
  refine go_static d_prog_10_m1_7 (rm_require2 hw sa a315 h314) all0 (w46 hw) (w47 hw) (w48 hw) (w49 hw) (by decide) (argsL := [(.ref sa), (.ref a315)]) (rest := []) (lenOf pd18 rfl) rfl rfl rfl (W := 0) (Nat.le_of_ble_eq_true rfl) (by decide) (by decide) (by decide) (by decide) (pc' := 10) rfl ?_
  rintro _ _ _ ⟨rfl, rfl, rfl⟩ z317
  show Go _ _ _ _ _ _ _ _ _ _ _ _ _ _ _ _ _ _ _ _ _ _ _ _ [(.ref sa)] _
  refine g_pop d_prog_10_m1_10 (pc' := 11) rfl rfl ?_
  refine g_aloadN d_prog_10_m1_11 (pc' := 12) rfl rfl rfl ?_
  refine go_ldcO d_prog_10_m1_12 (w50 hw) (sA hw) (n := 136) (by decide) (by decide) (by decide) (by decide) (pc' := 14) rfl ?_
  intro h318 a319 E320
  refine go_static d_prog_10_m1_14 (rm_require2 hw sb a319 h318) all0 (w46 hw) (w47 hw) (w48 hw) (w49 hw) (by decide) (argsL := [(.ref sb), (.ref a319)]) (rest := []) (lenOf pd18 rfl) rfl rfl rfl (W := 0) (Nat.le_of_ble_eq_true rfl) (by decide) (by decide) (by decide) (by decide) (pc' := 17) rfl ?_
  rintro _ _ _ ⟨rfl, rfl, rfl⟩ z321
  show Go _ _ _ _ _ _ _ _ _ _ _ _ _ _ _ _ _ _ _ _ _ _ _ _ [(.ref sb)] _
  refine g_pop d_prog_10_m1_17 (pc' := 18) rfl rfl ?_
  refine g_aloadN d_prog_10_m1_18 (pc' := 19) rfl rfl rfl ?_
  refine g_aloadN d_prog_10_m1_19 (pc' := 20) rfl rfl rfl ?_
  refine go_putfield d_prog_10_m1_20 (w51 hw) Via.refl ((F1.ext E316).ext E320) ((E.ext E316).ext E320) (Or.inr ⟨(w52 hw), rfl, rfl⟩) (w2 hw) (ty := (.object "java/lang/String")) (by decide) (v' := (.ref sa)) rfl rfl (List.mem_of_getElem? (i := 0) rfl) (pc' := 23) rfl ?_
  intro h322 W323
  have F324 := Fld.same W323 ((F1.ext E316).ext E320)
  refine g_aloadN d_prog_10_m1_23 (pc' := 24) rfl rfl rfl ?_
  refine g_aloadN d_prog_10_m1_24 (pc' := 25) rfl rfl rfl ?_
  have f325 := (Fld.other W323 ((F2.ext E316).ext E320) (Or.inr (slot_ne (Or.inr (w54 hw)) (Or.inr (w52 hw)) (by decide) (t := (.array .byte)) (t' := (.object "java/lang/String")) (by decide) (by decide))))
  refine go_putfield d_prog_10_m1_25 (w53 hw) Via.refl f325 (Exa.wr W323 ((E.ext E316).ext E320)) (Or.inr ⟨(w54 hw), rfl, rfl⟩) (w2 hw) (ty := (.array .byte)) (by decide) (v' := (.ref sb)) rfl rfl (List.mem_of_getElem? (i := 0) rfl) (pc' := 28) rfl ?_
  intro h326 W327
  have F328 := Fld.same W327 f325
  refine g_aloadN d_prog_10_m1_28 (pc' := 29) rfl rfl rfl ?_
  refine g_lloadN d_prog_10_m1_29 (pc' := 30) rfl rfl ?_
  have f329 := (Fld.other W327 (Fld.other W323 ((F3.ext E316).ext E320) (Or.inr (slot_ne (Or.inr (w56 hw)) (Or.inr (w52 hw)) (by decide) (t := .long) (t' := (.object "java/lang/String")) (by decide) (by decide)))) (Or.inr (slot_ne (Or.inr (w56 hw)) (Or.inr (w54 hw)) (by decide) (t := .long) (t' := (.array .byte)) (by decide) (by decide))))
  refine go_putfield d_prog_10_m1_30 (w55 hw) Via.refl f329 (Exa.wr W327 (Exa.wr W323 ((E.ext E316).ext E320))) (Or.inr ⟨(w56 hw), rfl, rfl⟩) (w2 hw) (ty := .long) (by decide) (v' := (.long t)) rfl rfl (List.mem_of_getElem? (i := 0) rfl) (pc' := 33) rfl ?_
  intro h330 W331
  have F332 := Fld.same W331 f329
  have K333 : Keep h0 h314 [k0] := ((Keep.refl h0 [k0]).ext E316)
  have K334 : Keep h0 h318 [k0] := (K333.ext E320)
  have K335 : Keep h0 h322 [k0] := (K334.wr W323 (Or.inl (List.mem_of_getElem? (i := 0) rfl)))
  have K336 : Keep h0 h326 [k0] := (K335.wr W327 (Or.inl (List.mem_of_getElem? (i := 0) rfl)))
  have K337 : Keep h0 h330 [k0] := (K336.wr W331 (Or.inl (List.mem_of_getElem? (i := 0) rfl)))
  exact go_return d_prog_10_m1_33 rfl (ws' := []) all0 ⟨rfl, rfl, K337⟩
set_option maxRecDepth 65536 in
set_option maxHeartbeats 40000000 in
theorem rm_ring1 {l : Launch} {Z : State} {a0 : Array Value} (hw : ∀ d ∈ tables_1, d.before a0 Z = true) (li ea : Addr) (ke : ClassId) (mc : Int32) (x0 : Addr) (q mo em : Addr) (o1 : Value) (h0 : Heap) (E : Exa Z h0 li "java/util/ArrayList") (Fe : Fld Z h0 li "java/util/ArrayList" "elementData" "[Ljava/lang/Object;" (.ref ea)) (Fs : Fld Z h0 li "java/util/ArrayList" "size" "I" (.int 1)) (Fm : Fld Z h0 li "java/util/AbstractList" "modCount" "I" (.int mc)) (A : Arv Z h0 ea ke (.object "java/lang/Object") 10 [.ref x0, .null, .null, .null, .null, .null, .null, .null, .null, .null] .null) (O : Ovr Z ke "java/lang/Object") (Xe : Exa Z h0 ea "[Ljava/lang/Object;") (Mo : Mir Z "[Ljava/lang/Object;" mo) (Se : Sta Z Z.heap "java/util/ImmutableCollections" "EMPTY" "Ljava/lang/Object;" (.ref em)) (X0 : Exa Z h0 x0 "com/example/keyhold/keyhold/model/SigningKey") (Eq : Exa Z h0 q "com/example/keyhold/keyhold/model/KeyRing") (Fq : Fld Z h0 q "com/example/keyhold/keyhold/model/KeyRing" "keys" "Ljava/util/List;" o1) :
    Con l Z EL ⟨"com/example/keyhold/keyhold/model/KeyRing", "<init>", "(Ljava/util/List;)V"⟩ prog_7_method_1_code 2 none [] { frames := 8, cells := 4, slots := 119, locals := 105 } #[(.ref q), (.ref li)] h0 [q] (fun v h ws => v = none ∧ ws = [] ∧ Keep h0 h [q] ∧ ∃ r, h0.size ≤ r ∧ Exa Z h r "java/util/ImmutableCollections$List12" ∧ Fld Z h r "java/util/ImmutableCollections$List12" "e0" "Ljava/lang/Object;" (.ref x0) ∧ Fld Z h q "com/example/keyhold/keyhold/model/KeyRing" "keys" "Ljava/util/List;" (.ref r)) := by
  refine con_of (a0 := a0) (Ls := #[.val (.ref q), .val (.ref li)]) (plainFor_of_name pn15) (eW hw) (fun m => by first | (simp [entryFrame, mkF, argsToLocals, Value.category]; done) | rfl) ?_
  intro p e s m below meth c
  refine g_aloadN d_prog_7_m1_0 (pc' := 1) rfl rfl rfl ?_
  refine go_special d_prog_7_m1_1 (rm_record hw q h0) all0 rfl (w118 hw) (w38 hw) (w40 hw) (w41 hw) (by decide) (argsL := []) (rest := []) (lenOf pd4 rfl) rfl rfl rfl (W := 0) (Nat.le_of_ble_eq_true rfl) (by decide) (by decide) (by decide) (by decide) (pc' := 4) rfl ?_
  rintro _ _ _ ⟨rfl, rfl, rfl⟩ z338
  show Go _ _ _ _ _ _ _ _ _ _ _ _ _ _ _ _ _ _ _ _ _ _ _ _ [] _
  refine g_aloadN d_prog_7_m1_4 (pc' := 5) rfl rfl rfl ?_
  refine go_ldcO d_prog_7_m1_5 (w119 hw) (sA hw) (n := 112) (by decide) (by decide) (by decide) (by decide) (pc' := 7) rfl ?_
  intro h339 a340 E341
  refine go_static d_prog_7_m1_7 (rm_require2 hw li a340 h339) all0 (w120 hw) (w47 hw) (w48 hw) (w49 hw) (by decide) (argsL := [(.ref li), (.ref a340)]) (rest := []) (lenOf pd18 rfl) rfl rfl rfl (W := 0) (Nat.le_of_ble_eq_true rfl) (by decide) (by decide) (by decide) (by decide) (pc' := 10) rfl ?_
  rintro _ _ _ ⟨rfl, rfl, rfl⟩ z342
  show Go _ _ _ _ _ _ _ _ _ _ _ _ _ _ _ _ _ _ _ _ _ _ _ _ [(.ref li)] _
  refine g_pop d_prog_7_m1_10 (pc' := 11) rfl rfl ?_
  refine g_aloadN d_prog_7_m1_11 (pc' := 12) rfl rfl rfl ?_
  refine go_interface d_prog_7_m1_12 (rm_isEmpty1 hw li h339 (Fs.ext E341)) all0 (E.ext E341) (w121 hw) (w122 hw) (w123 hw) rfl (w124 hw) (w125 hw) (w126 hw) (w127 hw) (w128 hw) (w59 hw) (w129 hw) (by decide) (argsL := []) (rest := []) (lenOf pd16 rfl) rfl rfl rfl (W := 0) (Nat.le_of_ble_eq_true rfl) (by decide) (by decide) (by decide) (by decide) (pc' := 17) rfl ?_
  rintro _ _ _ ⟨rfl, rfl, rfl⟩ z343
  show Go _ _ _ _ _ _ _ _ _ _ _ _ _ _ _ _ _ _ _ _ _ _ _ _ [(.int (0 : Int32))] _
  refine g_ifYes d_prog_7_m1_17 (pc' := 30) (teq (by decide : (0 : Int32) = (0 : Int32))).1 (by decide) (by decide) ?_
  refine g_aloadN d_prog_7_m1_30 (pc' := 31) rfl rfl rfl ?_
  refine go_static d_prog_7_m1_31 (rm_copyOf1 hw li ea ke mc x0 mo em h339 (E.ext E341) (Fe.ext E341) (Fs.ext E341) (Fm.ext E341) (A.ext E341) O (Xe.ext E341) Mo Se (X0.ext E341)) all0 (w130 hw) (w131 hw) (w132 hw) (w133 hw) (by decide) (argsL := [(.ref li)]) (rest := []) (lenOf pd17 rfl) rfl rfl rfl (W := 0) (Nat.le_of_ble_eq_true rfl) (by decide) (by decide) (by decide) (by decide) (pc' := 34) rfl ?_
  rintro _ h344 _ ⟨r, rfl, rfl, hr, Kr, Xr, Fr⟩ hzo
  show Go _ _ _ _ _ _ _ _ _ _ _ _ _ _ _ _ _ _ _ _ _ _ _ _ [(.ref r)] _
  refine g_astoreN d_prog_7_m1_34 (pc' := 35) (Ls' := #[.val (.ref q), .val (.ref r)]) rfl rfl rfl ?_
  refine g_aloadN d_prog_7_m1_35 (pc' := 36) rfl rfl rfl ?_
  refine g_aloadN d_prog_7_m1_36 (pc' := 37) rfl rfl rfl ?_
  refine go_putfield d_prog_7_m1_37 (w211 hw) Via.refl ((Fq.ext E341).keep Kr nin0) ((Eq.ext E341).keep Kr) (Or.inr ⟨(w212 hw), rfl, rfl⟩) (w113 hw) (ty := (.object "java/util/List")) (by decide) (v' := (.ref r)) rfl rfl (List.mem_of_getElem? (i := 0) rfl) (pc' := 40) rfl ?_
  intro h345 W346
  have F347 := Fld.same W346 ((Fq.ext E341).keep Kr nin0)
  have K348 : Keep h0 h339 [q] := ((Keep.refl h0 [q]).ext E341)
  have K349 : Keep h0 h344 [q] := (K348.trans Kr all0)
  have K350 : Keep h0 h345 [q] := (K349.wr W346 (Or.inl (List.mem_of_getElem? (i := 0) rfl)))
  have ne351 : r ≠ q := Ne.symm (Nat.ne_of_lt (Nat.lt_of_lt_of_le (Eq.ext E341).lt hr))
  exact go_return d_prog_7_m1_40 rfl (ws' := []) all0 ⟨rfl, rfl, K350, r, (Nat.le_trans (K348).1 hr), (Exa.wr W346 Xr), (Fld.other W346 Fr (Or.inl ne351)), F347⟩
set_option maxRecDepth 65536 in
set_option maxHeartbeats 40000000 in
theorem rm_ring2 {l : Launch} {Z : State} {a0 : Array Value} (hw : ∀ d ∈ tables_1, d.before a0 Z = true) (li ea : Addr) (ke : ClassId) (mc : Int32) (x0 x1 : Addr) (q mo em : Addr) (o1 : Value) (h0 : Heap) (E : Exa Z h0 li "java/util/ArrayList") (Fe : Fld Z h0 li "java/util/ArrayList" "elementData" "[Ljava/lang/Object;" (.ref ea)) (Fs : Fld Z h0 li "java/util/ArrayList" "size" "I" (.int 2)) (Fm : Fld Z h0 li "java/util/AbstractList" "modCount" "I" (.int mc)) (A : Arv Z h0 ea ke (.object "java/lang/Object") 10 [.ref x0, .ref x1, .null, .null, .null, .null, .null, .null, .null, .null] .null) (O : Ovr Z ke "java/lang/Object") (Xe : Exa Z h0 ea "[Ljava/lang/Object;") (Mo : Mir Z "[Ljava/lang/Object;" mo) (Se : Sta Z Z.heap "java/util/ImmutableCollections" "EMPTY" "Ljava/lang/Object;" (.ref em)) (X0 : Exa Z h0 x0 "com/example/keyhold/keyhold/model/SigningKey") (X1 : Exa Z h0 x1 "com/example/keyhold/keyhold/model/SigningKey") (Eq : Exa Z h0 q "com/example/keyhold/keyhold/model/KeyRing") (Fq : Fld Z h0 q "com/example/keyhold/keyhold/model/KeyRing" "keys" "Ljava/util/List;" o1) :
    Con l Z EL ⟨"com/example/keyhold/keyhold/model/KeyRing", "<init>", "(Ljava/util/List;)V"⟩ prog_7_method_1_code 2 none [] { frames := 8, cells := 4, slots := 120, locals := 105 } #[(.ref q), (.ref li)] h0 [q] (fun v h ws => v = none ∧ ws = [] ∧ Keep h0 h [q] ∧ ∃ r, h0.size ≤ r ∧ Exa Z h r "java/util/ImmutableCollections$List12" ∧ Fld Z h r "java/util/ImmutableCollections$List12" "e0" "Ljava/lang/Object;" (.ref x0) ∧ Fld Z h q "com/example/keyhold/keyhold/model/KeyRing" "keys" "Ljava/util/List;" (.ref r)) := by
  refine con_of (a0 := a0) (Ls := #[.val (.ref q), .val (.ref li)]) (plainFor_of_name pn15) (eW hw) (fun m => by first | (simp [entryFrame, mkF, argsToLocals, Value.category]; done) | rfl) ?_
  intro p e s m below meth c
  refine g_aloadN d_prog_7_m1_0 (pc' := 1) rfl rfl rfl ?_
  refine go_special d_prog_7_m1_1 (rm_record hw q h0) all0 rfl (w118 hw) (w38 hw) (w40 hw) (w41 hw) (by decide) (argsL := []) (rest := []) (lenOf pd4 rfl) rfl rfl rfl (W := 0) (Nat.le_of_ble_eq_true rfl) (by decide) (by decide) (by decide) (by decide) (pc' := 4) rfl ?_
  rintro _ _ _ ⟨rfl, rfl, rfl⟩ z352
  show Go _ _ _ _ _ _ _ _ _ _ _ _ _ _ _ _ _ _ _ _ _ _ _ _ [] _
  refine g_aloadN d_prog_7_m1_4 (pc' := 5) rfl rfl rfl ?_
  refine go_ldcO d_prog_7_m1_5 (w119 hw) (sA hw) (n := 112) (by decide) (by decide) (by decide) (by decide) (pc' := 7) rfl ?_
  intro h353 a354 E355
  refine go_static d_prog_7_m1_7 (rm_require2 hw li a354 h353) all0 (w120 hw) (w47 hw) (w48 hw) (w49 hw) (by decide) (argsL := [(.ref li), (.ref a354)]) (rest := []) (lenOf pd18 rfl) rfl rfl rfl (W := 0) (Nat.le_of_ble_eq_true rfl) (by decide) (by decide) (by decide) (by decide) (pc' := 10) rfl ?_
  rintro _ _ _ ⟨rfl, rfl, rfl⟩ z356
  show Go _ _ _ _ _ _ _ _ _ _ _ _ _ _ _ _ _ _ _ _ _ _ _ _ [(.ref li)] _
  refine g_pop d_prog_7_m1_10 (pc' := 11) rfl rfl ?_
  refine g_aloadN d_prog_7_m1_11 (pc' := 12) rfl rfl rfl ?_
  refine go_interface d_prog_7_m1_12 (rm_isEmpty2 hw li h353 (Fs.ext E355)) all0 (E.ext E355) (w121 hw) (w122 hw) (w123 hw) rfl (w124 hw) (w125 hw) (w126 hw) (w127 hw) (w128 hw) (w59 hw) (w129 hw) (by decide) (argsL := []) (rest := []) (lenOf pd16 rfl) rfl rfl rfl (W := 0) (Nat.le_of_ble_eq_true rfl) (by decide) (by decide) (by decide) (by decide) (pc' := 17) rfl ?_
  rintro _ _ _ ⟨rfl, rfl, rfl⟩ z357
  show Go _ _ _ _ _ _ _ _ _ _ _ _ _ _ _ _ _ _ _ _ _ _ _ _ [(.int (0 : Int32))] _
  refine g_ifYes d_prog_7_m1_17 (pc' := 30) (teq (by decide : (0 : Int32) = (0 : Int32))).1 (by decide) (by decide) ?_
  refine g_aloadN d_prog_7_m1_30 (pc' := 31) rfl rfl rfl ?_
  refine go_static d_prog_7_m1_31 (rm_copyOf2 hw li ea ke mc x0 x1 mo em h353 (E.ext E355) (Fe.ext E355) (Fs.ext E355) (Fm.ext E355) (A.ext E355) O (Xe.ext E355) Mo Se (X0.ext E355) (X1.ext E355)) all0 (w130 hw) (w131 hw) (w132 hw) (w133 hw) (by decide) (argsL := [(.ref li)]) (rest := []) (lenOf pd17 rfl) rfl rfl rfl (W := 0) (Nat.le_of_ble_eq_true rfl) (by decide) (by decide) (by decide) (by decide) (pc' := 34) rfl ?_
  rintro _ h358 _ ⟨r, rfl, rfl, hr, Kr, Xr, Fr⟩ hzo
  show Go _ _ _ _ _ _ _ _ _ _ _ _ _ _ _ _ _ _ _ _ _ _ _ _ [(.ref r)] _
  refine g_astoreN d_prog_7_m1_34 (pc' := 35) (Ls' := #[.val (.ref q), .val (.ref r)]) rfl rfl rfl ?_
  refine g_aloadN d_prog_7_m1_35 (pc' := 36) rfl rfl rfl ?_
  refine g_aloadN d_prog_7_m1_36 (pc' := 37) rfl rfl rfl ?_
  refine go_putfield d_prog_7_m1_37 (w211 hw) Via.refl ((Fq.ext E355).keep Kr nin0) ((Eq.ext E355).keep Kr) (Or.inr ⟨(w212 hw), rfl, rfl⟩) (w113 hw) (ty := (.object "java/util/List")) (by decide) (v' := (.ref r)) rfl rfl (List.mem_of_getElem? (i := 0) rfl) (pc' := 40) rfl ?_
  intro h359 W360
  have F361 := Fld.same W360 ((Fq.ext E355).keep Kr nin0)
  have K362 : Keep h0 h353 [q] := ((Keep.refl h0 [q]).ext E355)
  have K363 : Keep h0 h358 [q] := (K362.trans Kr all0)
  have K364 : Keep h0 h359 [q] := (K363.wr W360 (Or.inl (List.mem_of_getElem? (i := 0) rfl)))
  have ne365 : r ≠ q := Ne.symm (Nat.ne_of_lt (Nat.lt_of_lt_of_le (Eq.ext E355).lt hr))
  exact go_return d_prog_7_m1_40 rfl (ws' := []) all0 ⟨rfl, rfl, K364, r, (Nat.le_trans (K362).1 hr), (Exa.wr W360 Xr), (Fld.other W360 Fr (Or.inl ne365)), F361⟩
set_option maxRecDepth 65536 in
set_option maxHeartbeats 40000000 in
theorem rm_ring3 {l : Launch} {Z : State} {a0 : Array Value} (hw : ∀ d ∈ tables_1, d.before a0 Z = true) (li ea : Addr) (ke : ClassId) (mc : Int32) (x0 x1 x2 : Addr) (q mo em : Addr) (o1 : Value) (h0 : Heap) (E : Exa Z h0 li "java/util/ArrayList") (Fe : Fld Z h0 li "java/util/ArrayList" "elementData" "[Ljava/lang/Object;" (.ref ea)) (Fs : Fld Z h0 li "java/util/ArrayList" "size" "I" (.int 3)) (Fm : Fld Z h0 li "java/util/AbstractList" "modCount" "I" (.int mc)) (A : Arv Z h0 ea ke (.object "java/lang/Object") 10 [.ref x0, .ref x1, .ref x2, .null, .null, .null, .null, .null, .null, .null] .null) (O : Ovr Z ke "java/lang/Object") (Xe : Exa Z h0 ea "[Ljava/lang/Object;") (Mo : Mir Z "[Ljava/lang/Object;" mo) (Se : Sta Z Z.heap "java/util/ImmutableCollections" "EMPTY" "Ljava/lang/Object;" (.ref em)) (X0 : Exa Z h0 x0 "com/example/keyhold/keyhold/model/SigningKey") (X1 : Exa Z h0 x1 "com/example/keyhold/keyhold/model/SigningKey") (X2 : Exa Z h0 x2 "com/example/keyhold/keyhold/model/SigningKey") (Eq : Exa Z h0 q "com/example/keyhold/keyhold/model/KeyRing") (Fq : Fld Z h0 q "com/example/keyhold/keyhold/model/KeyRing" "keys" "Ljava/util/List;" o1) :
    Con l Z EL ⟨"com/example/keyhold/keyhold/model/KeyRing", "<init>", "(Ljava/util/List;)V"⟩ prog_7_method_1_code 2 none [] { frames := 9, cells := 5, slots := 124, locals := 115 } #[(.ref q), (.ref li)] h0 [q] (fun v h ws => v = none ∧ ws = [] ∧ Keep h0 h [q] ∧ ∃ r ra kr, h0.size ≤ r ∧ h0.size ≤ ra ∧ Exa Z h r "java/util/ImmutableCollections$ListN" ∧ Fld Z h r "java/util/ImmutableCollections$ListN" "elements" "[Ljava/lang/Object;" (.ref ra) ∧ Arv Z h ra kr (.object "java/lang/Object") 3 [.ref x0, .ref x1, .ref x2] .null ∧ Fld Z h q "com/example/keyhold/keyhold/model/KeyRing" "keys" "Ljava/util/List;" (.ref r)) := by
  refine con_of (a0 := a0) (Ls := #[.val (.ref q), .val (.ref li)]) (plainFor_of_name pn15) (eW hw) (fun m => by first | (simp [entryFrame, mkF, argsToLocals, Value.category]; done) | rfl) ?_
  intro p e s m below meth c
  refine g_aloadN d_prog_7_m1_0 (pc' := 1) rfl rfl rfl ?_
  refine go_special d_prog_7_m1_1 (rm_record hw q h0) all0 rfl (w118 hw) (w38 hw) (w40 hw) (w41 hw) (by decide) (argsL := []) (rest := []) (lenOf pd4 rfl) rfl rfl rfl (W := 0) (Nat.le_of_ble_eq_true rfl) (by decide) (by decide) (by decide) (by decide) (pc' := 4) rfl ?_
  rintro _ _ _ ⟨rfl, rfl, rfl⟩ z366
  show Go _ _ _ _ _ _ _ _ _ _ _ _ _ _ _ _ _ _ _ _ _ _ _ _ [] _
  refine g_aloadN d_prog_7_m1_4 (pc' := 5) rfl rfl rfl ?_
  refine go_ldcO d_prog_7_m1_5 (w119 hw) (sA hw) (n := 112) (by decide) (by decide) (by decide) (by decide) (pc' := 7) rfl ?_
  intro h367 a368 E369
  refine go_static d_prog_7_m1_7 (rm_require2 hw li a368 h367) all0 (w120 hw) (w47 hw) (w48 hw) (w49 hw) (by decide) (argsL := [(.ref li), (.ref a368)]) (rest := []) (lenOf pd18 rfl) rfl rfl rfl (W := 0) (Nat.le_of_ble_eq_true rfl) (by decide) (by decide) (by decide) (by decide) (pc' := 10) rfl ?_
  rintro _ _ _ ⟨rfl, rfl, rfl⟩ z370
  show Go _ _ _ _ _ _ _ _ _ _ _ _ _ _ _ _ _ _ _ _ _ _ _ _ [(.ref li)] _
  refine g_pop d_prog_7_m1_10 (pc' := 11) rfl rfl ?_
  refine g_aloadN d_prog_7_m1_11 (pc' := 12) rfl rfl rfl ?_
  refine go_interface d_prog_7_m1_12 (rm_isEmpty3 hw li h367 (Fs.ext E369)) all0 (E.ext E369) (w121 hw) (w122 hw) (w123 hw) rfl (w124 hw) (w125 hw) (w126 hw) (w127 hw) (w128 hw) (w59 hw) (w129 hw) (by decide) (argsL := []) (rest := []) (lenOf pd16 rfl) rfl rfl rfl (W := 0) (Nat.le_of_ble_eq_true rfl) (by decide) (by decide) (by decide) (by decide) (pc' := 17) rfl ?_
  rintro _ _ _ ⟨rfl, rfl, rfl⟩ z371
  show Go _ _ _ _ _ _ _ _ _ _ _ _ _ _ _ _ _ _ _ _ _ _ _ _ [(.int (0 : Int32))] _
  refine g_ifYes d_prog_7_m1_17 (pc' := 30) (teq (by decide : (0 : Int32) = (0 : Int32))).1 (by decide) (by decide) ?_
  refine g_aloadN d_prog_7_m1_30 (pc' := 31) rfl rfl rfl ?_
  refine go_static d_prog_7_m1_31 (rm_copyOf3 hw li ea ke mc x0 x1 x2 mo em h367 (E.ext E369) (Fe.ext E369) (Fs.ext E369) (Fm.ext E369) (A.ext E369) O (Xe.ext E369) Mo Se (X0.ext E369) (X1.ext E369) (X2.ext E369)) all0 (w130 hw) (w131 hw) (w132 hw) (w133 hw) (by decide) (argsL := [(.ref li)]) (rest := []) (lenOf pd17 rfl) rfl rfl rfl (W := 0) (Nat.le_of_ble_eq_true rfl) (by decide) (by decide) (by decide) (by decide) (pc' := 34) rfl ?_
  rintro _ h372 _ ⟨r, ra, kr, rfl, rfl, hr, hra, Kr, Xr, Fr, Ar⟩ hzo
  show Go _ _ _ _ _ _ _ _ _ _ _ _ _ _ _ _ _ _ _ _ _ _ _ _ [(.ref r)] _
  refine g_astoreN d_prog_7_m1_34 (pc' := 35) (Ls' := #[.val (.ref q), .val (.ref r)]) rfl rfl rfl ?_
  refine g_aloadN d_prog_7_m1_35 (pc' := 36) rfl rfl rfl ?_
  refine g_aloadN d_prog_7_m1_36 (pc' := 37) rfl rfl rfl ?_
  refine go_putfield d_prog_7_m1_37 (w211 hw) Via.refl ((Fq.ext E369).keep Kr nin0) ((Eq.ext E369).keep Kr) (Or.inr ⟨(w212 hw), rfl, rfl⟩) (w113 hw) (ty := (.object "java/util/List")) (by decide) (v' := (.ref r)) rfl rfl (List.mem_of_getElem? (i := 0) rfl) (pc' := 40) rfl ?_
  intro h373 W374
  have F375 := Fld.same W374 ((Fq.ext E369).keep Kr nin0)
  have K376 : Keep h0 h367 [q] := ((Keep.refl h0 [q]).ext E369)
  have K377 : Keep h0 h372 [q] := (K376.trans Kr all0)
  have K378 : Keep h0 h373 [q] := (K377.wr W374 (Or.inl (List.mem_of_getElem? (i := 0) rfl)))
  have ne379 : r ≠ q := Ne.symm (Nat.ne_of_lt (Nat.lt_of_lt_of_le (Eq.ext E369).lt hr))
  have ne380 : ra ≠ q := Ne.symm (Nat.ne_of_lt (Nat.lt_of_lt_of_le (Eq.ext E369).lt hra))
  exact go_return d_prog_7_m1_40 rfl (ws' := []) all0 ⟨rfl, rfl, K378, r, ra, kr, (Nat.le_trans (K376).1 hr), (Nat.le_trans (K376).1 hra), (Exa.wr W374 Xr), (Fld.other W374 Fr (Or.inl ne379)), (Ar.other W374 ne380), F375⟩
set_option maxRecDepth 65536 in
set_option maxHeartbeats 40000000 in
theorem rm_get12 {l : Launch} {Z : State} {a0 : Array Value} (hw : ∀ d ∈ tables_1, d.before a0 Z = true) (r x0 : Addr) (h0 : Heap) (Fr : Fld Z h0 r "java/util/ImmutableCollections$List12" "e0" "Ljava/lang/Object;" (.ref x0)) :
    Con l Z EL ⟨"java/util/ImmutableCollections$List12", "get", "(I)Ljava/lang/Object;"⟩ jdk_44_method_5_code 2 (some (.object "java/lang/Object")) [] { frames := 0, cells := 0, slots := 0, locals := 0 } #[(.ref r), (.int (0 : Int32))] h0 [] (fun v h ws => v = some (.ref x0) ∧ h0 = h ∧ ws = []) := by
  refine con_of (a0 := a0) (Ls := #[.val (.ref r), .val (.int (0 : Int32))]) (plainFor_of_name pn10) (eW hw) (fun m => by first | (simp [entryFrame, mkF, argsToLocals, Value.category]; done) | rfl) ?_
  intro p e s m below meth c
  refine g_iloadN d_jdk_44_m5_0 (pc' := 1) rfl rfl ?_
  refine g_ifNo d_jdk_44_m5_1 (pc' := 4) rfl (teq (by decide : (0 : Int32) = (0 : Int32))).2 ?_
  refine g_aloadN d_jdk_44_m5_4 (pc' := 5) rfl rfl rfl ?_
  refine go_getfield d_jdk_44_m5_5 (host := "") (Or.inl (w206 hw)) Via.refl Fr (pc' := 8) rfl ?_
  exact go_areturn d_jdk_44_m5_8 rfl rfl rfl (ws' := []) (fun _ q => q) ⟨rfl, rfl, rfl⟩
set_option maxRecDepth 65536 in
set_option maxHeartbeats 40000000 in
theorem rm_getN {l : Launch} {Z : State} {a0 : Array Value} (hw : ∀ d ∈ tables_1, d.before a0 Z = true) (r ra x0 x1 x2 : Addr) (kr : ClassId) (h0 : Heap) (Fr : Fld Z h0 r "java/util/ImmutableCollections$ListN" "elements" "[Ljava/lang/Object;" (.ref ra)) (Ar : Arv Z h0 ra kr (.object "java/lang/Object") 3 [.ref x0, .ref x1, .ref x2] .null) :
    Con l Z EL ⟨"java/util/ImmutableCollections$ListN", "get", "(I)Ljava/lang/Object;"⟩ jdk_45_method_4_code 2 (some (.object "java/lang/Object")) [] { frames := 0, cells := 0, slots := 0, locals := 0 } #[(.ref r), (.int (0 : Int32))] h0 [] (fun v h ws => v = some (.ref x0) ∧ h0 = h ∧ ws = []) := by
  refine con_of (a0 := a0) (Ls := #[.val (.ref r), .val (.int (0 : Int32))]) (plainFor_of_name pn11) (eW hw) (fun m => by first | (simp [entryFrame, mkF, argsToLocals, Value.category]; done) | rfl) ?_
  intro p e s m below meth c
  refine g_aloadN d_jdk_45_m4_0 (pc' := 1) rfl rfl rfl ?_
  refine go_getfield d_jdk_45_m4_1 (host := "") (Or.inl (w255 hw)) Via.refl Fr (pc' := 4) rfl ?_
  refine g_iloadN d_jdk_45_m4_4 (pc' := 5) rfl rfl ?_
  refine go_aaload d_jdk_45_m4_5 rfl Ar (v := (.ref x0)) ⟨by decide, by decide⟩ rfl (pc' := 6) rfl ?_
  exact go_areturn d_jdk_45_m4_6 rfl rfl rfl (ws' := []) (fun _ q => q) ⟨rfl, rfl, rfl⟩
set_option maxRecDepth 65536 in
set_option maxHeartbeats 40000000 in
theorem rm_inUse1 {l : Launch} {Z : State} {a0 : Array Value} (hw : ∀ d ∈ tables_1, d.before a0 Z = true) (q r x0 : Addr) (h0 : Heap) (Fq : Fld Z h0 q "com/example/keyhold/keyhold/model/KeyRing" "keys" "Ljava/util/List;" (.ref r)) (X0 : Exa Z h0 x0 "com/example/keyhold/keyhold/model/SigningKey") (Xr : Exa Z h0 r "java/util/ImmutableCollections$List12") (Fr : Fld Z h0 r "java/util/ImmutableCollections$List12" "e0" "Ljava/lang/Object;" (.ref x0)) :
    Con l Z EL ⟨"com/example/keyhold/keyhold/model/KeyRing", "inUse", "()Lcom/example/keyhold/keyhold/model/SigningKey;"⟩ prog_7_method_2_code 1 (some (.object "com/example/keyhold/keyhold/model/SigningKey")) [] { frames := 1, cells := 0, slots := 0, locals := 13 } #[(.ref q)] h0 [] (fun v h ws => v = some (.ref x0) ∧ h0 = h ∧ ws = []) := by
  refine con_of (a0 := a0) (Ls := #[.val (.ref q)]) (plainFor_of_name pn15) (eW hw) (fun m => by first | (simp [entryFrame, mkF, argsToLocals, Value.category]; done) | rfl) ?_
  intro p e s m below meth c
  refine g_aloadN d_prog_7_m2_0 (pc' := 1) rfl rfl rfl ?_
  refine go_getfield d_prog_7_m2_1 (host := "") (Or.inl (w211 hw)) Via.refl Fq (pc' := 4) rfl ?_
  refine g_iconst d_prog_7_m2_4 (pc' := 5) rfl (z := 0) rfl ?_
  refine go_interface d_prog_7_m2_5 (rm_get12 hw r x0 h0 Fr) (fun _ q => q) Xr (w218 hw) (w219 hw) (w220 hw) rfl (w221 hw) (w222 hw) (w223 hw) (w224 hw) (w225 hw) (w184 hw) (w226 hw) (by decide) (argsL := [(.int (0 : Int32))]) (rest := []) (lenOf pd19 rfl) rfl rfl rfl (W := 0) (Nat.le_of_ble_eq_true rfl) (by decide) (by decide) (by decide) (by decide) (pc' := 10) rfl ?_
  rintro _ _ _ ⟨rfl, rfl, rfl⟩ hzg
  show Go _ _ _ _ _ _ _ _ _ _ _ _ _ _ _ _ _ _ _ _ _ _ _ _ [(.ref x0)] _
  refine go_checkcast d_prog_7_m2_10 (w227 hw) (Ins.self X0) (pc' := 13) rfl ?_
  exact go_areturn d_prog_7_m2_13 rfl rfl rfl (ws' := []) (fun _ q => q) ⟨rfl, rfl, rfl⟩
set_option maxRecDepth 65536 in
set_option maxHeartbeats 40000000 in
theorem rm_inUse3 {l : Launch} {Z : State} {a0 : Array Value} (hw : ∀ d ∈ tables_1, d.before a0 Z = true) (q r ra x0 x1 x2 : Addr) (kr : ClassId) (h0 : Heap) (Fq : Fld Z h0 q "com/example/keyhold/keyhold/model/KeyRing" "keys" "Ljava/util/List;" (.ref r)) (X0 : Exa Z h0 x0 "com/example/keyhold/keyhold/model/SigningKey") (Xr : Exa Z h0 r "java/util/ImmutableCollections$ListN") (Fr : Fld Z h0 r "java/util/ImmutableCollections$ListN" "elements" "[Ljava/lang/Object;" (.ref ra)) (Ar : Arv Z h0 ra kr (.object "java/lang/Object") 3 [.ref x0, .ref x1, .ref x2] .null) :
    Con l Z EL ⟨"com/example/keyhold/keyhold/model/KeyRing", "inUse", "()Lcom/example/keyhold/keyhold/model/SigningKey;"⟩ prog_7_method_2_code 1 (some (.object "com/example/keyhold/keyhold/model/SigningKey")) [] { frames := 1, cells := 0, slots := 0, locals := 13 } #[(.ref q)] h0 [] (fun v h ws => v = some (.ref x0) ∧ h0 = h ∧ ws = []) := by
  refine con_of (a0 := a0) (Ls := #[.val (.ref q)]) (plainFor_of_name pn15) (eW hw) (fun m => by first | (simp [entryFrame, mkF, argsToLocals, Value.category]; done) | rfl) ?_
  intro p e s m below meth c
  refine g_aloadN d_prog_7_m2_0 (pc' := 1) rfl rfl rfl ?_
  refine go_getfield d_prog_7_m2_1 (host := "") (Or.inl (w211 hw)) Via.refl Fq (pc' := 4) rfl ?_
  refine g_iconst d_prog_7_m2_4 (pc' := 5) rfl (z := 0) rfl ?_
  refine go_interface d_prog_7_m2_5 (rm_getN hw r ra x0 x1 x2 kr h0 Fr Ar) (fun _ q => q) Xr (w218 hw) (w219 hw) (w220 hw) rfl (w259 hw) (w260 hw) (w261 hw) (w262 hw) (w263 hw) (w246 hw) (w264 hw) (by decide) (argsL := [(.int (0 : Int32))]) (rest := []) (lenOf pd19 rfl) rfl rfl rfl (W := 0) (Nat.le_of_ble_eq_true rfl) (by decide) (by decide) (by decide) (by decide) (pc' := 10) rfl ?_
  rintro _ _ _ ⟨rfl, rfl, rfl⟩ hzg
  show Go _ _ _ _ _ _ _ _ _ _ _ _ _ _ _ _ _ _ _ _ _ _ _ _ [(.ref x0)] _
  refine go_checkcast d_prog_7_m2_10 (w227 hw) (Ins.self X0) (pc' := 13) rfl ?_
  exact go_areturn d_prog_7_m2_13 rfl rfl rfl (ws' := []) (fun _ q => q) ⟨rfl, rfl, rfl⟩
set_option maxRecDepth 65536 in
set_option maxHeartbeats 40000000 in
theorem rm_rangeAdd1 {l : Launch} {Z : State} {a0 : Array Value} (hw : ∀ d ∈ tables_1, d.before a0 Z = true) (li : Addr) (h0 : Heap) (Fs : Fld Z h0 li "java/util/ArrayList" "size" "I" (.int 1)) :
    Con l Z EL ⟨"java/util/ArrayList", "rangeCheckForAdd", "(I)V"⟩ jdk_38_method_45_code 2 none [] { frames := 0, cells := 0, slots := 0, locals := 0 } #[(.ref li), (.int (0 : Int32))] h0 [] (fun v h ws => v = none ∧ h0 = h ∧ ws = []) := by
  refine con_of (a0 := a0) (Ls := #[.val (.ref li), .val (.int (0 : Int32))]) (plainFor_of_name pn6) (eW hw) (fun m => by first | (simp [entryFrame, mkF, argsToLocals, Value.category]; done) | rfl) ?_
  intro p e s m below meth c
  refine g_iloadN d_jdk_38_m45_0 (pc' := 1) rfl rfl ?_
  refine g_aloadN d_jdk_38_m45_1 (pc' := 2) rfl rfl rfl ?_
  refine go_getfield d_jdk_38_m45_2 (host := "") (Or.inl (w88 hw)) Via.refl Fs (pc' := 5) rfl ?_
  refine g_icmpNo d_jdk_38_m45_5 (pc' := 8) rfl (flt (by decide : ¬ ((1 : Int32) < (0 : Int32)))).2.2.1 ?_
  refine g_iloadN d_jdk_38_m45_8 (pc' := 9) rfl rfl ?_
  refine g_ifYes d_jdk_38_m45_9 (pc' := 25) (flt (by decide : ¬ ((0 : Int32) < (0 : Int32)))).2.1 (by decide) (by decide) ?_
  exact go_return d_jdk_38_m45_25 rfl (ws' := []) (fun _ q => q) ⟨rfl, rfl, rfl⟩
set_option maxRecDepth 65536 in
set_option maxHeartbeats 40000000 in
theorem rm_addI1 {l : Launch} {Z : State} {a0 : Array Value} (hw : ∀ d ∈ tables_1, d.before a0 Z = true) (li ea : Addr) (ke : ClassId) (mc : Int32) (x0 : Addr) (x : Addr) (h0 : Heap) (E : Exa Z h0 li "java/util/ArrayList") (Fe : Fld Z h0 li "java/util/ArrayList" "elementData" "[Ljava/lang/Object;" (.ref ea)) (Fs : Fld Z h0 li "java/util/ArrayList" "size" "I" (.int 1)) (Fm : Fld Z h0 li "java/util/AbstractList" "modCount" "I" (.int mc)) (A : Arv Z h0 ea ke (.object "java/lang/Object") 10 [.ref x0, .null, .null, .null, .null, .null, .null, .null, .null, .null] .null) (O : Ovr Z ke "java/lang/Object") (Xe : Exa Z h0 ea "[Ljava/lang/Object;") (X0 : Exa Z h0 x0 "com/example/keyhold/keyhold/model/SigningKey") (Xx : Exa Z h0 x "com/example/keyhold/keyhold/model/SigningKey") :
    Con l Z EL ⟨"java/util/ArrayList", "add", "(ILjava/lang/Object;)V"⟩ jdk_38_method_26_code 5 none [] { frames := 1, cells := 0, slots := 0, locals := 40 } #[(.ref li), (.int (0 : Int32)), (.ref x)] h0 [li, ea] (fun v h ws => v = none ∧ ws = [] ∧ Keep h0 h [li, ea]) := by
  refine con_of (a0 := a0) (Ls := #[.val (.ref li), .val (.int (0 : Int32)), .val (.ref x), .unset, .unset]) (plainFor_of_name pn6) (eW hw) (fun m => by first | (simp [entryFrame, mkF, argsToLocals, Value.category]; done) | rfl) ?_
  intro p e s m below meth c
  refine g_aloadN d_jdk_38_m26_0 (pc' := 1) rfl rfl rfl ?_
  refine g_iloadN d_jdk_38_m26_1 (pc' := 2) rfl rfl ?_
  refine go_private d_jdk_38_m26_2 (rm_rangeAdd1 hw li h0 Fs) all0 E (w234 hw) (w235 hw) (w237 hw) (w236 hw) (w59 hw) (w238 hw) (by decide) (argsL := [(.int (0 : Int32))]) (rest := []) (lenOf pd20 rfl) rfl rfl rfl (W := 0) (Nat.le_of_ble_eq_true rfl) (by decide) (by decide) (by decide) (by decide) (pc' := 5) rfl ?_
  rintro _ _ _ ⟨rfl, rfl, rfl⟩ hzr
  show Go _ _ _ _ _ _ _ _ _ _ _ _ _ _ _ _ _ _ _ _ _ _ _ _ [] _
  refine g_aloadN d_jdk_38_m26_5 (pc' := 6) rfl rfl rfl ?_
  refine g_dup d_jdk_38_m26_6 (pc' := 7) rfl rfl ?_
  refine go_getfield d_jdk_38_m26_7 (host := "") (Or.inl (w86 hw)) (Via.of (w87 hw)) Fm (pc' := 10) rfl ?_
  refine g_iconst d_jdk_38_m26_10 (pc' := 11) rfl (z := 1) rfl ?_
  refine g_iadd d_jdk_38_m26_11 (pc' := 12) rfl ?_
  refine go_putfield d_jdk_38_m26_12 (w86 hw) (Via.of (w87 hw)) Fm E (Or.inl (w77 hw)) (w58 hw) (ty := .int) (by decide) (v' := (.int (mc + (1 : Int32)))) rfl rfl (List.mem_of_getElem? (i := 0) rfl) (pc' := 15) rfl ?_
  intro h381 W382
  have F383 := Fld.same W382 Fm
  refine g_aloadN d_jdk_38_m26_15 (pc' := 16) rfl rfl rfl ?_
  have f384 := (Fld.other W382 Fs (Or.inr (slot_ne (Or.inl (w89 hw)) (Or.inl (w77 hw)) (by decide) (t := .int) (t' := .int) (by decide) (by decide))))
  refine go_getfield d_jdk_38_m26_16 (host := "") (Or.inl (w88 hw)) Via.refl f384 (pc' := 19) rfl ?_
  refine g_dup d_jdk_38_m26_19 (pc' := 20) rfl rfl ?_
  refine g_istoreN d_jdk_38_m26_20 (pc' := 21) (Ls' := #[.val (.ref li), .val (.int (0 : Int32)), .val (.ref x), .val (.int (1 : Int32)), .unset]) rfl rfl ?_
  refine g_aloadN d_jdk_38_m26_21 (pc' := 22) rfl rfl rfl ?_
  have f385 := (Fld.other W382 Fe (Or.inr (slot_ne (Or.inl (w80 hw)) (Or.inl (w77 hw)) (by decide) (t := (.array (.object "java/lang/Object"))) (t' := .int) (by decide) (by decide))))
  refine go_getfield d_jdk_38_m26_22 (host := "") (Or.inl (w79 hw)) Via.refl f385 (pc' := 25) rfl ?_
  refine g_dup d_jdk_38_m26_25 (pc' := 26) rfl rfl ?_
  refine g_astore d_jdk_38_m26_26 (pc' := 28) (Ls' := #[.val (.ref li), .val (.int (0 : Int32)), .val (.ref x), .val (.int (1 : Int32)), .val (.ref ea)]) rfl rfl rfl ?_
  have ne386 : ea ≠ li := Exa.ne Xe E (by decide)
  refine go_arraylength d_jdk_38_m26_28 (A.other W382 ne386) (pc' := 29) rfl ?_
  refine g_icmpYes d_jdk_38_m26_29 (pc' := 38) (feq (by decide : ¬ ((1 : Int32) = (10 : Int32)))).2 (by decide) (by decide) ?_
  refine g_aload d_jdk_38_m26_38 (pc' := 40) rfl rfl rfl ?_
  refine g_iloadN d_jdk_38_m26_40 (pc' := 41) rfl rfl ?_
  refine g_aload d_jdk_38_m26_41 (pc' := 43) rfl rfl rfl ?_
  refine g_iloadN d_jdk_38_m26_43 (pc' := 44) rfl rfl ?_
  refine g_iconst d_jdk_38_m26_44 (pc' := 45) rfl (z := 1) rfl ?_
  refine g_iadd d_jdk_38_m26_45 (pc' := 46) rfl ?_
  refine g_iloadN d_jdk_38_m26_46 (pc' := 47) rfl rfl ?_
  refine g_iloadN d_jdk_38_m26_47 (pc' := 48) rfl rfl ?_
  refine g_isub d_jdk_38_m26_48 (pc' := 49) rfl ?_
  refine go_arraycopy d_jdk_38_m26_49 (w239 hw) (w178 hw) (w176 hw) (w177 hw) (A.other W382 ne386) (A.other W382 ne386) (us := [(.ref x0)]) (Or.inr ⟨rfl, rfl, ⟨(sto_arv (A.other W382 ne386) O (Ins.of_exa (Exa.wr W382 X0) (w111 hw))), trivial⟩⟩) (by decide) (by decide) (by decide) (by decide) (by decide) rfl (Nat.le_of_ble_eq_true rfl) (List.mem_of_getElem? (i := 1) rfl) rfl (by decide) (W := 0) (Nat.le_of_ble_eq_true rfl) (by decide) (pc' := 52) rfl ?_
  intro h387 K388 A389
  have A390 : Arv Z h387 ea ke (.object "java/lang/Object") (10 : Int32) [(.ref x0), (.ref x0), .null, .null, .null, .null, .null, .null, .null, .null] .null := A389
  refine g_aload d_jdk_38_m26_52 (pc' := 54) rfl rfl rfl ?_
  refine g_iloadN d_jdk_38_m26_54 (pc' := 55) rfl rfl ?_
  refine g_aloadN d_jdk_38_m26_55 (pc' := 56) rfl rfl rfl ?_
  refine go_aastore 0 d_jdk_38_m26_56 rfl A390 rfl (sto_arv A390 O (Ins.of_exa ((Exa.wr W382 Xx).keep K388) (w111 hw))) ⟨by decide, by decide⟩ rfl (Nat.le_of_ble_eq_true rfl) (List.mem_of_getElem? (i := 1) rfl) (pc' := 57) rfl ?_
  intro h391 W392 A393
  refine g_aloadN d_jdk_38_m26_57 (pc' := 58) rfl rfl rfl ?_
  refine g_iloadN d_jdk_38_m26_58 (pc' := 59) rfl rfl ?_
  refine g_iconst d_jdk_38_m26_59 (pc' := 60) rfl (z := 1) rfl ?_
  refine g_iadd d_jdk_38_m26_60 (pc' := 61) rfl ?_
  have f394 := (Fld.other W392 (f384.keep K388 (ninS (Ne.symm ne386) nin0)) (Or.inl (Ne.symm ne386)))
  refine go_putfield d_jdk_38_m26_61 (w88 hw) Via.refl f394 (Exa.wr W392 ((Exa.wr W382 E).keep K388)) (Or.inl (w89 hw)) (w58 hw) (ty := .int) (by decide) (v' := (.int ((1 : Int32) + (1 : Int32)))) rfl rfl (List.mem_of_getElem? (i := 0) rfl) (pc' := 64) rfl ?_
  intro h395 W396
  have F397 := Fld.same W396 f394
  have K398 : Keep h0 h381 [li, ea] := ((Keep.refl h0 [li, ea]).wr W382 (Or.inl (List.mem_of_getElem? (i := 0) rfl)))
  have K399 : Keep h0 h387 [li, ea] := (K398.trans K388 (allS (Or.inl (List.mem_of_getElem? (i := 1) rfl)) all0))
  have K400 : Keep h0 h391 [li, ea] := (K399.wr W392 (Or.inl (List.mem_of_getElem? (i := 1) rfl)))
  have K401 : Keep h0 h395 [li, ea] := (K400.wr W396 (Or.inl (List.mem_of_getElem? (i := 0) rfl)))
  exact go_return d_jdk_38_m26_64 rfl (ws' := []) all0 ⟨rfl, rfl, K401⟩
set_option maxRecDepth 65536 in
set_option maxHeartbeats 40000000 in
theorem rm_rangeAdd2 {l : Launch} {Z : State} {a0 : Array Value} (hw : ∀ d ∈ tables_1, d.before a0 Z = true) (li : Addr) (h0 : Heap) (Fs : Fld Z h0 li "java/util/ArrayList" "size" "I" (.int 2)) :
    Con l Z EL ⟨"java/util/ArrayList", "rangeCheckForAdd", "(I)V"⟩ jdk_38_method_45_code 2 none [] { frames := 0, cells := 0, slots := 0, locals := 0 } #[(.ref li), (.int (0 : Int32))] h0 [] (fun v h ws => v = none ∧ h0 = h ∧ ws = []) := by
  refine con_of (a0 := a0) (Ls := #[.val (.ref li), .val (.int (0 : Int32))]) (plainFor_of_name pn6) (eW hw) (fun m => by first | (simp [entryFrame, mkF, argsToLocals, Value.category]; done) | rfl) ?_
  intro p e s m below meth c
  refine g_iloadN d_jdk_38_m45_0 (pc' := 1) rfl rfl ?_
  refine g_aloadN d_jdk_38_m45_1 (pc' := 2) rfl rfl rfl ?_
  refine go_getfield d_jdk_38_m45_2 (host := "") (Or.inl (w88 hw)) Via.refl Fs (pc' := 5) rfl ?_
  refine g_icmpNo d_jdk_38_m45_5 (pc' := 8) rfl (flt (by decide : ¬ ((2 : Int32) < (0 : Int32)))).2.2.1 ?_
  refine g_iloadN d_jdk_38_m45_8 (pc' := 9) rfl rfl ?_
  refine g_ifYes d_jdk_38_m45_9 (pc' := 25) (flt (by decide : ¬ ((0 : Int32) < (0 : Int32)))).2.1 (by decide) (by decide) ?_
  exact go_return d_jdk_38_m45_25 rfl (ws' := []) (fun _ q => q) ⟨rfl, rfl, rfl⟩
set_option maxRecDepth 65536 in
set_option maxHeartbeats 40000000 in
theorem rm_addI2 {l : Launch} {Z : State} {a0 : Array Value} (hw : ∀ d ∈ tables_1, d.before a0 Z = true) (li ea : Addr) (ke : ClassId) (mc : Int32) (x0 x1 : Addr) (x : Addr) (h0 : Heap) (E : Exa Z h0 li "java/util/ArrayList") (Fe : Fld Z h0 li "java/util/ArrayList" "elementData" "[Ljava/lang/Object;" (.ref ea)) (Fs : Fld Z h0 li "java/util/ArrayList" "size" "I" (.int 2)) (Fm : Fld Z h0 li "java/util/AbstractList" "modCount" "I" (.int mc)) (A : Arv Z h0 ea ke (.object "java/lang/Object") 10 [.ref x0, .ref x1, .null, .null, .null, .null, .null, .null, .null, .null] .null) (O : Ovr Z ke "java/lang/Object") (Xe : Exa Z h0 ea "[Ljava/lang/Object;") (X0 : Exa Z h0 x0 "com/example/keyhold/keyhold/model/SigningKey") (X1 : Exa Z h0 x1 "com/example/keyhold/keyhold/model/SigningKey") (Xx : Exa Z h0 x "com/example/keyhold/keyhold/model/SigningKey") :
    Con l Z EL ⟨"java/util/ArrayList", "add", "(ILjava/lang/Object;)V"⟩ jdk_38_method_26_code 5 none [] { frames := 1, cells := 0, slots := 0, locals := 40 } #[(.ref li), (.int (0 : Int32)), (.ref x)] h0 [li, ea] (fun v h ws => v = none ∧ ws = [] ∧ Keep h0 h [li, ea]) := by
  refine con_of (a0 := a0) (Ls := #[.val (.ref li), .val (.int (0 : Int32)), .val (.ref x), .unset, .unset]) (plainFor_of_name pn6) (eW hw) (fun m => by first | (simp [entryFrame, mkF, argsToLocals, Value.category]; done) | rfl) ?_
  intro p e s m below meth c
  refine g_aloadN d_jdk_38_m26_0 (pc' := 1) rfl rfl rfl ?_
  refine g_iloadN d_jdk_38_m26_1 (pc' := 2) rfl rfl ?_
  refine go_private d_jdk_38_m26_2 (rm_rangeAdd2 hw li h0 Fs) all0 E (w234 hw) (w235 hw) (w237 hw) (w236 hw) (w59 hw) (w238 hw) (by decide) (argsL := [(.int (0 : Int32))]) (rest := []) (lenOf pd20 rfl) rfl rfl rfl (W := 0) (Nat.le_of_ble_eq_true rfl) (by decide) (by decide) (by decide) (by decide) (pc' := 5) rfl ?_
  rintro _ _ _ ⟨rfl, rfl, rfl⟩ hzr
  show Go _ _ _ _ _ _ _ _ _ _ _ _ _ _ _ _ _ _ _ _ _ _ _ _ [] _
  refine g_aloadN d_jdk_38_m26_5 (pc' := 6) rfl rfl rfl ?_
  refine g_dup d_jdk_38_m26_6 (pc' := 7) rfl rfl ?_
  refine go_getfield d_jdk_38_m26_7 (host := "") (Or.inl (w86 hw)) (Via.of (w87 hw)) Fm (pc' := 10) rfl ?_
  refine g_iconst d_jdk_38_m26_10 (pc' := 11) rfl (z := 1) rfl ?_
  refine g_iadd d_jdk_38_m26_11 (pc' := 12) rfl ?_
  refine go_putfield d_jdk_38_m26_12 (w86 hw) (Via.of (w87 hw)) Fm E (Or.inl (w77 hw)) (w58 hw) (ty := .int) (by decide) (v' := (.int (mc + (1 : Int32)))) rfl rfl (List.mem_of_getElem? (i := 0) rfl) (pc' := 15) rfl ?_
  intro h402 W403
  have F404 := Fld.same W403 Fm
  refine g_aloadN d_jdk_38_m26_15 (pc' := 16) rfl rfl rfl ?_
  have f405 := (Fld.other W403 Fs (Or.inr (slot_ne (Or.inl (w89 hw)) (Or.inl (w77 hw)) (by decide) (t := .int) (t' := .int) (by decide) (by decide))))
  refine go_getfield d_jdk_38_m26_16 (host := "") (Or.inl (w88 hw)) Via.refl f405 (pc' := 19) rfl ?_
  refine g_dup d_jdk_38_m26_19 (pc' := 20) rfl rfl ?_
  refine g_istoreN d_jdk_38_m26_20 (pc' := 21) (Ls' := #[.val (.ref li), .val (.int (0 : Int32)), .val (.ref x), .val (.int (2 : Int32)), .unset]) rfl rfl ?_
  refine g_aloadN d_jdk_38_m26_21 (pc' := 22) rfl rfl rfl ?_
  have f406 := (Fld.other W403 Fe (Or.inr (slot_ne (Or.inl (w80 hw)) (Or.inl (w77 hw)) (by decide) (t := (.array (.object "java/lang/Object"))) (t' := .int) (by decide) (by decide))))
  refine go_getfield d_jdk_38_m26_22 (host := "") (Or.inl (w79 hw)) Via.refl f406 (pc' := 25) rfl ?_
  refine g_dup d_jdk_38_m26_25 (pc' := 26) rfl rfl ?_
  refine g_astore d_jdk_38_m26_26 (pc' := 28) (Ls' := #[.val (.ref li), .val (.int (0 : Int32)), .val (.ref x), .val (.int (2 : Int32)), .val (.ref ea)]) rfl rfl rfl ?_
  have ne407 : ea ≠ li := Exa.ne Xe E (by decide)
  refine go_arraylength d_jdk_38_m26_28 (A.other W403 ne407) (pc' := 29) rfl ?_
  refine g_icmpYes d_jdk_38_m26_29 (pc' := 38) (feq (by decide : ¬ ((2 : Int32) = (10 : Int32)))).2 (by decide) (by decide) ?_
  refine g_aload d_jdk_38_m26_38 (pc' := 40) rfl rfl rfl ?_
  refine g_iloadN d_jdk_38_m26_40 (pc' := 41) rfl rfl ?_
  refine g_aload d_jdk_38_m26_41 (pc' := 43) rfl rfl rfl ?_
  refine g_iloadN d_jdk_38_m26_43 (pc' := 44) rfl rfl ?_
  refine g_iconst d_jdk_38_m26_44 (pc' := 45) rfl (z := 1) rfl ?_
  refine g_iadd d_jdk_38_m26_45 (pc' := 46) rfl ?_
  refine g_iloadN d_jdk_38_m26_46 (pc' := 47) rfl rfl ?_
  refine g_iloadN d_jdk_38_m26_47 (pc' := 48) rfl rfl ?_
  refine g_isub d_jdk_38_m26_48 (pc' := 49) rfl ?_
  refine go_arraycopy d_jdk_38_m26_49 (w239 hw) (w178 hw) (w176 hw) (w177 hw) (A.other W403 ne407) (A.other W403 ne407) (us := [(.ref x0), (.ref x1)]) (Or.inr ⟨rfl, rfl, ⟨(sto_arv (A.other W403 ne407) O (Ins.of_exa (Exa.wr W403 X0) (w111 hw))), (sto_arv (A.other W403 ne407) O (Ins.of_exa (Exa.wr W403 X1) (w111 hw))), trivial⟩⟩) (by decide) (by decide) (by decide) (by decide) (by decide) rfl (Nat.le_of_ble_eq_true rfl) (List.mem_of_getElem? (i := 1) rfl) rfl (by decide) (W := 0) (Nat.le_of_ble_eq_true rfl) (by decide) (pc' := 52) rfl ?_
  intro h408 K409 A410
  have A411 : Arv Z h408 ea ke (.object "java/lang/Object") (10 : Int32) [(.ref x0), (.ref x0), (.ref x1), .null, .null, .null, .null, .null, .null, .null] .null := A410
  refine g_aload d_jdk_38_m26_52 (pc' := 54) rfl rfl rfl ?_
  refine g_iloadN d_jdk_38_m26_54 (pc' := 55) rfl rfl ?_
  refine g_aloadN d_jdk_38_m26_55 (pc' := 56) rfl rfl rfl ?_
  refine go_aastore 0 d_jdk_38_m26_56 rfl A411 rfl (sto_arv A411 O (Ins.of_exa ((Exa.wr W403 Xx).keep K409) (w111 hw))) ⟨by decide, by decide⟩ rfl (Nat.le_of_ble_eq_true rfl) (List.mem_of_getElem? (i := 1) rfl) (pc' := 57) rfl ?_
  intro h412 W413 A414
  refine g_aloadN d_jdk_38_m26_57 (pc' := 58) rfl rfl rfl ?_
  refine g_iloadN d_jdk_38_m26_58 (pc' := 59) rfl rfl ?_
  refine g_iconst d_jdk_38_m26_59 (pc' := 60) rfl (z := 1) rfl ?_
  refine g_iadd d_jdk_38_m26_60 (pc' := 61) rfl ?_
  have f415 := (Fld.other W413 (f405.keep K409 (ninS (Ne.symm ne407) nin0)) (Or.inl (Ne.symm ne407)))
  refine go_putfield d_jdk_38_m26_61 (w88 hw) Via.refl f415 (Exa.wr W413 ((Exa.wr W403 E).keep K409)) (Or.inl (w89 hw)) (w58 hw) (ty := .int) (by decide) (v' := (.int ((2 : Int32) + (1 : Int32)))) rfl rfl (List.mem_of_getElem? (i := 0) rfl) (pc' := 64) rfl ?_
  intro h416 W417
  have F418 := Fld.same W417 f415
  have K419 : Keep h0 h402 [li, ea] := ((Keep.refl h0 [li, ea]).wr W403 (Or.inl (List.mem_of_getElem? (i := 0) rfl)))
  have K420 : Keep h0 h408 [li, ea] := (K419.trans K409 (allS (Or.inl (List.mem_of_getElem? (i := 1) rfl)) all0))
  have K421 : Keep h0 h412 [li, ea] := (K420.wr W413 (Or.inl (List.mem_of_getElem? (i := 1) rfl)))
  have K422 : Keep h0 h416 [li, ea] := (K421.wr W417 (Or.inl (List.mem_of_getElem? (i := 0) rfl)))
  exact go_return d_jdk_38_m26_64 rfl (ws' := []) all0 ⟨rfl, rfl, K422⟩
set_option maxRecDepth 65536 in
set_option maxHeartbeats 40000000 in
theorem rm_rangeAdd3 {l : Launch} {Z : State} {a0 : Array Value} (hw : ∀ d ∈ tables_1, d.before a0 Z = true) (li : Addr) (h0 : Heap) (Fs : Fld Z h0 li "java/util/ArrayList" "size" "I" (.int 3)) :
    Con l Z EL ⟨"java/util/ArrayList", "rangeCheckForAdd", "(I)V"⟩ jdk_38_method_45_code 2 none [] { frames := 0, cells := 0, slots := 0, locals := 0 } #[(.ref li), (.int (0 : Int32))] h0 [] (fun v h ws => v = none ∧ h0 = h ∧ ws = []) := by
  refine con_of (a0 := a0) (Ls := #[.val (.ref li), .val (.int (0 : Int32))]) (plainFor_of_name pn6) (eW hw) (fun m => by first | (simp [entryFrame, mkF, argsToLocals, Value.category]; done) | rfl) ?_
  intro p e s m below meth c
  refine g_iloadN d_jdk_38_m45_0 (pc' := 1) rfl rfl ?_
  refine g_aloadN d_jdk_38_m45_1 (pc' := 2) rfl rfl rfl ?_
  refine go_getfield d_jdk_38_m45_2 (host := "") (Or.inl (w88 hw)) Via.refl Fs (pc' := 5) rfl ?_
  refine g_icmpNo d_jdk_38_m45_5 (pc' := 8) rfl (flt (by decide : ¬ ((3 : Int32) < (0 : Int32)))).2.2.1 ?_
  refine g_iloadN d_jdk_38_m45_8 (pc' := 9) rfl rfl ?_
  refine g_ifYes d_jdk_38_m45_9 (pc' := 25) (flt (by decide : ¬ ((0 : Int32) < (0 : Int32)))).2.1 (by decide) (by decide) ?_
  exact go_return d_jdk_38_m45_25 rfl (ws' := []) (fun _ q => q) ⟨rfl, rfl, rfl⟩
set_option maxRecDepth 65536 in
set_option maxHeartbeats 40000000 in
theorem rm_addI3 {l : Launch} {Z : State} {a0 : Array Value} (hw : ∀ d ∈ tables_1, d.before a0 Z = true) (li ea : Addr) (ke : ClassId) (mc : Int32) (x0 x1 x2 : Addr) (x : Addr) (h0 : Heap) (E : Exa Z h0 li "java/util/ArrayList") (Fe : Fld Z h0 li "java/util/ArrayList" "elementData" "[Ljava/lang/Object;" (.ref ea)) (Fs : Fld Z h0 li "java/util/ArrayList" "size" "I" (.int 3)) (Fm : Fld Z h0 li "java/util/AbstractList" "modCount" "I" (.int mc)) (A : Arv Z h0 ea ke (.object "java/lang/Object") 10 [.ref x0, .ref x1, .ref x2, .null, .null, .null, .null, .null, .null, .null] .null) (O : Ovr Z ke "java/lang/Object") (Xe : Exa Z h0 ea "[Ljava/lang/Object;") (X0 : Exa Z h0 x0 "com/example/keyhold/keyhold/model/SigningKey") (X1 : Exa Z h0 x1 "com/example/keyhold/keyhold/model/SigningKey") (X2 : Exa Z h0 x2 "com/example/keyhold/keyhold/model/SigningKey") (Xx : Exa Z h0 x "com/example/keyhold/keyhold/model/SigningKey") :
    Con l Z EL ⟨"java/util/ArrayList", "add", "(ILjava/lang/Object;)V"⟩ jdk_38_method_26_code 5 none [] { frames := 1, cells := 0, slots := 0, locals := 40 } #[(.ref li), (.int (0 : Int32)), (.ref x)] h0 [li, ea] (fun v h ws => v = none ∧ ws = [] ∧ Keep h0 h [li, ea]) := by
  refine con_of (a0 := a0) (Ls := #[.val (.ref li), .val (.int (0 : Int32)), .val (.ref x), .unset, .unset]) (plainFor_of_name pn6) (eW hw) (fun m => by first | (simp [entryFrame, mkF, argsToLocals, Value.category]; done) | rfl) ?_
  intro p e s m below meth c
  refine g_aloadN d_jdk_38_m26_0 (pc' := 1) rfl rfl rfl ?_
  refine g_iloadN d_jdk_38_m26_1 (pc' := 2) rfl rfl ?_
  refine go_private d_jdk_38_m26_2 (rm_rangeAdd3 hw li h0 Fs) all0 E (w234 hw) (w235 hw) (w237 hw) (w236 hw) (w59 hw) (w238 hw) (by decide) (argsL := [(.int (0 : Int32))]) (rest := []) (lenOf pd20 rfl) rfl rfl rfl (W := 0) (Nat.le_of_ble_eq_true rfl) (by decide) (by decide) (by decide) (by decide) (pc' := 5) rfl ?_
  rintro _ _ _ ⟨rfl, rfl, rfl⟩ hzr
  show Go _ _ _ _ _ _ _ _ _ _ _ _ _ _ _ _ _ _ _ _ _ _ _ _ [] _
  refine g_aloadN d_jdk_38_m26_5 (pc' := 6) rfl rfl rfl ?_
  refine g_dup d_jdk_38_m26_6 (pc' := 7) rfl rfl ?_
  refine go_getfield d_jdk_38_m26_7 (host := "") (Or.inl (w86 hw)) (Via.of (w87 hw)) Fm (pc' := 10) rfl ?_
  refine g_iconst d_jdk_38_m26_10 (pc' := 11) rfl (z := 1) rfl ?_
  refine g_iadd d_jdk_38_m26_11 (pc' := 12) rfl ?_
  refine go_putfield d_jdk_38_m26_12 (w86 hw) (Via.of (w87 hw)) Fm E (Or.inl (w77 hw)) (w58 hw) (ty := .int) (by decide) (v' := (.int (mc + (1 : Int32)))) rfl rfl (List.mem_of_getElem? (i := 0) rfl) (pc' := 15) rfl ?_
  intro h423 W424
  have F425 := Fld.same W424 Fm
  refine g_aloadN d_jdk_38_m26_15 (pc' := 16) rfl rfl rfl ?_
  have f426 := (Fld.other W424 Fs (Or.inr (slot_ne (Or.inl (w89 hw)) (Or.inl (w77 hw)) (by decide) (t := .int) (t' := .int) (by decide) (by decide))))
  refine go_getfield d_jdk_38_m26_16 (host := "") (Or.inl (w88 hw)) Via.refl f426 (pc' := 19) rfl ?_
  refine g_dup d_jdk_38_m26_19 (pc' := 20) rfl rfl ?_
  refine g_istoreN d_jdk_38_m26_20 (pc' := 21) (Ls' := #[.val (.ref li), .val (.int (0 : Int32)), .val (.ref x), .val (.int (3 : Int32)), .unset]) rfl rfl ?_
  refine g_aloadN d_jdk_38_m26_21 (pc' := 22) rfl rfl rfl ?_
  have f427 := (Fld.other W424 Fe (Or.inr (slot_ne (Or.inl (w80 hw)) (Or.inl (w77 hw)) (by decide) (t := (.array (.object "java/lang/Object"))) (t' := .int) (by decide) (by decide))))
  refine go_getfield d_jdk_38_m26_22 (host := "") (Or.inl (w79 hw)) Via.refl f427 (pc' := 25) rfl ?_
  refine g_dup d_jdk_38_m26_25 (pc' := 26) rfl rfl ?_
  refine g_astore d_jdk_38_m26_26 (pc' := 28) (Ls' := #[.val (.ref li), .val (.int (0 : Int32)), .val (.ref x), .val (.int (3 : Int32)), .val (.ref ea)]) rfl rfl rfl ?_
  have ne428 : ea ≠ li := Exa.ne Xe E (by decide)
  refine go_arraylength d_jdk_38_m26_28 (A.other W424 ne428) (pc' := 29) rfl ?_
  refine g_icmpYes d_jdk_38_m26_29 (pc' := 38) (feq (by decide : ¬ ((3 : Int32) = (10 : Int32)))).2 (by decide) (by decide) ?_
  refine g_aload d_jdk_38_m26_38 (pc' := 40) rfl rfl rfl ?_
  refine g_iloadN d_jdk_38_m26_40 (pc' := 41) rfl rfl ?_
  refine g_aload d_jdk_38_m26_41 (pc' := 43) rfl rfl rfl ?_
  refine g_iloadN d_jdk_38_m26_43 (pc' := 44) rfl rfl ?_
  refine g_iconst d_jdk_38_m26_44 (pc' := 45) rfl (z := 1) rfl ?_
  refine g_iadd d_jdk_38_m26_45 (pc' := 46) rfl ?_
  refine g_iloadN d_jdk_38_m26_46 (pc' := 47) rfl rfl ?_
  refine g_iloadN d_jdk_38_m26_47 (pc' := 48) rfl rfl ?_
  refine g_isub d_jdk_38_m26_48 (pc' := 49) rfl ?_
  refine go_arraycopy d_jdk_38_m26_49 (w239 hw) (w178 hw) (w176 hw) (w177 hw) (A.other W424 ne428) (A.other W424 ne428) (us := [(.ref x0), (.ref x1), (.ref x2)]) (Or.inr ⟨rfl, rfl, ⟨(sto_arv (A.other W424 ne428) O (Ins.of_exa (Exa.wr W424 X0) (w111 hw))), (sto_arv (A.other W424 ne428) O (Ins.of_exa (Exa.wr W424 X1) (w111 hw))), (sto_arv (A.other W424 ne428) O (Ins.of_exa (Exa.wr W424 X2) (w111 hw))), trivial⟩⟩) (by decide) (by decide) (by decide) (by decide) (by decide) rfl (Nat.le_of_ble_eq_true rfl) (List.mem_of_getElem? (i := 1) rfl) rfl (by decide) (W := 0) (Nat.le_of_ble_eq_true rfl) (by decide) (pc' := 52) rfl ?_
  intro h429 K430 A431
  have A432 : Arv Z h429 ea ke (.object "java/lang/Object") (10 : Int32) [(.ref x0), (.ref x0), (.ref x1), (.ref x2), .null, .null, .null, .null, .null, .null] .null := A431
  refine g_aload d_jdk_38_m26_52 (pc' := 54) rfl rfl rfl ?_
  refine g_iloadN d_jdk_38_m26_54 (pc' := 55) rfl rfl ?_
  refine g_aloadN d_jdk_38_m26_55 (pc' := 56) rfl rfl rfl ?_
  refine go_aastore 0 d_jdk_38_m26_56 rfl A432 rfl (sto_arv A432 O (Ins.of_exa ((Exa.wr W424 Xx).keep K430) (w111 hw))) ⟨by decide, by decide⟩ rfl (Nat.le_of_ble_eq_true rfl) (List.mem_of_getElem? (i := 1) rfl) (pc' := 57) rfl ?_
  intro h433 W434 A435
  refine g_aloadN d_jdk_38_m26_57 (pc' := 58) rfl rfl rfl ?_
  refine g_iloadN d_jdk_38_m26_58 (pc' := 59) rfl rfl ?_
  refine g_iconst d_jdk_38_m26_59 (pc' := 60) rfl (z := 1) rfl ?_
  refine g_iadd d_jdk_38_m26_60 (pc' := 61) rfl ?_
  have f436 := (Fld.other W434 (f426.keep K430 (ninS (Ne.symm ne428) nin0)) (Or.inl (Ne.symm ne428)))
  refine go_putfield d_jdk_38_m26_61 (w88 hw) Via.refl f436 (Exa.wr W434 ((Exa.wr W424 E).keep K430)) (Or.inl (w89 hw)) (w58 hw) (ty := .int) (by decide) (v' := (.int ((3 : Int32) + (1 : Int32)))) rfl rfl (List.mem_of_getElem? (i := 0) rfl) (pc' := 64) rfl ?_
  intro h437 W438
  have F439 := Fld.same W438 f436
  have K440 : Keep h0 h423 [li, ea] := ((Keep.refl h0 [li, ea]).wr W424 (Or.inl (List.mem_of_getElem? (i := 0) rfl)))
  have K441 : Keep h0 h429 [li, ea] := (K440.trans K430 (allS (Or.inl (List.mem_of_getElem? (i := 1) rfl)) all0))
  have K442 : Keep h0 h433 [li, ea] := (K441.wr W434 (Or.inl (List.mem_of_getElem? (i := 1) rfl)))
  have K443 : Keep h0 h437 [li, ea] := (K442.wr W438 (Or.inl (List.mem_of_getElem? (i := 0) rfl)))
  exact go_return d_jdk_38_m26_64 rfl (ws' := []) all0 ⟨rfl, rfl, K443⟩
set_option maxRecDepth 65536 in
set_option maxHeartbeats 40000000 in
theorem law_con {l : Launch} {Z : State} {a0 : Array Value} (hw : ∀ d ∈ tables_1, d.before a0 Z = true) (p1 p2 p3 : Int32) (t1 t2 t3 : Int64) (co : Int32) (de em mo : Addr) (kd : ClassId) (h0 : Heap) (Sc : Sta Z Z.heap "java/lang/String" "COMPACT_STRINGS" "Z" (.int co)) (hco : ¬ co = 0) (Sd : Sta Z Z.heap "java/util/ArrayList" "DEFAULTCAPACITY_EMPTY_ELEMENTDATA" "[Ljava/lang/Object;" (.ref de)) (Ad : Arv Z Z.heap de kd (.object "java/lang/Object") 0 [] .null) (Se : Sta Z Z.heap "java/util/ImmutableCollections" "EMPTY" "Ljava/lang/Object;" (.ref em)) (Mo : Mir Z "[Ljava/lang/Object;" mo) :
    Con l Z EL ⟨"com/example/keyhold/keyhold/model/KeyRingInUsePinLaw", "law", "(IIIJJJ)Z"⟩ code 17 ret tables_1 room_1 #[(.int p1), (.int p2), (.int p3), (.long t1), (.long t2), (.long t3)] h0 [] (fun v h ws => v = some (.int 1)) := by
  refine con_of (a0 := a0) (Ls := #[.val (.int p1), .val (.int p2), .val (.int p3), .val (.long t1), .second, .val (.long t2), .second, .val (.long t3), .second, .unset, .unset, .unset, .unset, .unset, .unset, .unset, .unset]) (plainFor_of_name pn16) (eW hw) (fun m => by first | (simp [entryFrame, mkF, argsToLocals, Value.category, maxLocals]; done) | rfl) ?_
  intro p e s m below meth c
  refine go_old (fun EX => ?_)
  refine g_iconst at_0 (pc' := 1) rfl (z := 1) rfl ?_
  refine g_iloadN at_1 (pc' := 2) rfl rfl ?_
  refine go_ldcI at_2 (w0 hw) (pc' := 4) rfl ?_
  refine g_iand at_4 (pc' := 5) rfl ?_
  refine g_iconst at_5 (pc' := 6) rfl (z := 3) rfl ?_
  refine g_irem at_6 (pc' := 7) rfl (by decide) ?_
  obtain ⟨j, hj, ej⟩ := rem_nat p1 3 (n := 3) (by decide) (by decide) (by decide)
  rw [ej]
  obtain rfl | rfl | rfl : j = 0 ∨ j = 1 ∨ j = 2 := by omega
  · -- 0
    refine g_iadd at_7 (pc' := 8) rfl ?_
    refine g_istore at_8 (pc' := 10) (Ls' := #[.val (.int p1), .val (.int p2), .val (.int p3), .val (.long t1), .second, .val (.long t2), .second, .val (.long t3), .second, .val (.int ((1 : Int32) + (Int32.ofNat 0))), .unset, .unset, .unset, .unset, .unset, .unset, .unset]) rfl rfl ?_
    refine go_new at_10 (w1 hw) (w2 hw) (w3 hw) (by decide) (by decide) (pc' := 13) rfl ?_
    intro h444 a445 g446 E447 A448 D449
    have F450 : Fld Z h444 a445 "com/example/keyhold/keyhold/model/SigningKey" "kid" "Ljava/lang/String;" .null := D449 (Or.inr (w52 hw)) (ty := (.object "java/lang/String")) (by decide)
    have F451 : Fld Z h444 a445 "com/example/keyhold/keyhold/model/SigningKey" "secret" "[B" .null := D449 (Or.inr (w54 hw)) (ty := (.array .byte)) (by decide)
    have F452 : Fld Z h444 a445 "com/example/keyhold/keyhold/model/SigningKey" "createdAt" "J" (.long (0 : Int64)) := D449 (Or.inr (w56 hw)) (ty := .long) (by decide)
    refine g_dup at_13 (pc' := 14) rfl rfl ?_
    refine go_new at_14 (w4 hw) (w5 hw) (w6 hw) (by decide) (by decide) (pc' := 17) rfl ?_
    intro h453 a454 g455 E456 A457 D458
    have F459 : Fld Z h453 a454 "java/lang/String" "coder" "B" (.int (0 : Int32)) := D458 (Or.inr (w31 hw)) (ty := .byte) (by decide)
    have F460 : Fld Z h453 a454 "java/lang/String" "value" "[B" .null := D458 (Or.inr (w33 hw)) (ty := (.array .byte)) (by decide)
    refine g_dup at_17 (pc' := 18) rfl rfl ?_
    refine g_iconst at_18 (pc' := 19) rfl (z := 1) rfl ?_
    refine go_newarray at_19 (w7 hw) (by decide) (cap := 1) (by decide) (by decide) (by decide) (by decide) (ad := "[C") rfl (pc' := 21) rfl ?_
    intro h461 a462 k463 g464 E465 A466 X467
    have A468 : Arv Z h461 a462 k463 .char (1 : Int32) [.int 0] (.int 0) := Arv.pad A466 (pad_rep [] (.int 0) 1)
    refine g_dup at_21 (pc' := 22) rfl rfl ?_
    refine g_iconst at_22 (pc' := 23) rfl (z := 0) rfl ?_
    refine g_iloadN at_23 (pc' := 24) rfl rfl ?_
    refine g_sipush at_24 (pc' := 27) rfl (z := 255) rfl ?_
    refine g_iand at_27 (pc' := 28) rfl ?_
    refine g_i2c at_28 (pc' := 29) rfl ?_
    refine go_castore 0 at_29 A468 ⟨by decide, by decide⟩ rfl (Nat.le_of_ble_eq_true rfl) (x' := (((p2 &&& (255 : Int32))).toUInt32.toUInt16.toUInt32.toInt32)) (nar_i2c _) (List.mem_of_getElem? (i := 0) rfl) (pc' := 30) rfl ?_
    intro h469 W470 A471
    have ne472 : a454 ≠ a462 := Nat.ne_of_lt (Nat.lt_of_lt_of_le A457.lt (Nat.le_of_eq g464.symm))
    refine go_special at_30 (rm_initC hw [(((p2 &&& (255 : Int32))).toUInt32.toUInt16.toUInt32.toInt32)] a454 a462 _ _ _ co [a462, a445] h469 (Nat.le_of_ble_eq_true rfl) (Nat.le_of_ble_eq_true rfl) (Byt.lat (Byt.cons (byt255 _) Byt.nil)) (Exa.wr W470 (A457.ext E465)) (Fld.other W470 (F460.ext E465) (Or.inl ne472)) (Fld.other W470 (F459.ext E465) (Or.inl ne472)) A471 Sc hco) (allS (List.mem_of_getElem? (i := 1) rfl) (allS (List.mem_of_getElem? (i := 0) rfl) (allS (List.mem_of_getElem? (i := 2) rfl) all0))) rfl (w8 hw) (w9 hw) (w6 hw) (w10 hw) (by decide) (argsL := [(.ref a462)]) (rest := [(.ref a454), (.ref a445), (.ref a445)]) (lenOf pd21 rfl) rfl rfl rfl (W := 3) (Nat.le_of_ble_eq_true rfl) (by decide) (by decide) (by decide) (by decide) (pc' := 33) rfl ?_
    rintro _ h473 _ ⟨rfl, b474, rfl, K475, L476, N477⟩ z478
    show Go _ _ _ _ _ _ _ _ _ _ _ _ _ _ _ _ _ _ _ _ _ _ _ _ [(.ref a454), (.ref a445), (.ref a445)] _
    refine g_iconst at_33 (pc' := 34) rfl (z := 0) rfl ?_
    refine go_newarray at_34 (w23 hw) (by decide) (cap := 0) (by decide) (by decide) (by decide) (by decide) (ad := "[B") rfl (pc' := 36) rfl ?_
    intro h479 a480 k481 g482 E483 A484 X485
    have A486 : Arv Z h479 a480 k481 .byte (0 : Int32) [] (.int 0) := Arv.pad A484 (pad_rep [] (.int 0) 0)
    refine g_lloadN at_36 (pc' := 37) rfl rfl ?_
    have f487 := (((Exa.wr W470 ((A448.ext E456).ext E465)).keep K475).ext E483)
    have ne488 : a445 ≠ a462 := Nat.ne_of_lt (Nat.lt_of_lt_of_le (A448.ext E456).lt (Nat.le_of_eq g464.symm))
    have ne489 : a445 ≠ a454 := Nat.ne_of_lt (Nat.lt_of_lt_of_le A448.lt (Nat.le_of_eq g455.symm))
    have f490 := (((Fld.other W470 ((F450.ext E456).ext E465) (Or.inl ne488)).keep K475 (ninS ne489 nin0)).ext E483)
    have f491 := (((Fld.other W470 ((F451.ext E456).ext E465) (Or.inl ne488)).keep K475 (ninS ne489 nin0)).ext E483)
    have f492 := (((Fld.other W470 ((F452.ext E456).ext E465) (Or.inl ne488)).keep K475 (ninS ne489 nin0)).ext E483)
    refine go_special at_37 (rm_key hw a445 a454 a480 t1 _ _ _ h479 f487 f490 f491 f492) (allS (List.mem_of_getElem? (i := 3) rfl) all0) rfl (w34 hw) (w35 hw) (w3 hw) (w36 hw) (by decide) (argsL := [(.ref a454), (.ref a480), (.long t1)]) (rest := [(.ref a445)]) (lenOf pd22 rfl) rfl rfl rfl (W := 1) (Nat.le_of_ble_eq_true rfl) (by decide) (by decide) (by decide) (by decide) (pc' := 40) rfl ?_
    rintro _ h493 _ ⟨rfl, rfl, K494⟩ z495
    show Go _ _ _ _ _ _ _ _ _ _ _ _ _ _ _ _ _ _ _ _ _ _ _ _ [(.ref a445)] _
    refine g_astore at_40 (pc' := 42) (Ls' := #[.val (.int p1), .val (.int p2), .val (.int p3), .val (.long t1), .second, .val (.long t2), .second, .val (.long t3), .second, .val (.int ((1 : Int32) + (Int32.ofNat 0))), .val (.ref a445), .unset, .unset, .unset, .unset, .unset, .unset]) rfl rfl rfl ?_
    refine go_new at_42 (w1 hw) (w2 hw) (w3 hw) (by decide) (by decide) (pc' := 45) rfl ?_
    intro h496 a497 g498 E499 A500 D501
    have F502 : Fld Z h496 a497 "com/example/keyhold/keyhold/model/SigningKey" "kid" "Ljava/lang/String;" .null := D501 (Or.inr (w52 hw)) (ty := (.object "java/lang/String")) (by decide)
    have F503 : Fld Z h496 a497 "com/example/keyhold/keyhold/model/SigningKey" "secret" "[B" .null := D501 (Or.inr (w54 hw)) (ty := (.array .byte)) (by decide)
    have F504 : Fld Z h496 a497 "com/example/keyhold/keyhold/model/SigningKey" "createdAt" "J" (.long (0 : Int64)) := D501 (Or.inr (w56 hw)) (ty := .long) (by decide)
    refine g_dup at_45 (pc' := 46) rfl rfl ?_
    refine go_new at_46 (w4 hw) (w5 hw) (w6 hw) (by decide) (by decide) (pc' := 49) rfl ?_
    intro h505 a506 g507 E508 A509 D510
    have F511 : Fld Z h505 a506 "java/lang/String" "coder" "B" (.int (0 : Int32)) := D510 (Or.inr (w31 hw)) (ty := .byte) (by decide)
    have F512 : Fld Z h505 a506 "java/lang/String" "value" "[B" .null := D510 (Or.inr (w33 hw)) (ty := (.array .byte)) (by decide)
    refine g_dup at_49 (pc' := 50) rfl rfl ?_
    refine g_iconst at_50 (pc' := 51) rfl (z := 1) rfl ?_
    refine go_newarray at_51 (w7 hw) (by decide) (cap := 1) (by decide) (by decide) (by decide) (by decide) (ad := "[C") rfl (pc' := 53) rfl ?_
    intro h513 a514 k515 g516 E517 A518 X519
    have A520 : Arv Z h513 a514 k515 .char (1 : Int32) [.int 0] (.int 0) := Arv.pad A518 (pad_rep [] (.int 0) 1)
    refine g_dup at_53 (pc' := 54) rfl rfl ?_
    refine g_iconst at_54 (pc' := 55) rfl (z := 0) rfl ?_
    refine g_iloadN at_55 (pc' := 56) rfl rfl ?_
    refine g_sipush at_56 (pc' := 59) rfl (z := 255) rfl ?_
    refine g_iand at_59 (pc' := 60) rfl ?_
    refine g_i2c at_60 (pc' := 61) rfl ?_
    refine go_castore 0 at_61 A520 ⟨by decide, by decide⟩ rfl (Nat.le_of_ble_eq_true rfl) (x' := (((p3 &&& (255 : Int32))).toUInt32.toUInt16.toUInt32.toInt32)) (nar_i2c _) (List.mem_of_getElem? (i := 0) rfl) (pc' := 62) rfl ?_
    intro h521 W522 A523
    have ne524 : a506 ≠ a514 := Nat.ne_of_lt (Nat.lt_of_lt_of_le A509.lt (Nat.le_of_eq g516.symm))
    refine go_special at_62 (rm_initC hw [(((p3 &&& (255 : Int32))).toUInt32.toUInt16.toUInt32.toInt32)] a506 a514 _ _ _ co [a514, a497, a480, a462, a454, a445] h521 (Nat.le_of_ble_eq_true rfl) (Nat.le_of_ble_eq_true rfl) (Byt.lat (Byt.cons (byt255 _) Byt.nil)) (Exa.wr W522 (A509.ext E517)) (Fld.other W522 (F512.ext E517) (Or.inl ne524)) (Fld.other W522 (F511.ext E517) (Or.inl ne524)) A523 Sc hco) (allS (List.mem_of_getElem? (i := 1) rfl) (allS (List.mem_of_getElem? (i := 0) rfl) (allS (List.mem_of_getElem? (i := 2) rfl) (allS (List.mem_of_getElem? (i := 3) rfl) (allS (List.mem_of_getElem? (i := 4) rfl) (allS (List.mem_of_getElem? (i := 5) rfl) (allS (List.mem_of_getElem? (i := 6) rfl) all0))))))) rfl (w8 hw) (w9 hw) (w6 hw) (w10 hw) (by decide) (argsL := [(.ref a514)]) (rest := [(.ref a506), (.ref a497), (.ref a497)]) (lenOf pd21 rfl) rfl rfl rfl (W := 3) (Nat.le_of_ble_eq_true rfl) (by decide) (by decide) (by decide) (by decide) (pc' := 65) rfl ?_
    rintro _ h525 _ ⟨rfl, b526, rfl, K527, L528, N529⟩ z530
    show Go _ _ _ _ _ _ _ _ _ _ _ _ _ _ _ _ _ _ _ _ _ _ _ _ [(.ref a506), (.ref a497), (.ref a497)] _
    refine g_iconst at_65 (pc' := 66) rfl (z := 0) rfl ?_
    refine go_newarray at_66 (w23 hw) (by decide) (cap := 0) (by decide) (by decide) (by decide) (by decide) (ad := "[B") rfl (pc' := 68) rfl ?_
    intro h531 a532 k533 g534 E535 A536 X537
    have A538 : Arv Z h531 a532 k533 .byte (0 : Int32) [] (.int 0) := Arv.pad A536 (pad_rep [] (.int 0) 0)
    refine g_lload at_68 (pc' := 70) rfl rfl ?_
    have f539 := (((Exa.wr W522 ((A500.ext E508).ext E517)).keep K527).ext E535)
    have ne540 : a497 ≠ a514 := Nat.ne_of_lt (Nat.lt_of_lt_of_le (A500.ext E508).lt (Nat.le_of_eq g516.symm))
    have ne541 : a497 ≠ a506 := Nat.ne_of_lt (Nat.lt_of_lt_of_le A500.lt (Nat.le_of_eq g507.symm))
    have f542 := (((Fld.other W522 ((F502.ext E508).ext E517) (Or.inl ne540)).keep K527 (ninS ne541 nin0)).ext E535)
    have f543 := (((Fld.other W522 ((F503.ext E508).ext E517) (Or.inl ne540)).keep K527 (ninS ne541 nin0)).ext E535)
    have f544 := (((Fld.other W522 ((F504.ext E508).ext E517) (Or.inl ne540)).keep K527 (ninS ne541 nin0)).ext E535)
    refine go_special at_70 (rm_key hw a497 a506 a532 t2 _ _ _ h531 f539 f542 f543 f544) (allS (List.mem_of_getElem? (i := 3) rfl) all0) rfl (w34 hw) (w35 hw) (w3 hw) (w36 hw) (by decide) (argsL := [(.ref a506), (.ref a532), (.long t2)]) (rest := [(.ref a497)]) (lenOf pd22 rfl) rfl rfl rfl (W := 1) (Nat.le_of_ble_eq_true rfl) (by decide) (by decide) (by decide) (by decide) (pc' := 73) rfl ?_
    rintro _ h545 _ ⟨rfl, rfl, K546⟩ z547
    show Go _ _ _ _ _ _ _ _ _ _ _ _ _ _ _ _ _ _ _ _ _ _ _ _ [(.ref a497)] _
    refine g_astore at_73 (pc' := 75) (Ls' := #[.val (.int p1), .val (.int p2), .val (.int p3), .val (.long t1), .second, .val (.long t2), .second, .val (.long t3), .second, .val (.int ((1 : Int32) + (Int32.ofNat 0))), .val (.ref a445), .val (.ref a497), .unset, .unset, .unset, .unset, .unset]) rfl rfl rfl ?_
    refine go_new at_75 (w1 hw) (w2 hw) (w3 hw) (by decide) (by decide) (pc' := 78) rfl ?_
    intro h548 a549 g550 E551 A552 D553
    have F554 : Fld Z h548 a549 "com/example/keyhold/keyhold/model/SigningKey" "kid" "Ljava/lang/String;" .null := D553 (Or.inr (w52 hw)) (ty := (.object "java/lang/String")) (by decide)
    have F555 : Fld Z h548 a549 "com/example/keyhold/keyhold/model/SigningKey" "secret" "[B" .null := D553 (Or.inr (w54 hw)) (ty := (.array .byte)) (by decide)
    have F556 : Fld Z h548 a549 "com/example/keyhold/keyhold/model/SigningKey" "createdAt" "J" (.long (0 : Int64)) := D553 (Or.inr (w56 hw)) (ty := .long) (by decide)
    refine g_dup at_78 (pc' := 79) rfl rfl ?_
    refine go_new at_79 (w4 hw) (w5 hw) (w6 hw) (by decide) (by decide) (pc' := 82) rfl ?_
    intro h557 a558 g559 E560 A561 D562
    have F563 : Fld Z h557 a558 "java/lang/String" "coder" "B" (.int (0 : Int32)) := D562 (Or.inr (w31 hw)) (ty := .byte) (by decide)
    have F564 : Fld Z h557 a558 "java/lang/String" "value" "[B" .null := D562 (Or.inr (w33 hw)) (ty := (.array .byte)) (by decide)
    refine g_dup at_82 (pc' := 83) rfl rfl ?_
    refine g_iconst at_83 (pc' := 84) rfl (z := 1) rfl ?_
    refine go_newarray at_84 (w7 hw) (by decide) (cap := 1) (by decide) (by decide) (by decide) (by decide) (ad := "[C") rfl (pc' := 86) rfl ?_
    intro h565 a566 k567 g568 E569 A570 X571
    have A572 : Arv Z h565 a566 k567 .char (1 : Int32) [.int 0] (.int 0) := Arv.pad A570 (pad_rep [] (.int 0) 1)
    refine g_dup at_86 (pc' := 87) rfl rfl ?_
    refine g_iconst at_87 (pc' := 88) rfl (z := 0) rfl ?_
    refine g_iloadN at_88 (pc' := 89) rfl rfl ?_
    refine g_bipush at_89 (pc' := 91) rfl (z := 8) rfl ?_
    refine g_iushr at_91 (pc' := 92) rfl ?_
    refine g_sipush at_92 (pc' := 95) rfl (z := 255) rfl ?_
    refine g_iand at_95 (pc' := 96) rfl ?_
    refine g_i2c at_96 (pc' := 97) rfl ?_
    refine go_castore 0 at_97 A572 ⟨by decide, by decide⟩ rfl (Nat.le_of_ble_eq_true rfl) (x' := ((((((p2).toUInt32 >>> (((8 : Int32) &&& 31)).toUInt32).toInt32) &&& (255 : Int32))).toUInt32.toUInt16.toUInt32.toInt32)) (nar_i2c _) (List.mem_of_getElem? (i := 0) rfl) (pc' := 98) rfl ?_
    intro h573 W574 A575
    have ne576 : a558 ≠ a566 := Nat.ne_of_lt (Nat.lt_of_lt_of_le A561.lt (Nat.le_of_eq g568.symm))
    refine go_special at_98 (rm_initC hw [((((((p2).toUInt32 >>> (((8 : Int32) &&& 31)).toUInt32).toInt32) &&& (255 : Int32))).toUInt32.toUInt16.toUInt32.toInt32)] a558 a566 _ _ _ co [a566, a549, a532, a514, a506, a497, a480, a462, a454, a445] h573 (Nat.le_of_ble_eq_true rfl) (Nat.le_of_ble_eq_true rfl) (Byt.lat (Byt.cons (byt255 _) Byt.nil)) (Exa.wr W574 (A561.ext E569)) (Fld.other W574 (F564.ext E569) (Or.inl ne576)) (Fld.other W574 (F563.ext E569) (Or.inl ne576)) A575 Sc hco) (allS (List.mem_of_getElem? (i := 1) rfl) (allS (List.mem_of_getElem? (i := 0) rfl) (allS (List.mem_of_getElem? (i := 2) rfl) (allS (List.mem_of_getElem? (i := 3) rfl) (allS (List.mem_of_getElem? (i := 4) rfl) (allS (List.mem_of_getElem? (i := 5) rfl) (allS (List.mem_of_getElem? (i := 6) rfl) (allS (List.mem_of_getElem? (i := 7) rfl) (allS (List.mem_of_getElem? (i := 8) rfl) (allS (List.mem_of_getElem? (i := 9) rfl) (allS (List.mem_of_getElem? (i := 10) rfl) all0))))))))))) rfl (w8 hw) (w9 hw) (w6 hw) (w10 hw) (by decide) (argsL := [(.ref a566)]) (rest := [(.ref a558), (.ref a549), (.ref a549)]) (lenOf pd21 rfl) rfl rfl rfl (W := 3) (Nat.le_of_ble_eq_true rfl) (by decide) (by decide) (by decide) (by decide) (pc' := 101) rfl ?_
    rintro _ h577 _ ⟨rfl, b578, rfl, K579, L580, N581⟩ z582
    show Go _ _ _ _ _ _ _ _ _ _ _ _ _ _ _ _ _ _ _ _ _ _ _ _ [(.ref a558), (.ref a549), (.ref a549)] _
    refine g_iconst at_101 (pc' := 102) rfl (z := 0) rfl ?_
    refine go_newarray at_102 (w23 hw) (by decide) (cap := 0) (by decide) (by decide) (by decide) (by decide) (ad := "[B") rfl (pc' := 104) rfl ?_
    intro h583 a584 k585 g586 E587 A588 X589
    have A590 : Arv Z h583 a584 k585 .byte (0 : Int32) [] (.int 0) := Arv.pad A588 (pad_rep [] (.int 0) 0)
    refine g_lload at_104 (pc' := 106) rfl rfl ?_
    have f591 := (((Exa.wr W574 ((A552.ext E560).ext E569)).keep K579).ext E587)
    have ne592 : a549 ≠ a566 := Nat.ne_of_lt (Nat.lt_of_lt_of_le (A552.ext E560).lt (Nat.le_of_eq g568.symm))
    have ne593 : a549 ≠ a558 := Nat.ne_of_lt (Nat.lt_of_lt_of_le A552.lt (Nat.le_of_eq g559.symm))
    have f594 := (((Fld.other W574 ((F554.ext E560).ext E569) (Or.inl ne592)).keep K579 (ninS ne593 nin0)).ext E587)
    have f595 := (((Fld.other W574 ((F555.ext E560).ext E569) (Or.inl ne592)).keep K579 (ninS ne593 nin0)).ext E587)
    have f596 := (((Fld.other W574 ((F556.ext E560).ext E569) (Or.inl ne592)).keep K579 (ninS ne593 nin0)).ext E587)
    refine go_special at_106 (rm_key hw a549 a558 a584 t3 _ _ _ h583 f591 f594 f595 f596) (allS (List.mem_of_getElem? (i := 3) rfl) all0) rfl (w34 hw) (w35 hw) (w3 hw) (w36 hw) (by decide) (argsL := [(.ref a558), (.ref a584), (.long t3)]) (rest := [(.ref a549)]) (lenOf pd22 rfl) rfl rfl rfl (W := 1) (Nat.le_of_ble_eq_true rfl) (by decide) (by decide) (by decide) (by decide) (pc' := 109) rfl ?_
    rintro _ h597 _ ⟨rfl, rfl, K598⟩ z599
    show Go _ _ _ _ _ _ _ _ _ _ _ _ _ _ _ _ _ _ _ _ _ _ _ _ [(.ref a549)] _
    refine g_astore at_109 (pc' := 111) (Ls' := #[.val (.int p1), .val (.int p2), .val (.int p3), .val (.long t1), .second, .val (.long t2), .second, .val (.long t3), .second, .val (.int ((1 : Int32) + (Int32.ofNat 0))), .val (.ref a445), .val (.ref a497), .val (.ref a549), .unset, .unset, .unset, .unset]) rfl rfl rfl ?_
    refine go_new at_111 (w57 hw) (w58 hw) (w59 hw) (by decide) (by decide) (pc' := 114) rfl ?_
    intro h600 a601 g602 E603 A604 D605
    have F606 : Fld Z h600 a601 "java/util/AbstractList" "modCount" "I" (.int (0 : Int32)) := D605 (Or.inl (w77 hw)) (ty := .int) (by decide)
    have F607 : Fld Z h600 a601 "java/util/ArrayList" "elementData" "[Ljava/lang/Object;" .null := D605 (Or.inl (w80 hw)) (ty := (.array (.object "java/lang/Object"))) (by decide)
    have F608 : Fld Z h600 a601 "java/util/ArrayList" "size" "I" (.int (0 : Int32)) := D605 (Or.inl (w89 hw)) (ty := .int) (by decide)
    refine g_dup at_114 (pc' := 115) rfl rfl ?_
    refine go_special at_115 (rm_alInit hw a601 de _ _ h600 A604 F606 F607 F608 Sd) (allS (List.mem_of_getElem? (i := 0) rfl) all0) rfl (w60 hw) (w61 hw) (w59 hw) (w62 hw) (by decide) (argsL := []) (rest := [(.ref a601)]) (lenOf pd4 rfl) rfl rfl rfl (W := 1) (Nat.le_of_ble_eq_true rfl) (by decide) (by decide) (by decide) (by decide) (pc' := 118) rfl ?_
    rintro _ h609 _ ⟨rfl, rfl, K610, F611, F612, F613⟩ z614
    show Go _ _ _ _ _ _ _ _ _ _ _ _ _ _ _ _ _ _ _ _ _ _ _ _ [(.ref a601)] _
    refine g_astore at_118 (pc' := 120) (Ls' := #[.val (.int p1), .val (.int p2), .val (.int p3), .val (.long t1), .second, .val (.long t2), .second, .val (.long t3), .second, .val (.int ((1 : Int32) + (Int32.ofNat 0))), .val (.ref a445), .val (.ref a497), .val (.ref a549), .val (.ref a601), .unset, .unset, .unset]) rfl rfl rfl ?_
    refine g_aload at_120 (pc' := 122) rfl rfl rfl ?_
    refine g_aload at_122 (pc' := 124) rfl rfl rfl ?_
    have ne622 : de ≠ a462 := Nat.ne_of_lt (Nat.lt_of_lt_of_le (((Ad.ext EX).ext E447).ext E456).lt (Nat.le_of_eq g464.symm))
    have ne623 : de ≠ a454 := Nat.ne_of_lt (Nat.lt_of_lt_of_le ((Ad.ext EX).ext E447).lt (Nat.le_of_eq g455.symm))
    have ne624 : de ≠ a445 := Nat.ne_of_lt (Nat.lt_of_lt_of_le (Ad.ext EX).lt (Nat.le_of_eq g446.symm))
    have f625 := ((((((((((Ad.ext EX).ext E447).ext E456).ext E465).other W470 ne622).keep K475 (ninS ne623 nin0)).ext E483).keep K494 (ninS ne624 nin0)).ext E499).ext E508)
    have ne626 : de ≠ a514 := Nat.ne_of_lt (Nat.lt_of_lt_of_le f625.lt (Nat.le_of_eq g516.symm))
    have f627 := (((((((((Ad.ext EX).ext E447).ext E456).ext E465).other W470 ne622).keep K475 (ninS ne623 nin0)).ext E483).keep K494 (ninS ne624 nin0)).ext E499)
    have ne628 : de ≠ a506 := Nat.ne_of_lt (Nat.lt_of_lt_of_le f627.lt (Nat.le_of_eq g507.symm))
    have f629 := ((((((((Ad.ext EX).ext E447).ext E456).ext E465).other W470 ne622).keep K475 (ninS ne623 nin0)).ext E483).keep K494 (ninS ne624 nin0))
    have ne630 : de ≠ a497 := Nat.ne_of_lt (Nat.lt_of_lt_of_le f629.lt (Nat.le_of_eq g498.symm))
    have f631 := (((((((((f629.ext E499).ext E508).ext E517).other W522 ne626).keep K527 (ninS ne628 nin0)).ext E535).keep K546 (ninS ne630 nin0)).ext E551).ext E560)
    have ne632 : de ≠ a566 := Nat.ne_of_lt (Nat.lt_of_lt_of_le f631.lt (Nat.le_of_eq g568.symm))
    have f633 := ((((((((f629.ext E499).ext E508).ext E517).other W522 ne626).keep K527 (ninS ne628 nin0)).ext E535).keep K546 (ninS ne630 nin0)).ext E551)
    have ne634 : de ≠ a558 := Nat.ne_of_lt (Nat.lt_of_lt_of_le f633.lt (Nat.le_of_eq g559.symm))
    have f635 := (((((((f629.ext E499).ext E508).ext E517).other W522 ne626).keep K527 (ninS ne628 nin0)).ext E535).keep K546 (ninS ne630 nin0))
    have ne636 : de ≠ a549 := Nat.ne_of_lt (Nat.lt_of_lt_of_le f635.lt (Nat.le_of_eq g550.symm))
    have f637 := (((((((f635.ext E551).ext E560).ext E569).other W574 ne632).keep K579 (ninS ne634 nin0)).ext E587).keep K598 (ninS ne636 nin0))
    have ne638 : de ≠ a601 := Nat.ne_of_lt (Nat.lt_of_lt_of_le f637.lt (Nat.le_of_eq g602.symm))
    have f639 := ((((((((((((((((((((((((Ad.ext EX).ext E447).ext E456).ext E465).other W470 ne622).keep K475 (ninS ne623 nin0)).ext E483).keep K494 (ninS ne624 nin0)).ext E499).ext E508).ext E517).other W522 ne626).keep K527 (ninS ne628 nin0)).ext E535).keep K546 (ninS ne630 nin0)).ext E551).ext E560).ext E569).other W574 ne632).keep K579 (ninS ne634 nin0)).ext E587).keep K598 (ninS ne636 nin0)).ext E603).keep K610 (ninS ne638 nin0))
    have f640 := ((((((Exa.wr W574 (((((((Exa.wr W522 ((((f487.keep K494).ext E499).ext E508).ext E517)).keep K527).ext E535).keep K546).ext E551).ext E560).ext E569)).keep K579).ext E587).keep K598).ext E603).keep K610)
    refine go_virtual at_124 (rm_add_0 hw a601 de kd (0 : Int32) a445 h609 (A604.keep K610) F611 F612 F613 f639 Sd f640) (allS (List.mem_of_getElem? (i := 0) rfl) all0) (A604.keep K610) (w81 hw) (w82 hw) (w84 hw) (nf_sel (w84 hw)) (w83 hw) (w59 hw) (w85 hw) (by decide) (argsL := [(.ref a445)]) (rest := []) (lenOf pd23 rfl) rfl rfl rfl (W := 0) (Nat.le_of_ble_eq_true rfl) (by decide) (by decide) (by decide) (by decide) (pc' := 127) rfl ?_
    rintro _ h621 _ ⟨rfl, ea641, ke642, rfl, he643, K619, F615, F616, F617, A618, O644, X645⟩ z620
    show Go _ _ _ _ _ _ _ _ _ _ _ _ _ _ _ _ _ _ _ _ _ _ _ _ [(.int (1 : Int32))] _
    refine g_pop at_127 (pc' := 128) rfl rfl ?_
    refine g_iload at_128 (pc' := 130) rfl rfl ?_
    refine g_iconst at_130 (pc' := 131) rfl (z := 2) rfl ?_
    refine g_icmpYes at_131 (pc' := 142) (tlt (by decide : ((1 : Int32) + (Int32.ofNat 0)) < (2 : Int32))).1 (by decide) (by decide) ?_
    refine g_iload at_142 (pc' := 144) rfl rfl ?_
    refine g_iconst at_144 (pc' := 145) rfl (z := 3) rfl ?_
    refine g_icmpYes at_145 (pc' := 156) (tlt (by decide : ((1 : Int32) + (Int32.ofNat 0)) < (3 : Int32))).1 (by decide) (by decide) ?_
    refine go_new at_156 (w112 hw) (w113 hw) (w114 hw) (by decide) (by decide) (pc' := 159) rfl ?_
    intro h646 a647 g648 E649 A650 D651
    have F652 : Fld Z h646 a647 "com/example/keyhold/keyhold/model/KeyRing" "keys" "Ljava/util/List;" .null := D651 (Or.inr (w212 hw)) (ty := (.object "java/util/List")) (by decide)
    refine g_dup at_159 (pc' := 160) rfl rfl ?_
    refine g_aload at_160 (pc' := 162) rfl rfl rfl ?_
    refine go_special at_162 (rm_ring1 hw a601 ea641 ke642 ((0 : Int32) + (1 : Int32)) a445 a647 mo em _ h646 (((A604.keep K610).keep K619).ext E649) (F615.ext E649) (F616.ext E649) (F617.ext E649) (A618.ext E649) O644 (X645.ext E649) Mo Se ((f640.keep K619).ext E649) A650 F652) (allS (List.mem_of_getElem? (i := 0) rfl) all0) rfl (w115 hw) (w116 hw) (w114 hw) (w117 hw) (by decide) (argsL := [(.ref a601)]) (rest := [(.ref a647)]) (lenOf pd24 rfl) rfl rfl rfl (W := 1) (Nat.le_of_ble_eq_true rfl) (by decide) (by decide) (by decide) (by decide) (pc' := 165) rfl ?_
    rintro _ h653 _ ⟨rfl, rfl, Kq, r, hr, Xr, Fr, Fq⟩ hzq
    show Go _ _ _ _ _ _ _ _ _ _ _ _ _ _ _ _ _ _ _ _ _ _ _ _ [(.ref a647)] _
    refine g_astore at_165 (pc' := 167) (Ls' := #[.val (.int p1), .val (.int p2), .val (.int p3), .val (.long t1), .second, .val (.long t2), .second, .val (.long t3), .second, .val (.int ((1 : Int32) + (Int32.ofNat 0))), .val (.ref a445), .val (.ref a497), .val (.ref a549), .val (.ref a601), .val (.ref a647), .unset, .unset]) rfl rfl rfl ?_
    refine g_aload at_167 (pc' := 169) rfl rfl rfl ?_
    refine go_virtual at_169 (rm_inUse1 hw a647 r a445 h653 Fq (((f640.keep K619).ext E649).keep Kq) Xr Fr) all0 (A650.keep Kq) (w213 hw) (w214 hw) (w216 hw) (nf_sel (w216 hw)) (w215 hw) (w114 hw) (w217 hw) (by decide) (argsL := []) (rest := []) (lenOf pd25 rfl) rfl rfl rfl (W := 0) (Nat.le_of_ble_eq_true rfl) (by decide) (by decide) (by decide) (by decide) (pc' := 172) rfl ?_
    rintro _ _ _ ⟨rfl, rfl, rfl⟩ z654
    show Go _ _ _ _ _ _ _ _ _ _ _ _ _ _ _ _ _ _ _ _ _ _ _ _ [(.ref a445)] _
    refine g_astore at_172 (pc' := 174) (Ls' := #[.val (.int p1), .val (.int p2), .val (.int p3), .val (.long t1), .second, .val (.long t2), .second, .val (.long t3), .second, .val (.int ((1 : Int32) + (Int32.ofNat 0))), .val (.ref a445), .val (.ref a497), .val (.ref a549), .val (.ref a601), .val (.ref a647), .val (.ref a445), .unset]) rfl rfl rfl ?_
    refine g_aload at_174 (pc' := 176) rfl rfl rfl ?_
    refine g_iconst at_176 (pc' := 177) rfl (z := 0) rfl ?_
    refine g_aload at_177 (pc' := 179) rfl rfl rfl ?_
    have ne655 : a601 ≠ a647 := Nat.ne_of_lt (Nat.lt_of_lt_of_le ((A604.keep K610).keep K619).lt (Nat.le_of_eq g648.symm))
    have ne656 : ea641 ≠ a647 := Nat.ne_of_lt (Nat.lt_of_lt_of_le X645.lt (Nat.le_of_eq g648.symm))
    have f657 := ((((((f591.keep K598).ext E603).keep K610).keep K619).ext E649).keep Kq)
    refine go_virtual at_179 (rm_addI1 hw a601 ea641 ke642 ((0 : Int32) + (1 : Int32)) a445 a549 h653 ((((A604.keep K610).keep K619).ext E649).keep Kq) ((F615.ext E649).keep Kq (ninS ne655 nin0)) ((F616.ext E649).keep Kq (ninS ne655 nin0)) ((F617.ext E649).keep Kq (ninS ne655 nin0)) ((A618.ext E649).keep Kq (ninS ne656 nin0)) O644 ((X645.ext E649).keep Kq) (((f640.keep K619).ext E649).keep Kq) f657) (allS (List.mem_of_getElem? (i := 2) rfl) (allS (List.mem_of_getElem? (i := 1) rfl) all0)) ((((A604.keep K610).keep K619).ext E649).keep Kq) (w229 hw) (w230 hw) (w232 hw) (nf_sel (w232 hw)) (w231 hw) (w59 hw) (w233 hw) (by decide) (argsL := [(.int (0 : Int32)), (.ref a549)]) (rest := []) (lenOf pd26 rfl) rfl rfl rfl (W := 0) (Nat.le_of_ble_eq_true rfl) (by decide) (by decide) (by decide) (by decide) (pc' := 182) rfl ?_
    rintro _ h658 _ ⟨rfl, rfl, Ka⟩ hza
    show Go _ _ _ _ _ _ _ _ _ _ _ _ _ _ _ _ _ _ _ _ _ _ _ _ [] _
    refine g_aload at_182 (pc' := 184) rfl rfl rfl ?_
    have f659 := (Fq.keep Ka (ninS (Ne.symm ne655) (ninS (Ne.symm ne656) nin0)))
    have ne660 : r ≠ ea641 := Ne.symm (Nat.ne_of_lt (Nat.lt_of_lt_of_le (X645.ext E649).lt hr))
    have ne661 : r ≠ a601 := Ne.symm (Nat.ne_of_lt (Nat.lt_of_lt_of_le (((A604.keep K610).keep K619).ext E649).lt hr))
    refine go_virtual at_184 (rm_inUse1 hw a647 r a445 h658 f659 ((((f640.keep K619).ext E649).keep Kq).keep Ka) (Xr.keep Ka) (Fr.keep Ka (ninS ne661 (ninS ne660 nin0)))) all0 ((A650.keep Kq).keep Ka) (w213 hw) (w214 hw) (w216 hw) (nf_sel (w216 hw)) (w215 hw) (w114 hw) (w217 hw) (by decide) (argsL := []) (rest := []) (lenOf pd25 rfl) rfl rfl rfl (W := 0) (Nat.le_of_ble_eq_true rfl) (by decide) (by decide) (by decide) (by decide) (pc' := 187) rfl ?_
    rintro _ _ _ ⟨rfl, rfl, rfl⟩ z662
    show Go _ _ _ _ _ _ _ _ _ _ _ _ _ _ _ _ _ _ _ _ _ _ _ _ [(.ref a445)] _
    refine g_astore at_187 (pc' := 189) (Ls' := #[.val (.int p1), .val (.int p2), .val (.int p3), .val (.long t1), .second, .val (.long t2), .second, .val (.long t3), .second, .val (.int ((1 : Int32) + (Int32.ofNat 0))), .val (.ref a445), .val (.ref a497), .val (.ref a549), .val (.ref a601), .val (.ref a647), .val (.ref a445), .val (.ref a445)]) rfl rfl rfl ?_
    refine g_aload at_189 (pc' := 191) rfl rfl rfl ?_
    refine g_aload at_191 (pc' := 193) rfl rfl rfl ?_
    refine g_acmp at_193 rfl rfl (same := true) (decide_eq_true rfl) (by decide) (pc' := 196) rfl ?_
    refine g_aload at_196 (pc' := 198) rfl rfl rfl ?_
    refine g_aload at_198 (pc' := 200) rfl rfl rfl ?_
    refine g_acmp at_200 rfl rfl (same := true) (decide_eq_true rfl) (by decide) (pc' := 203) rfl ?_
    refine g_iconst at_203 (pc' := 204) rfl (z := 1) rfl ?_
    refine g_goto at_204 (pc' := 208) (by decide) (by decide) ?_
    exact go_ireturn at_208 rfl (Or.inr (Or.inl rfl)) rfl (ws' := []) all0 rfl
  · -- 1
    refine g_iadd at_7 (pc' := 8) rfl ?_
    refine g_istore at_8 (pc' := 10) (Ls' := #[.val (.int p1), .val (.int p2), .val (.int p3), .val (.long t1), .second, .val (.long t2), .second, .val (.long t3), .second, .val (.int ((1 : Int32) + (Int32.ofNat 1))), .unset, .unset, .unset, .unset, .unset, .unset, .unset]) rfl rfl ?_
    refine go_new at_10 (w1 hw) (w2 hw) (w3 hw) (by decide) (by decide) (pc' := 13) rfl ?_
    intro h663 a664 g665 E666 A667 D668
    have F669 : Fld Z h663 a664 "com/example/keyhold/keyhold/model/SigningKey" "kid" "Ljava/lang/String;" .null := D668 (Or.inr (w52 hw)) (ty := (.object "java/lang/String")) (by decide)
    have F670 : Fld Z h663 a664 "com/example/keyhold/keyhold/model/SigningKey" "secret" "[B" .null := D668 (Or.inr (w54 hw)) (ty := (.array .byte)) (by decide)
    have F671 : Fld Z h663 a664 "com/example/keyhold/keyhold/model/SigningKey" "createdAt" "J" (.long (0 : Int64)) := D668 (Or.inr (w56 hw)) (ty := .long) (by decide)
    refine g_dup at_13 (pc' := 14) rfl rfl ?_
    refine go_new at_14 (w4 hw) (w5 hw) (w6 hw) (by decide) (by decide) (pc' := 17) rfl ?_
    intro h672 a673 g674 E675 A676 D677
    have F678 : Fld Z h672 a673 "java/lang/String" "coder" "B" (.int (0 : Int32)) := D677 (Or.inr (w31 hw)) (ty := .byte) (by decide)
    have F679 : Fld Z h672 a673 "java/lang/String" "value" "[B" .null := D677 (Or.inr (w33 hw)) (ty := (.array .byte)) (by decide)
    refine g_dup at_17 (pc' := 18) rfl rfl ?_
    refine g_iconst at_18 (pc' := 19) rfl (z := 1) rfl ?_
    refine go_newarray at_19 (w7 hw) (by decide) (cap := 1) (by decide) (by decide) (by decide) (by decide) (ad := "[C") rfl (pc' := 21) rfl ?_
    intro h680 a681 k682 g683 E684 A685 X686
    have A687 : Arv Z h680 a681 k682 .char (1 : Int32) [.int 0] (.int 0) := Arv.pad A685 (pad_rep [] (.int 0) 1)
    refine g_dup at_21 (pc' := 22) rfl rfl ?_
    refine g_iconst at_22 (pc' := 23) rfl (z := 0) rfl ?_
    refine g_iloadN at_23 (pc' := 24) rfl rfl ?_
    refine g_sipush at_24 (pc' := 27) rfl (z := 255) rfl ?_
    refine g_iand at_27 (pc' := 28) rfl ?_
    refine g_i2c at_28 (pc' := 29) rfl ?_
    refine go_castore 0 at_29 A687 ⟨by decide, by decide⟩ rfl (Nat.le_of_ble_eq_true rfl) (x' := (((p2 &&& (255 : Int32))).toUInt32.toUInt16.toUInt32.toInt32)) (nar_i2c _) (List.mem_of_getElem? (i := 0) rfl) (pc' := 30) rfl ?_
    intro h688 W689 A690
    have ne691 : a673 ≠ a681 := Nat.ne_of_lt (Nat.lt_of_lt_of_le A676.lt (Nat.le_of_eq g683.symm))
    refine go_special at_30 (rm_initC hw [(((p2 &&& (255 : Int32))).toUInt32.toUInt16.toUInt32.toInt32)] a673 a681 _ _ _ co [a681, a664] h688 (Nat.le_of_ble_eq_true rfl) (Nat.le_of_ble_eq_true rfl) (Byt.lat (Byt.cons (byt255 _) Byt.nil)) (Exa.wr W689 (A676.ext E684)) (Fld.other W689 (F679.ext E684) (Or.inl ne691)) (Fld.other W689 (F678.ext E684) (Or.inl ne691)) A690 Sc hco) (allS (List.mem_of_getElem? (i := 1) rfl) (allS (List.mem_of_getElem? (i := 0) rfl) (allS (List.mem_of_getElem? (i := 2) rfl) all0))) rfl (w8 hw) (w9 hw) (w6 hw) (w10 hw) (by decide) (argsL := [(.ref a681)]) (rest := [(.ref a673), (.ref a664), (.ref a664)]) (lenOf pd21 rfl) rfl rfl rfl (W := 3) (Nat.le_of_ble_eq_true rfl) (by decide) (by decide) (by decide) (by decide) (pc' := 33) rfl ?_
    rintro _ h692 _ ⟨rfl, b693, rfl, K694, L695, N696⟩ z697
    show Go _ _ _ _ _ _ _ _ _ _ _ _ _ _ _ _ _ _ _ _ _ _ _ _ [(.ref a673), (.ref a664), (.ref a664)] _
    refine g_iconst at_33 (pc' := 34) rfl (z := 0) rfl ?_
    refine go_newarray at_34 (w23 hw) (by decide) (cap := 0) (by decide) (by decide) (by decide) (by decide) (ad := "[B") rfl (pc' := 36) rfl ?_
    intro h698 a699 k700 g701 E702 A703 X704
    have A705 : Arv Z h698 a699 k700 .byte (0 : Int32) [] (.int 0) := Arv.pad A703 (pad_rep [] (.int 0) 0)
    refine g_lloadN at_36 (pc' := 37) rfl rfl ?_
    have f706 := (((Exa.wr W689 ((A667.ext E675).ext E684)).keep K694).ext E702)
    have ne707 : a664 ≠ a681 := Nat.ne_of_lt (Nat.lt_of_lt_of_le (A667.ext E675).lt (Nat.le_of_eq g683.symm))
    have ne708 : a664 ≠ a673 := Nat.ne_of_lt (Nat.lt_of_lt_of_le A667.lt (Nat.le_of_eq g674.symm))
    have f709 := (((Fld.other W689 ((F669.ext E675).ext E684) (Or.inl ne707)).keep K694 (ninS ne708 nin0)).ext E702)
    have f710 := (((Fld.other W689 ((F670.ext E675).ext E684) (Or.inl ne707)).keep K694 (ninS ne708 nin0)).ext E702)
    have f711 := (((Fld.other W689 ((F671.ext E675).ext E684) (Or.inl ne707)).keep K694 (ninS ne708 nin0)).ext E702)
    refine go_special at_37 (rm_key hw a664 a673 a699 t1 _ _ _ h698 f706 f709 f710 f711) (allS (List.mem_of_getElem? (i := 3) rfl) all0) rfl (w34 hw) (w35 hw) (w3 hw) (w36 hw) (by decide) (argsL := [(.ref a673), (.ref a699), (.long t1)]) (rest := [(.ref a664)]) (lenOf pd22 rfl) rfl rfl rfl (W := 1) (Nat.le_of_ble_eq_true rfl) (by decide) (by decide) (by decide) (by decide) (pc' := 40) rfl ?_
    rintro _ h712 _ ⟨rfl, rfl, K713⟩ z714
    show Go _ _ _ _ _ _ _ _ _ _ _ _ _ _ _ _ _ _ _ _ _ _ _ _ [(.ref a664)] _
    refine g_astore at_40 (pc' := 42) (Ls' := #[.val (.int p1), .val (.int p2), .val (.int p3), .val (.long t1), .second, .val (.long t2), .second, .val (.long t3), .second, .val (.int ((1 : Int32) + (Int32.ofNat 1))), .val (.ref a664), .unset, .unset, .unset, .unset, .unset, .unset]) rfl rfl rfl ?_
    refine go_new at_42 (w1 hw) (w2 hw) (w3 hw) (by decide) (by decide) (pc' := 45) rfl ?_
    intro h715 a716 g717 E718 A719 D720
    have F721 : Fld Z h715 a716 "com/example/keyhold/keyhold/model/SigningKey" "kid" "Ljava/lang/String;" .null := D720 (Or.inr (w52 hw)) (ty := (.object "java/lang/String")) (by decide)
    have F722 : Fld Z h715 a716 "com/example/keyhold/keyhold/model/SigningKey" "secret" "[B" .null := D720 (Or.inr (w54 hw)) (ty := (.array .byte)) (by decide)
    have F723 : Fld Z h715 a716 "com/example/keyhold/keyhold/model/SigningKey" "createdAt" "J" (.long (0 : Int64)) := D720 (Or.inr (w56 hw)) (ty := .long) (by decide)
    refine g_dup at_45 (pc' := 46) rfl rfl ?_
    refine go_new at_46 (w4 hw) (w5 hw) (w6 hw) (by decide) (by decide) (pc' := 49) rfl ?_
    intro h724 a725 g726 E727 A728 D729
    have F730 : Fld Z h724 a725 "java/lang/String" "coder" "B" (.int (0 : Int32)) := D729 (Or.inr (w31 hw)) (ty := .byte) (by decide)
    have F731 : Fld Z h724 a725 "java/lang/String" "value" "[B" .null := D729 (Or.inr (w33 hw)) (ty := (.array .byte)) (by decide)
    refine g_dup at_49 (pc' := 50) rfl rfl ?_
    refine g_iconst at_50 (pc' := 51) rfl (z := 1) rfl ?_
    refine go_newarray at_51 (w7 hw) (by decide) (cap := 1) (by decide) (by decide) (by decide) (by decide) (ad := "[C") rfl (pc' := 53) rfl ?_
    intro h732 a733 k734 g735 E736 A737 X738
    have A739 : Arv Z h732 a733 k734 .char (1 : Int32) [.int 0] (.int 0) := Arv.pad A737 (pad_rep [] (.int 0) 1)
    refine g_dup at_53 (pc' := 54) rfl rfl ?_
    refine g_iconst at_54 (pc' := 55) rfl (z := 0) rfl ?_
    refine g_iloadN at_55 (pc' := 56) rfl rfl ?_
    refine g_sipush at_56 (pc' := 59) rfl (z := 255) rfl ?_
    refine g_iand at_59 (pc' := 60) rfl ?_
    refine g_i2c at_60 (pc' := 61) rfl ?_
    refine go_castore 0 at_61 A739 ⟨by decide, by decide⟩ rfl (Nat.le_of_ble_eq_true rfl) (x' := (((p3 &&& (255 : Int32))).toUInt32.toUInt16.toUInt32.toInt32)) (nar_i2c _) (List.mem_of_getElem? (i := 0) rfl) (pc' := 62) rfl ?_
    intro h740 W741 A742
    have ne743 : a725 ≠ a733 := Nat.ne_of_lt (Nat.lt_of_lt_of_le A728.lt (Nat.le_of_eq g735.symm))
    refine go_special at_62 (rm_initC hw [(((p3 &&& (255 : Int32))).toUInt32.toUInt16.toUInt32.toInt32)] a725 a733 _ _ _ co [a733, a716, a699, a681, a673, a664] h740 (Nat.le_of_ble_eq_true rfl) (Nat.le_of_ble_eq_true rfl) (Byt.lat (Byt.cons (byt255 _) Byt.nil)) (Exa.wr W741 (A728.ext E736)) (Fld.other W741 (F731.ext E736) (Or.inl ne743)) (Fld.other W741 (F730.ext E736) (Or.inl ne743)) A742 Sc hco) (allS (List.mem_of_getElem? (i := 1) rfl) (allS (List.mem_of_getElem? (i := 0) rfl) (allS (List.mem_of_getElem? (i := 2) rfl) (allS (List.mem_of_getElem? (i := 3) rfl) (allS (List.mem_of_getElem? (i := 4) rfl) (allS (List.mem_of_getElem? (i := 5) rfl) (allS (List.mem_of_getElem? (i := 6) rfl) all0))))))) rfl (w8 hw) (w9 hw) (w6 hw) (w10 hw) (by decide) (argsL := [(.ref a733)]) (rest := [(.ref a725), (.ref a716), (.ref a716)]) (lenOf pd21 rfl) rfl rfl rfl (W := 3) (Nat.le_of_ble_eq_true rfl) (by decide) (by decide) (by decide) (by decide) (pc' := 65) rfl ?_
    rintro _ h744 _ ⟨rfl, b745, rfl, K746, L747, N748⟩ z749
    show Go _ _ _ _ _ _ _ _ _ _ _ _ _ _ _ _ _ _ _ _ _ _ _ _ [(.ref a725), (.ref a716), (.ref a716)] _
    refine g_iconst at_65 (pc' := 66) rfl (z := 0) rfl ?_
    refine go_newarray at_66 (w23 hw) (by decide) (cap := 0) (by decide) (by decide) (by decide) (by decide) (ad := "[B") rfl (pc' := 68) rfl ?_
    intro h750 a751 k752 g753 E754 A755 X756
    have A757 : Arv Z h750 a751 k752 .byte (0 : Int32) [] (.int 0) := Arv.pad A755 (pad_rep [] (.int 0) 0)
    refine g_lload at_68 (pc' := 70) rfl rfl ?_
    have f758 := (((Exa.wr W741 ((A719.ext E727).ext E736)).keep K746).ext E754)
    have ne759 : a716 ≠ a733 := Nat.ne_of_lt (Nat.lt_of_lt_of_le (A719.ext E727).lt (Nat.le_of_eq g735.symm))
    have ne760 : a716 ≠ a725 := Nat.ne_of_lt (Nat.lt_of_lt_of_le A719.lt (Nat.le_of_eq g726.symm))
    have f761 := (((Fld.other W741 ((F721.ext E727).ext E736) (Or.inl ne759)).keep K746 (ninS ne760 nin0)).ext E754)
    have f762 := (((Fld.other W741 ((F722.ext E727).ext E736) (Or.inl ne759)).keep K746 (ninS ne760 nin0)).ext E754)
    have f763 := (((Fld.other W741 ((F723.ext E727).ext E736) (Or.inl ne759)).keep K746 (ninS ne760 nin0)).ext E754)
    refine go_special at_70 (rm_key hw a716 a725 a751 t2 _ _ _ h750 f758 f761 f762 f763) (allS (List.mem_of_getElem? (i := 3) rfl) all0) rfl (w34 hw) (w35 hw) (w3 hw) (w36 hw) (by decide) (argsL := [(.ref a725), (.ref a751), (.long t2)]) (rest := [(.ref a716)]) (lenOf pd22 rfl) rfl rfl rfl (W := 1) (Nat.le_of_ble_eq_true rfl) (by decide) (by decide) (by decide) (by decide) (pc' := 73) rfl ?_
    rintro _ h764 _ ⟨rfl, rfl, K765⟩ z766
    show Go _ _ _ _ _ _ _ _ _ _ _ _ _ _ _ _ _ _ _ _ _ _ _ _ [(.ref a716)] _
    refine g_astore at_73 (pc' := 75) (Ls' := #[.val (.int p1), .val (.int p2), .val (.int p3), .val (.long t1), .second, .val (.long t2), .second, .val (.long t3), .second, .val (.int ((1 : Int32) + (Int32.ofNat 1))), .val (.ref a664), .val (.ref a716), .unset, .unset, .unset, .unset, .unset]) rfl rfl rfl ?_
    refine go_new at_75 (w1 hw) (w2 hw) (w3 hw) (by decide) (by decide) (pc' := 78) rfl ?_
    intro h767 a768 g769 E770 A771 D772
    have F773 : Fld Z h767 a768 "com/example/keyhold/keyhold/model/SigningKey" "kid" "Ljava/lang/String;" .null := D772 (Or.inr (w52 hw)) (ty := (.object "java/lang/String")) (by decide)
    have F774 : Fld Z h767 a768 "com/example/keyhold/keyhold/model/SigningKey" "secret" "[B" .null := D772 (Or.inr (w54 hw)) (ty := (.array .byte)) (by decide)
    have F775 : Fld Z h767 a768 "com/example/keyhold/keyhold/model/SigningKey" "createdAt" "J" (.long (0 : Int64)) := D772 (Or.inr (w56 hw)) (ty := .long) (by decide)
    refine g_dup at_78 (pc' := 79) rfl rfl ?_
    refine go_new at_79 (w4 hw) (w5 hw) (w6 hw) (by decide) (by decide) (pc' := 82) rfl ?_
    intro h776 a777 g778 E779 A780 D781
    have F782 : Fld Z h776 a777 "java/lang/String" "coder" "B" (.int (0 : Int32)) := D781 (Or.inr (w31 hw)) (ty := .byte) (by decide)
    have F783 : Fld Z h776 a777 "java/lang/String" "value" "[B" .null := D781 (Or.inr (w33 hw)) (ty := (.array .byte)) (by decide)
    refine g_dup at_82 (pc' := 83) rfl rfl ?_
    refine g_iconst at_83 (pc' := 84) rfl (z := 1) rfl ?_
    refine go_newarray at_84 (w7 hw) (by decide) (cap := 1) (by decide) (by decide) (by decide) (by decide) (ad := "[C") rfl (pc' := 86) rfl ?_
    intro h784 a785 k786 g787 E788 A789 X790
    have A791 : Arv Z h784 a785 k786 .char (1 : Int32) [.int 0] (.int 0) := Arv.pad A789 (pad_rep [] (.int 0) 1)
    refine g_dup at_86 (pc' := 87) rfl rfl ?_
    refine g_iconst at_87 (pc' := 88) rfl (z := 0) rfl ?_
    refine g_iloadN at_88 (pc' := 89) rfl rfl ?_
    refine g_bipush at_89 (pc' := 91) rfl (z := 8) rfl ?_
    refine g_iushr at_91 (pc' := 92) rfl ?_
    refine g_sipush at_92 (pc' := 95) rfl (z := 255) rfl ?_
    refine g_iand at_95 (pc' := 96) rfl ?_
    refine g_i2c at_96 (pc' := 97) rfl ?_
    refine go_castore 0 at_97 A791 ⟨by decide, by decide⟩ rfl (Nat.le_of_ble_eq_true rfl) (x' := ((((((p2).toUInt32 >>> (((8 : Int32) &&& 31)).toUInt32).toInt32) &&& (255 : Int32))).toUInt32.toUInt16.toUInt32.toInt32)) (nar_i2c _) (List.mem_of_getElem? (i := 0) rfl) (pc' := 98) rfl ?_
    intro h792 W793 A794
    have ne795 : a777 ≠ a785 := Nat.ne_of_lt (Nat.lt_of_lt_of_le A780.lt (Nat.le_of_eq g787.symm))
    refine go_special at_98 (rm_initC hw [((((((p2).toUInt32 >>> (((8 : Int32) &&& 31)).toUInt32).toInt32) &&& (255 : Int32))).toUInt32.toUInt16.toUInt32.toInt32)] a777 a785 _ _ _ co [a785, a768, a751, a733, a725, a716, a699, a681, a673, a664] h792 (Nat.le_of_ble_eq_true rfl) (Nat.le_of_ble_eq_true rfl) (Byt.lat (Byt.cons (byt255 _) Byt.nil)) (Exa.wr W793 (A780.ext E788)) (Fld.other W793 (F783.ext E788) (Or.inl ne795)) (Fld.other W793 (F782.ext E788) (Or.inl ne795)) A794 Sc hco) (allS (List.mem_of_getElem? (i := 1) rfl) (allS (List.mem_of_getElem? (i := 0) rfl) (allS (List.mem_of_getElem? (i := 2) rfl) (allS (List.mem_of_getElem? (i := 3) rfl) (allS (List.mem_of_getElem? (i := 4) rfl) (allS (List.mem_of_getElem? (i := 5) rfl) (allS (List.mem_of_getElem? (i := 6) rfl) (allS (List.mem_of_getElem? (i := 7) rfl) (allS (List.mem_of_getElem? (i := 8) rfl) (allS (List.mem_of_getElem? (i := 9) rfl) (allS (List.mem_of_getElem? (i := 10) rfl) all0))))))))))) rfl (w8 hw) (w9 hw) (w6 hw) (w10 hw) (by decide) (argsL := [(.ref a785)]) (rest := [(.ref a777), (.ref a768), (.ref a768)]) (lenOf pd21 rfl) rfl rfl rfl (W := 3) (Nat.le_of_ble_eq_true rfl) (by decide) (by decide) (by decide) (by decide) (pc' := 101) rfl ?_
    rintro _ h796 _ ⟨rfl, b797, rfl, K798, L799, N800⟩ z801
    show Go _ _ _ _ _ _ _ _ _ _ _ _ _ _ _ _ _ _ _ _ _ _ _ _ [(.ref a777), (.ref a768), (.ref a768)] _
    refine g_iconst at_101 (pc' := 102) rfl (z := 0) rfl ?_
    refine go_newarray at_102 (w23 hw) (by decide) (cap := 0) (by decide) (by decide) (by decide) (by decide) (ad := "[B") rfl (pc' := 104) rfl ?_
    intro h802 a803 k804 g805 E806 A807 X808
    have A809 : Arv Z h802 a803 k804 .byte (0 : Int32) [] (.int 0) := Arv.pad A807 (pad_rep [] (.int 0) 0)
    refine g_lload at_104 (pc' := 106) rfl rfl ?_
    have f810 := (((Exa.wr W793 ((A771.ext E779).ext E788)).keep K798).ext E806)
    have ne811 : a768 ≠ a785 := Nat.ne_of_lt (Nat.lt_of_lt_of_le (A771.ext E779).lt (Nat.le_of_eq g787.symm))
    have ne812 : a768 ≠ a777 := Nat.ne_of_lt (Nat.lt_of_lt_of_le A771.lt (Nat.le_of_eq g778.symm))
    have f813 := (((Fld.other W793 ((F773.ext E779).ext E788) (Or.inl ne811)).keep K798 (ninS ne812 nin0)).ext E806)
    have f814 := (((Fld.other W793 ((F774.ext E779).ext E788) (Or.inl ne811)).keep K798 (ninS ne812 nin0)).ext E806)
    have f815 := (((Fld.other W793 ((F775.ext E779).ext E788) (Or.inl ne811)).keep K798 (ninS ne812 nin0)).ext E806)
    refine go_special at_106 (rm_key hw a768 a777 a803 t3 _ _ _ h802 f810 f813 f814 f815) (allS (List.mem_of_getElem? (i := 3) rfl) all0) rfl (w34 hw) (w35 hw) (w3 hw) (w36 hw) (by decide) (argsL := [(.ref a777), (.ref a803), (.long t3)]) (rest := [(.ref a768)]) (lenOf pd22 rfl) rfl rfl rfl (W := 1) (Nat.le_of_ble_eq_true rfl) (by decide) (by decide) (by decide) (by decide) (pc' := 109) rfl ?_
    rintro _ h816 _ ⟨rfl, rfl, K817⟩ z818
    show Go _ _ _ _ _ _ _ _ _ _ _ _ _ _ _ _ _ _ _ _ _ _ _ _ [(.ref a768)] _
    refine g_astore at_109 (pc' := 111) (Ls' := #[.val (.int p1), .val (.int p2), .val (.int p3), .val (.long t1), .second, .val (.long t2), .second, .val (.long t3), .second, .val (.int ((1 : Int32) + (Int32.ofNat 1))), .val (.ref a664), .val (.ref a716), .val (.ref a768), .unset, .unset, .unset, .unset]) rfl rfl rfl ?_
    refine go_new at_111 (w57 hw) (w58 hw) (w59 hw) (by decide) (by decide) (pc' := 114) rfl ?_
    intro h819 a820 g821 E822 A823 D824
    have F825 : Fld Z h819 a820 "java/util/AbstractList" "modCount" "I" (.int (0 : Int32)) := D824 (Or.inl (w77 hw)) (ty := .int) (by decide)
    have F826 : Fld Z h819 a820 "java/util/ArrayList" "elementData" "[Ljava/lang/Object;" .null := D824 (Or.inl (w80 hw)) (ty := (.array (.object "java/lang/Object"))) (by decide)
    have F827 : Fld Z h819 a820 "java/util/ArrayList" "size" "I" (.int (0 : Int32)) := D824 (Or.inl (w89 hw)) (ty := .int) (by decide)
    refine g_dup at_114 (pc' := 115) rfl rfl ?_
    refine go_special at_115 (rm_alInit hw a820 de _ _ h819 A823 F825 F826 F827 Sd) (allS (List.mem_of_getElem? (i := 0) rfl) all0) rfl (w60 hw) (w61 hw) (w59 hw) (w62 hw) (by decide) (argsL := []) (rest := [(.ref a820)]) (lenOf pd4 rfl) rfl rfl rfl (W := 1) (Nat.le_of_ble_eq_true rfl) (by decide) (by decide) (by decide) (by decide) (pc' := 118) rfl ?_
    rintro _ h828 _ ⟨rfl, rfl, K829, F830, F831, F832⟩ z833
    show Go _ _ _ _ _ _ _ _ _ _ _ _ _ _ _ _ _ _ _ _ _ _ _ _ [(.ref a820)] _
    refine g_astore at_118 (pc' := 120) (Ls' := #[.val (.int p1), .val (.int p2), .val (.int p3), .val (.long t1), .second, .val (.long t2), .second, .val (.long t3), .second, .val (.int ((1 : Int32) + (Int32.ofNat 1))), .val (.ref a664), .val (.ref a716), .val (.ref a768), .val (.ref a820), .unset, .unset, .unset]) rfl rfl rfl ?_
    refine g_aload at_120 (pc' := 122) rfl rfl rfl ?_
    refine g_aload at_122 (pc' := 124) rfl rfl rfl ?_
    have ne841 : de ≠ a681 := Nat.ne_of_lt (Nat.lt_of_lt_of_le (((Ad.ext EX).ext E666).ext E675).lt (Nat.le_of_eq g683.symm))
    have ne842 : de ≠ a673 := Nat.ne_of_lt (Nat.lt_of_lt_of_le ((Ad.ext EX).ext E666).lt (Nat.le_of_eq g674.symm))
    have ne843 : de ≠ a664 := Nat.ne_of_lt (Nat.lt_of_lt_of_le (Ad.ext EX).lt (Nat.le_of_eq g665.symm))
    have f844 := ((((((((((Ad.ext EX).ext E666).ext E675).ext E684).other W689 ne841).keep K694 (ninS ne842 nin0)).ext E702).keep K713 (ninS ne843 nin0)).ext E718).ext E727)
    have ne845 : de ≠ a733 := Nat.ne_of_lt (Nat.lt_of_lt_of_le f844.lt (Nat.le_of_eq g735.symm))
    have f846 := (((((((((Ad.ext EX).ext E666).ext E675).ext E684).other W689 ne841).keep K694 (ninS ne842 nin0)).ext E702).keep K713 (ninS ne843 nin0)).ext E718)
    have ne847 : de ≠ a725 := Nat.ne_of_lt (Nat.lt_of_lt_of_le f846.lt (Nat.le_of_eq g726.symm))
    have f848 := ((((((((Ad.ext EX).ext E666).ext E675).ext E684).other W689 ne841).keep K694 (ninS ne842 nin0)).ext E702).keep K713 (ninS ne843 nin0))
    have ne849 : de ≠ a716 := Nat.ne_of_lt (Nat.lt_of_lt_of_le f848.lt (Nat.le_of_eq g717.symm))
    have f850 := (((((((((f848.ext E718).ext E727).ext E736).other W741 ne845).keep K746 (ninS ne847 nin0)).ext E754).keep K765 (ninS ne849 nin0)).ext E770).ext E779)
    have ne851 : de ≠ a785 := Nat.ne_of_lt (Nat.lt_of_lt_of_le f850.lt (Nat.le_of_eq g787.symm))
    have f852 := ((((((((f848.ext E718).ext E727).ext E736).other W741 ne845).keep K746 (ninS ne847 nin0)).ext E754).keep K765 (ninS ne849 nin0)).ext E770)
    have ne853 : de ≠ a777 := Nat.ne_of_lt (Nat.lt_of_lt_of_le f852.lt (Nat.le_of_eq g778.symm))
    have f854 := (((((((f848.ext E718).ext E727).ext E736).other W741 ne845).keep K746 (ninS ne847 nin0)).ext E754).keep K765 (ninS ne849 nin0))
    have ne855 : de ≠ a768 := Nat.ne_of_lt (Nat.lt_of_lt_of_le f854.lt (Nat.le_of_eq g769.symm))
    have f856 := (((((((f854.ext E770).ext E779).ext E788).other W793 ne851).keep K798 (ninS ne853 nin0)).ext E806).keep K817 (ninS ne855 nin0))
    have ne857 : de ≠ a820 := Nat.ne_of_lt (Nat.lt_of_lt_of_le f856.lt (Nat.le_of_eq g821.symm))
    have f858 := ((((((((((((((((((((((((Ad.ext EX).ext E666).ext E675).ext E684).other W689 ne841).keep K694 (ninS ne842 nin0)).ext E702).keep K713 (ninS ne843 nin0)).ext E718).ext E727).ext E736).other W741 ne845).keep K746 (ninS ne847 nin0)).ext E754).keep K765 (ninS ne849 nin0)).ext E770).ext E779).ext E788).other W793 ne851).keep K798 (ninS ne853 nin0)).ext E806).keep K817 (ninS ne855 nin0)).ext E822).keep K829 (ninS ne857 nin0))
    have f859 := ((((((Exa.wr W793 (((((((Exa.wr W741 ((((f706.keep K713).ext E718).ext E727).ext E736)).keep K746).ext E754).keep K765).ext E770).ext E779).ext E788)).keep K798).ext E806).keep K817).ext E822).keep K829)
    refine go_virtual at_124 (rm_add_0 hw a820 de kd (0 : Int32) a664 h828 (A823.keep K829) F830 F831 F832 f858 Sd f859) (allS (List.mem_of_getElem? (i := 0) rfl) all0) (A823.keep K829) (w81 hw) (w82 hw) (w84 hw) (nf_sel (w84 hw)) (w83 hw) (w59 hw) (w85 hw) (by decide) (argsL := [(.ref a664)]) (rest := []) (lenOf pd23 rfl) rfl rfl rfl (W := 0) (Nat.le_of_ble_eq_true rfl) (by decide) (by decide) (by decide) (by decide) (pc' := 127) rfl ?_
    rintro _ h840 _ ⟨rfl, ea860, ke861, rfl, he862, K838, F834, F835, F836, A837, O863, X864⟩ z839
    show Go _ _ _ _ _ _ _ _ _ _ _ _ _ _ _ _ _ _ _ _ _ _ _ _ [(.int (1 : Int32))] _
    refine g_pop at_127 (pc' := 128) rfl rfl ?_
    refine g_iload at_128 (pc' := 130) rfl rfl ?_
    refine g_iconst at_130 (pc' := 131) rfl (z := 2) rfl ?_
    refine g_icmpNo at_131 (pc' := 134) rfl (flt (by decide : ¬ (((1 : Int32) + (Int32.ofNat 1)) < (2 : Int32)))).1 ?_
    refine g_aload at_134 (pc' := 136) rfl rfl rfl ?_
    refine g_aload at_136 (pc' := 138) rfl rfl rfl ?_
    have f872 := (((((((Exa.wr W793 ((((f758.keep K765).ext E770).ext E779).ext E788)).keep K798).ext E806).keep K817).ext E822).keep K829).keep K838)
    refine go_virtual at_138 (rm_add_1 hw a820 ea860 ke861 ((0 : Int32) + (1 : Int32)) a664 a716 h840 ((A823.keep K829).keep K838) F834 F835 F836 A837 O863 X864 f872) (allS (List.mem_of_getElem? (i := 1) rfl) (allS (List.mem_of_getElem? (i := 0) rfl) all0)) ((A823.keep K829).keep K838) (w81 hw) (w82 hw) (w84 hw) (nf_sel (w84 hw)) (w83 hw) (w59 hw) (w85 hw) (by decide) (argsL := [(.ref a716)]) (rest := []) (lenOf pd23 rfl) rfl rfl rfl (W := 0) (Nat.le_of_ble_eq_true rfl) (by decide) (by decide) (by decide) (by decide) (pc' := 141) rfl ?_
    rintro _ h871 _ ⟨rfl, rfl, K869, F865, F866, F867, A868⟩ z870
    show Go _ _ _ _ _ _ _ _ _ _ _ _ _ _ _ _ _ _ _ _ _ _ _ _ [(.int (1 : Int32))] _
    refine g_pop at_141 (pc' := 142) rfl rfl ?_
    refine g_iload at_142 (pc' := 144) rfl rfl ?_
    refine g_iconst at_144 (pc' := 145) rfl (z := 3) rfl ?_
    refine g_icmpYes at_145 (pc' := 156) (tlt (by decide : ((1 : Int32) + (Int32.ofNat 1)) < (3 : Int32))).1 (by decide) (by decide) ?_
    refine go_new at_156 (w112 hw) (w113 hw) (w114 hw) (by decide) (by decide) (pc' := 159) rfl ?_
    intro h873 a874 g875 E876 A877 D878
    have F879 : Fld Z h873 a874 "com/example/keyhold/keyhold/model/KeyRing" "keys" "Ljava/util/List;" .null := D878 (Or.inr (w212 hw)) (ty := (.object "java/util/List")) (by decide)
    refine g_dup at_159 (pc' := 160) rfl rfl ?_
    refine g_aload at_160 (pc' := 162) rfl rfl rfl ?_
    refine go_special at_162 (rm_ring2 hw a820 ea860 ke861 (((0 : Int32) + (1 : Int32)) + (1 : Int32)) a664 a716 a874 mo em _ h873 ((((A823.keep K829).keep K838).keep K869).ext E876) (F865.ext E876) (F866.ext E876) (F867.ext E876) (A868.ext E876) O863 ((X864.keep K869).ext E876) Mo Se (((f859.keep K838).keep K869).ext E876) ((f872.keep K869).ext E876) A877 F879) (allS (List.mem_of_getElem? (i := 0) rfl) all0) rfl (w115 hw) (w116 hw) (w114 hw) (w117 hw) (by decide) (argsL := [(.ref a820)]) (rest := [(.ref a874)]) (lenOf pd24 rfl) rfl rfl rfl (W := 1) (Nat.le_of_ble_eq_true rfl) (by decide) (by decide) (by decide) (by decide) (pc' := 165) rfl ?_
    rintro _ h880 _ ⟨rfl, rfl, Kq, r, hr, Xr, Fr, Fq⟩ hzq
    show Go _ _ _ _ _ _ _ _ _ _ _ _ _ _ _ _ _ _ _ _ _ _ _ _ [(.ref a874)] _
    refine g_astore at_165 (pc' := 167) (Ls' := #[.val (.int p1), .val (.int p2), .val (.int p3), .val (.long t1), .second, .val (.long t2), .second, .val (.long t3), .second, .val (.int ((1 : Int32) + (Int32.ofNat 1))), .val (.ref a664), .val (.ref a716), .val (.ref a768), .val (.ref a820), .val (.ref a874), .unset, .unset]) rfl rfl rfl ?_
    refine g_aload at_167 (pc' := 169) rfl rfl rfl ?_
    refine go_virtual at_169 (rm_inUse1 hw a874 r a664 h880 Fq ((((f859.keep K838).keep K869).ext E876).keep Kq) Xr Fr) all0 (A877.keep Kq) (w213 hw) (w214 hw) (w216 hw) (nf_sel (w216 hw)) (w215 hw) (w114 hw) (w217 hw) (by decide) (argsL := []) (rest := []) (lenOf pd25 rfl) rfl rfl rfl (W := 0) (Nat.le_of_ble_eq_true rfl) (by decide) (by decide) (by decide) (by decide) (pc' := 172) rfl ?_
    rintro _ _ _ ⟨rfl, rfl, rfl⟩ z881
    show Go _ _ _ _ _ _ _ _ _ _ _ _ _ _ _ _ _ _ _ _ _ _ _ _ [(.ref a664)] _
    refine g_astore at_172 (pc' := 174) (Ls' := #[.val (.int p1), .val (.int p2), .val (.int p3), .val (.long t1), .second, .val (.long t2), .second, .val (.long t3), .second, .val (.int ((1 : Int32) + (Int32.ofNat 1))), .val (.ref a664), .val (.ref a716), .val (.ref a768), .val (.ref a820), .val (.ref a874), .val (.ref a664), .unset]) rfl rfl rfl ?_
    refine g_aload at_174 (pc' := 176) rfl rfl rfl ?_
    refine g_iconst at_176 (pc' := 177) rfl (z := 0) rfl ?_
    refine g_aload at_177 (pc' := 179) rfl rfl rfl ?_
    have ne882 : a820 ≠ a874 := Nat.ne_of_lt (Nat.lt_of_lt_of_le (((A823.keep K829).keep K838).keep K869).lt (Nat.le_of_eq g875.symm))
    have ne883 : ea860 ≠ a874 := Nat.ne_of_lt (Nat.lt_of_lt_of_le (X864.keep K869).lt (Nat.le_of_eq g875.symm))
    have f884 := (((((A823.keep K829).keep K838).keep K869).ext E876).keep Kq)
    have f885 := (((((((f810.keep K817).ext E822).keep K829).keep K838).keep K869).ext E876).keep Kq)
    refine go_virtual at_179 (rm_addI2 hw a820 ea860 ke861 (((0 : Int32) + (1 : Int32)) + (1 : Int32)) a664 a716 a768 h880 f884 ((F865.ext E876).keep Kq (ninS ne882 nin0)) ((F866.ext E876).keep Kq (ninS ne882 nin0)) ((F867.ext E876).keep Kq (ninS ne882 nin0)) ((A868.ext E876).keep Kq (ninS ne883 nin0)) O863 (((X864.keep K869).ext E876).keep Kq) ((((f859.keep K838).keep K869).ext E876).keep Kq) (((f872.keep K869).ext E876).keep Kq) f885) (allS (List.mem_of_getElem? (i := 2) rfl) (allS (List.mem_of_getElem? (i := 1) rfl) all0)) f884 (w229 hw) (w230 hw) (w232 hw) (nf_sel (w232 hw)) (w231 hw) (w59 hw) (w233 hw) (by decide) (argsL := [(.int (0 : Int32)), (.ref a768)]) (rest := []) (lenOf pd26 rfl) rfl rfl rfl (W := 0) (Nat.le_of_ble_eq_true rfl) (by decide) (by decide) (by decide) (by decide) (pc' := 182) rfl ?_
    rintro _ h886 _ ⟨rfl, rfl, Ka⟩ hza
    show Go _ _ _ _ _ _ _ _ _ _ _ _ _ _ _ _ _ _ _ _ _ _ _ _ [] _
    refine g_aload at_182 (pc' := 184) rfl rfl rfl ?_
    have f887 := (Fq.keep Ka (ninS (Ne.symm ne882) (ninS (Ne.symm ne883) nin0)))
    have ne888 : r ≠ ea860 := Ne.symm (Nat.ne_of_lt (Nat.lt_of_lt_of_le ((X864.keep K869).ext E876).lt hr))
    have ne889 : r ≠ a820 := Ne.symm (Nat.ne_of_lt (Nat.lt_of_lt_of_le ((((A823.keep K829).keep K838).keep K869).ext E876).lt hr))
    refine go_virtual at_184 (rm_inUse1 hw a874 r a664 h886 f887 (((((f859.keep K838).keep K869).ext E876).keep Kq).keep Ka) (Xr.keep Ka) (Fr.keep Ka (ninS ne889 (ninS ne888 nin0)))) all0 ((A877.keep Kq).keep Ka) (w213 hw) (w214 hw) (w216 hw) (nf_sel (w216 hw)) (w215 hw) (w114 hw) (w217 hw) (by decide) (argsL := []) (rest := []) (lenOf pd25 rfl) rfl rfl rfl (W := 0) (Nat.le_of_ble_eq_true rfl) (by decide) (by decide) (by decide) (by decide) (pc' := 187) rfl ?_
    rintro _ _ _ ⟨rfl, rfl, rfl⟩ z890
    show Go _ _ _ _ _ _ _ _ _ _ _ _ _ _ _ _ _ _ _ _ _ _ _ _ [(.ref a664)] _
    refine g_astore at_187 (pc' := 189) (Ls' := #[.val (.int p1), .val (.int p2), .val (.int p3), .val (.long t1), .second, .val (.long t2), .second, .val (.long t3), .second, .val (.int ((1 : Int32) + (Int32.ofNat 1))), .val (.ref a664), .val (.ref a716), .val (.ref a768), .val (.ref a820), .val (.ref a874), .val (.ref a664), .val (.ref a664)]) rfl rfl rfl ?_
    refine g_aload at_189 (pc' := 191) rfl rfl rfl ?_
    refine g_aload at_191 (pc' := 193) rfl rfl rfl ?_
    refine g_acmp at_193 rfl rfl (same := true) (decide_eq_true rfl) (by decide) (pc' := 196) rfl ?_
    refine g_aload at_196 (pc' := 198) rfl rfl rfl ?_
    refine g_aload at_198 (pc' := 200) rfl rfl rfl ?_
    refine g_acmp at_200 rfl rfl (same := true) (decide_eq_true rfl) (by decide) (pc' := 203) rfl ?_
    refine g_iconst at_203 (pc' := 204) rfl (z := 1) rfl ?_
    refine g_goto at_204 (pc' := 208) (by decide) (by decide) ?_
    exact go_ireturn at_208 rfl (Or.inr (Or.inl rfl)) rfl (ws' := []) all0 rfl
  · -- 2
    refine g_iadd at_7 (pc' := 8) rfl ?_
    refine g_istore at_8 (pc' := 10) (Ls' := #[.val (.int p1), .val (.int p2), .val (.int p3), .val (.long t1), .second, .val (.long t2), .second, .val (.long t3), .second, .val (.int ((1 : Int32) + (Int32.ofNat 2))), .unset, .unset, .unset, .unset, .unset, .unset, .unset]) rfl rfl ?_
    refine go_new at_10 (w1 hw) (w2 hw) (w3 hw) (by decide) (by decide) (pc' := 13) rfl ?_
    intro h891 a892 g893 E894 A895 D896
    have F897 : Fld Z h891 a892 "com/example/keyhold/keyhold/model/SigningKey" "kid" "Ljava/lang/String;" .null := D896 (Or.inr (w52 hw)) (ty := (.object "java/lang/String")) (by decide)
    have F898 : Fld Z h891 a892 "com/example/keyhold/keyhold/model/SigningKey" "secret" "[B" .null := D896 (Or.inr (w54 hw)) (ty := (.array .byte)) (by decide)
    have F899 : Fld Z h891 a892 "com/example/keyhold/keyhold/model/SigningKey" "createdAt" "J" (.long (0 : Int64)) := D896 (Or.inr (w56 hw)) (ty := .long) (by decide)
    refine g_dup at_13 (pc' := 14) rfl rfl ?_
    refine go_new at_14 (w4 hw) (w5 hw) (w6 hw) (by decide) (by decide) (pc' := 17) rfl ?_
    intro h900 a901 g902 E903 A904 D905
    have F906 : Fld Z h900 a901 "java/lang/String" "coder" "B" (.int (0 : Int32)) := D905 (Or.inr (w31 hw)) (ty := .byte) (by decide)
    have F907 : Fld Z h900 a901 "java/lang/String" "value" "[B" .null := D905 (Or.inr (w33 hw)) (ty := (.array .byte)) (by decide)
    refine g_dup at_17 (pc' := 18) rfl rfl ?_
    refine g_iconst at_18 (pc' := 19) rfl (z := 1) rfl ?_
    refine go_newarray at_19 (w7 hw) (by decide) (cap := 1) (by decide) (by decide) (by decide) (by decide) (ad := "[C") rfl (pc' := 21) rfl ?_
    intro h908 a909 k910 g911 E912 A913 X914
    have A915 : Arv Z h908 a909 k910 .char (1 : Int32) [.int 0] (.int 0) := Arv.pad A913 (pad_rep [] (.int 0) 1)
    refine g_dup at_21 (pc' := 22) rfl rfl ?_
    refine g_iconst at_22 (pc' := 23) rfl (z := 0) rfl ?_
    refine g_iloadN at_23 (pc' := 24) rfl rfl ?_
    refine g_sipush at_24 (pc' := 27) rfl (z := 255) rfl ?_
    refine g_iand at_27 (pc' := 28) rfl ?_
    refine g_i2c at_28 (pc' := 29) rfl ?_
    refine go_castore 0 at_29 A915 ⟨by decide, by decide⟩ rfl (Nat.le_of_ble_eq_true rfl) (x' := (((p2 &&& (255 : Int32))).toUInt32.toUInt16.toUInt32.toInt32)) (nar_i2c _) (List.mem_of_getElem? (i := 0) rfl) (pc' := 30) rfl ?_
    intro h916 W917 A918
    have ne919 : a901 ≠ a909 := Nat.ne_of_lt (Nat.lt_of_lt_of_le A904.lt (Nat.le_of_eq g911.symm))
    refine go_special at_30 (rm_initC hw [(((p2 &&& (255 : Int32))).toUInt32.toUInt16.toUInt32.toInt32)] a901 a909 _ _ _ co [a909, a892] h916 (Nat.le_of_ble_eq_true rfl) (Nat.le_of_ble_eq_true rfl) (Byt.lat (Byt.cons (byt255 _) Byt.nil)) (Exa.wr W917 (A904.ext E912)) (Fld.other W917 (F907.ext E912) (Or.inl ne919)) (Fld.other W917 (F906.ext E912) (Or.inl ne919)) A918 Sc hco) (allS (List.mem_of_getElem? (i := 1) rfl) (allS (List.mem_of_getElem? (i := 0) rfl) (allS (List.mem_of_getElem? (i := 2) rfl) all0))) rfl (w8 hw) (w9 hw) (w6 hw) (w10 hw) (by decide) (argsL := [(.ref a909)]) (rest := [(.ref a901), (.ref a892), (.ref a892)]) (lenOf pd21 rfl) rfl rfl rfl (W := 3) (Nat.le_of_ble_eq_true rfl) (by decide) (by decide) (by decide) (by decide) (pc' := 33) rfl ?_
    rintro _ h920 _ ⟨rfl, b921, rfl, K922, L923, N924⟩ z925
    show Go _ _ _ _ _ _ _ _ _ _ _ _ _ _ _ _ _ _ _ _ _ _ _ _ [(.ref a901), (.ref a892), (.ref a892)] _
    refine g_iconst at_33 (pc' := 34) rfl (z := 0) rfl ?_
    refine go_newarray at_34 (w23 hw) (by decide) (cap := 0) (by decide) (by decide) (by decide) (by decide) (ad := "[B") rfl (pc' := 36) rfl ?_
    intro h926 a927 k928 g929 E930 A931 X932
    have A933 : Arv Z h926 a927 k928 .byte (0 : Int32) [] (.int 0) := Arv.pad A931 (pad_rep [] (.int 0) 0)
    refine g_lloadN at_36 (pc' := 37) rfl rfl ?_
    have f934 := (((Exa.wr W917 ((A895.ext E903).ext E912)).keep K922).ext E930)
    have ne935 : a892 ≠ a909 := Nat.ne_of_lt (Nat.lt_of_lt_of_le (A895.ext E903).lt (Nat.le_of_eq g911.symm))
    have ne936 : a892 ≠ a901 := Nat.ne_of_lt (Nat.lt_of_lt_of_le A895.lt (Nat.le_of_eq g902.symm))
    have f937 := (((Fld.other W917 ((F897.ext E903).ext E912) (Or.inl ne935)).keep K922 (ninS ne936 nin0)).ext E930)
    have f938 := (((Fld.other W917 ((F898.ext E903).ext E912) (Or.inl ne935)).keep K922 (ninS ne936 nin0)).ext E930)
    have f939 := (((Fld.other W917 ((F899.ext E903).ext E912) (Or.inl ne935)).keep K922 (ninS ne936 nin0)).ext E930)
    refine go_special at_37 (rm_key hw a892 a901 a927 t1 _ _ _ h926 f934 f937 f938 f939) (allS (List.mem_of_getElem? (i := 3) rfl) all0) rfl (w34 hw) (w35 hw) (w3 hw) (w36 hw) (by decide) (argsL := [(.ref a901), (.ref a927), (.long t1)]) (rest := [(.ref a892)]) (lenOf pd22 rfl) rfl rfl rfl (W := 1) (Nat.le_of_ble_eq_true rfl) (by decide) (by decide) (by decide) (by decide) (pc' := 40) rfl ?_
    rintro _ h940 _ ⟨rfl, rfl, K941⟩ z942
    show Go _ _ _ _ _ _ _ _ _ _ _ _ _ _ _ _ _ _ _ _ _ _ _ _ [(.ref a892)] _
    refine g_astore at_40 (pc' := 42) (Ls' := #[.val (.int p1), .val (.int p2), .val (.int p3), .val (.long t1), .second, .val (.long t2), .second, .val (.long t3), .second, .val (.int ((1 : Int32) + (Int32.ofNat 2))), .val (.ref a892), .unset, .unset, .unset, .unset, .unset, .unset]) rfl rfl rfl ?_
    refine go_new at_42 (w1 hw) (w2 hw) (w3 hw) (by decide) (by decide) (pc' := 45) rfl ?_
    intro h943 a944 g945 E946 A947 D948
    have F949 : Fld Z h943 a944 "com/example/keyhold/keyhold/model/SigningKey" "kid" "Ljava/lang/String;" .null := D948 (Or.inr (w52 hw)) (ty := (.object "java/lang/String")) (by decide)
    have F950 : Fld Z h943 a944 "com/example/keyhold/keyhold/model/SigningKey" "secret" "[B" .null := D948 (Or.inr (w54 hw)) (ty := (.array .byte)) (by decide)
    have F951 : Fld Z h943 a944 "com/example/keyhold/keyhold/model/SigningKey" "createdAt" "J" (.long (0 : Int64)) := D948 (Or.inr (w56 hw)) (ty := .long) (by decide)
    refine g_dup at_45 (pc' := 46) rfl rfl ?_
    refine go_new at_46 (w4 hw) (w5 hw) (w6 hw) (by decide) (by decide) (pc' := 49) rfl ?_
    intro h952 a953 g954 E955 A956 D957
    have F958 : Fld Z h952 a953 "java/lang/String" "coder" "B" (.int (0 : Int32)) := D957 (Or.inr (w31 hw)) (ty := .byte) (by decide)
    have F959 : Fld Z h952 a953 "java/lang/String" "value" "[B" .null := D957 (Or.inr (w33 hw)) (ty := (.array .byte)) (by decide)
    refine g_dup at_49 (pc' := 50) rfl rfl ?_
    refine g_iconst at_50 (pc' := 51) rfl (z := 1) rfl ?_
    refine go_newarray at_51 (w7 hw) (by decide) (cap := 1) (by decide) (by decide) (by decide) (by decide) (ad := "[C") rfl (pc' := 53) rfl ?_
    intro h960 a961 k962 g963 E964 A965 X966
    have A967 : Arv Z h960 a961 k962 .char (1 : Int32) [.int 0] (.int 0) := Arv.pad A965 (pad_rep [] (.int 0) 1)
    refine g_dup at_53 (pc' := 54) rfl rfl ?_
    refine g_iconst at_54 (pc' := 55) rfl (z := 0) rfl ?_
    refine g_iloadN at_55 (pc' := 56) rfl rfl ?_
    refine g_sipush at_56 (pc' := 59) rfl (z := 255) rfl ?_
    refine g_iand at_59 (pc' := 60) rfl ?_
    refine g_i2c at_60 (pc' := 61) rfl ?_
    refine go_castore 0 at_61 A967 ⟨by decide, by decide⟩ rfl (Nat.le_of_ble_eq_true rfl) (x' := (((p3 &&& (255 : Int32))).toUInt32.toUInt16.toUInt32.toInt32)) (nar_i2c _) (List.mem_of_getElem? (i := 0) rfl) (pc' := 62) rfl ?_
    intro h968 W969 A970
    have ne971 : a953 ≠ a961 := Nat.ne_of_lt (Nat.lt_of_lt_of_le A956.lt (Nat.le_of_eq g963.symm))
    refine go_special at_62 (rm_initC hw [(((p3 &&& (255 : Int32))).toUInt32.toUInt16.toUInt32.toInt32)] a953 a961 _ _ _ co [a961, a944, a927, a909, a901, a892] h968 (Nat.le_of_ble_eq_true rfl) (Nat.le_of_ble_eq_true rfl) (Byt.lat (Byt.cons (byt255 _) Byt.nil)) (Exa.wr W969 (A956.ext E964)) (Fld.other W969 (F959.ext E964) (Or.inl ne971)) (Fld.other W969 (F958.ext E964) (Or.inl ne971)) A970 Sc hco) (allS (List.mem_of_getElem? (i := 1) rfl) (allS (List.mem_of_getElem? (i := 0) rfl) (allS (List.mem_of_getElem? (i := 2) rfl) (allS (List.mem_of_getElem? (i := 3) rfl) (allS (List.mem_of_getElem? (i := 4) rfl) (allS (List.mem_of_getElem? (i := 5) rfl) (allS (List.mem_of_getElem? (i := 6) rfl) all0))))))) rfl (w8 hw) (w9 hw) (w6 hw) (w10 hw) (by decide) (argsL := [(.ref a961)]) (rest := [(.ref a953), (.ref a944), (.ref a944)]) (lenOf pd21 rfl) rfl rfl rfl (W := 3) (Nat.le_of_ble_eq_true rfl) (by decide) (by decide) (by decide) (by decide) (pc' := 65) rfl ?_
    rintro _ h972 _ ⟨rfl, b973, rfl, K974, L975, N976⟩ z977
    show Go _ _ _ _ _ _ _ _ _ _ _ _ _ _ _ _ _ _ _ _ _ _ _ _ [(.ref a953), (.ref a944), (.ref a944)] _
    refine g_iconst at_65 (pc' := 66) rfl (z := 0) rfl ?_
    refine go_newarray at_66 (w23 hw) (by decide) (cap := 0) (by decide) (by decide) (by decide) (by decide) (ad := "[B") rfl (pc' := 68) rfl ?_
    intro h978 a979 k980 g981 E982 A983 X984
    have A985 : Arv Z h978 a979 k980 .byte (0 : Int32) [] (.int 0) := Arv.pad A983 (pad_rep [] (.int 0) 0)
    refine g_lload at_68 (pc' := 70) rfl rfl ?_
    have f986 := (((Exa.wr W969 ((A947.ext E955).ext E964)).keep K974).ext E982)
    have ne987 : a944 ≠ a961 := Nat.ne_of_lt (Nat.lt_of_lt_of_le (A947.ext E955).lt (Nat.le_of_eq g963.symm))
    have ne988 : a944 ≠ a953 := Nat.ne_of_lt (Nat.lt_of_lt_of_le A947.lt (Nat.le_of_eq g954.symm))
    have f989 := (((Fld.other W969 ((F949.ext E955).ext E964) (Or.inl ne987)).keep K974 (ninS ne988 nin0)).ext E982)
    have f990 := (((Fld.other W969 ((F950.ext E955).ext E964) (Or.inl ne987)).keep K974 (ninS ne988 nin0)).ext E982)
    have f991 := (((Fld.other W969 ((F951.ext E955).ext E964) (Or.inl ne987)).keep K974 (ninS ne988 nin0)).ext E982)
    refine go_special at_70 (rm_key hw a944 a953 a979 t2 _ _ _ h978 f986 f989 f990 f991) (allS (List.mem_of_getElem? (i := 3) rfl) all0) rfl (w34 hw) (w35 hw) (w3 hw) (w36 hw) (by decide) (argsL := [(.ref a953), (.ref a979), (.long t2)]) (rest := [(.ref a944)]) (lenOf pd22 rfl) rfl rfl rfl (W := 1) (Nat.le_of_ble_eq_true rfl) (by decide) (by decide) (by decide) (by decide) (pc' := 73) rfl ?_
    rintro _ h992 _ ⟨rfl, rfl, K993⟩ z994
    show Go _ _ _ _ _ _ _ _ _ _ _ _ _ _ _ _ _ _ _ _ _ _ _ _ [(.ref a944)] _
    refine g_astore at_73 (pc' := 75) (Ls' := #[.val (.int p1), .val (.int p2), .val (.int p3), .val (.long t1), .second, .val (.long t2), .second, .val (.long t3), .second, .val (.int ((1 : Int32) + (Int32.ofNat 2))), .val (.ref a892), .val (.ref a944), .unset, .unset, .unset, .unset, .unset]) rfl rfl rfl ?_
    refine go_new at_75 (w1 hw) (w2 hw) (w3 hw) (by decide) (by decide) (pc' := 78) rfl ?_
    intro h995 a996 g997 E998 A999 D1000
    have F1001 : Fld Z h995 a996 "com/example/keyhold/keyhold/model/SigningKey" "kid" "Ljava/lang/String;" .null := D1000 (Or.inr (w52 hw)) (ty := (.object "java/lang/String")) (by decide)
    have F1002 : Fld Z h995 a996 "com/example/keyhold/keyhold/model/SigningKey" "secret" "[B" .null := D1000 (Or.inr (w54 hw)) (ty := (.array .byte)) (by decide)
    have F1003 : Fld Z h995 a996 "com/example/keyhold/keyhold/model/SigningKey" "createdAt" "J" (.long (0 : Int64)) := D1000 (Or.inr (w56 hw)) (ty := .long) (by decide)
    refine g_dup at_78 (pc' := 79) rfl rfl ?_
    refine go_new at_79 (w4 hw) (w5 hw) (w6 hw) (by decide) (by decide) (pc' := 82) rfl ?_
    intro h1004 a1005 g1006 E1007 A1008 D1009
    have F1010 : Fld Z h1004 a1005 "java/lang/String" "coder" "B" (.int (0 : Int32)) := D1009 (Or.inr (w31 hw)) (ty := .byte) (by decide)
    have F1011 : Fld Z h1004 a1005 "java/lang/String" "value" "[B" .null := D1009 (Or.inr (w33 hw)) (ty := (.array .byte)) (by decide)
    refine g_dup at_82 (pc' := 83) rfl rfl ?_
    refine g_iconst at_83 (pc' := 84) rfl (z := 1) rfl ?_
    refine go_newarray at_84 (w7 hw) (by decide) (cap := 1) (by decide) (by decide) (by decide) (by decide) (ad := "[C") rfl (pc' := 86) rfl ?_
    intro h1012 a1013 k1014 g1015 E1016 A1017 X1018
    have A1019 : Arv Z h1012 a1013 k1014 .char (1 : Int32) [.int 0] (.int 0) := Arv.pad A1017 (pad_rep [] (.int 0) 1)
    refine g_dup at_86 (pc' := 87) rfl rfl ?_
    refine g_iconst at_87 (pc' := 88) rfl (z := 0) rfl ?_
    refine g_iloadN at_88 (pc' := 89) rfl rfl ?_
    refine g_bipush at_89 (pc' := 91) rfl (z := 8) rfl ?_
    refine g_iushr at_91 (pc' := 92) rfl ?_
    refine g_sipush at_92 (pc' := 95) rfl (z := 255) rfl ?_
    refine g_iand at_95 (pc' := 96) rfl ?_
    refine g_i2c at_96 (pc' := 97) rfl ?_
    refine go_castore 0 at_97 A1019 ⟨by decide, by decide⟩ rfl (Nat.le_of_ble_eq_true rfl) (x' := ((((((p2).toUInt32 >>> (((8 : Int32) &&& 31)).toUInt32).toInt32) &&& (255 : Int32))).toUInt32.toUInt16.toUInt32.toInt32)) (nar_i2c _) (List.mem_of_getElem? (i := 0) rfl) (pc' := 98) rfl ?_
    intro h1020 W1021 A1022
    have ne1023 : a1005 ≠ a1013 := Nat.ne_of_lt (Nat.lt_of_lt_of_le A1008.lt (Nat.le_of_eq g1015.symm))
    refine go_special at_98 (rm_initC hw [((((((p2).toUInt32 >>> (((8 : Int32) &&& 31)).toUInt32).toInt32) &&& (255 : Int32))).toUInt32.toUInt16.toUInt32.toInt32)] a1005 a1013 _ _ _ co [a1013, a996, a979, a961, a953, a944, a927, a909, a901, a892] h1020 (Nat.le_of_ble_eq_true rfl) (Nat.le_of_ble_eq_true rfl) (Byt.lat (Byt.cons (byt255 _) Byt.nil)) (Exa.wr W1021 (A1008.ext E1016)) (Fld.other W1021 (F1011.ext E1016) (Or.inl ne1023)) (Fld.other W1021 (F1010.ext E1016) (Or.inl ne1023)) A1022 Sc hco) (allS (List.mem_of_getElem? (i := 1) rfl) (allS (List.mem_of_getElem? (i := 0) rfl) (allS (List.mem_of_getElem? (i := 2) rfl) (allS (List.mem_of_getElem? (i := 3) rfl) (allS (List.mem_of_getElem? (i := 4) rfl) (allS (List.mem_of_getElem? (i := 5) rfl) (allS (List.mem_of_getElem? (i := 6) rfl) (allS (List.mem_of_getElem? (i := 7) rfl) (allS (List.mem_of_getElem? (i := 8) rfl) (allS (List.mem_of_getElem? (i := 9) rfl) (allS (List.mem_of_getElem? (i := 10) rfl) all0))))))))))) rfl (w8 hw) (w9 hw) (w6 hw) (w10 hw) (by decide) (argsL := [(.ref a1013)]) (rest := [(.ref a1005), (.ref a996), (.ref a996)]) (lenOf pd21 rfl) rfl rfl rfl (W := 3) (Nat.le_of_ble_eq_true rfl) (by decide) (by decide) (by decide) (by decide) (pc' := 101) rfl ?_
    rintro _ h1024 _ ⟨rfl, b1025, rfl, K1026, L1027, N1028⟩ z1029
    show Go _ _ _ _ _ _ _ _ _ _ _ _ _ _ _ _ _ _ _ _ _ _ _ _ [(.ref a1005), (.ref a996), (.ref a996)] _
    refine g_iconst at_101 (pc' := 102) rfl (z := 0) rfl ?_
    refine go_newarray at_102 (w23 hw) (by decide) (cap := 0) (by decide) (by decide) (by decide) (by decide) (ad := "[B") rfl (pc' := 104) rfl ?_
    intro h1030 a1031 k1032 g1033 E1034 A1035 X1036
    have A1037 : Arv Z h1030 a1031 k1032 .byte (0 : Int32) [] (.int 0) := Arv.pad A1035 (pad_rep [] (.int 0) 0)
    refine g_lload at_104 (pc' := 106) rfl rfl ?_
    have f1038 := (((Exa.wr W1021 ((A999.ext E1007).ext E1016)).keep K1026).ext E1034)
    have ne1039 : a996 ≠ a1013 := Nat.ne_of_lt (Nat.lt_of_lt_of_le (A999.ext E1007).lt (Nat.le_of_eq g1015.symm))
    have ne1040 : a996 ≠ a1005 := Nat.ne_of_lt (Nat.lt_of_lt_of_le A999.lt (Nat.le_of_eq g1006.symm))
    have f1041 := (((Fld.other W1021 ((F1001.ext E1007).ext E1016) (Or.inl ne1039)).keep K1026 (ninS ne1040 nin0)).ext E1034)
    have f1042 := (((Fld.other W1021 ((F1002.ext E1007).ext E1016) (Or.inl ne1039)).keep K1026 (ninS ne1040 nin0)).ext E1034)
    have f1043 := (((Fld.other W1021 ((F1003.ext E1007).ext E1016) (Or.inl ne1039)).keep K1026 (ninS ne1040 nin0)).ext E1034)
    refine go_special at_106 (rm_key hw a996 a1005 a1031 t3 _ _ _ h1030 f1038 f1041 f1042 f1043) (allS (List.mem_of_getElem? (i := 3) rfl) all0) rfl (w34 hw) (w35 hw) (w3 hw) (w36 hw) (by decide) (argsL := [(.ref a1005), (.ref a1031), (.long t3)]) (rest := [(.ref a996)]) (lenOf pd22 rfl) rfl rfl rfl (W := 1) (Nat.le_of_ble_eq_true rfl) (by decide) (by decide) (by decide) (by decide) (pc' := 109) rfl ?_
    rintro _ h1044 _ ⟨rfl, rfl, K1045⟩ z1046
    show Go _ _ _ _ _ _ _ _ _ _ _ _ _ _ _ _ _ _ _ _ _ _ _ _ [(.ref a996)] _
    refine g_astore at_109 (pc' := 111) (Ls' := #[.val (.int p1), .val (.int p2), .val (.int p3), .val (.long t1), .second, .val (.long t2), .second, .val (.long t3), .second, .val (.int ((1 : Int32) + (Int32.ofNat 2))), .val (.ref a892), .val (.ref a944), .val (.ref a996), .unset, .unset, .unset, .unset]) rfl rfl rfl ?_
    refine go_new at_111 (w57 hw) (w58 hw) (w59 hw) (by decide) (by decide) (pc' := 114) rfl ?_
    intro h1047 a1048 g1049 E1050 A1051 D1052
    have F1053 : Fld Z h1047 a1048 "java/util/AbstractList" "modCount" "I" (.int (0 : Int32)) := D1052 (Or.inl (w77 hw)) (ty := .int) (by decide)
    have F1054 : Fld Z h1047 a1048 "java/util/ArrayList" "elementData" "[Ljava/lang/Object;" .null := D1052 (Or.inl (w80 hw)) (ty := (.array (.object "java/lang/Object"))) (by decide)
    have F1055 : Fld Z h1047 a1048 "java/util/ArrayList" "size" "I" (.int (0 : Int32)) := D1052 (Or.inl (w89 hw)) (ty := .int) (by decide)
    refine g_dup at_114 (pc' := 115) rfl rfl ?_
    refine go_special at_115 (rm_alInit hw a1048 de _ _ h1047 A1051 F1053 F1054 F1055 Sd) (allS (List.mem_of_getElem? (i := 0) rfl) all0) rfl (w60 hw) (w61 hw) (w59 hw) (w62 hw) (by decide) (argsL := []) (rest := [(.ref a1048)]) (lenOf pd4 rfl) rfl rfl rfl (W := 1) (Nat.le_of_ble_eq_true rfl) (by decide) (by decide) (by decide) (by decide) (pc' := 118) rfl ?_
    rintro _ h1056 _ ⟨rfl, rfl, K1057, F1058, F1059, F1060⟩ z1061
    show Go _ _ _ _ _ _ _ _ _ _ _ _ _ _ _ _ _ _ _ _ _ _ _ _ [(.ref a1048)] _
    refine g_astore at_118 (pc' := 120) (Ls' := #[.val (.int p1), .val (.int p2), .val (.int p3), .val (.long t1), .second, .val (.long t2), .second, .val (.long t3), .second, .val (.int ((1 : Int32) + (Int32.ofNat 2))), .val (.ref a892), .val (.ref a944), .val (.ref a996), .val (.ref a1048), .unset, .unset, .unset]) rfl rfl rfl ?_
    refine g_aload at_120 (pc' := 122) rfl rfl rfl ?_
    refine g_aload at_122 (pc' := 124) rfl rfl rfl ?_
    have ne1069 : de ≠ a909 := Nat.ne_of_lt (Nat.lt_of_lt_of_le (((Ad.ext EX).ext E894).ext E903).lt (Nat.le_of_eq g911.symm))
    have ne1070 : de ≠ a901 := Nat.ne_of_lt (Nat.lt_of_lt_of_le ((Ad.ext EX).ext E894).lt (Nat.le_of_eq g902.symm))
    have ne1071 : de ≠ a892 := Nat.ne_of_lt (Nat.lt_of_lt_of_le (Ad.ext EX).lt (Nat.le_of_eq g893.symm))
    have f1072 := ((((((((((Ad.ext EX).ext E894).ext E903).ext E912).other W917 ne1069).keep K922 (ninS ne1070 nin0)).ext E930).keep K941 (ninS ne1071 nin0)).ext E946).ext E955)
    have ne1073 : de ≠ a961 := Nat.ne_of_lt (Nat.lt_of_lt_of_le f1072.lt (Nat.le_of_eq g963.symm))
    have f1074 := (((((((((Ad.ext EX).ext E894).ext E903).ext E912).other W917 ne1069).keep K922 (ninS ne1070 nin0)).ext E930).keep K941 (ninS ne1071 nin0)).ext E946)
    have ne1075 : de ≠ a953 := Nat.ne_of_lt (Nat.lt_of_lt_of_le f1074.lt (Nat.le_of_eq g954.symm))
    have f1076 := ((((((((Ad.ext EX).ext E894).ext E903).ext E912).other W917 ne1069).keep K922 (ninS ne1070 nin0)).ext E930).keep K941 (ninS ne1071 nin0))
    have ne1077 : de ≠ a944 := Nat.ne_of_lt (Nat.lt_of_lt_of_le f1076.lt (Nat.le_of_eq g945.symm))
    have f1078 := (((((((((f1076.ext E946).ext E955).ext E964).other W969 ne1073).keep K974 (ninS ne1075 nin0)).ext E982).keep K993 (ninS ne1077 nin0)).ext E998).ext E1007)
    have ne1079 : de ≠ a1013 := Nat.ne_of_lt (Nat.lt_of_lt_of_le f1078.lt (Nat.le_of_eq g1015.symm))
    have f1080 := ((((((((f1076.ext E946).ext E955).ext E964).other W969 ne1073).keep K974 (ninS ne1075 nin0)).ext E982).keep K993 (ninS ne1077 nin0)).ext E998)
    have ne1081 : de ≠ a1005 := Nat.ne_of_lt (Nat.lt_of_lt_of_le f1080.lt (Nat.le_of_eq g1006.symm))
    have f1082 := (((((((f1076.ext E946).ext E955).ext E964).other W969 ne1073).keep K974 (ninS ne1075 nin0)).ext E982).keep K993 (ninS ne1077 nin0))
    have ne1083 : de ≠ a996 := Nat.ne_of_lt (Nat.lt_of_lt_of_le f1082.lt (Nat.le_of_eq g997.symm))
    have f1084 := (((((((f1082.ext E998).ext E1007).ext E1016).other W1021 ne1079).keep K1026 (ninS ne1081 nin0)).ext E1034).keep K1045 (ninS ne1083 nin0))
    have ne1085 : de ≠ a1048 := Nat.ne_of_lt (Nat.lt_of_lt_of_le f1084.lt (Nat.le_of_eq g1049.symm))
    have f1086 := ((((((((((((((((((((((((Ad.ext EX).ext E894).ext E903).ext E912).other W917 ne1069).keep K922 (ninS ne1070 nin0)).ext E930).keep K941 (ninS ne1071 nin0)).ext E946).ext E955).ext E964).other W969 ne1073).keep K974 (ninS ne1075 nin0)).ext E982).keep K993 (ninS ne1077 nin0)).ext E998).ext E1007).ext E1016).other W1021 ne1079).keep K1026 (ninS ne1081 nin0)).ext E1034).keep K1045 (ninS ne1083 nin0)).ext E1050).keep K1057 (ninS ne1085 nin0))
    have f1087 := ((((((Exa.wr W1021 (((((((Exa.wr W969 ((((f934.keep K941).ext E946).ext E955).ext E964)).keep K974).ext E982).keep K993).ext E998).ext E1007).ext E1016)).keep K1026).ext E1034).keep K1045).ext E1050).keep K1057)
    refine go_virtual at_124 (rm_add_0 hw a1048 de kd (0 : Int32) a892 h1056 (A1051.keep K1057) F1058 F1059 F1060 f1086 Sd f1087) (allS (List.mem_of_getElem? (i := 0) rfl) all0) (A1051.keep K1057) (w81 hw) (w82 hw) (w84 hw) (nf_sel (w84 hw)) (w83 hw) (w59 hw) (w85 hw) (by decide) (argsL := [(.ref a892)]) (rest := []) (lenOf pd23 rfl) rfl rfl rfl (W := 0) (Nat.le_of_ble_eq_true rfl) (by decide) (by decide) (by decide) (by decide) (pc' := 127) rfl ?_
    rintro _ h1068 _ ⟨rfl, ea1088, ke1089, rfl, he1090, K1066, F1062, F1063, F1064, A1065, O1091, X1092⟩ z1067
    show Go _ _ _ _ _ _ _ _ _ _ _ _ _ _ _ _ _ _ _ _ _ _ _ _ [(.int (1 : Int32))] _
    refine g_pop at_127 (pc' := 128) rfl rfl ?_
    refine g_iload at_128 (pc' := 130) rfl rfl ?_
    refine g_iconst at_130 (pc' := 131) rfl (z := 2) rfl ?_
    refine g_icmpNo at_131 (pc' := 134) rfl (flt (by decide : ¬ (((1 : Int32) + (Int32.ofNat 2)) < (2 : Int32)))).1 ?_
    refine g_aload at_134 (pc' := 136) rfl rfl rfl ?_
    refine g_aload at_136 (pc' := 138) rfl rfl rfl ?_
    have f1100 := (((((((Exa.wr W1021 ((((f986.keep K993).ext E998).ext E1007).ext E1016)).keep K1026).ext E1034).keep K1045).ext E1050).keep K1057).keep K1066)
    refine go_virtual at_138 (rm_add_1 hw a1048 ea1088 ke1089 ((0 : Int32) + (1 : Int32)) a892 a944 h1068 ((A1051.keep K1057).keep K1066) F1062 F1063 F1064 A1065 O1091 X1092 f1100) (allS (List.mem_of_getElem? (i := 1) rfl) (allS (List.mem_of_getElem? (i := 0) rfl) all0)) ((A1051.keep K1057).keep K1066) (w81 hw) (w82 hw) (w84 hw) (nf_sel (w84 hw)) (w83 hw) (w59 hw) (w85 hw) (by decide) (argsL := [(.ref a944)]) (rest := []) (lenOf pd23 rfl) rfl rfl rfl (W := 0) (Nat.le_of_ble_eq_true rfl) (by decide) (by decide) (by decide) (by decide) (pc' := 141) rfl ?_
    rintro _ h1099 _ ⟨rfl, rfl, K1097, F1093, F1094, F1095, A1096⟩ z1098
    show Go _ _ _ _ _ _ _ _ _ _ _ _ _ _ _ _ _ _ _ _ _ _ _ _ [(.int (1 : Int32))] _
    refine g_pop at_141 (pc' := 142) rfl rfl ?_
    refine g_iload at_142 (pc' := 144) rfl rfl ?_
    refine g_iconst at_144 (pc' := 145) rfl (z := 3) rfl ?_
    refine g_icmpNo at_145 (pc' := 148) rfl (flt (by decide : ¬ (((1 : Int32) + (Int32.ofNat 2)) < (3 : Int32)))).1 ?_
    refine g_aload at_148 (pc' := 150) rfl rfl rfl ?_
    refine g_aload at_150 (pc' := 152) rfl rfl rfl ?_
    have f1108 := (((((f1038.keep K1045).ext E1050).keep K1057).keep K1066).keep K1097)
    refine go_virtual at_152 (rm_add_2 hw a1048 ea1088 ke1089 (((0 : Int32) + (1 : Int32)) + (1 : Int32)) a892 a944 a996 h1099 (((A1051.keep K1057).keep K1066).keep K1097) F1093 F1094 F1095 A1096 O1091 (X1092.keep K1097) f1108) (allS (List.mem_of_getElem? (i := 1) rfl) (allS (List.mem_of_getElem? (i := 0) rfl) all0)) (((A1051.keep K1057).keep K1066).keep K1097) (w81 hw) (w82 hw) (w84 hw) (nf_sel (w84 hw)) (w83 hw) (w59 hw) (w85 hw) (by decide) (argsL := [(.ref a996)]) (rest := []) (lenOf pd23 rfl) rfl rfl rfl (W := 0) (Nat.le_of_ble_eq_true rfl) (by decide) (by decide) (by decide) (by decide) (pc' := 155) rfl ?_
    rintro _ h1107 _ ⟨rfl, rfl, K1105, F1101, F1102, F1103, A1104⟩ z1106
    show Go _ _ _ _ _ _ _ _ _ _ _ _ _ _ _ _ _ _ _ _ _ _ _ _ [(.int (1 : Int32))] _
    refine g_pop at_155 (pc' := 156) rfl rfl ?_
    refine go_new at_156 (w112 hw) (w113 hw) (w114 hw) (by decide) (by decide) (pc' := 159) rfl ?_
    intro h1109 a1110 g1111 E1112 A1113 D1114
    have F1115 : Fld Z h1109 a1110 "com/example/keyhold/keyhold/model/KeyRing" "keys" "Ljava/util/List;" .null := D1114 (Or.inr (w212 hw)) (ty := (.object "java/util/List")) (by decide)
    refine g_dup at_159 (pc' := 160) rfl rfl ?_
    refine g_aload at_160 (pc' := 162) rfl rfl rfl ?_
    have f1116 := (((((A1051.keep K1057).keep K1066).keep K1097).keep K1105).ext E1112)
    refine go_special at_162 (rm_ring3 hw a1048 ea1088 ke1089 ((((0 : Int32) + (1 : Int32)) + (1 : Int32)) + (1 : Int32)) a892 a944 a996 a1110 mo em _ h1109 f1116 (F1101.ext E1112) (F1102.ext E1112) (F1103.ext E1112) (A1104.ext E1112) O1091 (((X1092.keep K1097).keep K1105).ext E1112) Mo Se ((((f1087.keep K1066).keep K1097).keep K1105).ext E1112) (((f1100.keep K1097).keep K1105).ext E1112) ((f1108.keep K1105).ext E1112) A1113 F1115) (allS (List.mem_of_getElem? (i := 0) rfl) all0) rfl (w115 hw) (w116 hw) (w114 hw) (w117 hw) (by decide) (argsL := [(.ref a1048)]) (rest := [(.ref a1110)]) (lenOf pd24 rfl) rfl rfl rfl (W := 1) (Nat.le_of_ble_eq_true rfl) (by decide) (by decide) (by decide) (by decide) (pc' := 165) rfl ?_
    rintro _ h1117 _ ⟨rfl, rfl, Kq, r, ra, kr, hr, hra, Xr, Fr, Ar, Fq⟩ hzq
    show Go _ _ _ _ _ _ _ _ _ _ _ _ _ _ _ _ _ _ _ _ _ _ _ _ [(.ref a1110)] _
    refine g_astore at_165 (pc' := 167) (Ls' := #[.val (.int p1), .val (.int p2), .val (.int p3), .val (.long t1), .second, .val (.long t2), .second, .val (.long t3), .second, .val (.int ((1 : Int32) + (Int32.ofNat 2))), .val (.ref a892), .val (.ref a944), .val (.ref a996), .val (.ref a1048), .val (.ref a1110), .unset, .unset]) rfl rfl rfl ?_
    refine g_aload at_167 (pc' := 169) rfl rfl rfl ?_
    have f1118 := (((((f1087.keep K1066).keep K1097).keep K1105).ext E1112).keep Kq)
    refine go_virtual at_169 (rm_inUse3 hw a1110 r ra a892 a944 a996 kr h1117 Fq f1118 Xr Fr Ar) all0 (A1113.keep Kq) (w213 hw) (w214 hw) (w216 hw) (nf_sel (w216 hw)) (w215 hw) (w114 hw) (w217 hw) (by decide) (argsL := []) (rest := []) (lenOf pd25 rfl) rfl rfl rfl (W := 0) (Nat.le_of_ble_eq_true rfl) (by decide) (by decide) (by decide) (by decide) (pc' := 172) rfl ?_
    rintro _ _ _ ⟨rfl, rfl, rfl⟩ z1119
    show Go _ _ _ _ _ _ _ _ _ _ _ _ _ _ _ _ _ _ _ _ _ _ _ _ [(.ref a892)] _
    refine g_astore at_172 (pc' := 174) (Ls' := #[.val (.int p1), .val (.int p2), .val (.int p3), .val (.long t1), .second, .val (.long t2), .second, .val (.long t3), .second, .val (.int ((1 : Int32) + (Int32.ofNat 2))), .val (.ref a892), .val (.ref a944), .val (.ref a996), .val (.ref a1048), .val (.ref a1110), .val (.ref a892), .unset]) rfl rfl rfl ?_
    refine g_aload at_174 (pc' := 176) rfl rfl rfl ?_
    refine g_iconst at_176 (pc' := 177) rfl (z := 0) rfl ?_
    refine g_aload at_177 (pc' := 179) rfl rfl rfl ?_
    have ne1120 : a1048 ≠ a1110 := Nat.ne_of_lt (Nat.lt_of_lt_of_le ((((A1051.keep K1057).keep K1066).keep K1097).keep K1105).lt (Nat.le_of_eq g1111.symm))
    have ne1121 : ea1088 ≠ a1110 := Nat.ne_of_lt (Nat.lt_of_lt_of_le ((X1092.keep K1097).keep K1105).lt (Nat.le_of_eq g1111.symm))
    refine go_virtual at_179 (rm_addI3 hw a1048 ea1088 ke1089 ((((0 : Int32) + (1 : Int32)) + (1 : Int32)) + (1 : Int32)) a892 a944 a996 a996 h1117 (f1116.keep Kq) ((F1101.ext E1112).keep Kq (ninS ne1120 nin0)) ((F1102.ext E1112).keep Kq (ninS ne1120 nin0)) ((F1103.ext E1112).keep Kq (ninS ne1120 nin0)) ((A1104.ext E1112).keep Kq (ninS ne1121 nin0)) O1091 ((((X1092.keep K1097).keep K1105).ext E1112).keep Kq) f1118 ((((f1100.keep K1097).keep K1105).ext E1112).keep Kq) (((f1108.keep K1105).ext E1112).keep Kq) (((f1108.keep K1105).ext E1112).keep Kq)) (allS (List.mem_of_getElem? (i := 2) rfl) (allS (List.mem_of_getElem? (i := 1) rfl) all0)) (f1116.keep Kq) (w229 hw) (w230 hw) (w232 hw) (nf_sel (w232 hw)) (w231 hw) (w59 hw) (w233 hw) (by decide) (argsL := [(.int (0 : Int32)), (.ref a996)]) (rest := []) (lenOf pd26 rfl) rfl rfl rfl (W := 0) (Nat.le_of_ble_eq_true rfl) (by decide) (by decide) (by decide) (by decide) (pc' := 182) rfl ?_
    rintro _ h1122 _ ⟨rfl, rfl, Ka⟩ hza
    show Go _ _ _ _ _ _ _ _ _ _ _ _ _ _ _ _ _ _ _ _ _ _ _ _ [] _
    refine g_aload at_182 (pc' := 184) rfl rfl rfl ?_
    have f1123 := (Fq.keep Ka (ninS (Ne.symm ne1120) (ninS (Ne.symm ne1121) nin0)))
    have ne1124 : r ≠ ea1088 := Ne.symm (Nat.ne_of_lt (Nat.lt_of_lt_of_le (((X1092.keep K1097).keep K1105).ext E1112).lt hr))
    have ne1125 : r ≠ a1048 := Ne.symm (Nat.ne_of_lt (Nat.lt_of_lt_of_le f1116.lt hr))
    have ne1126 : ra ≠ ea1088 := Ne.symm (Nat.ne_of_lt (Nat.lt_of_lt_of_le (((X1092.keep K1097).keep K1105).ext E1112).lt hra))
    have ne1127 : ra ≠ a1048 := Ne.symm (Nat.ne_of_lt (Nat.lt_of_lt_of_le f1116.lt hra))
    refine go_virtual at_184 (rm_inUse3 hw a1110 r ra a892 a944 a996 kr h1122 f1123 (f1118.keep Ka) (Xr.keep Ka) (Fr.keep Ka (ninS ne1125 (ninS ne1124 nin0))) (Ar.keep Ka (ninS ne1127 (ninS ne1126 nin0)))) all0 ((A1113.keep Kq).keep Ka) (w213 hw) (w214 hw) (w216 hw) (nf_sel (w216 hw)) (w215 hw) (w114 hw) (w217 hw) (by decide) (argsL := []) (rest := []) (lenOf pd25 rfl) rfl rfl rfl (W := 0) (Nat.le_of_ble_eq_true rfl) (by decide) (by decide) (by decide) (by decide) (pc' := 187) rfl ?_
    rintro _ _ _ ⟨rfl, rfl, rfl⟩ z1128
    show Go _ _ _ _ _ _ _ _ _ _ _ _ _ _ _ _ _ _ _ _ _ _ _ _ [(.ref a892)] _
    refine g_astore at_187 (pc' := 189) (Ls' := #[.val (.int p1), .val (.int p2), .val (.int p3), .val (.long t1), .second, .val (.long t2), .second, .val (.long t3), .second, .val (.int ((1 : Int32) + (Int32.ofNat 2))), .val (.ref a892), .val (.ref a944), .val (.ref a996), .val (.ref a1048), .val (.ref a1110), .val (.ref a892), .val (.ref a892)]) rfl rfl rfl ?_
    refine g_aload at_189 (pc' := 191) rfl rfl rfl ?_
    refine g_aload at_191 (pc' := 193) rfl rfl rfl ?_
    refine g_acmp at_193 rfl rfl (same := true) (decide_eq_true rfl) (by decide) (pc' := 196) rfl ?_
    refine g_aload at_196 (pc' := 198) rfl rfl rfl ?_
    refine g_aload at_198 (pc' := 200) rfl rfl rfl ?_
    refine g_acmp at_200 rfl rfl (same := true) (decide_eq_true rfl) (by decide) (pc' := 203) rfl ?_
    refine g_iconst at_203 (pc' := 204) rfl (z := 1) rfl ?_
    refine g_goto at_204 (pc' := 208) (by decide) (by decide) ?_
    exact go_ireturn at_208 rfl (Or.inr (Or.inl rfl)) rfl (ws' := []) all0 rfl
set_option maxRecDepth 65536 in
set_option maxHeartbeats 40000000 in
theorem comes_1 {Post : Tables → Env → Array Value → State → Outcome → State → Prop} (hpost : ∀ tb e args s v u, (limb_1_1.after args s (.returned v) u = true ∧ limb_1_2.after args s (.returned v) u = true ∧ True) → FramedW s (.returned v) u (Jvm.fieldLocs frame_1_writes args s ++ Jvm.arrayLocs frame_1_arrays args s ++ Jvm.staticLocs frame_1_statics s) 56 3264 → Post tb e args s (.returned v) u) :
    ArmFor flags0 classFile x code maxLocals ret World_1 tables_1 room_1 Calls_1 rest_1 Pre_1 Post := by
  intro l hfl _ _ p e ha hc hk s m args below hf hA hF happ hP
  obtain ⟨hcalls, hrest, hpre⟩ := hP
  obtain ⟨-, -, -, hnamed, -, -, -, hat⟩ := (Spec.applies_iff hf).mp happ
  obtain ⟨hg, hn⟩ := and_e (Cond.before_iff.mp (show (Jvm.Cond.and given_1 narrow_1).before args s = true from hpre))
  obtain ⟨hcnt, hg0⟩ := and_e hg
  obtain ⟨ga0, hg1⟩ := and_e hg0
  obtain ⟨ga1, hg2⟩ := and_e hg1
  obtain ⟨ga2, hg3⟩ := and_e hg2
  obtain ⟨ga3, hg4⟩ := and_e hg3
  obtain ⟨ga4, hg5⟩ := and_e hg4
  have ga5 := hg5
  obtain ⟨w0, w1, w2, w3, w4, w5, rfl⟩ : ∃ w0 w1 w2 w3 w4 w5 : Value, args = #[w0, w1, w2, w3, w4, w5] := by
    have hs : args.size = 6 := by simpa [Cond.value, given_1] using hcnt
    obtain ⟨L⟩ := args
    match L, hs with
    | [w0, w1, w2, w3, w4, w5], _ => exact ⟨w0, w1, w2, w3, w4, w5, rfl⟩
  have hw := fun d (hd : d ∈ tables_1) => atoms_spec (ws := Jvm.Cond.code x code maxLocals ret :: tables_1) hat d (List.mem_cons_of_mem _ hd)
  obtain ⟨hsets, hown0⟩ := atoms_of _ (rest_1_c_eq ▸ (show rest_1_c.before _ s = true from hrest))
  obtain ⟨i0, e0⟩ := is_v ga0
  obtain rfl : w0 = (.int i0) := Option.some.inj e0
  obtain ⟨i1, e1⟩ := is_v ga1
  obtain rfl : w1 = (.int i1) := Option.some.inj e1
  obtain ⟨i2, e2⟩ := is_v ga2
  obtain rfl : w2 = (.int i2) := Option.some.inj e2
  obtain ⟨i3, e3⟩ := isL_v ga3
  obtain rfl : w3 = (.long i3) := Option.some.inj e3
  obtain ⟨i4, e4⟩ := isL_v ga4
  obtain rfl : w4 = (.long i4) := Option.some.inj e4
  obtain ⟨i5, e5⟩ := isL_v ga5
  obtain rfl : w5 = (.long i5) := Option.some.inj e5
  obtain ⟨co, eco⟩ := is_v (Cond.before_iff.mp (hsets _ (List.mem_of_getElem? (i := 1) rfl)))
  have Sc : Sta s s.heap "java/lang/String" "COMPACT_STRINGS" "Z" (.int co) := Sta.start eco (Or.inl (hsets _ (List.mem_of_getElem? (i := 0) rfl)))
  have hco : ¬ (co = (0 : Int32)) := gotF (Cond.eq_ints eco (Term.int_eval (0))) (not_v (Cond.before_iff.mp (hsets _ (List.mem_of_getElem? (i := 2) rfl))))
  have nA := Cond.before_iff.mp (hsets _ (List.mem_of_getElem? (i := 15) rfl))
  obtain ⟨de, ede⟩ := arr_v nA
  have Sd := Sta.start ede (Or.inr ⟨(w59 hw), (hsets _ (List.mem_of_getElem? (i := 11) rfl))⟩)
  obtain ⟨kd, Ad⟩ := arv_start (dv := .null) (vs := []) ede nA (Cond.before_iff.mp (hsets _ (List.mem_of_getElem? (i := 17) rfl))) (by decide) rfl (Nat.le_of_ble_eq_true rfl) trivial (fun _ q => nomatch q)
  have nE := Cond.before_iff.mp (hsets _ (List.mem_of_getElem? (i := 20) rfl))
  obtain ⟨em, eem⟩ := exa_v nE
  have Se := Sta.start eem (Or.inl (hsets _ (List.mem_of_getElem? (i := 19) rfl)))
  obtain ⟨c9, k9, mo, m1, m2, m3, m4⟩ := hcalls.1
  have Mo : Mir s "[Ljava/lang/Object;" mo := ⟨c9, k9, m1, m2, m3, m4⟩
  obtain ⟨n, o, g1, g2, g3, v, L, ws', rfl, rfl, N, -, -, W⟩ := (law_con hw i0 i1 i2 i3 i4 i5 co de em mo kd s.heap Sc hco Sd Ad Se Mo) p e ha hc hk s m _ below hf ((Spec.applies_iff_loose hf).mp happ).1 ⟨rfl, State.Warmed39.refl s, rfl, Inv_start0⟩ trivial
  refine ⟨n, _, g1, g2, g3, hpost _ _ _ _ _ _ ⟨Cond.after_iff.mpr rfl, Cond.after_iff.mpr (eq_i res_at (Term.int_eval (1)) rfl), trivial⟩ ⟨W.1, W.2.1, W.2.2.1, (W.2.2.2.sift fun y hy => Or.inr (N y hy)).mono (by decide) (by decide)⟩⟩
theorem main_1_1 : Claimed_1_1 := comes_1 fun _ _ _ _ _ _ h hF => ⟨h.1, hF⟩
theorem main_1_2 : Claimed_1_2 := comes_1 fun _ _ _ _ _ _ h hF => ⟨h.2.1, hF⟩
end Jvm.Pilot.@@N@@
namespace Jvm.Pilot.@@N@@
open Jvm Jvm.ClassFile Sem Op Lib Jvm.Free Jvm.Stand Jvm.Pilot.@@N@@.Jvm.D
/-! MADE BY PROGRAM (witnessworld.py) out of the Statement's table words and the real class files: 41 classes; the members and pool entries that the words name. The judged class is class 1, her method 1. -/
namespace start1
open Jvm.ClassFile
def u (s : String) : CpInfo := .utf8 (stringToUtf16 s)
/-- a pool by its gaps: so many unusable entries, then the entry; so many at the end -/
def gap : Nat → List CpInfo → List CpInfo
  | 0, r => r
  | n + 1, r => .unusable :: gap n r
def poolList (es : List (Nat × CpInfo)) (last : Nat) : List CpInfo := es.foldr (fun e r => gap e.1 (e.2 :: r)) (gap last [])
def pool (es : List (Nat × CpInfo)) (last : Nat) : Array CpInfo := ⟨poolList es last⟩
def fileOf (pool : Array CpInfo) (this : Nat) (attrs : Array Attribute := #[]) (ms : Array MethodInfo := #[]) (fl : Nat := 33) (sup : Nat := 0) (ifs : Array Nat := #[]) (fds : Array FieldInfo := #[]) : ClassFile where
  minorVersion := 0
  majorVersion := 65
  constantPool := pool
  accessFlags := fl
  thisClass := this
  superClass := sup
  interfaces := ifs
  fields := fds
  methods := ms
  attributes := attrs
def plain (name : String) (sup : Option ClassId) : Class where
  name := name
  kind := .ordinary
  loader := none
  accessFlags := 33
  super := sup
  interfaces := #[]
  cf := none
  fields := #[]
  methods := #[]
  instanceTypes := #[]
  staticTypes := #[]
  resolved := #[]
  callSites := []
  init := .initialized
  statics := none
  mirror := none

def pool0 : Array CpInfo := pool [(5, u "<init>"), (0, u "()V"), (1, .class_ 10), (1, u "java/lang/Object"), (0, u "getClass"), (0, u "()Ljava/lang/Class;")] 111

def k0c0 : Code := { maxStack := 0, maxLocals := 1, code := object_method_1_code, exceptionTable := #[], attributes := #[] }
def k0m0 : Method := { name := "<init>", desc := "()V", sig := { parameters := [], returnType := none }, accessFlags := 1, code := some k0c0 }
def k0m1 : Method := { name := "getClass", desc := "()Ljava/lang/Class;", sig := { parameters := [], returnType := some (.object "java/lang/Class") }, accessFlags := 273, code := none }
/-- java/lang/Object -/
def k0 : Class := { plain "java/lang/Object" none with
  accessFlags := 33
  interfaces := #[]
  cf := some (fileOf pool0 8 #[] #[{ accessFlags := 1, nameIndex := 5, descriptorIndex := 6, attributes := #[] }, { accessFlags := 273, nameIndex := 11, descriptorIndex := 12, attributes := #[] }] 33 0 #[] #[])
  fields := #[]
  methods := #[k0m0, k0m1]
  instanceTypes := #[]
  staticTypes := #[]
  resolved := Array.replicate 124 none
  statics := none }

def pool1 : Array CpInfo := pool [(2, .class_ 4), (0, .nameAndType 5 6), (0, u "java/lang/Object"), (0, u "<init>"), (0, u "()V"), (0, .integer 2147483647), (0, .class_ 9), (0, u "com/example/keyhold/keyhold/model/SigningKey"), (0, .class_ 11), (0, u "java/lang/String"), (0, .methodref 10 13), (0, .nameAndType 5 14), (0, u "([C)V"), (0, .methodref 8 16), (0, .nameAndType 5 17), (0, u "(Ljava/lang/String;[BJ)V"), (0, .class_ 19), (0, u "java/util/ArrayList"), (0, .methodref 18 3), (0, .methodref 18 22), (0, .nameAndType 23 24), (0, u "add"), (0, u "(Ljava/lang/Object;)Z"), (0, .class_ 26), (0, u "com/example/keyhold/keyhold/model/KeyRing"), (0, .methodref 25 28), (0, .nameAndType 5 29), (0, u "(Ljava/util/List;)V"), (0, .methodref 25 31), (0, .nameAndType 32 33), (0, u "inUse"), (0, u "()Lcom/example/keyhold/keyhold/model/SigningKey;"), (0, .methodref 18 35), (0, .nameAndType 23 36), (0, u "(ILjava/lang/Object;)V"), (0, .class_ 38), (0, u "com/example/keyhold/keyhold/model/KeyRingInUsePinLaw"), (2, u "law"), (0, u "(IIIJJJ)Z")] 3

def k1m0 : Method := { name := "<init>", desc := "()V", sig := { parameters := [], returnType := none }, accessFlags := 1, code := none }
def k1c1 : Code := { maxStack := 9, maxLocals := 17, code := code, exceptionTable := #[], attributes := #[] }
def k1m1 : Method := { name := "law", desc := "(IIIJJJ)Z", sig := { parameters := [.int, .int, .int, .long, .long, .long], returnType := some .boolean }, accessFlags := 9, code := some k1c1 }
/-- com/example/keyhold/keyhold/model/KeyRingInUsePinLaw -/
def k1 : Class := { plain "com/example/keyhold/keyhold/model/KeyRingInUsePinLaw" (some 0) with
  accessFlags := 49
  interfaces := #[]
  cf := some (fileOf pool1 37 #[] #[{ accessFlags := 1, nameIndex := 5, descriptorIndex := 6, attributes := #[] }, { accessFlags := 9, nameIndex := 41, descriptorIndex := 42, attributes := #[] }] 49 2 #[] #[])
  fields := #[]
  methods := #[k1m0, k1m1]
  instanceTypes := #[]
  staticTypes := #[]
  resolved := Array.replicate 46 none
  statics := none }

def pool2 : Array CpInfo := pool [(1, .methodref 2 3), (0, .class_ 4), (0, .nameAndType 5 6), (0, u "java/lang/Object"), (0, u "<init>"), (0, u "()V"), (0, .class_ 8), (0, u "java/lang/Record")] 13

def k2c0 : Code := { maxStack := 1, maxLocals := 1, code := jdk_30_method_1_code, exceptionTable := #[], attributes := #[] }
def k2m0 : Method := { name := "<init>", desc := "()V", sig := { parameters := [], returnType := none }, accessFlags := 4, code := some k2c0 }
/-- java/lang/Record -/
def k2 : Class := { plain "java/lang/Record" (some 0) with
  accessFlags := 1057
  interfaces := #[]
  cf := some (fileOf pool2 7 #[] #[{ accessFlags := 4, nameIndex := 5, descriptorIndex := 6, attributes := #[] }] 1057 2 #[] #[])
  fields := #[]
  methods := #[k2m0]
  instanceTypes := #[]
  staticTypes := #[]
  resolved := Array.replicate 22 none
  statics := none }

def pool3 : Array CpInfo := pool [(1, .methodref 2 3), (0, .class_ 4), (0, .nameAndType 5 6), (0, u "java/lang/Record"), (0, u "<init>"), (0, u "()V"), (0, .string 8), (0, u "signing key id may not be null"), (0, .methodref 10 11), (0, .class_ 12), (0, .nameAndType 13 14), (0, u "java/util/Objects"), (0, u "requireNonNull"), (0, u "(Ljava/lang/Object;Ljava/lang/String;)Ljava/lang/Object;"), (0, .string 16), (0, u "signing key secret may not be null"), (0, .fieldref 18 19), (0, .class_ 20), (0, .nameAndType 21 22), (0, u "com/example/keyhold/keyhold/model/SigningKey"), (0, u "kid"), (0, u "Ljava/lang/String;"), (0, .fieldref 18 24), (0, .nameAndType 25 26), (0, u "secret"), (0, u "[B"), (0, .fieldref 18 28), (0, .nameAndType 29 30), (0, u "createdAt"), (0, u "J"), (12, u "(Ljava/lang/String;[BJ)V")] 39

def k3c0 : Code := { maxStack := 3, maxLocals := 5, code := prog_10_method_1_code, exceptionTable := #[], attributes := #[] }
def k3m0 : Method := { name := "<init>", desc := "(Ljava/lang/String;[BJ)V", sig := { parameters := [(.object "java/lang/String"), (.array .byte), .long], returnType := none }, accessFlags := 1, code := some k3c0 }
/-- com/example/keyhold/keyhold/model/SigningKey -/
def k3 : Class := { plain "com/example/keyhold/keyhold/model/SigningKey" (some 2) with
  accessFlags := 49
  interfaces := #[]
  cf := some (fileOf pool3 18 #[] #[{ accessFlags := 1, nameIndex := 5, descriptorIndex := 43, attributes := #[] }] 49 2 #[] #[{ accessFlags := 18, nameIndex := 21, descriptorIndex := 22, attributes := #[] }, { accessFlags := 18, nameIndex := 25, descriptorIndex := 26, attributes := #[] }, { accessFlags := 18, nameIndex := 29, descriptorIndex := 30, attributes := #[] }])
  fields := #[{ name := "kid", type := (.object "java/lang/String"), accessFlags := 18, slot := 0, constantValue := 0 }, { name := "secret", type := (.array .byte), accessFlags := 18, slot := 1, constantValue := 0 }, { name := "createdAt", type := .long, accessFlags := 18, slot := 2, constantValue := 0 }]
  methods := #[k3m0]
  instanceTypes := #[(.object "java/lang/String"), (.array .byte), .long]
  staticTypes := #[]
  resolved := Array.replicate 83 none
  statics := none }

def pool4 : Array CpInfo := pool [(1, .class_ 2), (0, u "java/io/Serializable"), (0, .class_ 4), (0, u "java/lang/Object")] 2

/-- java/io/Serializable -/
def k4 : Class := { plain "java/io/Serializable" (some 0) with
  accessFlags := 1537
  interfaces := #[]
  cf := some (fileOf pool4 1 #[] #[] 1537 3 #[] #[])
  fields := #[]
  methods := #[]
  instanceTypes := #[]
  staticTypes := #[]
  resolved := Array.replicate 7 none
  statics := none }

def pool5 : Array CpInfo := pool [(1, .class_ 2), (0, u "java/lang/Comparable"), (0, .class_ 4), (0, u "java/lang/Object")] 7

/-- java/lang/Comparable -/
def k5 : Class := { plain "java/lang/Comparable" (some 0) with
  accessFlags := 1537
  interfaces := #[]
  cf := some (fileOf pool5 1 #[] #[] 1537 3 #[] #[])
  fields := #[]
  methods := #[]
  instanceTypes := #[]
  staticTypes := #[]
  resolved := Array.replicate 12 none
  statics := none }

def pool6 : Array CpInfo := pool [(2, .class_ 4), (1, u "java/lang/CharSequence"), (42, .class_ 48), (0, u "java/lang/CharSequence$1CodePointIterator"), (10, .class_ 60), (0, u "java/lang/CharSequence$1CharIterator"), (5, .class_ 67), (0, u "java/lang/Object")] 63

/-- java/lang/CharSequence -/
def k6 : Class := { plain "java/lang/CharSequence" (some 0) with
  accessFlags := 1537
  interfaces := #[]
  cf := some (fileOf pool6 2 #[.nestMembers #[47, 59]] #[] 1537 66 #[] #[])
  fields := #[]
  methods := #[]
  instanceTypes := #[]
  staticTypes := #[]
  resolved := Array.replicate 131 none
  statics := none }

def pool7 : Array CpInfo := pool [(1, .class_ 2), (0, u "java/lang/constant/Constable"), (0, .class_ 4), (0, u "java/lang/Object")] 6

/-- java/lang/constant/Constable -/
def k7 : Class := { plain "java/lang/constant/Constable" (some 0) with
  accessFlags := 1537
  interfaces := #[]
  cf := some (fileOf pool7 1 #[] #[] 1537 3 #[] #[])
  fields := #[]
  methods := #[]
  instanceTypes := #[]
  staticTypes := #[]
  resolved := Array.replicate 11 none
  statics := none }

def pool8 : Array CpInfo := pool [(1, .class_ 2), (0, u "java/lang/constant/ConstantDesc"), (0, .class_ 4), (0, u "java/lang/Object")] 32

/-- java/lang/constant/ConstantDesc -/
def k8 : Class := { plain "java/lang/constant/ConstantDesc" (some 0) with
  accessFlags := 1537
  interfaces := #[]
  cf := some (fileOf pool8 1 #[] #[] 1537 3 #[] #[])
  fields := #[]
  methods := #[]
  instanceTypes := #[]
  staticTypes := #[]
  resolved := Array.replicate 37 none
  statics := none }

def pool9 : Array CpInfo := pool [(1, .methodref 2 3), (0, .class_ 4), (0, .nameAndType 5 6), (0, u "java/lang/Object"), (0, u "<init>"), (0, u "()V"), (2, .fieldref 10 11), (0, .class_ 12), (0, .nameAndType 13 14), (0, u "java/lang/String"), (0, u "value"), (0, u "[B"), (0, .fieldref 10 16), (0, .nameAndType 17 18), (0, u "coder"), (0, u "B"), (2, u "hash"), (0, u "I"), (2, u "hashIsZero"), (0, u "Z"), (0, .methodref 10 28), (0, .nameAndType 5 29), (0, u "([CIILjava/lang/Void;)V"), (8, .fieldref 10 39), (0, .nameAndType 40 26), (0, u "COMPACT_STRINGS"), (1, .class_ 44), (1, u "java/lang/StringUTF16"), (0, u "compress"), (1, .methodref 42 48), (0, .nameAndType 49 50), (0, u "coderFromArrayLen"), (0, u "([BI)B"), (126, .methodref 42 178), (0, .nameAndType 45 179), (0, u "([CII)[B"), (395, .class_ 576), (0, u "java/lang/CharSequence"), (22, u "CASE_INSENSITIVE_ORDER"), (0, u "Ljava/util/Comparator;"), (409, u "([C)V"), (90, u "serialPersistentFields"), (0, u "[Ljava/io/ObjectStreamField;"), (0, .class_ 1104), (0, u "java/lang/String$CaseInsensitiveComparator"), (1, .class_ 1107), (0, u "java/io/Serializable"), (0, .class_ 1109), (0, u "java/lang/Comparable"), (0, .class_ 1111), (0, u "java/lang/constant/Constable"), (0, .class_ 1113), (0, u "java/lang/constant/ConstantDesc"), (2, u "serialVersionUID"), (0, u "J"), (3, u "REPL"), (0, u "C"), (2, u "LATIN1"), (1, u "UTF16")] 323

def k9m0 : Method := { name := "<init>", desc := "()V", sig := { parameters := [], returnType := none }, accessFlags := 1, code := none }
def k9c1 : Code := { maxStack := 5, maxLocals := 2, code := jdk_42_method_3_code, exceptionTable := #[], attributes := #[] }
def k9m1 : Method := { name := "<init>", desc := "([C)V", sig := { parameters := [(.array .char)], returnType := none }, accessFlags := 1, code := some k9c1 }
def k9c2 : Code := { maxStack := 4, maxLocals := 6, code := jdk_42_method_149_code, exceptionTable := #[], attributes := #[] }
def k9m2 : Method := { name := "<init>", desc := "([CIILjava/lang/Void;)V", sig := { parameters := [(.array .char), .int, .int, (.object "java/lang/Void")], returnType := none }, accessFlags := 2, code := some k9c2 }
/-- java/lang/String -/
def k9 : Class := { plain "java/lang/String" (some 0) with
  accessFlags := 49
  interfaces := #[4, 5, 6, 7, 8]
  cf := some (fileOf pool9 10 #[.nestMembers #[1103]] #[{ accessFlags := 1, nameIndex := 5, descriptorIndex := 6, attributes := #[] }, { accessFlags := 1, nameIndex := 5, descriptorIndex := 1010, attributes := #[] }, { accessFlags := 2, nameIndex := 5, descriptorIndex := 29, attributes := #[] }] 49 2 #[1106, 1108, 575, 1110, 1112] #[{ accessFlags := 18, nameIndex := 13, descriptorIndex := 14, attributes := #[] }, { accessFlags := 18, nameIndex := 17, descriptorIndex := 18, attributes := #[] }, { accessFlags := 2, nameIndex := 21, descriptorIndex := 22, attributes := #[] }, { accessFlags := 2, nameIndex := 25, descriptorIndex := 26, attributes := #[] }, { accessFlags := 26, nameIndex := 1116, descriptorIndex := 1117, attributes := #[] }, { accessFlags := 24, nameIndex := 40, descriptorIndex := 26, attributes := #[] }, { accessFlags := 26, nameIndex := 1101, descriptorIndex := 1102, attributes := #[] }, { accessFlags := 26, nameIndex := 1121, descriptorIndex := 1122, attributes := #[] }, { accessFlags := 25, nameIndex := 599, descriptorIndex := 600, attributes := #[] }, { accessFlags := 24, nameIndex := 1125, descriptorIndex := 18, attributes := #[] }, { accessFlags := 24, nameIndex := 1127, descriptorIndex := 18, attributes := #[] }])
  fields := #[{ name := "value", type := (.array .byte), accessFlags := 18, slot := 0, constantValue := 0 }, { name := "coder", type := .byte, accessFlags := 18, slot := 1, constantValue := 0 }, { name := "hash", type := .int, accessFlags := 2, slot := 2, constantValue := 0 }, { name := "hashIsZero", type := .boolean, accessFlags := 2, slot := 3, constantValue := 0 }, { name := "serialVersionUID", type := .long, accessFlags := 26, slot := 0, constantValue := 0 }, { name := "COMPACT_STRINGS", type := .boolean, accessFlags := 24, slot := 1, constantValue := 0 }, { name := "serialPersistentFields", type := (.array (.object "java/io/ObjectStreamField")), accessFlags := 26, slot := 2, constantValue := 0 }, { name := "REPL", type := .char, accessFlags := 26, slot := 3, constantValue := 0 }, { name := "CASE_INSENSITIVE_ORDER", type := (.object "java/util/Comparator"), accessFlags := 25, slot := 4, constantValue := 0 }, { name := "LATIN1", type := .byte, accessFlags := 24, slot := 5, constantValue := 0 }, { name := "UTF16", type := .byte, accessFlags := 24, slot := 6, constantValue := 0 }]
  methods := #[k9m0, k9m1, k9m2]
  instanceTypes := #[(.array .byte), .byte, .int, .boolean]
  staticTypes := #[.long, .boolean, (.array (.object "java/io/ObjectStreamField")), .char, (.object "java/util/Comparator"), .byte, .byte]
  resolved := Array.replicate 1451 none
  statics := some 0 }

def pool10 : Array CpInfo := pool [(6, .class_ 8), (1, u "java/lang/Object"), (0, u "<init>"), (0, u "()V"), (1, .class_ 14), (1, u "java/lang/StringUTF16"), (31, u "$assertionsDisabled"), (0, u "Z"), (13, u "HI_BYTE_SHIFT"), (0, u "I"), (2, u "LO_BYTE_SHIFT"), (49, .methodref 12 116), (0, .nameAndType 117 118), (0, u "compress"), (0, u "([CI[BII)I"), (3, u "([CII)[B"), (138, u "coderFromArrayLen"), (0, u "([BI)B"), (106, .class_ 371), (1, u "java/lang/StringUTF16$LinesSpliterator"), (58, u "MAX_LENGTH"), (196, .class_ 628), (0, u "java/lang/StringUTF16$CodePointsSpliterator"), (0, .class_ 630), (0, u "java/lang/StringUTF16$CharsSpliterator")] 4

def k10m0 : Method := { name := "<init>", desc := "()V", sig := { parameters := [], returnType := none }, accessFlags := 0, code := none }
def k10c1 : Code := { maxStack := 2, maxLocals := 2, code := jdk_52_method_15_code, exceptionTable := #[], attributes := #[] }
def k10m1 : Method := { name := "coderFromArrayLen", desc := "([BI)B", sig := { parameters := [(.array .byte), .int], returnType := some .byte }, accessFlags := 8, code := some k10c1 }
def k10c2 : Code := { maxStack := 5, maxLocals := 6, code := jdk_52_method_16_code, exceptionTable := #[], attributes := #[] }
def k10m2 : Method := { name := "compress", desc := "([CII)[B", sig := { parameters := [(.array .char), .int, .int], returnType := some (.array .byte) }, accessFlags := 9, code := some k10c2 }
def k10c3 : Code := { maxStack := 3, maxLocals := 7, code := jdk_52_method_21_code, exceptionTable := #[], attributes := #[] }
def k10m3 : Method := { name := "compress", desc := "([CI[BII)I", sig := { parameters := [(.array .char), .int, (.array .byte), .int, .int], returnType := some .int }, accessFlags := 9, code := some k10c3 }
/-- java/lang/StringUTF16 -/
def k10 : Class := { plain "java/lang/StringUTF16" (some 0) with
  accessFlags := 48
  interfaces := #[]
  cf := some (fileOf pool10 12 #[.nestMembers #[627, 629, 369]] #[{ accessFlags := 0, nameIndex := 9, descriptorIndex := 10, attributes := #[] }, { accessFlags := 8, nameIndex := 261, descriptorIndex := 262, attributes := #[] }, { accessFlags := 9, nameIndex := 117, descriptorIndex := 122, attributes := #[] }, { accessFlags := 9, nameIndex := 117, descriptorIndex := 118, attributes := #[] }] 48 6 #[] #[{ accessFlags := 26, nameIndex := 61, descriptorIndex := 62, attributes := #[] }, { accessFlags := 26, nameIndex := 65, descriptorIndex := 62, attributes := #[] }, { accessFlags := 24, nameIndex := 430, descriptorIndex := 62, attributes := #[] }, { accessFlags := 4120, nameIndex := 46, descriptorIndex := 47, attributes := #[] }])
  fields := #[{ name := "HI_BYTE_SHIFT", type := .int, accessFlags := 26, slot := 0, constantValue := 0 }, { name := "LO_BYTE_SHIFT", type := .int, accessFlags := 26, slot := 1, constantValue := 0 }, { name := "MAX_LENGTH", type := .int, accessFlags := 24, slot := 2, constantValue := 0 }, { name := "$assertionsDisabled", type := .boolean, accessFlags := 4120, slot := 3, constantValue := 0 }]
  methods := #[k10m0, k10m1, k10m2, k10m3]
  instanceTypes := #[]
  staticTypes := #[.int, .int, .int, .boolean]
  resolved := Array.replicate 635 none
  statics := none }

def pool11 : Array CpInfo := pool [(2, .class_ 4), (1, u "java/lang/Object"), (0, u "<init>"), (0, u "()V"), (35, .class_ 44), (1, u "java/util/Objects"), (0, u "requireNonNull"), (0, u "(Ljava/lang/Object;)Ljava/lang/Object;"), (47, u "(Ljava/lang/Object;Ljava/lang/String;)Ljava/lang/Object;")] 89

def k11m0 : Method := { name := "<init>", desc := "()V", sig := { parameters := [], returnType := none }, accessFlags := 2, code := none }
def k11c1 : Code := { maxStack := 2, maxLocals := 1, code := jdk_31_method_10_code, exceptionTable := #[], attributes := #[] }
def k11m1 : Method := { name := "requireNonNull", desc := "(Ljava/lang/Object;)Ljava/lang/Object;", sig := { parameters := [(.object "java/lang/Object")], returnType := some (.object "java/lang/Object") }, accessFlags := 9, code := some k11c1 }
def k11c2 : Code := { maxStack := 3, maxLocals := 2, code := jdk_31_method_11_code, exceptionTable := #[], attributes := #[] }
def k11m2 : Method := { name := "requireNonNull", desc := "(Ljava/lang/Object;Ljava/lang/String;)Ljava/lang/Object;", sig := { parameters := [(.object "java/lang/Object"), (.object "java/lang/String")], returnType := some (.object "java/lang/Object") }, accessFlags := 9, code := some k11c2 }
/-- java/util/Objects -/
def k11 : Class := { plain "java/util/Objects" (some 0) with
  accessFlags := 49
  interfaces := #[]
  cf := some (fileOf pool11 42 #[] #[{ accessFlags := 2, nameIndex := 5, descriptorIndex := 6, attributes := #[] }, { accessFlags := 9, nameIndex := 45, descriptorIndex := 46, attributes := #[] }, { accessFlags := 9, nameIndex := 45, descriptorIndex := 94, attributes := #[] }] 49 2 #[] #[])
  fields := #[]
  methods := #[k11m0, k11m1, k11m2]
  instanceTypes := #[]
  staticTypes := #[]
  resolved := Array.replicate 184 none
  statics := none }

def pool12 : Array CpInfo := pool [(8, .class_ 10), (1, u "java/lang/Iterable"), (24, .class_ 36), (0, u "java/lang/Object")] 25

/-- java/lang/Iterable -/
def k12 : Class := { plain "java/lang/Iterable" (some 0) with
  accessFlags := 1537
  interfaces := #[]
  cf := some (fileOf pool12 8 #[] #[] 1537 35 #[] #[])
  fields := #[]
  methods := #[]
  instanceTypes := #[]
  staticTypes := #[]
  resolved := Array.replicate 62 none
  statics := none }

def pool13 : Array CpInfo := pool [(10, .class_ 12), (1, u "java/util/Collection"), (0, u "toArray"), (16, u "()Z"), (29, .class_ 61), (0, u "java/lang/Object"), (0, .class_ 63), (0, u "java/lang/Iterable"), (2, u "isEmpty"), (3, u "()[Ljava/lang/Object;")] 44

def k13m0 : Method := { name := "isEmpty", desc := "()Z", sig := { parameters := [], returnType := some .boolean }, accessFlags := 1025, code := none }
def k13m1 : Method := { name := "toArray", desc := "()[Ljava/lang/Object;", sig := { parameters := [], returnType := some (.array (.object "java/lang/Object")) }, accessFlags := 1025, code := none }
/-- java/util/Collection -/
def k13 : Class := { plain "java/util/Collection" (some 0) with
  accessFlags := 1537
  interfaces := #[12]
  cf := some (fileOf pool13 10 #[] #[{ accessFlags := 1025, nameIndex := 66, descriptorIndex := 30, attributes := #[] }, { accessFlags := 1025, nameIndex := 13, descriptorIndex := 70, attributes := #[] }] 1537 60 #[62] #[])
  fields := #[]
  methods := #[k13m0, k13m1]
  instanceTypes := #[]
  staticTypes := #[]
  resolved := Array.replicate 115 none
  statics := none }

def pool14 : Array CpInfo := pool [(1, .methodref 2 3), (0, .class_ 4), (0, .nameAndType 5 6), (0, u "java/lang/Object"), (0, u "<init>"), (0, u "()V"), (1, .class_ 10), (1, u "java/util/AbstractCollection"), (66, .class_ 78), (0, u "java/util/Collection")] 81

def k14c0 : Code := { maxStack := 1, maxLocals := 1, code := jdk_22_method_1_code, exceptionTable := #[], attributes := #[] }
def k14m0 : Method := { name := "<init>", desc := "()V", sig := { parameters := [], returnType := none }, accessFlags := 4, code := some k14c0 }
/-- java/util/AbstractCollection -/
def k14 : Class := { plain "java/util/AbstractCollection" (some 0) with
  accessFlags := 1057
  interfaces := #[13]
  cf := some (fileOf pool14 8 #[] #[{ accessFlags := 4, nameIndex := 5, descriptorIndex := 6, attributes := #[] }] 1057 2 #[77] #[])
  fields := #[]
  methods := #[k14m0]
  instanceTypes := #[]
  staticTypes := #[]
  resolved := Array.replicate 160 none
  statics := none }

def pool15 : Array CpInfo := pool [(8, .class_ 10), (1, u "java/util/SequencedCollection"), (15, .class_ 27), (0, u "java/lang/Object"), (0, .class_ 29), (0, u "java/util/Collection")] 27

/-- java/util/SequencedCollection -/
def k15 : Class := { plain "java/util/SequencedCollection" (some 0) with
  accessFlags := 1537
  interfaces := #[13]
  cf := some (fileOf pool15 8 #[] #[] 1537 26 #[28] #[])
  fields := #[]
  methods := #[]
  instanceTypes := #[]
  staticTypes := #[]
  resolved := Array.replicate 57 none
  statics := none }

def pool16 : Array CpInfo := pool [(8, .class_ 10), (1, u "java/util/List"), (7, u "()Z"), (12, u "(Ljava/lang/Object;)V"), (16, u "<init>"), (18, u "isEmpty"), (7, u "get"), (0, u "(I)Ljava/lang/Object;"), (11, u "of"), (2, .class_ 93), (1, u "java/util/ImmutableCollections"), (2, .class_ 97), (0, u "java/util/ImmutableCollections$List12"), (0, .methodref 96 99), (0, .nameAndType 48 31), (0, .methodref 96 101), (0, .nameAndType 48 102), (0, u "(Ljava/lang/Object;Ljava/lang/Object;)V"), (0, .class_ 104), (0, u "java/lang/Object"), (3, u "([Ljava/lang/Object;)Ljava/util/List;"), (0, .methodref 91 110), (0, .nameAndType 111 108), (0, u "listFromArray"), (0, .methodref 91 113), (0, .nameAndType 114 115), (0, u "listCopy"), (0, u "(Ljava/util/Collection;)Ljava/util/List;"), (4, .class_ 121), (0, u "java/util/SequencedCollection"), (112, u "copyOf")] 16

def k16m0 : Method := { name := "isEmpty", desc := "()Z", sig := { parameters := [], returnType := some .boolean }, accessFlags := 1025, code := none }
def k16m1 : Method := { name := "get", desc := "(I)Ljava/lang/Object;", sig := { parameters := [.int], returnType := some (.object "java/lang/Object") }, accessFlags := 1025, code := none }
def k16c2 : Code := { maxStack := 5, maxLocals := 2, code := jdk_40_method_47_code, exceptionTable := #[], attributes := #[] }
def k16m2 : Method := { name := "of", desc := "([Ljava/lang/Object;)Ljava/util/List;", sig := { parameters := [(.array (.object "java/lang/Object"))], returnType := some (.object "java/util/List") }, accessFlags := 137, code := some k16c2 }
def k16c3 : Code := { maxStack := 1, maxLocals := 1, code := jdk_40_method_48_code, exceptionTable := #[], attributes := #[] }
def k16m3 : Method := { name := "copyOf", desc := "(Ljava/util/Collection;)Ljava/util/List;", sig := { parameters := [(.object "java/util/Collection")], returnType := some (.object "java/util/List") }, accessFlags := 9, code := some k16c3 }
/-- java/util/List -/
def k16 : Class := { plain "java/util/List" (some 0) with
  accessFlags := 1537
  interfaces := #[15]
  cf := some (fileOf pool16 8 #[] #[{ accessFlags := 1025, nameIndex := 67, descriptorIndex := 18, attributes := #[] }, { accessFlags := 1025, nameIndex := 75, descriptorIndex := 76, attributes := #[] }, { accessFlags := 137, nameIndex := 88, descriptorIndex := 108, attributes := #[] }, { accessFlags := 9, nameIndex := 234, descriptorIndex := 115, attributes := #[] }] 1537 103 #[120] #[])
  fields := #[]
  methods := #[k16m0, k16m1, k16m2, k16m3]
  instanceTypes := #[]
  staticTypes := #[]
  resolved := Array.replicate 251 none
  statics := none }

def pool17 : Array CpInfo := pool [(1, .methodref 2 3), (0, .class_ 4), (0, .nameAndType 5 6), (0, u "java/util/AbstractCollection"), (0, u "<init>"), (0, u "()V"), (0, .fieldref 8 9), (0, .class_ 10), (0, .nameAndType 11 12), (0, u "java/util/AbstractList"), (0, u "modCount"), (0, u "I"), (64, .class_ 78), (0, u "java/util/AbstractList$Itr"), (3, .class_ 83), (0, u "java/util/AbstractList$ListItr"), (9, .class_ 94), (0, u "java/util/AbstractList$RandomAccessSubList"), (3, .class_ 99), (0, u "java/util/AbstractList$SubList"), (33, .class_ 134), (0, u "java/util/List"), (73, .class_ 209), (0, u "java/util/AbstractList$SubList$1"), (0, .class_ 211), (0, u "java/util/AbstractList$RandomAccessSpliterator")] 6

def k17c0 : Code := { maxStack := 2, maxLocals := 1, code := jdk_39_method_1_code, exceptionTable := #[], attributes := #[] }
def k17m0 : Method := { name := "<init>", desc := "()V", sig := { parameters := [], returnType := none }, accessFlags := 4, code := some k17c0 }
/-- java/util/AbstractList -/
def k17 : Class := { plain "java/util/AbstractList" (some 14) with
  accessFlags := 1057
  interfaces := #[16]
  cf := some (fileOf pool17 8 #[.nestMembers #[93, 98, 208, 210, 82, 77]] #[{ accessFlags := 4, nameIndex := 5, descriptorIndex := 6, attributes := #[] }] 1057 2 #[133] #[{ accessFlags := 132, nameIndex := 11, descriptorIndex := 12, attributes := #[] }])
  fields := #[{ name := "modCount", type := .int, accessFlags := 132, slot := 0, constantValue := 0 }]
  methods := #[k17m0]
  instanceTypes := #[.int]
  staticTypes := #[]
  resolved := Array.replicate 218 none
  statics := none }

def pool18 : Array CpInfo := pool [(1, .class_ 2), (0, u "java/util/RandomAccess"), (0, .class_ 4), (0, u "java/lang/Object")] 2

/-- java/util/RandomAccess -/
def k18 : Class := { plain "java/util/RandomAccess" (some 0) with
  accessFlags := 1537
  interfaces := #[]
  cf := some (fileOf pool18 1 #[] #[] 1537 3 #[] #[])
  fields := #[]
  methods := #[]
  instanceTypes := #[]
  staticTypes := #[]
  resolved := Array.replicate 7 none
  statics := none }

def pool19 : Array CpInfo := pool [(1, .class_ 2), (0, u "java/lang/Cloneable"), (0, .class_ 4), (0, u "java/lang/Object")] 2

/-- java/lang/Cloneable -/
def k19 : Class := { plain "java/lang/Cloneable" (some 0) with
  accessFlags := 1537
  interfaces := #[]
  cf := some (fileOf pool19 1 #[] #[] 1537 3 #[] #[])
  fields := #[]
  methods := #[]
  instanceTypes := #[]
  staticTypes := #[]
  resolved := Array.replicate 7 none
  statics := none }

def pool20 : Array CpInfo := pool [(1, .methodref 2 3), (0, .class_ 4), (0, .nameAndType 5 6), (0, u "java/util/AbstractList"), (0, u "<init>"), (0, u "()V"), (0, .class_ 8), (0, u "java/lang/Object"), (0, .fieldref 10 11), (0, .class_ 12), (0, .nameAndType 13 14), (0, u "java/util/ArrayList"), (0, u "elementData"), (0, u "[Ljava/lang/Object;"), (2, u "EMPTY_ELEMENTDATA"), (21, .fieldref 10 40), (0, .nameAndType 41 14), (0, u "DEFAULTCAPACITY_EMPTY_ELEMENTDATA"), (4, u "toArray"), (0, u "()[Ljava/lang/Object;"), (0, .fieldref 10 49), (0, .nameAndType 50 51), (0, u "size"), (0, u "I"), (6, .class_ 60), (1, u "java/util/Arrays"), (0, u "copyOf"), (1, .fieldref 10 64), (0, .nameAndType 65 51), (0, u "modCount"), (0, .methodref 58 67), (0, .nameAndType 61 68), (0, u "([Ljava/lang/Object;I)[Ljava/lang/Object;"), (0, .methodref 10 70), (0, .nameAndType 71 72), (0, u "grow"), (0, u "(I)[Ljava/lang/Object;"), (6, .methodref 80 81), (0, .class_ 82), (0, .nameAndType 83 84), (0, u "java/lang/Math"), (0, u "max"), (0, u "(II)I"), (11, u "(Ljava/lang/Object;)Z"), (15, .methodref 113 114), (0, .class_ 115), (0, .nameAndType 116 117), (0, u "java/lang/System"), (0, u "arraycopy"), (0, u "(Ljava/lang/Object;ILjava/lang/Object;II)V"), (11, .methodref 10 130), (0, .nameAndType 71 47), (0, .methodref 10 132), (0, .nameAndType 133 134), (0, u "add"), (0, u "(Ljava/lang/Object;[Ljava/lang/Object;I)V"), (0, .methodref 10 136), (0, .nameAndType 137 138), (0, u "rangeCheckForAdd"), (0, u "(I)V"), (2, u "(ILjava/lang/Object;)V"), (6, .class_ 149), (0, u "java/util/List"), (23, u "()Z"), (88, .class_ 263), (0, u "java/util/ArrayList$ListItr"), (3, .class_ 268), (0, u "java/util/ArrayList$Itr"), (7, .class_ 277), (0, u "java/util/ArrayList$SubList"), (12, .class_ 291), (0, u "java/util/ArrayList$ArrayListSpliterator"), (37, .class_ 330), (0, u "java/util/RandomAccess"), (0, .class_ 332), (0, u "java/lang/Cloneable"), (0, .class_ 334), (0, u "java/io/Serializable"), (0, u "serialVersionUID"), (0, u "J"), (3, u "DEFAULT_CAPACITY"), (22, u "isEmpty"), (136, .class_ 501), (0, u "java/util/ArrayList$SubList$2"), (0, .class_ 503), (0, u "java/util/ArrayList$SubList$1")] 5

def k20c0 : Code := { maxStack := 2, maxLocals := 1, code := jdk_38_method_2_code, exceptionTable := #[], attributes := #[] }
def k20m0 : Method := { name := "<init>", desc := "()V", sig := { parameters := [], returnType := none }, accessFlags := 1, code := some k20c0 }
def k20c1 : Code := { maxStack := 4, maxLocals := 4, code := jdk_38_method_6_code, exceptionTable := #[], attributes := #[] }
def k20m1 : Method := { name := "grow", desc := "(I)[Ljava/lang/Object;", sig := { parameters := [.int], returnType := some (.array (.object "java/lang/Object")) }, accessFlags := 2, code := some k20c1 }
def k20c2 : Code := { maxStack := 3, maxLocals := 1, code := jdk_38_method_7_code, exceptionTable := #[], attributes := #[] }
def k20m2 : Method := { name := "grow", desc := "()[Ljava/lang/Object;", sig := { parameters := [], returnType := some (.array (.object "java/lang/Object")) }, accessFlags := 2, code := some k20c2 }
def k20c3 : Code := { maxStack := 1, maxLocals := 1, code := jdk_38_method_9_code, exceptionTable := #[], attributes := #[] }
def k20m3 : Method := { name := "isEmpty", desc := "()Z", sig := { parameters := [], returnType := some .boolean }, accessFlags := 1, code := some k20c3 }
def k20c4 : Code := { maxStack := 2, maxLocals := 1, code := jdk_38_method_16_code, exceptionTable := #[], attributes := #[] }
def k20m4 : Method := { name := "toArray", desc := "()[Ljava/lang/Object;", sig := { parameters := [], returnType := some (.array (.object "java/lang/Object")) }, accessFlags := 1, code := some k20c4 }
def k20c5 : Code := { maxStack := 3, maxLocals := 4, code := jdk_38_method_24_code, exceptionTable := #[], attributes := #[] }
def k20m5 : Method := { name := "add", desc := "(Ljava/lang/Object;[Ljava/lang/Object;I)V", sig := { parameters := [(.object "java/lang/Object"), (.array (.object "java/lang/Object")), .int], returnType := none }, accessFlags := 2, code := some k20c5 }
def k20c6 : Code := { maxStack := 4, maxLocals := 2, code := jdk_38_method_25_code, exceptionTable := #[], attributes := #[] }
def k20m6 : Method := { name := "add", desc := "(Ljava/lang/Object;)Z", sig := { parameters := [(.object "java/lang/Object")], returnType := some .boolean }, accessFlags := 1, code := some k20c6 }
def k20c7 : Code := { maxStack := 6, maxLocals := 5, code := jdk_38_method_26_code, exceptionTable := #[], attributes := #[] }
def k20m7 : Method := { name := "add", desc := "(ILjava/lang/Object;)V", sig := { parameters := [.int, (.object "java/lang/Object")], returnType := none }, accessFlags := 1, code := some k20c7 }
def k20c8 : Code := { maxStack := 4, maxLocals := 2, code := jdk_38_method_45_code, exceptionTable := #[], attributes := #[] }
def k20m8 : Method := { name := "rangeCheckForAdd", desc := "(I)V", sig := { parameters := [.int], returnType := none }, accessFlags := 2, code := some k20c8 }
/-- java/util/ArrayList -/
def k20 : Class := { plain "java/util/ArrayList" (some 17) with
  accessFlags := 33
  interfaces := #[16, 18, 19, 4]
  cf := some (fileOf pool20 10 #[.nestMembers #[290, 276, 500, 502, 262, 267]] #[{ accessFlags := 1, nameIndex := 5, descriptorIndex := 6, attributes := #[] }, { accessFlags := 2, nameIndex := 71, descriptorIndex := 72, attributes := #[] }, { accessFlags := 2, nameIndex := 71, descriptorIndex := 47, attributes := #[] }, { accessFlags := 1, nameIndex := 363, descriptorIndex := 173, attributes := #[] }, { accessFlags := 1, nameIndex := 46, descriptorIndex := 47, attributes := #[] }, { accessFlags := 2, nameIndex := 133, descriptorIndex := 134, attributes := #[] }, { accessFlags := 1, nameIndex := 133, descriptorIndex := 96, attributes := #[] }, { accessFlags := 1, nameIndex := 133, descriptorIndex := 141, attributes := #[] }, { accessFlags := 2, nameIndex := 137, descriptorIndex := 138, attributes := #[] }] 33 2 #[148, 329, 331, 333] #[{ accessFlags := 26, nameIndex := 335, descriptorIndex := 336, attributes := #[] }, { accessFlags := 26, nameIndex := 340, descriptorIndex := 51, attributes := #[] }, { accessFlags := 26, nameIndex := 17, descriptorIndex := 14, attributes := #[] }, { accessFlags := 26, nameIndex := 41, descriptorIndex := 14, attributes := #[] }, { accessFlags := 128, nameIndex := 13, descriptorIndex := 14, attributes := #[] }, { accessFlags := 2, nameIndex := 50, descriptorIndex := 51, attributes := #[] }])
  fields := #[{ name := "serialVersionUID", type := .long, accessFlags := 26, slot := 0, constantValue := 0 }, { name := "DEFAULT_CAPACITY", type := .int, accessFlags := 26, slot := 1, constantValue := 0 }, { name := "EMPTY_ELEMENTDATA", type := (.array (.object "java/lang/Object")), accessFlags := 26, slot := 2, constantValue := 0 }, { name := "DEFAULTCAPACITY_EMPTY_ELEMENTDATA", type := (.array (.object "java/lang/Object")), accessFlags := 26, slot := 3, constantValue := 0 }, { name := "elementData", type := (.array (.object "java/lang/Object")), accessFlags := 128, slot := 1, constantValue := 0 }, { name := "size", type := .int, accessFlags := 2, slot := 2, constantValue := 0 }]
  methods := #[k20m0, k20m1, k20m2, k20m3, k20m4, k20m5, k20m6, k20m7, k20m8]
  instanceTypes := #[.int, (.array (.object "java/lang/Object")), .int]
  staticTypes := #[.long, .int, (.array (.object "java/lang/Object")), (.array (.object "java/lang/Object"))]
  resolved := Array.replicate 509 none
  statics := some 1 }

def pool21 : Array CpInfo := pool [(1, .class_ 2), (0, u "java/lang/Math"), (1, .class_ 6), (1, u "java/lang/Object"), (0, u "<init>"), (0, u "()V"), (89, .class_ 100), (1, u "java/lang/Math$RandomNumberGeneratorHolder"), (71, u "negativeZeroFloatBits"), (0, u "J"), (2, u "negativeZeroDoubleBits"), (21, u "max"), (2, u "min"), (43, u "$assertionsDisabled"), (0, u "Z"), (88, u "(II)I"), (2, u "twoToTheDoubleScaleDown"), (0, u "D"), (4, u "twoToTheDoubleScaleUp"), (9, u "E"), (3, u "PI"), (2, u "TAU"), (2, u "DEGREES_TO_RADIANS"), (0, u "RADIANS_TO_DEGREES")] 94

def k21m0 : Method := { name := "<init>", desc := "()V", sig := { parameters := [], returnType := none }, accessFlags := 2, code := none }
def k21c1 : Code := { maxStack := 2, maxLocals := 2, code := jdk_29_method_65_code, exceptionTable := #[], attributes := #[] }
def k21m1 : Method := { name := "max", desc := "(II)I", sig := { parameters := [.int, .int], returnType := some .int }, accessFlags := 9, code := some k21c1 }
def k21c2 : Code := { maxStack := 2, maxLocals := 2, code := jdk_29_method_69_code, exceptionTable := #[], attributes := #[] }
def k21m2 : Method := { name := "min", desc := "(II)I", sig := { parameters := [.int, .int], returnType := some .int }, accessFlags := 9, code := some k21c2 }
/-- java/lang/Math -/
def k21 : Class := { plain "java/lang/Math" (some 0) with
  accessFlags := 49
  interfaces := #[]
  cf := some (fileOf pool21 1 #[.nestMembers #[98]] #[{ accessFlags := 2, nameIndex := 7, descriptorIndex := 8, attributes := #[] }, { accessFlags := 9, nameIndex := 198, descriptorIndex := 335, attributes := #[] }, { accessFlags := 9, nameIndex := 201, descriptorIndex := 335, attributes := #[] }] 49 4 #[] #[{ accessFlags := 25, nameIndex := 354, descriptorIndex := 339, attributes := #[] }, { accessFlags := 25, nameIndex := 358, descriptorIndex := 339, attributes := #[] }, { accessFlags := 25, nameIndex := 361, descriptorIndex := 339, attributes := #[] }, { accessFlags := 26, nameIndex := 364, descriptorIndex := 339, attributes := #[] }, { accessFlags := 26, nameIndex := 365, descriptorIndex := 339, attributes := #[] }, { accessFlags := 26, nameIndex := 172, descriptorIndex := 173, attributes := #[] }, { accessFlags := 26, nameIndex := 176, descriptorIndex := 173, attributes := #[] }, { accessFlags := 8, nameIndex := 344, descriptorIndex := 339, attributes := #[] }, { accessFlags := 8, nameIndex := 338, descriptorIndex := 339, attributes := #[] }, { accessFlags := 4120, nameIndex := 245, descriptorIndex := 246, attributes := #[] }])
  fields := #[{ name := "E", type := .double, accessFlags := 25, slot := 0, constantValue := 0 }, { name := "PI", type := .double, accessFlags := 25, slot := 1, constantValue := 0 }, { name := "TAU", type := .double, accessFlags := 25, slot := 2, constantValue := 0 }, { name := "DEGREES_TO_RADIANS", type := .double, accessFlags := 26, slot := 3, constantValue := 0 }, { name := "RADIANS_TO_DEGREES", type := .double, accessFlags := 26, slot := 4, constantValue := 0 }, { name := "negativeZeroFloatBits", type := .long, accessFlags := 26, slot := 5, constantValue := 0 }, { name := "negativeZeroDoubleBits", type := .long, accessFlags := 26, slot := 6, constantValue := 0 }, { name := "twoToTheDoubleScaleUp", type := .double, accessFlags := 8, slot := 7, constantValue := 0 }, { name := "twoToTheDoubleScaleDown", type := .double, accessFlags := 8, slot := 8, constantValue := 0 }, { name := "$assertionsDisabled", type := .boolean, accessFlags := 4120, slot := 9, constantValue := 0 }]
  methods := #[k21m0, k21m1, k21m2]
  instanceTypes := #[]
  staticTypes := #[.double, .double, .double, .double, .double, .long, .long, .double, .double, .boolean]
  resolved := Array.replicate 460 none
  statics := none }

def pool22 : Array CpInfo := pool [(1, .methodref 2 3), (0, .class_ 4), (0, .nameAndType 5 6), (0, u "java/lang/Record"), (0, u "<init>"), (0, u "()V"), (0, .string 8), (0, u "signing keys may not be null"), (0, .methodref 10 11), (0, .class_ 12), (0, .nameAndType 13 14), (0, u "java/util/Objects"), (0, u "requireNonNull"), (0, u "(Ljava/lang/Object;Ljava/lang/String;)Ljava/lang/Object;"), (0, .interfaceMethodref 16 17), (0, .class_ 18), (0, .nameAndType 19 20), (0, u "java/util/List"), (0, u "isEmpty"), (0, u "()Z"), (7, .interfaceMethodref 16 29), (0, .nameAndType 30 31), (0, u "copyOf"), (0, u "(Ljava/util/Collection;)Ljava/util/List;"), (0, .fieldref 33 34), (0, .class_ 35), (0, .nameAndType 36 37), (0, u "com/example/keyhold/keyhold/model/KeyRing"), (0, u "keys"), (0, u "Ljava/util/List;"), (0, .interfaceMethodref 16 39), (0, .nameAndType 40 41), (0, u "get"), (0, u "(I)Ljava/lang/Object;"), (0, .class_ 43), (0, u "com/example/keyhold/keyhold/model/SigningKey"), (48, u "(Ljava/util/List;)V"), (5, u "inUse"), (0, u "()Lcom/example/keyhold/keyhold/model/SigningKey;")] 25

def k22c0 : Code := { maxStack := 3, maxLocals := 2, code := prog_7_method_1_code, exceptionTable := #[], attributes := #[] }
def k22m0 : Method := { name := "<init>", desc := "(Ljava/util/List;)V", sig := { parameters := [(.object "java/util/List")], returnType := none }, accessFlags := 1, code := some k22c0 }
def k22c1 : Code := { maxStack := 2, maxLocals := 1, code := prog_7_method_2_code, exceptionTable := #[], attributes := #[] }
def k22m1 : Method := { name := "inUse", desc := "()Lcom/example/keyhold/keyhold/model/SigningKey;", sig := { parameters := [], returnType := some (.object "com/example/keyhold/keyhold/model/SigningKey") }, accessFlags := 1, code := some k22c1 }
/-- com/example/keyhold/keyhold/model/KeyRing -/
def k22 : Class := { plain "com/example/keyhold/keyhold/model/KeyRing" (some 2) with
  accessFlags := 49
  interfaces := #[]
  cf := some (fileOf pool22 33 #[] #[{ accessFlags := 1, nameIndex := 5, descriptorIndex := 92, attributes := #[] }, { accessFlags := 1, nameIndex := 98, descriptorIndex := 99, attributes := #[] }] 49 2 #[] #[{ accessFlags := 18, nameIndex := 36, descriptorIndex := 37, attributes := #[] }])
  fields := #[{ name := "keys", type := (.object "java/util/List"), accessFlags := 18, slot := 0, constantValue := 0 }]
  methods := #[k22m0, k22m1]
  instanceTypes := #[(.object "java/util/List")]
  staticTypes := #[]
  resolved := Array.replicate 125 none
  statics := none }

def pool23 : Array CpInfo := pool [(2, .class_ 4), (1, u "java/lang/Object"), (0, u "<init>"), (0, u "()V"), (3, .class_ 11), (0, u "java/util/ImmutableCollections$List12"), (0, .class_ 13), (0, u "java/util/ImmutableCollections$ListN"), (3, u "Z"), (0, .class_ 19), (0, u "java/util/List"), (0, .interfaceMethodref 21 22), (0, .class_ 23), (0, .nameAndType 24 25), (0, u "java/util/Collection"), (0, u "isEmpty"), (0, u "()Z"), (2, u "of"), (1, .interfaceMethodref 21 31), (0, .nameAndType 32 33), (0, u "toArray"), (0, u "()[Ljava/lang/Object;"), (0, .interfaceMethodref 18 35), (0, .nameAndType 28 36), (0, u "([Ljava/lang/Object;)Ljava/util/List;"), (0, .methodref 38 39), (0, .class_ 40), (0, .nameAndType 41 42), (0, u "java/util/Objects"), (0, u "requireNonNull"), (0, u "(Ljava/lang/Object;)Ljava/lang/Object;"), (0, .methodref 12 44), (0, .nameAndType 5 45), (0, u "([Ljava/lang/Object;Z)V"), (1, .class_ 49), (1, u "java/util/ImmutableCollections"), (0, u "$assertionsDisabled"), (5, u "[Ljava/lang/Object;"), (5, u "EMPTY_LIST"), (0, u "Ljava/util/ImmutableCollections$ListN;"), (8, u "EMPTY_LIST_NULLS"), (22, u "SALT32L"), (0, u "J"), (2, u "REVERSE"), (6, u "archivedObjects"), (2, u "EMPTY"), (0, u "Ljava/lang/Object;"), (0, .class_ 112), (0, u "java/util/ImmutableCollections$SetN"), (5, u "EMPTY_SET"), (0, u "Ljava/util/ImmutableCollections$SetN;"), (0, .class_ 121), (0, u "java/util/ImmutableCollections$MapN"), (3, u "EMPTY_MAP"), (0, u "Ljava/util/ImmutableCollections$MapN;"), (4, u "EXPAND_FACTOR"), (0, u "I"), (9, u "listCopy"), (0, u "(Ljava/util/Collection;)Ljava/util/List;"), (7, u "listFromArray"), (17, .class_ 170), (0, u "java/util/ImmutableCollections$MapN$MapNIterator"), (0, .class_ 172), (0, u "java/util/ImmutableCollections$MapN$1"), (0, .class_ 174), (0, u "java/util/ImmutableCollections$Map1"), (0, .class_ 176), (0, u "java/util/ImmutableCollections$AbstractImmutableMap"), (0, .class_ 178), (0, u "java/util/ImmutableCollections$SetN$SetNIterator"), (0, .class_ 180), (0, u "java/util/ImmutableCollections$Set12"), (0, .class_ 182), (0, u "java/util/ImmutableCollections$Set12$1"), (0, .class_ 184), (0, u "java/util/ImmutableCollections$AbstractImmutableSet"), (0, .class_ 186), (0, u "java/util/ImmutableCollections$SubList"), (0, .class_ 188), (0, u "java/util/ImmutableCollections$ListItr"), (0, .class_ 190), (0, u "java/util/ImmutableCollections$AbstractImmutableList"), (0, .class_ 192), (0, u "java/util/ImmutableCollections$AbstractImmutableCollection"), (0, .class_ 194), (0, u "java/util/ImmutableCollections$Access"), (0, .class_ 196), (0, u "java/util/ImmutableCollections$Access$1")] 16

def k23m0 : Method := { name := "<init>", desc := "()V", sig := { parameters := [], returnType := none }, accessFlags := 2, code := none }
def k23c1 : Code := { maxStack := 1, maxLocals := 2, code := jdk_56_method_3_code, exceptionTable := #[], attributes := #[] }
def k23m1 : Method := { name := "listCopy", desc := "(Ljava/util/Collection;)Ljava/util/List;", sig := { parameters := [(.object "java/util/Collection")], returnType := some (.object "java/util/List") }, accessFlags := 8, code := some k23c1 }
def k23c2 : Code := { maxStack := 4, maxLocals := 3, code := jdk_56_method_4_code, exceptionTable := #[], attributes := #[] }
def k23m2 : Method := { name := "listFromArray", desc := "([Ljava/lang/Object;)Ljava/util/List;", sig := { parameters := [(.array (.object "java/lang/Object"))], returnType := some (.object "java/util/List") }, accessFlags := 136, code := some k23c2 }
/-- java/util/ImmutableCollections -/
def k23 : Class := { plain "java/util/ImmutableCollections" (some 0) with
  accessFlags := 32
  interfaces := #[]
  cf := some (fileOf pool23 47 #[.nestMembers #[120, 169, 171, 173, 175, 111, 177, 179, 181, 183, 12, 10, 185, 187, 189, 191, 193, 195]] #[{ accessFlags := 2, nameIndex := 5, descriptorIndex := 6, attributes := #[] }, { accessFlags := 8, nameIndex := 142, descriptorIndex := 143, attributes := #[] }, { accessFlags := 136, nameIndex := 151, descriptorIndex := 36, attributes := #[] }] 32 2 #[] #[{ accessFlags := 26, nameIndex := 95, descriptorIndex := 96, attributes := #[] }, { accessFlags := 26, nameIndex := 99, descriptorIndex := 17, attributes := #[] }, { accessFlags := 10, nameIndex := 106, descriptorIndex := 56, attributes := #[] }, { accessFlags := 26, nameIndex := 109, descriptorIndex := 110, attributes := #[] }, { accessFlags := 24, nameIndex := 62, descriptorIndex := 63, attributes := #[] }, { accessFlags := 24, nameIndex := 72, descriptorIndex := 63, attributes := #[] }, { accessFlags := 24, nameIndex := 118, descriptorIndex := 119, attributes := #[] }, { accessFlags := 24, nameIndex := 125, descriptorIndex := 126, attributes := #[] }, { accessFlags := 24, nameIndex := 131, descriptorIndex := 132, attributes := #[] }, { accessFlags := 4120, nameIndex := 50, descriptorIndex := 17, attributes := #[] }])
  fields := #[{ name := "SALT32L", type := .long, accessFlags := 26, slot := 0, constantValue := 0 }, { name := "REVERSE", type := .boolean, accessFlags := 26, slot := 1, constantValue := 0 }, { name := "archivedObjects", type := (.array (.object "java/lang/Object")), accessFlags := 10, slot := 2, constantValue := 0 }, { name := "EMPTY", type := (.object "java/lang/Object"), accessFlags := 26, slot := 3, constantValue := 0 }, { name := "EMPTY_LIST", type := (.object "java/util/ImmutableCollections$ListN"), accessFlags := 24, slot := 4, constantValue := 0 }, { name := "EMPTY_LIST_NULLS", type := (.object "java/util/ImmutableCollections$ListN"), accessFlags := 24, slot := 5, constantValue := 0 }, { name := "EMPTY_SET", type := (.object "java/util/ImmutableCollections$SetN"), accessFlags := 24, slot := 6, constantValue := 0 }, { name := "EMPTY_MAP", type := (.object "java/util/ImmutableCollections$MapN"), accessFlags := 24, slot := 7, constantValue := 0 }, { name := "EXPAND_FACTOR", type := .int, accessFlags := 24, slot := 8, constantValue := 0 }, { name := "$assertionsDisabled", type := .boolean, accessFlags := 4120, slot := 9, constantValue := 0 }]
  methods := #[k23m0, k23m1, k23m2]
  instanceTypes := #[]
  staticTypes := #[.long, .boolean, (.array (.object "java/lang/Object")), (.object "java/lang/Object"), (.object "java/util/ImmutableCollections$ListN"), (.object "java/util/ImmutableCollections$ListN"), (.object "java/util/ImmutableCollections$SetN"), (.object "java/util/ImmutableCollections$MapN"), .int, .boolean]
  resolved := Array.replicate 213 none
  statics := some 2 }

def pool24 : Array CpInfo := pool [(1, .methodref 2 3), (0, .class_ 4), (0, .nameAndType 5 6), (0, u "java/util/AbstractCollection"), (0, u "<init>"), (0, u "()V"), (1, .class_ 10), (1, u "java/util/ImmutableCollections"), (2, .class_ 14), (0, u "java/util/ImmutableCollections$AbstractImmutableCollection")] 41

def k24c0 : Code := { maxStack := 1, maxLocals := 1, code := jdk_47_method_1_code, exceptionTable := #[], attributes := #[] }
def k24m0 : Method := { name := "<init>", desc := "()V", sig := { parameters := [], returnType := none }, accessFlags := 0, code := some k24c0 }
/-- java/util/ImmutableCollections$AbstractImmutableCollection -/
def k24 : Class := { plain "java/util/ImmutableCollections$AbstractImmutableCollection" (some 14) with
  accessFlags := 1056
  interfaces := #[]
  cf := some (fileOf pool24 13 #[.nestHost 8] #[{ accessFlags := 0, nameIndex := 5, descriptorIndex := 6, attributes := #[] }] 1056 2 #[] #[])
  fields := #[]
  methods := #[k24m0]
  instanceTypes := #[]
  staticTypes := #[]
  resolved := Array.replicate 56 none
  statics := none }

def pool25 : Array CpInfo := pool [(1, .methodref 2 3), (0, .class_ 4), (0, .nameAndType 5 6), (0, u "java/util/ImmutableCollections$AbstractImmutableCollection"), (0, u "<init>"), (0, u "()V"), (1, .class_ 10), (1, u "java/util/ImmutableCollections"), (3, .class_ 16), (1, u "java/util/ImmutableCollections$AbstractImmutableList"), (60, .class_ 78), (0, u "java/util/List"), (45, .class_ 125), (0, u "java/util/RandomAccess")] 70

def k25c0 : Code := { maxStack := 1, maxLocals := 1, code := jdk_46_method_1_code, exceptionTable := #[], attributes := #[] }
def k25m0 : Method := { name := "<init>", desc := "()V", sig := { parameters := [], returnType := none }, accessFlags := 0, code := some k25c0 }
/-- java/util/ImmutableCollections$AbstractImmutableList -/
def k25 : Class := { plain "java/util/ImmutableCollections$AbstractImmutableList" (some 24) with
  accessFlags := 1056
  interfaces := #[16, 18]
  cf := some (fileOf pool25 14 #[.nestHost 8] #[{ accessFlags := 0, nameIndex := 5, descriptorIndex := 6, attributes := #[] }] 1056 2 #[77, 124] #[])
  fields := #[]
  methods := #[k25m0]
  instanceTypes := #[]
  staticTypes := #[]
  resolved := Array.replicate 196 none
  statics := none }

def pool26 : Array CpInfo := pool [(1, .methodref 2 3), (0, .class_ 4), (0, .nameAndType 5 6), (0, u "java/util/ImmutableCollections$AbstractImmutableList"), (0, u "<init>"), (0, u "()V"), (0, .methodref 8 9), (0, .class_ 10), (0, .nameAndType 11 12), (0, u "java/util/Objects"), (0, u "requireNonNull"), (0, u "(Ljava/lang/Object;)Ljava/lang/Object;"), (0, .fieldref 14 15), (0, .class_ 16), (0, .nameAndType 17 18), (0, u "java/util/ImmutableCollections$List12"), (0, u "e0"), (0, u "Ljava/lang/Object;"), (0, .fieldref 20 21), (0, .class_ 22), (0, .nameAndType 23 18), (0, u "java/util/ImmutableCollections"), (0, u "EMPTY"), (0, .fieldref 14 25), (0, .nameAndType 26 18), (0, u "e1"), (43, .class_ 71), (0, u "java/io/Serializable"), (4, u "(Ljava/lang/Object;)V"), (8, u "(Ljava/lang/Object;Ljava/lang/Object;)V"), (4, u "get"), (0, u "(I)Ljava/lang/Object;")] 33

def k26c0 : Code := { maxStack := 2, maxLocals := 2, code := jdk_44_method_1_code, exceptionTable := #[], attributes := #[] }
def k26m0 : Method := { name := "<init>", desc := "(Ljava/lang/Object;)V", sig := { parameters := [(.object "java/lang/Object")], returnType := none }, accessFlags := 0, code := some k26c0 }
def k26c1 : Code := { maxStack := 2, maxLocals := 3, code := jdk_44_method_2_code, exceptionTable := #[], attributes := #[] }
def k26m1 : Method := { name := "<init>", desc := "(Ljava/lang/Object;Ljava/lang/Object;)V", sig := { parameters := [(.object "java/lang/Object"), (.object "java/lang/Object")], returnType := none }, accessFlags := 0, code := some k26c1 }
def k26c2 : Code := { maxStack := 2, maxLocals := 2, code := jdk_44_method_5_code, exceptionTable := #[], attributes := #[] }
def k26m2 : Method := { name := "get", desc := "(I)Ljava/lang/Object;", sig := { parameters := [.int], returnType := some (.object "java/lang/Object") }, accessFlags := 1, code := some k26c2 }
/-- java/util/ImmutableCollections$List12 -/
def k26 : Class := { plain "java/util/ImmutableCollections$List12" (some 25) with
  accessFlags := 48
  interfaces := #[4]
  cf := some (fileOf pool26 14 #[.nestHost 20] #[{ accessFlags := 0, nameIndex := 5, descriptorIndex := 76, attributes := #[] }, { accessFlags := 0, nameIndex := 5, descriptorIndex := 85, attributes := #[] }, { accessFlags := 1, nameIndex := 90, descriptorIndex := 91, attributes := #[] }] 48 2 #[70] #[{ accessFlags := 18, nameIndex := 17, descriptorIndex := 18, attributes := #[] }, { accessFlags := 18, nameIndex := 26, descriptorIndex := 18, attributes := #[] }])
  fields := #[{ name := "e0", type := (.object "java/lang/Object"), accessFlags := 18, slot := 0, constantValue := 0 }, { name := "e1", type := (.object "java/lang/Object"), accessFlags := 18, slot := 1, constantValue := 0 }]
  methods := #[k26m0, k26m1, k26m2]
  instanceTypes := #[(.object "java/lang/Object"), (.object "java/lang/Object")]
  staticTypes := #[]
  resolved := Array.replicate 125 none
  statics := none }

def pool27 : Array CpInfo := pool [(1, .methodref 2 3), (0, .class_ 4), (0, .nameAndType 5 6), (0, u "java/util/ImmutableCollections$AbstractImmutableList"), (0, u "<init>"), (0, u "()V"), (0, .fieldref 8 9), (0, .class_ 10), (0, .nameAndType 11 12), (0, u "java/util/ImmutableCollections$ListN"), (0, u "elements"), (0, u "[Ljava/lang/Object;"), (0, .fieldref 8 14), (0, .nameAndType 15 16), (0, u "allowNulls"), (0, u "Z"), (42, .class_ 60), (0, u "java/io/Serializable"), (4, u "([Ljava/lang/Object;Z)V"), (13, u "get"), (0, u "(I)Ljava/lang/Object;"), (33, .class_ 115), (0, u "java/util/ImmutableCollections")] 3

def k27c0 : Code := { maxStack := 2, maxLocals := 3, code := jdk_45_method_1_code, exceptionTable := #[], attributes := #[] }
def k27m0 : Method := { name := "<init>", desc := "([Ljava/lang/Object;Z)V", sig := { parameters := [(.array (.object "java/lang/Object")), .boolean], returnType := none }, accessFlags := 2, code := some k27c0 }
def k27c1 : Code := { maxStack := 2, maxLocals := 2, code := jdk_45_method_4_code, exceptionTable := #[], attributes := #[] }
def k27m1 : Method := { name := "get", desc := "(I)Ljava/lang/Object;", sig := { parameters := [.int], returnType := some (.object "java/lang/Object") }, accessFlags := 1, code := some k27c1 }
/-- java/util/ImmutableCollections$ListN -/
def k27 : Class := { plain "java/util/ImmutableCollections$ListN" (some 25) with
  accessFlags := 48
  interfaces := #[4]
  cf := some (fileOf pool27 8 #[.nestHost 114] #[{ accessFlags := 2, nameIndex := 5, descriptorIndex := 65, attributes := #[] }, { accessFlags := 1, nameIndex := 79, descriptorIndex := 80, attributes := #[] }] 48 2 #[59] #[{ accessFlags := 18, nameIndex := 11, descriptorIndex := 12, attributes := #[] }, { accessFlags := 18, nameIndex := 15, descriptorIndex := 16, attributes := #[] }])
  fields := #[{ name := "elements", type := (.array (.object "java/lang/Object")), accessFlags := 18, slot := 0, constantValue := 0 }, { name := "allowNulls", type := .boolean, accessFlags := 18, slot := 1, constantValue := 0 }]
  methods := #[k27m0, k27m1]
  instanceTypes := #[(.array (.object "java/lang/Object")), .boolean]
  staticTypes := #[]
  resolved := Array.replicate 119 none
  statics := none }

def pool28 : Array CpInfo := pool [(2, .class_ 4), (1, u "java/lang/Object"), (0, u "<init>"), (0, u "()V"), (7, .class_ 16), (1, u "java/util/Arrays"), (57, .class_ 76), (1, u "java/util/Arrays$NaturalOrder"), (9, .methodref 2 87), (0, .nameAndType 88 89), (0, u "getClass"), (0, u "()Ljava/lang/Class;"), (20, .class_ 111), (0, u "[Ljava/lang/Object;"), (1, .class_ 115), (1, u "java/util/Arrays$LegacyMergeSort"), (1, u "Z"), (32, .methodref 151 152), (0, .class_ 153), (0, .nameAndType 154 155), (0, u "java/lang/System"), (0, u "arraycopy"), (0, u "(Ljava/lang/Object;ILjava/lang/Object;II)V"), (144, .methodref 14 301), (0, .nameAndType 302 303), (0, u "copyOf"), (0, u "([Ljava/lang/Object;ILjava/lang/Class;)[Ljava/lang/Object;"), (0, .methodref 305 306), (0, .class_ 307), (0, .nameAndType 308 309), (0, u "java/lang/Math"), (0, u "min"), (0, u "(II)I"), (65, .class_ 376), (0, u "java/util/Arrays$ArrayList"), (68, u "$assertionsDisabled"), (269, u "MIN_ARRAY_SORT_GRAN"), (0, u "I"), (2, u "INSERTIONSORT_THRESHOLD"), (140, u "([Ljava/lang/Object;I)[Ljava/lang/Object;"), (114, .class_ 976), (0, u "java/util/Arrays$ArrayItr")] 52

def k28m0 : Method := { name := "<init>", desc := "()V", sig := { parameters := [], returnType := none }, accessFlags := 2, code := none }
def k28c1 : Code := { maxStack := 3, maxLocals := 2, code := jdk_65_method_119_code, exceptionTable := #[], attributes := #[] }
def k28m1 : Method := { name := "copyOf", desc := "([Ljava/lang/Object;I)[Ljava/lang/Object;", sig := { parameters := [(.array (.object "java/lang/Object")), .int], returnType := some (.array (.object "java/lang/Object")) }, accessFlags := 9, code := some k28c1 }
def k28c2 : Code := { maxStack := 6, maxLocals := 4, code := jdk_65_method_120_code, exceptionTable := #[], attributes := #[] }
def k28m2 : Method := { name := "copyOf", desc := "([Ljava/lang/Object;ILjava/lang/Class;)[Ljava/lang/Object;", sig := { parameters := [(.array (.object "java/lang/Object")), .int, (.object "java/lang/Class")], returnType := some (.array (.object "java/lang/Object")) }, accessFlags := 9, code := some k28c2 }
/-- java/util/Arrays -/
def k28 : Class := { plain "java/util/Arrays" (some 0) with
  accessFlags := 49
  interfaces := #[]
  cf := some (fileOf pool28 14 #[.nestMembers #[975, 375, 113, 74]] #[{ accessFlags := 2, nameIndex := 5, descriptorIndex := 6, attributes := #[] }, { accessFlags := 9, nameIndex := 302, descriptorIndex := 860, attributes := #[] }, { accessFlags := 9, nameIndex := 302, descriptorIndex := 303, attributes := #[] }] 49 2 #[] #[{ accessFlags := 26, nameIndex := 715, descriptorIndex := 716, attributes := #[] }, { accessFlags := 26, nameIndex := 719, descriptorIndex := 716, attributes := #[] }, { accessFlags := 4120, nameIndex := 445, descriptorIndex := 117, attributes := #[] }])
  fields := #[{ name := "MIN_ARRAY_SORT_GRAN", type := .int, accessFlags := 26, slot := 0, constantValue := 0 }, { name := "INSERTIONSORT_THRESHOLD", type := .int, accessFlags := 26, slot := 1, constantValue := 0 }, { name := "$assertionsDisabled", type := .boolean, accessFlags := 4120, slot := 2, constantValue := 0 }]
  methods := #[k28m0, k28m1, k28m2]
  instanceTypes := #[]
  staticTypes := #[.int, .int, .boolean]
  resolved := Array.replicate 1029 none
  statics := none }

def pool29 : Array CpInfo := pool [(2, .class_ 4), (1, u "java/lang/Object"), (0, u "<init>"), (0, u "()V"), (1, .class_ 10), (1, u "java/lang/System"), (0, u "allowSecurityManager"), (0, u "I"), (16, u "cons"), (0, u "Ljava/io/Console;"), (77, .class_ 110), (1, u "java/lang/System$CallersHolder"), (43, u "initialErrStream"), (0, u "Ljava/io/PrintStream;"), (19, u "security"), (0, u "Ljava/lang/SecurityManager;"), (31, .class_ 209), (0, u "java/lang/System$1"), (7, u "props"), (0, u "Ljava/util/Properties;"), (2, u "lineSeparator"), (0, u "Ljava/lang/String;"), (96, .class_ 321), (1, u "java/lang/System$LoggerFinder"), (5, .class_ 328), (0, u "java/lang/System$Logger"), (67, u "err"), (2, u "out"), (91, u "notSupportedJnuEncoding"), (15, u "in"), (17, u "initialIn"), (0, u "Ljava/io/InputStream;"), (35, u "bootLayer"), (0, u "Ljava/lang/ModuleLayer;"), (99, .class_ 664), (0, u "java/lang/System$2"), (9, u "NEVER"), (2, u "MAYBE"), (49, u "arraycopy"), (0, u "(Ljava/lang/Object;ILjava/lang/Object;II)V"), (72, .class_ 802), (0, u "java/lang/System$Logger$Level")] 31

def k29m0 : Method := { name := "<init>", desc := "()V", sig := { parameters := [], returnType := none }, accessFlags := 2, code := none }
def k29m1 : Method := { name := "arraycopy", desc := "(Ljava/lang/Object;ILjava/lang/Object;II)V", sig := { parameters := [(.object "java/lang/Object"), .int, (.object "java/lang/Object"), .int, .int], returnType := none }, accessFlags := 265, code := none }
/-- java/lang/System -/
def k29 : Class := { plain "java/lang/System" (some 0) with
  accessFlags := 49
  interfaces := #[]
  cf := some (fileOf pool29 8 #[.nestMembers #[319, 327, 801, 108, 663, 208]] #[{ accessFlags := 2, nameIndex := 5, descriptorIndex := 6, attributes := #[] }, { accessFlags := 265, nameIndex := 727, descriptorIndex := 728, attributes := #[] }] 49 2 #[] #[{ accessFlags := 25, nameIndex := 507, descriptorIndex := 526, attributes := #[] }, { accessFlags := 25, nameIndex := 399, descriptorIndex := 155, attributes := #[] }, { accessFlags := 25, nameIndex := 396, descriptorIndex := 155, attributes := #[] }, { accessFlags := 10, nameIndex := 525, descriptorIndex := 526, attributes := #[] }, { accessFlags := 26, nameIndex := 674, descriptorIndex := 12, attributes := #[] }, { accessFlags := 26, nameIndex := 677, descriptorIndex := 12, attributes := #[] }, { accessFlags := 10, nameIndex := 11, descriptorIndex := 12, attributes := #[] }, { accessFlags := 74, nameIndex := 175, descriptorIndex := 176, attributes := #[] }, { accessFlags := 10, nameIndex := 491, descriptorIndex := 222, attributes := #[] }, { accessFlags := 74, nameIndex := 29, descriptorIndex := 30, attributes := #[] }, { accessFlags := 74, nameIndex := 154, descriptorIndex := 155, attributes := #[] }, { accessFlags := 10, nameIndex := 217, descriptorIndex := 218, attributes := #[] }, { accessFlags := 10, nameIndex := 221, descriptorIndex := 222, attributes := #[] }, { accessFlags := 8, nameIndex := 562, descriptorIndex := 563, attributes := #[] }])
  fields := #[{ name := "in", type := (.object "java/io/InputStream"), accessFlags := 25, slot := 0, constantValue := 0 }, { name := "out", type := (.object "java/io/PrintStream"), accessFlags := 25, slot := 1, constantValue := 0 }, { name := "err", type := (.object "java/io/PrintStream"), accessFlags := 25, slot := 2, constantValue := 0 }, { name := "initialIn", type := (.object "java/io/InputStream"), accessFlags := 10, slot := 3, constantValue := 0 }, { name := "NEVER", type := .int, accessFlags := 26, slot := 4, constantValue := 0 }, { name := "MAYBE", type := .int, accessFlags := 26, slot := 5, constantValue := 0 }, { name := "allowSecurityManager", type := .int, accessFlags := 10, slot := 6, constantValue := 0 }, { name := "security", type := (.object "java/lang/SecurityManager"), accessFlags := 74, slot := 7, constantValue := 0 }, { name := "notSupportedJnuEncoding", type := (.object "java/lang/String"), accessFlags := 10, slot := 8, constantValue := 0 }, { name := "cons", type := (.object "java/io/Console"), accessFlags := 74, slot := 9, constantValue := 0 }, { name := "initialErrStream", type := (.object "java/io/PrintStream"), accessFlags := 74, slot := 10, constantValue := 0 }, { name := "props", type := (.object "java/util/Properties"), accessFlags := 10, slot := 11, constantValue := 0 }, { name := "lineSeparator", type := (.object "java/lang/String"), accessFlags := 10, slot := 12, constantValue := 0 }, { name := "bootLayer", type := (.object "java/lang/ModuleLayer"), accessFlags := 8, slot := 13, constantValue := 0 }]
  methods := #[k29m0, k29m1]
  instanceTypes := #[]
  staticTypes := #[(.object "java/io/InputStream"), (.object "java/io/PrintStream"), (.object "java/io/PrintStream"), (.object "java/io/InputStream"), .int, .int, .int, (.object "java/lang/SecurityManager"), (.object "java/lang/String"), (.object "java/io/Console"), (.object "java/io/PrintStream"), (.object "java/util/Properties"), (.object "java/lang/String"), (.object "java/lang/ModuleLayer")]
  resolved := Array.replicate 834 none
  statics := none }

def pool30 : Array CpInfo := pool [(4, .class_ 6), (1, u "java/lang/Object"), (0, u "<init>"), (0, u "()V"), (5, .class_ 16), (1, u "java/lang/StringLatin1"), (104, u "$assertionsDisabled"), (0, u "Z"), (98, .class_ 223), (1, u "java/lang/StringLatin1$LinesSpliterator"), (166, .class_ 391), (0, u "java/lang/StringLatin1$CharsSpliterator")] 3

def k30m0 : Method := { name := "<init>", desc := "()V", sig := { parameters := [], returnType := none }, accessFlags := 0, code := none }
/-- java/lang/StringLatin1 -/
def k30 : Class := { plain "java/lang/StringLatin1" (some 0) with
  accessFlags := 48
  interfaces := #[]
  cf := some (fileOf pool30 14 #[.nestMembers #[390, 221]] #[{ accessFlags := 0, nameIndex := 7, descriptorIndex := 8, attributes := #[] }] 48 4 #[] #[{ accessFlags := 4120, nameIndex := 121, descriptorIndex := 122, attributes := #[] }])
  fields := #[{ name := "$assertionsDisabled", type := .boolean, accessFlags := 4120, slot := 0, constantValue := 0 }]
  methods := #[k30m0]
  instanceTypes := #[]
  staticTypes := #[.boolean]
  resolved := Array.replicate 395 none
  statics := none }

def pool31 : Array CpInfo := pool [(2, .class_ 4), (1, u "java/lang/Object"), (0, u "<init>"), (0, u "()V"), (17, .class_ 26), (1, u "jdk/internal/util/Preconditions"), (28, .class_ 56), (0, u "jdk/internal/util/Preconditions$4"), (57, .class_ 115), (0, u "jdk/internal/util/Preconditions$1"), (7, u "SIOOBE_FORMATTER"), (0, u "Ljava/util/function/BiFunction;"), (0, .class_ 126), (0, u "jdk/internal/util/Preconditions$2"), (3, u "AIOOBE_FORMATTER"), (0, .class_ 132), (0, u "jdk/internal/util/Preconditions$3"), (3, u "IOOBE_FORMATTER")] 57

def k31m0 : Method := { name := "<init>", desc := "()V", sig := { parameters := [], returnType := none }, accessFlags := 1, code := none }
/-- jdk/internal/util/Preconditions -/
def k31 : Class := { plain "jdk/internal/util/Preconditions" (some 0) with
  accessFlags := 33
  interfaces := #[]
  cf := some (fileOf pool31 24 #[.nestMembers #[55, 131, 125, 114]] #[{ accessFlags := 1, nameIndex := 5, descriptorIndex := 6, attributes := #[] }] 33 2 #[] #[{ accessFlags := 25, nameIndex := 123, descriptorIndex := 124, attributes := #[] }, { accessFlags := 25, nameIndex := 130, descriptorIndex := 124, attributes := #[] }, { accessFlags := 25, nameIndex := 136, descriptorIndex := 124, attributes := #[] }])
  fields := #[{ name := "SIOOBE_FORMATTER", type := (.object "java/util/function/BiFunction"), accessFlags := 25, slot := 0, constantValue := 0 }, { name := "AIOOBE_FORMATTER", type := (.object "java/util/function/BiFunction"), accessFlags := 25, slot := 1, constantValue := 0 }, { name := "IOOBE_FORMATTER", type := (.object "java/util/function/BiFunction"), accessFlags := 25, slot := 2, constantValue := 0 }]
  methods := #[k31m0]
  instanceTypes := #[]
  staticTypes := #[(.object "java/util/function/BiFunction"), (.object "java/util/function/BiFunction"), (.object "java/util/function/BiFunction")]
  resolved := Array.replicate 194 none
  statics := some 3 }

def pool32 : Array CpInfo := pool [(9, u "<init>"), (6, .class_ 18), (1, u "java/lang/Object"), (0, u "()V"), (1, .class_ 23), (1, u "jdk/internal/util/ArraysSupport"), (0, u "LOG2_ARRAY_LONG_INDEX_SCALE"), (0, u "I"), (2, u "U"), (0, u "Ljdk/internal/misc/Unsafe;"), (8, u "BIG_ENDIAN"), (0, u "Z"), (8, u "LOG2_BYTE_BIT_SIZE"), (4, u "LOG2_ARRAY_INT_INDEX_SCALE"), (54, u "JLA"), (0, u "Ljdk/internal/access/JavaLangAccess;"), (11, u "LOG2_ARRAY_BOOLEAN_INDEX_SCALE"), (9, u "LOG2_ARRAY_BYTE_INDEX_SCALE"), (5, u "LOG2_ARRAY_CHAR_INDEX_SCALE"), (5, u "LOG2_ARRAY_SHORT_INDEX_SCALE"), (18, u "LOG2_ARRAY_FLOAT_INDEX_SCALE"), (24, u "LOG2_ARRAY_DOUBLE_INDEX_SCALE"), (89, u "T_BOOLEAN"), (2, u "T_CHAR"), (1, u "T_FLOAT"), (1, u "T_DOUBLE"), (1, u "T_BYTE"), (1, u "T_SHORT"), (1, u "T_INT"), (1, u "T_LONG"), (1, u "SOFT_MAX_ARRAY_LENGTH")] 83

def k32m0 : Method := { name := "<init>", desc := "()V", sig := { parameters := [], returnType := none }, accessFlags := 2, code := none }
/-- jdk/internal/util/ArraysSupport -/
def k32 : Class := { plain "jdk/internal/util/ArraysSupport" (some 0) with
  accessFlags := 33
  interfaces := #[]
  cf := some (fileOf pool32 21 #[] #[{ accessFlags := 2, nameIndex := 9, descriptorIndex := 19, attributes := #[] }] 33 16 #[] #[{ accessFlags := 24, nameIndex := 28, descriptorIndex := 29, attributes := #[] }, { accessFlags := 26, nameIndex := 38, descriptorIndex := 39, attributes := #[] }, { accessFlags := 25, nameIndex := 121, descriptorIndex := 25, attributes := #[] }, { accessFlags := 25, nameIndex := 131, descriptorIndex := 25, attributes := #[] }, { accessFlags := 25, nameIndex := 137, descriptorIndex := 25, attributes := #[] }, { accessFlags := 25, nameIndex := 143, descriptorIndex := 25, attributes := #[] }, { accessFlags := 25, nameIndex := 53, descriptorIndex := 25, attributes := #[] }, { accessFlags := 25, nameIndex := 24, descriptorIndex := 25, attributes := #[] }, { accessFlags := 25, nameIndex := 162, descriptorIndex := 25, attributes := #[] }, { accessFlags := 25, nameIndex := 187, descriptorIndex := 25, attributes := #[] }, { accessFlags := 26, nameIndex := 48, descriptorIndex := 25, attributes := #[] }, { accessFlags := 25, nameIndex := 277, descriptorIndex := 25, attributes := #[] }, { accessFlags := 25, nameIndex := 280, descriptorIndex := 25, attributes := #[] }, { accessFlags := 25, nameIndex := 282, descriptorIndex := 25, attributes := #[] }, { accessFlags := 25, nameIndex := 284, descriptorIndex := 25, attributes := #[] }, { accessFlags := 25, nameIndex := 286, descriptorIndex := 25, attributes := #[] }, { accessFlags := 25, nameIndex := 288, descriptorIndex := 25, attributes := #[] }, { accessFlags := 25, nameIndex := 290, descriptorIndex := 25, attributes := #[] }, { accessFlags := 25, nameIndex := 292, descriptorIndex := 25, attributes := #[] }, { accessFlags := 26, nameIndex := 108, descriptorIndex := 109, attributes := #[] }, { accessFlags := 25, nameIndex := 294, descriptorIndex := 25, attributes := #[] }])
  fields := #[{ name := "U", type := (.object "jdk/internal/misc/Unsafe"), accessFlags := 24, slot := 0, constantValue := 0 }, { name := "BIG_ENDIAN", type := .boolean, accessFlags := 26, slot := 1, constantValue := 0 }, { name := "LOG2_ARRAY_BOOLEAN_INDEX_SCALE", type := .int, accessFlags := 25, slot := 2, constantValue := 0 }, { name := "LOG2_ARRAY_BYTE_INDEX_SCALE", type := .int, accessFlags := 25, slot := 3, constantValue := 0 }, { name := "LOG2_ARRAY_CHAR_INDEX_SCALE", type := .int, accessFlags := 25, slot := 4, constantValue := 0 }, { name := "LOG2_ARRAY_SHORT_INDEX_SCALE", type := .int, accessFlags := 25, slot := 5, constantValue := 0 }, { name := "LOG2_ARRAY_INT_INDEX_SCALE", type := .int, accessFlags := 25, slot := 6, constantValue := 0 }, { name := "LOG2_ARRAY_LONG_INDEX_SCALE", type := .int, accessFlags := 25, slot := 7, constantValue := 0 }, { name := "LOG2_ARRAY_FLOAT_INDEX_SCALE", type := .int, accessFlags := 25, slot := 8, constantValue := 0 }, { name := "LOG2_ARRAY_DOUBLE_INDEX_SCALE", type := .int, accessFlags := 25, slot := 9, constantValue := 0 }, { name := "LOG2_BYTE_BIT_SIZE", type := .int, accessFlags := 26, slot := 10, constantValue := 0 }, { name := "T_BOOLEAN", type := .int, accessFlags := 25, slot := 11, constantValue := 0 }, { name := "T_CHAR", type := .int, accessFlags := 25, slot := 12, constantValue := 0 }, { name := "T_FLOAT", type := .int, accessFlags := 25, slot := 13, constantValue := 0 }, { name := "T_DOUBLE", type := .int, accessFlags := 25, slot := 14, constantValue := 0 }, { name := "T_BYTE", type := .int, accessFlags := 25, slot := 15, constantValue := 0 }, { name := "T_SHORT", type := .int, accessFlags := 25, slot := 16, constantValue := 0 }, { name := "T_INT", type := .int, accessFlags := 25, slot := 17, constantValue := 0 }, { name := "T_LONG", type := .int, accessFlags := 25, slot := 18, constantValue := 0 }, { name := "JLA", type := (.object "jdk/internal/access/JavaLangAccess"), accessFlags := 26, slot := 19, constantValue := 0 }, { name := "SOFT_MAX_ARRAY_LENGTH", type := .int, accessFlags := 25, slot := 20, constantValue := 0 }]
  methods := #[k32m0]
  instanceTypes := #[]
  staticTypes := #[(.object "jdk/internal/misc/Unsafe"), .boolean, .int, .int, .int, .int, .int, .int, .int, .int, .int, .int, .int, .int, .int, .int, .int, .int, .int, (.object "jdk/internal/access/JavaLangAccess"), .int]
  resolved := Array.replicate 378 none
  statics := none }

def pool33 : Array CpInfo := pool [(1, u "java/lang/Class"), (0, .class_ 1), (0, u "java/lang/Object"), (0, .class_ 3)] 0

/-- java/lang/Class -/
def k33 : Class := { plain "java/lang/Class" (some 0) with
  accessFlags := 49
  interfaces := #[]
  cf := some (fileOf pool33 2 #[] #[] 49 4 #[] #[])
  fields := #[]
  methods := #[]
  instanceTypes := #[]
  staticTypes := #[]
  resolved := Array.replicate 5 none
  statics := none }

/-- the primitive byte -/
def k34 : Class := { plain "byte" none with kind := .primitive 'B', accessFlags := 0x411 }
/-- [B -/
def k35 : Class := { plain "[B" (some 0) with kind := .array 34 .byte, interfaces := #[19, 4], accessFlags := 1041 }

/-- the primitive char -/
def k36 : Class := { plain "char" none with kind := .primitive 'C', accessFlags := 0x411 }
/-- [C -/
def k37 : Class := { plain "[C" (some 0) with kind := .array 36 .char, interfaces := #[19, 4], accessFlags := 1041 }

/-- the primitive int -/
def k38 : Class := { plain "int" none with kind := .primitive 'I', accessFlags := 0x411 }
/-- [I -/
def k39 : Class := { plain "[I" (some 0) with kind := .array 38 .int, interfaces := #[19, 4], accessFlags := 1041 }

/-- [Ljava/lang/Object; -/
def k40 : Class := { plain "[Ljava/lang/Object;" (some 0) with kind := .array 0 (.object "java/lang/Object"), interfaces := #[19, 4], accessFlags := 1041, mirror := some 4 }

def heap : Heap := #[{ cls := 9, slots := #[.long 0, .int 1, .null, .int 0, .null, .int 0, .int 0], vm := .statics 9 },
  { cls := 20, slots := #[.long 0, .int 0, .ref 5, .ref 6], vm := .statics 20 },
  { cls := 23, slots := #[.long 0, .int 0, .null, .ref 7, .ref 8, .null, .null, .null, .int 0, .int 1], vm := .statics 23 },
  { cls := 31, slots := #[.null, .null, .null], vm := .statics 31 },
  { cls := 33, slots := #[], vm := .mirror 40 },
  { cls := 40, slots := #[], vm := .none },
  { cls := 40, slots := #[], vm := .none },
  { cls := 0, slots := #[], vm := .none },
  { cls := 27, slots := #[.null, .int 0], vm := .none }]
def classes : Array Class := #[k0, k1, k2, k3, k4, k5, k6, k7, k8, k9, k10, k11, k12, k13, k14, k15, k16, k17, k18, k19, k20, k21, k22, k23, k24, k25, k26, k27, k28, k29, k30, k31, k32, k33, k34, k35, k36, k37, k38, k39, k40]
def interned : List (Array UInt16 × Addr) := []
def slotsUsed : Nat := 26
def theMethod : MethodId := ⟨1, 1⟩
def args0 : Array Value := #[.int 5, .int 5, .int 5, .long 5, .long 5, .long 5]
def aboutOver (below : List Frame) : State where
  vm := { classes := classes, interned := interned.toArray }
  heap := heap
  slotsUsed := slotsUsed
  threads := #[{ frames := .invoking theMethod args0 :: below }]
def below0 : List Frame := [.native { method := ⟨0, 0⟩, args := #[] }]
def about1 : State := aboutOver below0
def p0 : Program := .bare "" "" ""
def e0 : Env := launch0.env 0 0 0
theorem w_frames : about1.frames = Frame.invoking theMethod args0 :: below0 := rfl
set_option maxRecDepth 65536 in
theorem w_args : argsFit about1.vm theMethod args0 = true := by decide +kernel
set_option maxRecDepth 65536 in
theorem w_heap : heapFits about1 = true := by decide +kernel
set_option maxRecDepth 65536 in
theorem w_runnable : about1.curStatus? = some .runnable := by decide +kernel
set_option maxRecDepth 65536 in
theorem w_alone : about1.alone = true := by decide +kernel
set_option maxRecDepth 65536 in
theorem w_named : about1.methodNamed? x = some theMethod := by decide +kernel
set_option maxRecDepth 65536 in
theorem w_hears : about1.hears theMethod below0 = true := by decide +kernel
set_option maxRecDepth 65536 in
theorem w_ripe : about1.ripe theMethod args0 below0 = true := by decide +kernel
theorem w_running : about1.status = .running := rfl
set_option maxRecDepth 65536 in
theorem w_room : about1.hasRoom e0.platform room_1 = true :=
  launch0.hasRoom_least _ room_1 (by decide +kernel) (by decide +kernel) (by decide +kernel) (by decide +kernel) (by decide +kernel) (by decide +kernel)
theorem allAtoms_all (ts : List Jvm.Cond) (a : Array Jvm.Value) (st : Jvm.State) : (allAtoms ts).before a st = ts.all (fun c => c.before a st) := by
  induction ts with
  | nil => rfl
  | cons c t ih =>
    show (Jvm.Cond.and c (allAtoms t)).before a st = _
    rw [Jvm.Cond.before_and, ih, List.all_cons]
def words1 : List Jvm.Cond := Jvm.Cond.code x code maxLocals ret :: tables_1
/-- a 'code' word, met by the world's own term for the bytes: nothing is compared byte by byte -/
theorem code_word {y : MethodName} {bytes : ByteArray} {mx : Nat} {rt : Option FieldType} {a : Array Value} {s : State} {m : MethodId} {meth : Method} {c : Code} (h1 : s.methodNamed? y = some m) (h2 : s.vm.method? m = some meth) (h3 : meth.code = some c) (h4 : c.code = bytes)
    (h5 : (c.maxLocals == mx && c.exceptionTable.isEmpty && decide (c.maxStack ≤ mostOperands) && decide (meth.sig.returnType = rt) && !meth.locks && decide (parseMethodDescriptor y.desc = some meth.sig)) = true) : (Jvm.Cond.code y bytes mx rt).before a s = true := by
  simp only [Bool.and_eq_true, beq_iff_eq, Bool.not_eq_true', decide_eq_true_eq] at h5
  obtain ⟨⟨⟨⟨⟨g1, g2⟩, g3⟩, g4⟩, g5⟩, g6⟩ := h5
  simp [Cond.before, Cond.holds, Cond.value, h1, h2, h3, h4, g1, g2, g3, g4, g5, g6]
def isCode : Jvm.Cond → Bool
  | .code _ _ _ _ => true
  | _ => false
theorem all_split {L : List Jvm.Cond} {P : Jvm.Cond → Bool} (h1 : L.all (fun c => isCode c || P c) = true) (h2 : ∀ c ∈ L.filter isCode, P c = true) : L.all P = true := by
  refine List.all_eq_true.mpr fun c hc => ?_
  have h := List.all_eq_true.mp h1 c hc
  rcases Bool.eq_false_or_eq_true (isCode c) with hi | hi
  · exact h2 c (List.mem_filter.mpr ⟨hc, hi⟩)
  · simpa [hi] using h
set_option maxRecDepth 65536 in
theorem w_c0 : (Jvm.Cond.code x code maxLocals ret).before args0 about1 = true := code_word (m := ⟨1, 1⟩) (meth := k1m1) (c := k1c1) (by decide +kernel) rfl rfl rfl (by decide +kernel)
set_option maxRecDepth 65536 in
theorem w_c1 : (Jvm.Cond.code ({ cls := "java/lang/String", name := "<init>", desc := "([C)V" } : Jvm.MethodName) jdk_42_method_3_code (2 : Nat) (Option.none : Option Jvm.ClassFile.FieldType)).before args0 about1 = true := code_word (m := ⟨9, 1⟩) (meth := k9m1) (c := k9c1) (by decide +kernel) rfl rfl rfl (by decide +kernel)
set_option maxRecDepth 65536 in
theorem w_c2 : (Jvm.Cond.code ({ cls := "java/lang/String", name := "<init>", desc := "([CIILjava/lang/Void;)V" } : Jvm.MethodName) jdk_42_method_149_code (6 : Nat) (Option.none : Option Jvm.ClassFile.FieldType)).before args0 about1 = true := code_word (m := ⟨9, 2⟩) (meth := k9m2) (c := k9c2) (by decide +kernel) rfl rfl rfl (by decide +kernel)
set_option maxRecDepth 65536 in
theorem w_c3 : (Jvm.Cond.code ({ cls := "java/lang/Object", name := "<init>", desc := "()V" } : Jvm.MethodName) object_method_1_code (1 : Nat) (Option.none : Option Jvm.ClassFile.FieldType)).before args0 about1 = true := code_word (m := ⟨0, 0⟩) (meth := k0m0) (c := k0c0) (by decide +kernel) rfl rfl rfl (by decide +kernel)
set_option maxRecDepth 65536 in
theorem w_c4 : (Jvm.Cond.code ({ cls := "java/lang/StringUTF16", name := "compress", desc := "([CII)[B" } : Jvm.MethodName) jdk_52_method_16_code (6 : Nat) (Option.some (Jvm.ClassFile.FieldType.array Jvm.ClassFile.FieldType.byte))).before args0 about1 = true := code_word (m := ⟨10, 2⟩) (meth := k10m2) (c := k10c2) (by decide +kernel) rfl rfl rfl (by decide +kernel)
set_option maxRecDepth 65536 in
theorem w_c5 : (Jvm.Cond.code ({ cls := "java/lang/StringUTF16", name := "compress", desc := "([CI[BII)I" } : Jvm.MethodName) jdk_52_method_21_code (7 : Nat) (Option.some Jvm.ClassFile.FieldType.int)).before args0 about1 = true := code_word (m := ⟨10, 3⟩) (meth := k10m3) (c := k10c3) (by decide +kernel) rfl rfl rfl (by decide +kernel)
set_option maxRecDepth 65536 in
theorem w_c6 : (Jvm.Cond.code ({ cls := "java/lang/StringUTF16", name := "coderFromArrayLen", desc := "([BI)B" } : Jvm.MethodName) jdk_52_method_15_code (2 : Nat) (Option.some Jvm.ClassFile.FieldType.byte)).before args0 about1 = true := code_word (m := ⟨10, 1⟩) (meth := k10m1) (c := k10c1) (by decide +kernel) rfl rfl rfl (by decide +kernel)
set_option maxRecDepth 65536 in
theorem w_c7 : (Jvm.Cond.code ({ cls := "com/example/keyhold/keyhold/model/SigningKey", name := "<init>", desc := "(Ljava/lang/String;[BJ)V" } : Jvm.MethodName) prog_10_method_1_code (5 : Nat) (Option.none : Option Jvm.ClassFile.FieldType)).before args0 about1 = true := code_word (m := ⟨3, 0⟩) (meth := k3m0) (c := k3c0) (by decide +kernel) rfl rfl rfl (by decide +kernel)
set_option maxRecDepth 65536 in
theorem w_c8 : (Jvm.Cond.code ({ cls := "java/lang/Record", name := "<init>", desc := "()V" } : Jvm.MethodName) jdk_30_method_1_code (1 : Nat) (Option.none : Option Jvm.ClassFile.FieldType)).before args0 about1 = true := code_word (m := ⟨2, 0⟩) (meth := k2m0) (c := k2c0) (by decide +kernel) rfl rfl rfl (by decide +kernel)
set_option maxRecDepth 65536 in
theorem w_c9 : (Jvm.Cond.code ({ cls := "java/util/Objects", name := "requireNonNull", desc := "(Ljava/lang/Object;Ljava/lang/String;)Ljava/lang/Object;" } : Jvm.MethodName) jdk_31_method_11_code (2 : Nat) (Option.some (Jvm.ClassFile.FieldType.object "java/lang/Object"))).before args0 about1 = true := code_word (m := ⟨11, 2⟩) (meth := k11m2) (c := k11c2) (by decide +kernel) rfl rfl rfl (by decide +kernel)
set_option maxRecDepth 65536 in
theorem w_c10 : (Jvm.Cond.code ({ cls := "java/util/ArrayList", name := "<init>", desc := "()V" } : Jvm.MethodName) jdk_38_method_2_code (1 : Nat) (Option.none : Option Jvm.ClassFile.FieldType)).before args0 about1 = true := code_word (m := ⟨20, 0⟩) (meth := k20m0) (c := k20c0) (by decide +kernel) rfl rfl rfl (by decide +kernel)
set_option maxRecDepth 65536 in
theorem w_c11 : (Jvm.Cond.code ({ cls := "java/util/AbstractList", name := "<init>", desc := "()V" } : Jvm.MethodName) jdk_39_method_1_code (1 : Nat) (Option.none : Option Jvm.ClassFile.FieldType)).before args0 about1 = true := code_word (m := ⟨17, 0⟩) (meth := k17m0) (c := k17c0) (by decide +kernel) rfl rfl rfl (by decide +kernel)
set_option maxRecDepth 65536 in
theorem w_c12 : (Jvm.Cond.code ({ cls := "java/util/AbstractCollection", name := "<init>", desc := "()V" } : Jvm.MethodName) jdk_22_method_1_code (1 : Nat) (Option.none : Option Jvm.ClassFile.FieldType)).before args0 about1 = true := code_word (m := ⟨14, 0⟩) (meth := k14m0) (c := k14c0) (by decide +kernel) rfl rfl rfl (by decide +kernel)
set_option maxRecDepth 65536 in
theorem w_c13 : (Jvm.Cond.code ({ cls := "java/util/ArrayList", name := "add", desc := "(Ljava/lang/Object;)Z" } : Jvm.MethodName) jdk_38_method_25_code (2 : Nat) (Option.some Jvm.ClassFile.FieldType.boolean)).before args0 about1 = true := code_word (m := ⟨20, 6⟩) (meth := k20m6) (c := k20c6) (by decide +kernel) rfl rfl rfl (by decide +kernel)
set_option maxRecDepth 65536 in
theorem w_c14 : (Jvm.Cond.code ({ cls := "java/util/ArrayList", name := "add", desc := "(Ljava/lang/Object;[Ljava/lang/Object;I)V" } : Jvm.MethodName) jdk_38_method_24_code (4 : Nat) (Option.none : Option Jvm.ClassFile.FieldType)).before args0 about1 = true := code_word (m := ⟨20, 5⟩) (meth := k20m5) (c := k20c5) (by decide +kernel) rfl rfl rfl (by decide +kernel)
set_option maxRecDepth 65536 in
theorem w_c15 : (Jvm.Cond.code ({ cls := "java/util/ArrayList", name := "grow", desc := "()[Ljava/lang/Object;" } : Jvm.MethodName) jdk_38_method_7_code (1 : Nat) (Option.some (Jvm.ClassFile.FieldType.array (Jvm.ClassFile.FieldType.object "java/lang/Object")))).before args0 about1 = true := code_word (m := ⟨20, 2⟩) (meth := k20m2) (c := k20c2) (by decide +kernel) rfl rfl rfl (by decide +kernel)
set_option maxRecDepth 65536 in
theorem w_c16 : (Jvm.Cond.code ({ cls := "java/util/ArrayList", name := "grow", desc := "(I)[Ljava/lang/Object;" } : Jvm.MethodName) jdk_38_method_6_code (4 : Nat) (Option.some (Jvm.ClassFile.FieldType.array (Jvm.ClassFile.FieldType.object "java/lang/Object")))).before args0 about1 = true := code_word (m := ⟨20, 1⟩) (meth := k20m1) (c := k20c1) (by decide +kernel) rfl rfl rfl (by decide +kernel)
set_option maxRecDepth 65536 in
theorem w_c17 : (Jvm.Cond.code ({ cls := "java/lang/Math", name := "max", desc := "(II)I" } : Jvm.MethodName) jdk_29_method_65_code (2 : Nat) (Option.some Jvm.ClassFile.FieldType.int)).before args0 about1 = true := code_word (m := ⟨21, 1⟩) (meth := k21m1) (c := k21c1) (by decide +kernel) rfl rfl rfl (by decide +kernel)
set_option maxRecDepth 65536 in
theorem w_c18 : (Jvm.Cond.code ({ cls := "com/example/keyhold/keyhold/model/KeyRing", name := "<init>", desc := "(Ljava/util/List;)V" } : Jvm.MethodName) prog_7_method_1_code (2 : Nat) (Option.none : Option Jvm.ClassFile.FieldType)).before args0 about1 = true := code_word (m := ⟨22, 0⟩) (meth := k22m0) (c := k22c0) (by decide +kernel) rfl rfl rfl (by decide +kernel)
set_option maxRecDepth 65536 in
theorem w_c19 : (Jvm.Cond.code ({ cls := "java/util/ArrayList", name := "isEmpty", desc := "()Z" } : Jvm.MethodName) jdk_38_method_9_code (1 : Nat) (Option.some Jvm.ClassFile.FieldType.boolean)).before args0 about1 = true := code_word (m := ⟨20, 3⟩) (meth := k20m3) (c := k20c3) (by decide +kernel) rfl rfl rfl (by decide +kernel)
set_option maxRecDepth 65536 in
theorem w_c20 : (Jvm.Cond.code ({ cls := "java/util/List", name := "copyOf", desc := "(Ljava/util/Collection;)Ljava/util/List;" } : Jvm.MethodName) jdk_40_method_48_code (1 : Nat) (Option.some (Jvm.ClassFile.FieldType.object "java/util/List"))).before args0 about1 = true := code_word (m := ⟨16, 3⟩) (meth := k16m3) (c := k16c3) (by decide +kernel) rfl rfl rfl (by decide +kernel)
set_option maxRecDepth 65536 in
theorem w_c21 : (Jvm.Cond.code ({ cls := "java/util/ImmutableCollections", name := "listCopy", desc := "(Ljava/util/Collection;)Ljava/util/List;" } : Jvm.MethodName) jdk_56_method_3_code (2 : Nat) (Option.some (Jvm.ClassFile.FieldType.object "java/util/List"))).before args0 about1 = true := code_word (m := ⟨23, 1⟩) (meth := k23m1) (c := k23c1) (by decide +kernel) rfl rfl rfl (by decide +kernel)
set_option maxRecDepth 65536 in
theorem w_c22 : (Jvm.Cond.code ({ cls := "java/util/ArrayList", name := "toArray", desc := "()[Ljava/lang/Object;" } : Jvm.MethodName) jdk_38_method_16_code (1 : Nat) (Option.some (Jvm.ClassFile.FieldType.array (Jvm.ClassFile.FieldType.object "java/lang/Object")))).before args0 about1 = true := code_word (m := ⟨20, 4⟩) (meth := k20m4) (c := k20c4) (by decide +kernel) rfl rfl rfl (by decide +kernel)
set_option maxRecDepth 65536 in
theorem w_c23 : (Jvm.Cond.code ({ cls := "java/util/Arrays", name := "copyOf", desc := "([Ljava/lang/Object;I)[Ljava/lang/Object;" } : Jvm.MethodName) jdk_65_method_119_code (2 : Nat) (Option.some (Jvm.ClassFile.FieldType.array (Jvm.ClassFile.FieldType.object "java/lang/Object")))).before args0 about1 = true := code_word (m := ⟨28, 1⟩) (meth := k28m1) (c := k28c1) (by decide +kernel) rfl rfl rfl (by decide +kernel)
set_option maxRecDepth 65536 in
theorem w_c24 : (Jvm.Cond.code ({ cls := "java/util/Arrays", name := "copyOf", desc := "([Ljava/lang/Object;ILjava/lang/Class;)[Ljava/lang/Object;" } : Jvm.MethodName) jdk_65_method_120_code (4 : Nat) (Option.some (Jvm.ClassFile.FieldType.array (Jvm.ClassFile.FieldType.object "java/lang/Object")))).before args0 about1 = true := code_word (m := ⟨28, 2⟩) (meth := k28m2) (c := k28c2) (by decide +kernel) rfl rfl rfl (by decide +kernel)
set_option maxRecDepth 65536 in
theorem w_c25 : (Jvm.Cond.code ({ cls := "java/lang/Math", name := "min", desc := "(II)I" } : Jvm.MethodName) jdk_29_method_69_code (2 : Nat) (Option.some Jvm.ClassFile.FieldType.int)).before args0 about1 = true := code_word (m := ⟨21, 2⟩) (meth := k21m2) (c := k21c2) (by decide +kernel) rfl rfl rfl (by decide +kernel)
set_option maxRecDepth 65536 in
theorem w_c26 : (Jvm.Cond.code ({ cls := "java/util/List", name := "of", desc := "([Ljava/lang/Object;)Ljava/util/List;" } : Jvm.MethodName) jdk_40_method_47_code (2 : Nat) (Option.some (Jvm.ClassFile.FieldType.object "java/util/List"))).before args0 about1 = true := code_word (m := ⟨16, 2⟩) (meth := k16m2) (c := k16c2) (by decide +kernel) rfl rfl rfl (by decide +kernel)
set_option maxRecDepth 65536 in
theorem w_c27 : (Jvm.Cond.code ({ cls := "java/util/ImmutableCollections$List12", name := "<init>", desc := "(Ljava/lang/Object;)V" } : Jvm.MethodName) jdk_44_method_1_code (2 : Nat) (Option.none : Option Jvm.ClassFile.FieldType)).before args0 about1 = true := code_word (m := ⟨26, 0⟩) (meth := k26m0) (c := k26c0) (by decide +kernel) rfl rfl rfl (by decide +kernel)
set_option maxRecDepth 65536 in
theorem w_c28 : (Jvm.Cond.code ({ cls := "java/util/ImmutableCollections$AbstractImmutableList", name := "<init>", desc := "()V" } : Jvm.MethodName) jdk_46_method_1_code (1 : Nat) (Option.none : Option Jvm.ClassFile.FieldType)).before args0 about1 = true := code_word (m := ⟨25, 0⟩) (meth := k25m0) (c := k25c0) (by decide +kernel) rfl rfl rfl (by decide +kernel)
set_option maxRecDepth 65536 in
theorem w_c29 : (Jvm.Cond.code ({ cls := "java/util/ImmutableCollections$AbstractImmutableCollection", name := "<init>", desc := "()V" } : Jvm.MethodName) jdk_47_method_1_code (1 : Nat) (Option.none : Option Jvm.ClassFile.FieldType)).before args0 about1 = true := code_word (m := ⟨24, 0⟩) (meth := k24m0) (c := k24c0) (by decide +kernel) rfl rfl rfl (by decide +kernel)
set_option maxRecDepth 65536 in
theorem w_c30 : (Jvm.Cond.code ({ cls := "java/util/Objects", name := "requireNonNull", desc := "(Ljava/lang/Object;)Ljava/lang/Object;" } : Jvm.MethodName) jdk_31_method_10_code (1 : Nat) (Option.some (Jvm.ClassFile.FieldType.object "java/lang/Object"))).before args0 about1 = true := code_word (m := ⟨11, 1⟩) (meth := k11m1) (c := k11c1) (by decide +kernel) rfl rfl rfl (by decide +kernel)
set_option maxRecDepth 65536 in
theorem w_c31 : (Jvm.Cond.code ({ cls := "com/example/keyhold/keyhold/model/KeyRing", name := "inUse", desc := "()Lcom/example/keyhold/keyhold/model/SigningKey;" } : Jvm.MethodName) prog_7_method_2_code (1 : Nat) (Option.some (Jvm.ClassFile.FieldType.object "com/example/keyhold/keyhold/model/SigningKey"))).before args0 about1 = true := code_word (m := ⟨22, 1⟩) (meth := k22m1) (c := k22c1) (by decide +kernel) rfl rfl rfl (by decide +kernel)
set_option maxRecDepth 65536 in
theorem w_c32 : (Jvm.Cond.code ({ cls := "java/util/ImmutableCollections$List12", name := "get", desc := "(I)Ljava/lang/Object;" } : Jvm.MethodName) jdk_44_method_5_code (2 : Nat) (Option.some (Jvm.ClassFile.FieldType.object "java/lang/Object"))).before args0 about1 = true := code_word (m := ⟨26, 2⟩) (meth := k26m2) (c := k26c2) (by decide +kernel) rfl rfl rfl (by decide +kernel)
set_option maxRecDepth 65536 in
theorem w_c33 : (Jvm.Cond.code ({ cls := "java/util/ArrayList", name := "add", desc := "(ILjava/lang/Object;)V" } : Jvm.MethodName) jdk_38_method_26_code (5 : Nat) (Option.none : Option Jvm.ClassFile.FieldType)).before args0 about1 = true := code_word (m := ⟨20, 7⟩) (meth := k20m7) (c := k20c7) (by decide +kernel) rfl rfl rfl (by decide +kernel)
set_option maxRecDepth 65536 in
theorem w_c34 : (Jvm.Cond.code ({ cls := "java/util/ArrayList", name := "rangeCheckForAdd", desc := "(I)V" } : Jvm.MethodName) jdk_38_method_45_code (2 : Nat) (Option.none : Option Jvm.ClassFile.FieldType)).before args0 about1 = true := code_word (m := ⟨20, 8⟩) (meth := k20m8) (c := k20c8) (by decide +kernel) rfl rfl rfl (by decide +kernel)
set_option maxRecDepth 65536 in
theorem w_c35 : (Jvm.Cond.code ({ cls := "java/util/ImmutableCollections", name := "listFromArray", desc := "([Ljava/lang/Object;)Ljava/util/List;" } : Jvm.MethodName) jdk_56_method_4_code (3 : Nat) (Option.some (Jvm.ClassFile.FieldType.object "java/util/List"))).before args0 about1 = true := code_word (m := ⟨23, 2⟩) (meth := k23m2) (c := k23c2) (by decide +kernel) rfl rfl rfl (by decide +kernel)
set_option maxRecDepth 65536 in
theorem w_c36 : (Jvm.Cond.code ({ cls := "java/util/ImmutableCollections$ListN", name := "<init>", desc := "([Ljava/lang/Object;Z)V" } : Jvm.MethodName) jdk_45_method_1_code (3 : Nat) (Option.none : Option Jvm.ClassFile.FieldType)).before args0 about1 = true := code_word (m := ⟨27, 0⟩) (meth := k27m0) (c := k27c0) (by decide +kernel) rfl rfl rfl (by decide +kernel)
set_option maxRecDepth 65536 in
theorem w_c37 : (Jvm.Cond.code ({ cls := "java/util/ImmutableCollections$ListN", name := "get", desc := "(I)Ljava/lang/Object;" } : Jvm.MethodName) jdk_45_method_4_code (2 : Nat) (Option.some (Jvm.ClassFile.FieldType.object "java/lang/Object"))).before args0 about1 = true := code_word (m := ⟨27, 1⟩) (meth := k27m1) (c := k27c1) (by decide +kernel) rfl rfl rfl (by decide +kernel)
set_option maxRecDepth 65536 in
theorem w_c38 : (Jvm.Cond.code ({ cls := "java/util/ImmutableCollections$List12", name := "<init>", desc := "(Ljava/lang/Object;Ljava/lang/Object;)V" } : Jvm.MethodName) jdk_44_method_2_code (3 : Nat) (Option.none : Option Jvm.ClassFile.FieldType)).before args0 about1 = true := code_word (m := ⟨26, 1⟩) (meth := k26m1) (c := k26c1) (by decide +kernel) rfl rfl rfl (by decide +kernel)
def codes1 : List Jvm.Cond := [Jvm.Cond.code x code maxLocals ret, Jvm.Cond.code ({ cls := "java/lang/String", name := "<init>", desc := "([C)V" } : Jvm.MethodName) jdk_42_method_3_code (2 : Nat) (Option.none : Option Jvm.ClassFile.FieldType), Jvm.Cond.code ({ cls := "java/lang/String", name := "<init>", desc := "([CIILjava/lang/Void;)V" } : Jvm.MethodName) jdk_42_method_149_code (6 : Nat) (Option.none : Option Jvm.ClassFile.FieldType), Jvm.Cond.code ({ cls := "java/lang/Object", name := "<init>", desc := "()V" } : Jvm.MethodName) object_method_1_code (1 : Nat) (Option.none : Option Jvm.ClassFile.FieldType), Jvm.Cond.code ({ cls := "java/lang/StringUTF16", name := "compress", desc := "([CII)[B" } : Jvm.MethodName) jdk_52_method_16_code (6 : Nat) (Option.some (Jvm.ClassFile.FieldType.array Jvm.ClassFile.FieldType.byte)), Jvm.Cond.code ({ cls := "java/lang/StringUTF16", name := "compress", desc := "([CI[BII)I" } : Jvm.MethodName) jdk_52_method_21_code (7 : Nat) (Option.some Jvm.ClassFile.FieldType.int), Jvm.Cond.code ({ cls := "java/lang/StringUTF16", name := "coderFromArrayLen", desc := "([BI)B" } : Jvm.MethodName) jdk_52_method_15_code (2 : Nat) (Option.some Jvm.ClassFile.FieldType.byte), Jvm.Cond.code ({ cls := "com/example/keyhold/keyhold/model/SigningKey", name := "<init>", desc := "(Ljava/lang/String;[BJ)V" } : Jvm.MethodName) prog_10_method_1_code (5 : Nat) (Option.none : Option Jvm.ClassFile.FieldType), Jvm.Cond.code ({ cls := "java/lang/Record", name := "<init>", desc := "()V" } : Jvm.MethodName) jdk_30_method_1_code (1 : Nat) (Option.none : Option Jvm.ClassFile.FieldType), Jvm.Cond.code ({ cls := "java/util/Objects", name := "requireNonNull", desc := "(Ljava/lang/Object;Ljava/lang/String;)Ljava/lang/Object;" } : Jvm.MethodName) jdk_31_method_11_code (2 : Nat) (Option.some (Jvm.ClassFile.FieldType.object "java/lang/Object")), Jvm.Cond.code ({ cls := "java/util/ArrayList", name := "<init>", desc := "()V" } : Jvm.MethodName) jdk_38_method_2_code (1 : Nat) (Option.none : Option Jvm.ClassFile.FieldType), Jvm.Cond.code ({ cls := "java/util/AbstractList", name := "<init>", desc := "()V" } : Jvm.MethodName) jdk_39_method_1_code (1 : Nat) (Option.none : Option Jvm.ClassFile.FieldType), Jvm.Cond.code ({ cls := "java/util/AbstractCollection", name := "<init>", desc := "()V" } : Jvm.MethodName) jdk_22_method_1_code (1 : Nat) (Option.none : Option Jvm.ClassFile.FieldType), Jvm.Cond.code ({ cls := "java/util/ArrayList", name := "add", desc := "(Ljava/lang/Object;)Z" } : Jvm.MethodName) jdk_38_method_25_code (2 : Nat) (Option.some Jvm.ClassFile.FieldType.boolean), Jvm.Cond.code ({ cls := "java/util/ArrayList", name := "add", desc := "(Ljava/lang/Object;[Ljava/lang/Object;I)V" } : Jvm.MethodName) jdk_38_method_24_code (4 : Nat) (Option.none : Option Jvm.ClassFile.FieldType), Jvm.Cond.code ({ cls := "java/util/ArrayList", name := "grow", desc := "()[Ljava/lang/Object;" } : Jvm.MethodName) jdk_38_method_7_code (1 : Nat) (Option.some (Jvm.ClassFile.FieldType.array (Jvm.ClassFile.FieldType.object "java/lang/Object"))), Jvm.Cond.code ({ cls := "java/util/ArrayList", name := "grow", desc := "(I)[Ljava/lang/Object;" } : Jvm.MethodName) jdk_38_method_6_code (4 : Nat) (Option.some (Jvm.ClassFile.FieldType.array (Jvm.ClassFile.FieldType.object "java/lang/Object"))), Jvm.Cond.code ({ cls := "java/lang/Math", name := "max", desc := "(II)I" } : Jvm.MethodName) jdk_29_method_65_code (2 : Nat) (Option.some Jvm.ClassFile.FieldType.int), Jvm.Cond.code ({ cls := "com/example/keyhold/keyhold/model/KeyRing", name := "<init>", desc := "(Ljava/util/List;)V" } : Jvm.MethodName) prog_7_method_1_code (2 : Nat) (Option.none : Option Jvm.ClassFile.FieldType), Jvm.Cond.code ({ cls := "java/util/ArrayList", name := "isEmpty", desc := "()Z" } : Jvm.MethodName) jdk_38_method_9_code (1 : Nat) (Option.some Jvm.ClassFile.FieldType.boolean), Jvm.Cond.code ({ cls := "java/util/List", name := "copyOf", desc := "(Ljava/util/Collection;)Ljava/util/List;" } : Jvm.MethodName) jdk_40_method_48_code (1 : Nat) (Option.some (Jvm.ClassFile.FieldType.object "java/util/List")), Jvm.Cond.code ({ cls := "java/util/ImmutableCollections", name := "listCopy", desc := "(Ljava/util/Collection;)Ljava/util/List;" } : Jvm.MethodName) jdk_56_method_3_code (2 : Nat) (Option.some (Jvm.ClassFile.FieldType.object "java/util/List")), Jvm.Cond.code ({ cls := "java/util/ArrayList", name := "toArray", desc := "()[Ljava/lang/Object;" } : Jvm.MethodName) jdk_38_method_16_code (1 : Nat) (Option.some (Jvm.ClassFile.FieldType.array (Jvm.ClassFile.FieldType.object "java/lang/Object"))), Jvm.Cond.code ({ cls := "java/util/Arrays", name := "copyOf", desc := "([Ljava/lang/Object;I)[Ljava/lang/Object;" } : Jvm.MethodName) jdk_65_method_119_code (2 : Nat) (Option.some (Jvm.ClassFile.FieldType.array (Jvm.ClassFile.FieldType.object "java/lang/Object"))), Jvm.Cond.code ({ cls := "java/util/Arrays", name := "copyOf", desc := "([Ljava/lang/Object;ILjava/lang/Class;)[Ljava/lang/Object;" } : Jvm.MethodName) jdk_65_method_120_code (4 : Nat) (Option.some (Jvm.ClassFile.FieldType.array (Jvm.ClassFile.FieldType.object "java/lang/Object"))), Jvm.Cond.code ({ cls := "java/lang/Math", name := "min", desc := "(II)I" } : Jvm.MethodName) jdk_29_method_69_code (2 : Nat) (Option.some Jvm.ClassFile.FieldType.int), Jvm.Cond.code ({ cls := "java/util/List", name := "of", desc := "([Ljava/lang/Object;)Ljava/util/List;" } : Jvm.MethodName) jdk_40_method_47_code (2 : Nat) (Option.some (Jvm.ClassFile.FieldType.object "java/util/List")), Jvm.Cond.code ({ cls := "java/util/ImmutableCollections$List12", name := "<init>", desc := "(Ljava/lang/Object;)V" } : Jvm.MethodName) jdk_44_method_1_code (2 : Nat) (Option.none : Option Jvm.ClassFile.FieldType), Jvm.Cond.code ({ cls := "java/util/ImmutableCollections$AbstractImmutableList", name := "<init>", desc := "()V" } : Jvm.MethodName) jdk_46_method_1_code (1 : Nat) (Option.none : Option Jvm.ClassFile.FieldType), Jvm.Cond.code ({ cls := "java/util/ImmutableCollections$AbstractImmutableCollection", name := "<init>", desc := "()V" } : Jvm.MethodName) jdk_47_method_1_code (1 : Nat) (Option.none : Option Jvm.ClassFile.FieldType), Jvm.Cond.code ({ cls := "java/util/Objects", name := "requireNonNull", desc := "(Ljava/lang/Object;)Ljava/lang/Object;" } : Jvm.MethodName) jdk_31_method_10_code (1 : Nat) (Option.some (Jvm.ClassFile.FieldType.object "java/lang/Object")), Jvm.Cond.code ({ cls := "com/example/keyhold/keyhold/model/KeyRing", name := "inUse", desc := "()Lcom/example/keyhold/keyhold/model/SigningKey;" } : Jvm.MethodName) prog_7_method_2_code (1 : Nat) (Option.some (Jvm.ClassFile.FieldType.object "com/example/keyhold/keyhold/model/SigningKey")), Jvm.Cond.code ({ cls := "java/util/ImmutableCollections$List12", name := "get", desc := "(I)Ljava/lang/Object;" } : Jvm.MethodName) jdk_44_method_5_code (2 : Nat) (Option.some (Jvm.ClassFile.FieldType.object "java/lang/Object")), Jvm.Cond.code ({ cls := "java/util/ArrayList", name := "add", desc := "(ILjava/lang/Object;)V" } : Jvm.MethodName) jdk_38_method_26_code (5 : Nat) (Option.none : Option Jvm.ClassFile.FieldType), Jvm.Cond.code ({ cls := "java/util/ArrayList", name := "rangeCheckForAdd", desc := "(I)V" } : Jvm.MethodName) jdk_38_method_45_code (2 : Nat) (Option.none : Option Jvm.ClassFile.FieldType), Jvm.Cond.code ({ cls := "java/util/ImmutableCollections", name := "listFromArray", desc := "([Ljava/lang/Object;)Ljava/util/List;" } : Jvm.MethodName) jdk_56_method_4_code (3 : Nat) (Option.some (Jvm.ClassFile.FieldType.object "java/util/List")), Jvm.Cond.code ({ cls := "java/util/ImmutableCollections$ListN", name := "<init>", desc := "([Ljava/lang/Object;Z)V" } : Jvm.MethodName) jdk_45_method_1_code (3 : Nat) (Option.none : Option Jvm.ClassFile.FieldType), Jvm.Cond.code ({ cls := "java/util/ImmutableCollections$ListN", name := "get", desc := "(I)Ljava/lang/Object;" } : Jvm.MethodName) jdk_45_method_4_code (2 : Nat) (Option.some (Jvm.ClassFile.FieldType.object "java/lang/Object")), Jvm.Cond.code ({ cls := "java/util/ImmutableCollections$List12", name := "<init>", desc := "(Ljava/lang/Object;Ljava/lang/Object;)V" } : Jvm.MethodName) jdk_44_method_2_code (3 : Nat) (Option.none : Option Jvm.ClassFile.FieldType)]
set_option maxRecDepth 65536 in
theorem codes_eq : words1.filter isCode = codes1 := rfl
theorem w_codes : ∀ c ∈ words1.filter isCode, c.before args0 about1 = true := by
  rw [codes_eq]
  intro c hc
  simp only [codes1, List.mem_cons, List.not_mem_nil, or_false] at hc
  rcases hc with rfl | rfl | rfl | rfl | rfl | rfl | rfl | rfl | rfl | rfl | rfl | rfl | rfl | rfl | rfl | rfl | rfl | rfl | rfl | rfl | rfl | rfl | rfl | rfl | rfl | rfl | rfl | rfl | rfl | rfl | rfl | rfl | rfl | rfl | rfl | rfl | rfl | rfl | rfl
  · exact w_c0
  · exact w_c1
  · exact w_c2
  · exact w_c3
  · exact w_c4
  · exact w_c5
  · exact w_c6
  · exact w_c7
  · exact w_c8
  · exact w_c9
  · exact w_c10
  · exact w_c11
  · exact w_c12
  · exact w_c13
  · exact w_c14
  · exact w_c15
  · exact w_c16
  · exact w_c17
  · exact w_c18
  · exact w_c19
  · exact w_c20
  · exact w_c21
  · exact w_c22
  · exact w_c23
  · exact w_c24
  · exact w_c25
  · exact w_c26
  · exact w_c27
  · exact w_c28
  · exact w_c29
  · exact w_c30
  · exact w_c31
  · exact w_c32
  · exact w_c33
  · exact w_c34
  · exact w_c35
  · exact w_c36
  · exact w_c37
  · exact w_c38
set_option maxRecDepth 65536 in
theorem w_t1 : (words1.take 24).all (fun c => isCode c || c.before args0 about1) = true := by decide +kernel
set_option maxRecDepth 65536 in
theorem w_t2 : ((words1.drop 24).take 24).all (fun c => isCode c || c.before args0 about1) = true := by decide +kernel
set_option maxRecDepth 65536 in
theorem w_t3 : (((words1.drop 24).drop 24).take 24).all (fun c => isCode c || c.before args0 about1) = true := by decide +kernel
set_option maxRecDepth 65536 in
theorem w_t4 : ((((words1.drop 24).drop 24).drop 24).take 24).all (fun c => isCode c || c.before args0 about1) = true := by decide +kernel
set_option maxRecDepth 65536 in
theorem w_t5 : (((((words1.drop 24).drop 24).drop 24).drop 24).take 24).all (fun c => isCode c || c.before args0 about1) = true := by decide +kernel
set_option maxRecDepth 65536 in
theorem w_t6 : ((((((words1.drop 24).drop 24).drop 24).drop 24).drop 24).take 24).all (fun c => isCode c || c.before args0 about1) = true := by decide +kernel
set_option maxRecDepth 65536 in
theorem w_t7 : (((((((words1.drop 24).drop 24).drop 24).drop 24).drop 24).drop 24).take 24).all (fun c => isCode c || c.before args0 about1) = true := by decide +kernel
set_option maxRecDepth 65536 in
theorem w_t8 : ((((((((words1.drop 24).drop 24).drop 24).drop 24).drop 24).drop 24).drop 24).take 24).all (fun c => isCode c || c.before args0 about1) = true := by decide +kernel
set_option maxRecDepth 65536 in
theorem w_t9 : (((((((((words1.drop 24).drop 24).drop 24).drop 24).drop 24).drop 24).drop 24).drop 24).take 24).all (fun c => isCode c || c.before args0 about1) = true := by decide +kernel
set_option maxRecDepth 65536 in
theorem w_t10 : ((((((((((words1.drop 24).drop 24).drop 24).drop 24).drop 24).drop 24).drop 24).drop 24).drop 24).take 24).all (fun c => isCode c || c.before args0 about1) = true := by decide +kernel
set_option maxRecDepth 65536 in
theorem w_t11 : (((((((((((words1.drop 24).drop 24).drop 24).drop 24).drop 24).drop 24).drop 24).drop 24).drop 24).drop 24).take 24).all (fun c => isCode c || c.before args0 about1) = true := by decide +kernel
set_option maxRecDepth 65536 in
theorem w_t12 : (((((((((((words1.drop 24).drop 24).drop 24).drop 24).drop 24).drop 24).drop 24).drop 24).drop 24).drop 24).drop 24).all (fun c => isCode c || c.before args0 about1) = true := by decide +kernel
theorem w_tables : (allAtoms (Jvm.Cond.code x code maxLocals ret :: tables_1)).before args0 about1 = true := by
  rw [allAtoms_all]
  show words1.all (fun c => c.before args0 about1) = true
  refine all_split ?_ w_codes
  rw [← List.take_append_drop 24 words1, List.all_append, w_t1, ← List.take_append_drop 24 (words1.drop 24), List.all_append, w_t2, ← List.take_append_drop 24 ((words1.drop 24).drop 24), List.all_append, w_t3, ← List.take_append_drop 24 (((words1.drop 24).drop 24).drop 24), List.all_append, w_t4, ← List.take_append_drop 24 ((((words1.drop 24).drop 24).drop 24).drop 24), List.all_append, w_t5, ← List.take_append_drop 24 (((((words1.drop 24).drop 24).drop 24).drop 24).drop 24), List.all_append, w_t6, ← List.take_append_drop 24 ((((((words1.drop 24).drop 24).drop 24).drop 24).drop 24).drop 24), List.all_append, w_t7, ← List.take_append_drop 24 (((((((words1.drop 24).drop 24).drop 24).drop 24).drop 24).drop 24).drop 24), List.all_append, w_t8, ← List.take_append_drop 24 ((((((((words1.drop 24).drop 24).drop 24).drop 24).drop 24).drop 24).drop 24).drop 24), List.all_append, w_t9, ← List.take_append_drop 24 (((((((((words1.drop 24).drop 24).drop 24).drop 24).drop 24).drop 24).drop 24).drop 24).drop 24), List.all_append, w_t10, ← List.take_append_drop 24 ((((((((((words1.drop 24).drop 24).drop 24).drop 24).drop 24).drop 24).drop 24).drop 24).drop 24).drop 24), List.all_append, w_t11, w_t12]
  rfl
set_option maxRecDepth 65536 in
theorem w_rest : rest_1_c.before args0 about1 = true := by decide +kernel
set_option maxRecDepth 65536 in
theorem w_case : (Jvm.Cond.and given_1 narrow_1).before args0 about1 = true := by decide +kernel
theorem w_applies : (headSpec (Jvm.Cond.code x code maxLocals ret :: tables_1) room_1).applies x e0.platform about1 = true :=
  (Spec.applies_iff w_frames).mpr ⟨w_running, w_runnable, w_alone, w_named, w_hears, w_ripe, w_room, w_tables⟩
theorem atStart : AtStart classFile x code maxLocals ret World_1 tables_1 room_1 Calls_1 rest_1 Pre_1 launch0 p0 e0 about1 theMethod args0 below0 :=
  ⟨lists_1, trivial, launch0.admits_env _ _ _, launch0.least_env, fairChoices_fair.cas, fairChoices_fair.clock, w_frames, w_args, w_heap, w_applies, ⟨⟨40, k40, 4, by decide +kernel, rfl, rfl, _, rfl, rfl⟩, trivial⟩, w_rest, w_case⟩
end start1
theorem witness_1 : WitnessClaimed_1 := ⟨start1.p0, start1.e0, start1.about1, start1.theMethod, start1.args0, start1.below0, start1.atStart⟩
end Jvm.Pilot.@@N@@
