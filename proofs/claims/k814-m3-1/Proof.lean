import JvmDerived
import JvmDerived.Pilot.@@N@@Statement
import JvmDerived.Pilot.@@N@@Code
set_option linter.unusedVariables false
set_option linter.unusedSimpArgs false
namespace Jvm.Pilot.@@N@@
open Jvm Jvm.ClassFile Sem Op Lib Jvm.Free Jvm.Stand Jvm.LawKit Jvm.RoadKit Bundle Jvm.Pilot.@@N@@.Jvm.D
theorem own_tallN {tb : Tables} {e : Env} {N : Nat} : ∀ (n : Nat) (S : State), N ≤ S.heap.size → N ≤ (stepsAlone tb e n S).heap.size
  | 0, S, h => h
  | n + 1, S, h => by
    unfold stepsAlone
    split
    · exact own_tallN n _ (stepThread_tall tb h)
    · exact h
theorem own_tall {tb : Tables} {e : Env} {below : List Frame} {S t : State} {N : Nat} (st : Steps tb e below S t) (h : N ≤ S.heap.size) : N ≤ t.heap.size := by
  obtain ⟨n, rfl, -⟩ := st
  exact own_tallN n S h
/-- nothing is told of the interned texts -/
def own_IB (v0 v1 : Vm) (tx : List String) : Prop := True
theorem own_IB.same {v0 v1 : Vm} {tx : List String} (h : v1.interned = v0.interned) : own_IB v0 v1 tx := trivial
theorem own_IB.trans {v0 v1 v2 : Vm} {tx ty : List String} (h : own_IB v0 v1 ty) (hs : ∀ x ∈ ty, x ∈ tx) (k : own_IB v1 v2 tx) : own_IB v0 v2 tx := trivial
abbrev own_Post : Type := (Option Value → Heap → List Loc → Vm → Prop) × List String
section Own
variable {p : Program} {l : Launch} {e : Env} {R : Room} {s : State} {m : MethodId} {args : Array Value} {below : List Frame} {meth : Method} {c : Code} {T : State} {locs : List Loc} {cells slots : Nat} {Z : State} {a0 : Array Value} {h : Heap} {Q : own_Post} {kc kn : Nat}
/-- from S the method comes to its end, and what it leaves answers to Q -/
def own_Ends (p : Program) (e : Env) (below : List Frame) (s : State) (Q : own_Post) (kc kn : Nat) (S : State) : Prop :=
  ∃ s₂ o, Steps p.tables e below S s₂ ∧ s₂.status = .running ∧ Ended s₂ below o ∧ ∃ v L, o = .returned v ∧ Q.1 v s₂.heap L s₂.vm ∧ ReturnedEndW s o s₂ L kc kn ∧ own_IB s.vm s₂.vm Q.2
theorem own_pre {S S' : State} (st : ∀ t, Steps p.tables e below S' t → Steps p.tables e below S t) (k : own_Ends p e below s Q kc kn S') : own_Ends p e below s Q kc kn S := by
  obtain ⟨s₂, o, h1, r⟩ := k
  exact ⟨s₂, o, st _ h1, r⟩
theorem own_reb {S : State} {vm1 : Vm} {n1 : Nat} {ty : List String} (hS : s.Since vm1 n1) (hn : n1 ≤ S.heap.size) (hI : own_IB s.vm vm1 ty) (hsub : ∀ x ∈ ty, x ∈ Q.2) (k : own_Ends p e below (s.setVm vm1) Q kc kn S) : own_Ends p e below s Q kc kn S := by
  obtain ⟨s₂, o, h1, h2, h3, v, L, h4, h5, ⟨h6, h7, h8, h9⟩, h10⟩ := k
  have q : n1 ≤ s₂.heap.size := own_tall h1 hn
  have S2 := hS.trans (n₂ := s₂.heap.size) ⟨h7, h8⟩ q
  exact ⟨s₂, o, h1, h2, h3, v, L, h4, h5, ⟨h6, S2.1, S2.2, h9.setVm s.vm⟩, hI.trans hsub h10⟩
theorem own_fin {T : State} {o : Outcome} {L : List Loc} {k1 n1 k2 n2 : Nat} (hr : ∃ v : Option Value, o = Outcome.returned v) (hW : s.WarmedH T.vm) (hs : s.sameButNew { T with vm := s.vm } L k1 n1) (h1 : k1 ≤ k2) (h2 : n1 ≤ n2) {tx : List String} : ReturnedEndW s o T L k2 n2 ∧ own_IB s.vm T.vm tx :=
  ⟨ReturnedEndW.of_narrow hr hW (hs.mono h1 h2), own_IB.same ((hW.since 0).same_table (Nat.zero_le _))⟩
theorem own_ret (X : Stand p l e R s m args below meth c T locs cells slots) (hx : p.tables.exec = Jvm.exec) (hlk : meth.locks = false) {pc : Nat} {Ls : Array Slot} {w : Value} {t : FieldType} {i : Instr} {rest : List Value} (hret : meth.sig.returnType = some t) (hn : narrow t w = w)
    (hi : (i = .ireturn ∧ (t = .int ∨ t = .boolean ∨ t = .byte ∨ t = .char ∨ t = .short) ∧ ∃ z, w = .int z) ∨ (i = .lreturn ∧ t = .long ∧ ∃ z, w = .long z) ∨ (i = .dreturn ∧ t = .double ∧ ∃ z, w = .double z) ∨ (i = .freturn ∧ t = .float ∧ ∃ z, w = .float z) ∨ (i = .areturn ∧ t.isReference = true ∧ w.isRef = true))
    (hd : decode c.code pc = .ok (i, 1)) (h1 : cells ≤ kc) (h2 : slots ≤ kn) (hQ : Q.1 (some w) T.heap locs T.vm) : own_Ends p e below s Q kc kn (T.setTop (mkF m pc Ls (w :: rest))) := by
  obtain ⟨fs, hr, hrun, hended, hW, hsame⟩ := X.leave (v := some w) (fun h => by rw [hret] at h; cases h) hlk
  exact ⟨_, _, retOut X hx hret hn hi hd hr, hrun, hended, _, _, rfl, hQ, own_fin ⟨_, rfl⟩ hW hsame h1 h2⟩
theorem own_retV (X : Stand p l e R s m args below meth c T locs cells slots) (hx : p.tables.exec = Jvm.exec) (hlk : meth.locks = false) {pc : Nat} {Ls : Array Slot} (hret : meth.sig.returnType = none)
    (hd : decode c.code pc = .ok (.return_, 1)) (h1 : cells ≤ kc) (h2 : slots ≤ kn) (hQ : Q.1 none T.heap locs T.vm) : own_Ends p e below s Q kc kn (T.setTop (mkF m pc Ls [])) := by
  obtain ⟨fs, hr, hrun, hended, hW, hsame⟩ := X.leave (v := none) (fun _ => rfl) hlk
  exact ⟨_, _, X.returnOut hx hret hd hr, hrun, hended, _, _, rfl, hQ, own_fin ⟨_, rfl⟩ hW hsame h1 h2⟩
/-- a contract: called with these arguments over this heap, the tables as PV says, it returns, and Q says what it left -/
abbrev own_MetW (l : Launch) (Z : State) (y : MethodName) (bytes : ByteArray) (maxL : Nat) (ret : Option FieldType) (ws : List Jvm.Cond) (rm : Room) (as' : Array Value) (h0 : Heap) (PV : Vm → Prop) (Q : own_Post) : Prop :=
  MetFree l y (head1 (Jvm.Cond.code y bytes maxL ret :: ws) rm) (fun a U => a = as' ∧ Z.Warmed39 U.vm ∧ U.heap = h0 ∧ PV U.vm) (fun _ _ _ _ _ => True) (fun _ U o U' => ∃ v L, o = .returned v ∧ Q.1 v U'.heap L U'.vm ∧ ReturnedEndW U o U' L rm.cells rm.slots ∧ own_IB U.vm U'.vm Q.2)
abbrev own_Met (l : Launch) (Z : State) (y : MethodName) (bytes : ByteArray) (maxL : Nat) (ret : Option FieldType) (ws : List Jvm.Cond) (rm : Room) (as' : Array Value) (h0 : Heap) (Q : Option Value → Heap → List Loc → Prop) : Prop :=
  own_MetW l Z y bytes maxL ret ws rm as' h0 (fun _ => True) (fun v h L _ => Q v h L, [])
theorem own_bodyW {y : MethodName} {bytes : ByteArray} {maxL : Nat} {ret : Option FieldType} {ws : List Jvm.Cond} {rm : Room} {as' : Array Value} {h0 : Heap} {PV : Vm → Prop} (pn : plainFor y = true) (F : MethodId → JFrame) (hF : ∀ m, entryFrame m as' maxL = F m)
    (body : ∀ (p : Program) (e : Env) (s : State) (m : MethodId) (below : List Frame) (meth : Method) (c : Code) (T : State), p.tables.exec = Jvm.exec → c.code = bytes → c.maxLocals = maxL → meth.locks = false → meth.sig.returnType = ret → Z.Warmed39 s.vm → s.vm.findClass y.cls = some m.cls → meth.name = y.name →
      Stand p l e rm s m as' below meth c T [] 0 0 → T.heap = h0 → PV s.vm → s.heap = h0 → own_Ends p e below s Q rm.cells rm.slots (T.setTop (F m))) : own_MetW l Z y bytes maxL ret ws rm as' h0 PV Q := by
  refine MetFree.of_bodySF pn hisR ?_
  intro p e s m args below meth c s₁ Bd hml0 hP hK
  obtain ⟨rfl, hZ, hh, hv⟩ := hP
  have := body p e s m below meth c s₁ Bd.exec Bd.bytes hml0 (BodyLoose.notSynchronized Bd) Bd.returns hZ (findClass_of_methodNamed Bd.named) (name_of_methodNamed Bd.named Bd.method).1 (Stand.of_body Bd) (by rw [← hh, Bd.state]; rfl) hv hh
  rw [← hF m] at this
  exact this
theorem own_body {y : MethodName} {bytes : ByteArray} {maxL : Nat} {ret : Option FieldType} {ws : List Jvm.Cond} {rm : Room} {as' : Array Value} {h0 : Heap} {Q : Option Value → Heap → List Loc → Prop} (pn : plainFor y = true) (F : MethodId → JFrame) (hF : ∀ m, entryFrame m as' maxL = F m)
    (body : ∀ (p : Program) (e : Env) (s : State) (m : MethodId) (below : List Frame) (meth : Method) (c : Code) (T : State), p.tables.exec = Jvm.exec → c.code = bytes → c.maxLocals = maxL → meth.locks = false → meth.sig.returnType = ret → Z.Warmed39 s.vm → s.vm.findClass y.cls = some m.cls → meth.name = y.name →
      Stand p l e rm s m as' below meth c T [] 0 0 → T.heap = h0 → own_Ends p e below s (fun v h L _ => Q v h L, []) rm.cells rm.slots (T.setTop (F m))) : own_Met l Z y bytes maxL ret ws rm as' h0 Q :=
  own_bodyW pn F hF fun p e s m below meth c T a1 a2 a3 a4 a5 a6 a7 a8 a9 a10 _ _ => body p e s m below meth c T a1 a2 a3 a4 a5 a6 a7 a8 a9 a10
theorem own_backW {y : MethodName} {bytes : ByteArray} {maxL : Nat} {ret : Option FieldType} {rm : Room} {len W : Nat} {as' : Array Value} {PV : Vm → Prop} {Qc : own_Post} (hM : own_MetW l Z y bytes maxL ret [] rm as' h PV Qc)
    (hZ : Z.Warmed39 s.vm) (wc : (Cond.code y bytes maxL ret).before a0 Z = true) (wz : (Cond.initialized y.cls).before a0 Z = true) (hf : rm.frames + 1 ≤ R.frames) (hl : W + (maxL + 11) + rm.locals ≤ R.locals) (hv : ∀ vm, s.WarmedH vm → PV vm) :
    BackS l R p e below s args y len W (fun A a => a = as' ∧ A.U.heap = h ∧ A.cells + rm.cells ≤ R.cells ∧ A.slots + rm.slots ≤ R.slots)
      (fun A _ v B => ∃ L, Qc.1 v B.U.heap L B.U.vm ∧ own_IB A.U.vm B.U.vm Qc.2 ∧ B.locs = A.locs ++ L ∧ B.cells = A.cells + rm.cells ∧ B.slots = A.slots + rm.slots) :=
  BackS.of_freeW (bytes := bytes) (maxL := maxL) (ret := ret) (E := fun _ U o t L k n => k = rm.cells ∧ n = rm.slots ∧ own_IB U.vm t.vm Qc.2 ∧ ∃ v, o = .returned v ∧ Qc.1 v t.heap L t.vm) hM hf hl
    (fun m meth c A a Y hp => have hU : Z.Warmed39 A.U.vm := wtrans hZ Y.warmed
      ⟨by show (Cond.and _ .tt).before a A.U = true; rw [Cond.before_and, mv hU wc]; rfl, mv hU wc, mv hU wz, hp.2.2.1, hp.2.2.2⟩)
    (fun m meth c A a g mk Y hp => ⟨hp.1, wtrans hZ Y.warmed, hp.2.1, hv _ Y.warmed⟩) (fun _ _ _ _ _ _ _ _ _ => trivial)
    (fun _ _ _ _ ⟨v, L, h1, h2, h3, h4⟩ => ⟨L, _, _, h3, rfl, rfl, h4, v, h1, h2⟩)
    (fun m meth c A a g mk v t L k n Y hp _ _ ⟨e1, e2, e0, v', e3, e4⟩ => by cases e3; subst e1 e2; exact ⟨L, e4, e0, rfl, rfl, rfl⟩)
/-- what a call leaves: the base is told anew -/
def own_K (p : Program) (l : Launch) (e : Env) (R : Room) (s : State) (m : MethodId) (args : Array Value) (below : List Frame) (meth : Method) (c : Code) (own : String) (Z : State) (locs : List Loc) (Q : own_Post) (kc kn ck sk : Nat) (Qc : own_Post) (F : Option Value → JFrame) : Prop :=
  ∀ (v : Option Value) (T' : State) (L : List Loc) (s' : State), Stand p l e R s' m args below meth c T' (locs ++ L) ck sk → Z.Warmed39 s'.vm → s'.vm.findClass own = some m.cls → own_IB s.vm s'.vm Qc.2 → s'.vm = T'.vm → s'.heap = s.heap → s.Warmed39 s'.vm → Qc.1 v T'.heap L T'.vm → own_Ends p e below s' Q kc kn (T'.setTop (F v))
theorem own_come {own : String} {T' : State} {ck sk : Nat} {Qc : own_Post} {F : Option Value → JFrame} {L : List Loc} {v : Option Value} {vm1 : Vm} {S : State} (k : own_K p l e R s m args below meth c own Z locs Q kc kn ck sk Qc F) (hZ : Z.Warmed39 s.vm) (hown : s.vm.findClass own = some m.cls)
    (hW : s.WarmedH vm1) (X' : Stand p l e R (s.setVm T'.vm) m args below meth c T' (locs ++ L) ck sk) (hS : s.Since T'.vm T'.heap.size) (hI : own_IB vm1 T'.vm Qc.2) (hsub : ∀ x ∈ Qc.2, x ∈ Q.2) (hQ : Qc.1 v T'.heap L T'.vm) (st : ∀ t, Steps p.tables e below (T'.setTop (F v)) t → Steps p.tables e below S t) : own_Ends p e below s Q kc kn S := by
  have hI' : own_IB s.vm T'.vm Qc.2 := (own_IB.same (tx := []) ((hW.since 0).same_table (Nat.zero_le _))).trans (fun _ h => by cases h) hI
  refine own_pre st (own_reb hS (Nat.le_refl _) hI' hsub ?_)
  exact k v T' L (s.setVm T'.vm) X' (State.Warmed39.trans hZ hS.1) ((hS.1.alike.findClass _ _).trans hown) hI' rfl rfl hS.1 hQ
theorem own_callS (X : Stand p l e R s m args below meth c T locs cells slots) (hx : p.tables.exec = Jvm.exec) (hZ : Z.Warmed39 s.vm) {own : String} {index : Nat} {y : MethodName} {bytes : ByteArray} {maxL : Nat} {ret : Option FieldType} {rm : Room} {Qc : own_Post} {PV : Vm → Prop}
    (hown : s.vm.findClass own = some m.cls) (w1 : (Cond.methodLink own index y).before a0 Z = true) (w2 : (Cond.static y).before a0 Z = true) (w3 : (Cond.initialized y.cls).before a0 Z = true) (w4 : (Cond.code y bytes maxL ret).before a0 Z = true)
    (hy : y.cls ≠ "java/lang/invoke/MethodHandle" ∧ y.cls ≠ "java/lang/invoke/VarHandle") (eT : T.heap = h) {argsL rest st0 : List Value} (hM : own_MetW l Z y bytes maxL ret [] rm argsL.toArray h PV Qc) {W pc : Nat} {Ls : Array Slot}
    (hsz : Ls.size = c.maxLocals) (hlen : ∀ sig, parseMethodDescriptor y.desc = some sig → argsL.length = sig.parameters.length) (hst : st0 = argsL.reverse ++ rest) (hW : (rest.map fun v => v.category).sum ≤ W) (hd : decode c.code pc = .ok (.invokestatic index, 3))
    (hf : rm.frames + 1 ≤ R.frames) (hl : W + (maxL + 11) + rm.locals ≤ R.locals) (hc : cells + rm.cells ≤ R.cells) (hs : slots + rm.slots ≤ R.slots)
    (k : own_K p l e R s m args below meth c own Z locs Q kc kn (cells + rm.cells) (slots + rm.slots) Qc (fun v => mkF m (pc + 3) Ls (v.toList ++ rest)))
    (hv : ∀ vm, s.WarmedH vm → PV vm := by exact fun _ _ => trivial) (hsub : ∀ x ∈ Qc.2, x ∈ Q.2 := by simp) :
    own_Ends p e below s Q kc kn (T.setTop (mkF m pc Ls st0)) := by
  obtain ⟨v, vm1, ⟨T', L', k', n'⟩, hW1, X', hS, hgr, ⟨Lc, hQ, hI, l1, y1, z1⟩, st⟩ := callSS X hx (y := y) hown (mvT hZ w1) (mvT hZ w2) (mvT hZ w3) (mvT hZ w4) hy (own_backW (W := W) hM hZ w4 w3 hf hl hv) (g := mkF m pc Ls st0) rfl hsz (argsL := argsL) (rest := rest) hlen hst (by show 2 * 0 + _ ≤ _; simpa using hW) hd (fun _ _ => ⟨rfl, eT, hc, hs⟩)
  dsimp only [Pt.U, Pt.locs, Pt.cells, Pt.slots] at X' l1 y1 z1 st hQ hI hS
  subst l1 y1 z1
  exact own_come k hZ hown hW1 X' hS hI hsub hQ (fun t kk => st.trans kk)
theorem own_mvN {Z s : State} {a0 args : Array Value} {own host : String} {y : MethodName} {index : Nat} (hZ : Z.Warmed39 s.vm) (w : (Cond.methodLinkNest own index y host).before a0 Z = true) : (Cond.methodLinkNest own index y host).before args s = true := (Cond.methodLinkNest_wide hZ w :)
theorem own_callN (X : Stand p l e R s m args below meth c T locs cells slots) (hx : p.tables.exec = Jvm.exec) (hZ : Z.Warmed39 s.vm) {own host : String} {index : Nat} {y : MethodName} {bytes : ByteArray} {maxL : Nat} {ret : Option FieldType} {rm : Room} {Qc : own_Post} {PV : Vm → Prop}
    (hown : s.vm.findClass own = some m.cls) (w1 : (Cond.methodLinkNest own index y host).before a0 Z = true) (w2 : (Cond.static y).before a0 Z = true) (w3 : (Cond.initialized y.cls).before a0 Z = true) (w4 : (Cond.code y bytes maxL ret).before a0 Z = true)
    (hy : y.cls ≠ "java/lang/invoke/MethodHandle" ∧ y.cls ≠ "java/lang/invoke/VarHandle") (eT : T.heap = h) {argsL rest st0 : List Value} (hM : own_MetW l Z y bytes maxL ret [] rm argsL.toArray h PV Qc) {W pc : Nat} {Ls : Array Slot}
    (hsz : Ls.size = c.maxLocals) (hlen : ∀ sig, parseMethodDescriptor y.desc = some sig → argsL.length = sig.parameters.length) (hst : st0 = argsL.reverse ++ rest) (hW : (rest.map fun v => v.category).sum ≤ W) (hd : decode c.code pc = .ok (.invokestatic index, 3))
    (hf : rm.frames + 1 ≤ R.frames) (hl : W + (maxL + 11) + rm.locals ≤ R.locals) (hc : cells + rm.cells ≤ R.cells) (hs : slots + rm.slots ≤ R.slots)
    (k : own_K p l e R s m args below meth c own Z locs Q kc kn (cells + rm.cells) (slots + rm.slots) Qc (fun v => mkF m (pc + 3) Ls (v.toList ++ rest)))
    (hv : ∀ vm, s.WarmedH vm → PV vm := by exact fun _ _ => trivial) (hsub : ∀ x ∈ Qc.2, x ∈ Q.2 := by simp) :
    own_Ends p e below s Q kc kn (T.setTop (mkF m pc Ls st0)) := by
  obtain ⟨v, vm1, ⟨T', L', k', n'⟩, hW1, X', hS, hgr, ⟨Lc, hQ, hI, l1, y1, z1⟩, st⟩ := callSNS X hx (y := y) hown (own_mvN hZ w1) (mvT hZ w2) (mvT hZ w3) (mvT hZ w4) hy (own_backW (W := W) hM hZ w4 w3 hf hl hv) (g := mkF m pc Ls st0) rfl hsz (argsL := argsL) (rest := rest) hlen hst (by show 2 * 0 + _ ≤ _; simpa using hW) hd (fun _ _ => ⟨rfl, eT, hc, hs⟩)
  dsimp only [Pt.U, Pt.locs, Pt.cells, Pt.slots] at X' l1 y1 z1 st hQ hI hS
  subst l1 y1 z1
  exact own_come k hZ hown hW1 X' hS hI hsub hQ (fun t kk => st.trans kk)
theorem own_callI (X : Stand p l e R s m args below meth c T locs cells slots) (hx : p.tables.exec = Jvm.exec) (hZ : Z.Warmed39 s.vm) {own : String} {index : Nat} {y : MethodName} {bytes : ByteArray} {maxL : Nat} {rm : Room} {Qc : own_Post} {PV : Vm → Prop} {b : Addr}
    (hown : s.vm.findClass own = some m.cls) (hy1 : y.name = "<init>") (w1 : (Cond.methodLink own index y).before a0 Z = true) (w2 : (Cond.instanceMethod y).before a0 Z = true) (w4 : (Cond.code y bytes maxL none).before a0 Z = true) (w3 : (Cond.initialized y.cls).before a0 Z = true)
    (hy : y.cls ≠ "java/lang/invoke/MethodHandle" ∧ y.cls ≠ "java/lang/invoke/VarHandle") (eT : T.heap = h) {argsL rest st0 : List Value} (hM : own_MetW l Z y bytes maxL none [] rm (.ref b :: argsL).toArray h PV Qc) {W pc : Nat} {Ls : Array Slot}
    (hsz : Ls.size = c.maxLocals) (hlen : ∀ sig, parseMethodDescriptor y.desc = some sig → argsL.length = sig.parameters.length) (hst : st0 = argsL.reverse ++ .ref b :: rest) (hW : (rest.map fun v => v.category).sum ≤ W) (hd : decode c.code pc = .ok (.invokespecial index, 3))
    (hf : rm.frames + 1 ≤ R.frames) (hl : W + (maxL + 11) + rm.locals ≤ R.locals) (hc : cells + rm.cells ≤ R.cells) (hs : slots + rm.slots ≤ R.slots)
    (k : own_K p l e R s m args below meth c own Z locs Q kc kn (cells + rm.cells) (slots + rm.slots) Qc (fun v => mkF m (pc + 3) Ls (v.toList ++ rest)))
    (hv : ∀ vm, s.WarmedH vm → PV vm := by exact fun _ _ => trivial) (hsub : ∀ x ∈ Qc.2, x ∈ Q.2 := by simp) :
    own_Ends p e below s Q kc kn (T.setTop (mkF m pc Ls st0)) := by
  obtain ⟨v, vm1, ⟨T', L', k', n'⟩, hW1, X', hS, hgr, ⟨Lc, hQ, hI, l1, y1, z1⟩, st⟩ := X.specialBackS hx (y := y) hy1 hown (mvT hZ w1) (mvT hZ w2) (mvT hZ w4) hy (own_backW (W := W) hM hZ w4 w3 hf hl hv) (g := mkF m pc Ls st0) rfl hsz (Steps.refl _) (a := b) (argsL := argsL) (rest := rest) hlen hst (by show 2 * 0 + _ ≤ _; simpa using hW) hd (fun _ _ => ⟨rfl, eT, hc, hs⟩)
  dsimp only [Pt.U, Pt.locs, Pt.cells, Pt.slots] at X' l1 y1 z1 st hQ hI hS
  subst l1 y1 z1
  exact own_come k hZ hown hW1 X' hS hI hsub hQ (fun t kk => st.trans kk)
theorem own_callV (X : Stand p l e R s m args below meth c T locs cells slots) (hx : p.tables.exec = Jvm.exec) (hZ : Z.Warmed39 s.vm) {own C : String} {index : Nat} {y : MethodName} {bytes : ByteArray} {maxL : Nat} {ret : Option FieldType} {rm : Room} {Qc : own_Post} {PV : Vm → Prop} {b : Addr}
    (hown : s.vm.findClass own = some m.cls) (w1 : (Cond.methodLink own index y).before a0 Z = true) (w2 : (Cond.declares y).before a0 Z = true) (w3 : (Cond.selects C y y).before a0 Z = true) (w4 : (Cond.instanceMethod y).before a0 Z = true) (w5 : (Cond.code y bytes maxL ret).before a0 Z = true) (w6 : (Cond.initialized y.cls).before a0 Z = true)
    (hy : y.cls ≠ "java/lang/invoke/MethodHandle" ∧ y.cls ≠ "java/lang/invoke/VarHandle") (eT : T.heap = h) (E : Exa Z h b C) {argsL rest st0 : List Value} (hM : own_MetW l Z y bytes maxL ret [] rm (.ref b :: argsL).toArray h PV Qc) {W pc : Nat} {Ls : Array Slot}
    (hsz : Ls.size = c.maxLocals) (hlen : ∀ sig, parseMethodDescriptor y.desc = some sig → argsL.length = sig.parameters.length) (hst : st0 = argsL.reverse ++ .ref b :: rest) (hW : (rest.map fun v => v.category).sum ≤ W) (hd : decode c.code pc = .ok (.invokevirtual index, 3))
    (hf : rm.frames + 1 ≤ R.frames) (hl : W + (maxL + 11) + rm.locals ≤ R.locals) (hc : cells + rm.cells ≤ R.cells) (hs : slots + rm.slots ≤ R.slots)
    (k : own_K p l e R s m args below meth c own Z locs Q kc kn (cells + rm.cells) (slots + rm.slots) Qc (fun v => mkF m (pc + 3) Ls (v.toList ++ rest)))
    (hv : ∀ vm, s.WarmedH vm → PV vm := by exact fun _ _ => trivial) (hsub : ∀ x ∈ Qc.2, x ∈ Q.2 := by simp) :
    own_Ends p e below s Q kc kn (T.setTop (mkF m pc Ls st0)) := by
  obtain ⟨cq, kq, qa, qb, qc⟩ := isOf hZ eT E
  obtain ⟨v, vm1, ⟨T', L', k', n'⟩, hW1, X', hS, hgr, ⟨Lc, hQ, hI, l1, y1, z1⟩, st⟩ := X.virtualBackS hx (y := y) (z := y) hown (mvT hZ w1) (mvT hZ w2) (notFace_of_selects (args := #[]) (mvT hZ w3)) (mvT hZ w3) (mvT hZ w4) hy (own_backW (W := W) hM hZ w5 w6 hf hl hv) qa qc (g := mkF m pc Ls st0) rfl hsz (Steps.refl _) (argsL := argsL) (rest := rest) hlen hst (by show 2 * 0 + _ ≤ _; simpa using hW) hd (fun _ _ => ⟨rfl, eT, hc, hs⟩)
  dsimp only [Pt.U, Pt.locs, Pt.cells, Pt.slots] at X' l1 y1 z1 st hQ hI hS
  subst l1 y1 z1
  exact own_come k hZ hown hW1 X' hS hI hsub hQ (fun t kk => st.trans kk)
theorem own_eqi {t : Term} {k : Int32} {args : Array Value} {s : State} (h : (Jvm.Cond.eq t (Term.int k)).value args s none s [] = some true) : t.eval args s none [] s = some (.int k) := by
  obtain ⟨x, y, h1, h2, -, h3⟩ := cmp_v (Or.inl h)
  have h4 : y = .int k := (Option.some.inj ((Term.int_eval k).symm.trans h2)).symm
  subst h4
  obtain ⟨z, rfl⟩ := h3
  have h5 : (Jvm.Cond.eq t (Term.int k)).value args s none s [] = some (decide (z = k)) := by simp [Cond.value, h1, h2]
  rw [h1, gotT h5 h]
theorem own_fieldOf {t : Term} {C n d : String} {k : Int32} {a : Addr} {args : Array Value} {s : State} (ht : t.eval args s none [] s = some (.ref a)) (h : (Jvm.Cond.eq (Term.field t C n d) (Term.int k)).value args s none s [] = some true) : Fld s s.heap a C n d (.int k) :=
  Fld.start ((fld_at ht).symm.trans (own_eqi h))
theorem own_st1 {Ls Ls' : Array Slot} {k : Nat} {o : Slot} {v : Value} (hold : Ls[k]? = some o) (ho : One o) (hv : v.category = 1) (he : Ls.setIfInBounds k (.val v) = Ls') : storeLocals Ls k v = some Ls' := he ▸ XS.store1 hold ho hv
theorem own_catV {v : Value} (hv : v.isRef = true) : v.category = 1 := by rcases ref_cases hv with rfl | ⟨_, rfl⟩ <;> rfl
theorem own_narV {v : Value} {t : FieldType} (hv : v.isRef = true) (ht : t.isReference = true) : narrow t v = v := by
  rcases ref_cases hv with rfl | ⟨_, rfl⟩ <;> cases t <;> first | rfl | (cases ht; done)
theorem own_narC {x : Int32} (h : 0 ≤ x.toInt ∧ x.toInt ≤ 65535) : nar .char x = x := by
  have q := c_i2c x
  rw [← Int32.toInt_inj]
  show (x.toUInt32.toUInt16.toUInt32.toInt32).toInt = x.toInt
  omega
theorem own_narZ {x : Int32} (h : x = 0 ∨ x = 1) : narrow .boolean (.int x) = .int x := by rcases h with rfl | rfl <;> rfl
def own_plain (h : Heap) (x : Addr) : Prop := ∃ c : Cell, h[x]? = some c ∧ c.vm.isStatics = false
theorem own_plainE {a : Addr} {C : String} (F : Exa Z h a C) : own_plain h a := by obtain ⟨c, k, h1, -, -, h4, -⟩ := F; exact ⟨c, h1, h4⟩
theorem own_sta_keep {h' : Heap} {ws : List Addr} {C n d : String} {v : Value} (F : Sta Z h C n d v) (K : Keep h h' ws) (q : ∀ x ∈ ws, own_plain h x) : Sta Z h' C n d v := by
  obtain ⟨cf, i, k, f, st, cell, h1, h2, h3, h4, h5, h6, h7⟩ := F
  refine ⟨cf, i, k, f, st, cell, h1, h2, h3, h4, K.2.1 _ _ h5 fun y => ?_, h6, h7⟩
  obtain ⟨c, z1, z2⟩ := q _ y
  cases h5.symm.trans z1
  rw [z2] at h6; cases h6
theorem own_ldcX (X : Stand p l e R s m args below meth c T locs cells slots) (hx : p.tables.exec = Jvm.exec) (hZ : Z.Warmed39 s.vm) {own text : String} {index : Nat} (hown : s.vm.findClass own = some m.cls) (w : (Cond.stringLink own index text).before a0 Z = true) (wS : ∀ a ∈ Bundle.stringAtoms, a.before a0 Z = true)
    (eT : T.heap = h) {pc : Nat} {Ls : Array Slot} {rest : List Value} (hd : decode c.code pc = .ok (.ldc index, 2)) {n : Nat} (hn : 4 * text.toList.length ≤ n) (hbig : n ≤ 536870912) (hc : cells + 2 ≤ R.cells) (hl : slots + (n + 4) ≤ R.slots)
    (k : ∀ (a : Addr) (T' : State) (h' : Heap) (s' : State), Stand p l e R s' m args below meth c T' locs (cells + 2) (slots + (n + 4)) → Z.Warmed39 s'.vm → s'.vm.findClass own = some m.cls → T'.heap = h' → Ext h h' → s'.heap = s.heap → own_Ends p e below s' Q kc kn (T'.setTop (mkF m (pc + 2) Ls (.ref a :: rest)))) :
    own_Ends p e below s Q kc kn (T.setTop (mkF m pc Ls rest)) := by
  obtain ⟨a, T', h', k1, X', e', E', hS, hk1, hZ', hown', st⟩ := ldcS (s := s) (vm0 := s.vm) X hx hZ hown w wS eT (k0 := 0) ((State.WarmedH.refl s).since 0) (Nat.zero_le _) (g := mkF m pc Ls rest) rfl hd hn hbig hc hl
  subst e'
  refine own_pre st (own_reb hS hk1 (ty := []) trivial (fun _ h => by cases h) ?_)
  exact k a T' _ (s.setVm T'.vm) X' hZ' hown' rfl E' rfl
end Own
abbrev own_F (T : State) (m : MethodId) (pc : Nat) (Ls : Array Slot) (st : List Value) : State := T.setTop (mkF m pc Ls st)
theorem own_g {p : Program} {e : Env} {s : State} {below : List Frame} {Q : own_Post} {kc kn : Nat} {S : State} (S' : State) (st : ∀ t, Steps p.tables e below S' t → Steps p.tables e below S t) (k : own_Ends p e below s Q kc kn S') : own_Ends p e below s Q kc kn S := own_pre st k
theorem own_w {a0 : Array Value} {Z : State} (hw : ∀ d ∈ tables_1, d.before a0 Z = true) (i : Nat) {d : Jvm.Cond} (h : tables_1[i]? = some d := by rfl) : d.before a0 Z = true := hw _ (List.mem_of_getElem? h)
section OwnArr
variable {p : Program} {l : Launch} {e : Env} {R : Room} {s : State} {m : MethodId} {args : Array Value} {below : List Frame} {meth : Method} {c : Code} {T : State} {locs : List Loc} {cells slots : Nat} {Z : State} {a0 : Array Value} {h h' : Heap} {Q : own_Post} {kc kn : Nat} {a b : Addr} {ty : FieldType} {n : Nat} {f : Nat → Value}
/-- in h there lies at a an array of n components of the kind ty, the i-th is f i -/
def own_A (Z : State) (h : Heap) (a : Addr) (ty : FieldType) (n : Nat) (f : Nat → Value) : Prop := n < 2 ^ 31 ∧ ∃ cl : Cell, Arr Z h a cl ty ∧ cl.slots.size = n ∧ ∀ i, i < n → cl.slots[i]? = some (f i)
theorem own_A.lt (F : own_A Z h a ty n f) : a < h.size := by obtain ⟨_, c, A, -⟩ := F; exact A.lt
theorem own_A.ext (F : own_A Z h a ty n f) (E : Ext h h') : own_A Z h' a ty n f := by obtain ⟨q, c, A, r⟩ := F; exact ⟨q, c, A.ext E, r⟩
theorem own_A.other {sl : Nat} {v : Value} (F : own_A Z h b ty n f) (W : Wr h h' a sl v) (q : b ≠ a) : own_A Z h' b ty n f := by obtain ⟨r0, c, A, r⟩ := F; exact ⟨r0, c, A.other W q, r⟩
theorem own_A.keep {ws : List Addr} (F : own_A Z h a ty n f) (K : Keep h h' ws) (q : a ∉ ws) : own_A Z h' a ty n f := by obtain ⟨r0, c, A, r⟩ := F; exact ⟨r0, c, ⟨K.2.1 a c A.1 q, A.2⟩, r⟩
theorem own_A.congr {g : Nat → Value} (F : own_A Z h a ty n f) (q : ∀ i, i < n → f i = g i) : own_A Z h a ty n g := by obtain ⟨r0, c, A, r1, r2⟩ := F; exact ⟨r0, c, A, r1, fun i hi => by rw [r2 i hi, q i hi]⟩
theorem own_clamp {j : Int32} {i : Nat} (hj : j.toInt = (i : Int)) : ¬ j < 0 ∧ j.toNatClampNeg = i := by
  refine ⟨fun q => ?_, ?_⟩
  · rw [Int32.lt_iff_toInt_lt, hj, Int32.toInt_zero] at q; omega
  · show j.toInt.toNat = i
    rw [hj]; exact Int.toNat_natCast i
theorem own_in {j : Int32} {i : Nat} {cl : Cell} (hj : j.toInt = (i : Int)) (hi : i < cl.slots.size) : ¬ (j < 0 ∨ cl.slots.size ≤ j.toNatClampNeg) := by
  obtain ⟨q1, q2⟩ := own_clamp hj
  rw [q2]
  intro q
  rcases q with q | q
  · exact q1 q
  · omega
theorem own_alen (X : Stand p l e R s m args below meth c T locs cells slots) (hx : p.tables.exec = Jvm.exec) (hZ : Z.Warmed39 s.vm) (eT : T.heap = h) (A : own_A Z h a ty n f) {pc : Nat} {Ls : Array Slot} {rest : List Value} (hd : decode c.code pc = .ok (.arraylength, 1))
    (k : own_Ends p e below s Q kc kn (T.setTop (mkF m (pc + 1) Ls (.int n.toInt32 :: rest)))) : own_Ends p e below s Q kc kn (T.setTop (mkF m pc Ls (.ref a :: rest))) := by
  obtain ⟨-, cl, Ar, rfl, -⟩ := A
  exact own_pre (X.arraylength hx (by rw [eT]; exact Ar.1) (State.isArrayOf_alike hZ.alike Ar.2.1) (g := mkF m pc Ls (.ref a :: rest)) rfl rfl hd) k
theorem own_iald (X : Stand p l e R s m args below meth c T locs cells slots) (hx : p.tables.exec = Jvm.exec) (hZ : Z.Warmed39 s.vm) (eT : T.heap = h) {g : Nat → Int32} (A : own_A Z h a .int n (fun i => .int (g i))) {pc : Nat} {Ls : Array Slot} {rest : List Value} {j : Int32} (i : Nat) (hj : j.toInt = (i : Int)) (hi : i < n) (hd : decode c.code pc = .ok (.iaload, 1))
    (k : own_Ends p e below s Q kc kn (T.setTop (mkF m (pc + 1) Ls (.int (g i) :: rest)))) : own_Ends p e below s Q kc kn (T.setTop (mkF m pc Ls (.int j :: .ref a :: rest))) := by
  obtain ⟨-, cl, Ar, rfl, hv⟩ := A
  exact own_pre (X.iaload hx (j := j) (v := .int (g i)) (by rw [eT]; exact Ar.1) (State.isArrayOf_alike hZ.alike Ar.2.1) Ar.2.2 (own_in hj hi) (by rw [(own_clamp hj).2]; exact hv i hi) (g := mkF m pc Ls (.int j :: .ref a :: rest)) rfl rfl hd) k
theorem own_cald (X : Stand p l e R s m args below meth c T locs cells slots) (hx : p.tables.exec = Jvm.exec) (hZ : Z.Warmed39 s.vm) (eT : T.heap = h) {g : Nat → Int32} (A : own_A Z h a .char n (fun i => .int (g i))) {pc : Nat} {Ls : Array Slot} {rest : List Value} {j : Int32} (i : Nat) (hj : j.toInt = (i : Int)) (hi : i < n) (hd : decode c.code pc = .ok (.caload, 1))
    (k : own_Ends p e below s Q kc kn (T.setTop (mkF m (pc + 1) Ls (.int (g i) :: rest)))) : own_Ends p e below s Q kc kn (T.setTop (mkF m pc Ls (.int j :: .ref a :: rest))) := by
  obtain ⟨-, cl, Ar, rfl, hv⟩ := A
  exact own_pre (X.caload hx (j := j) (v := .int (g i)) (by rw [eT]; exact Ar.1) (State.isArrayOf_alike hZ.alike Ar.2.1) Ar.2.2 (own_in hj hi) (by rw [(own_clamp hj).2]; exact hv i hi) (g := mkF m pc Ls (.int j :: .ref a :: rest)) rfl rfl hd) k
theorem own_bald (X : Stand p l e R s m args below meth c T locs cells slots) (hx : p.tables.exec = Jvm.exec) (hZ : Z.Warmed39 s.vm) (eT : T.heap = h) {g : Nat → Int32} (A : own_A Z h a .byte n (fun i => .int (g i))) {pc : Nat} {Ls : Array Slot} {rest : List Value} {j : Int32} (i : Nat) (hj : j.toInt = (i : Int)) (hi : i < n) (hd : decode c.code pc = .ok (.baload, 1))
    (k : own_Ends p e below s Q kc kn (T.setTop (mkF m (pc + 1) Ls (.int (g i) :: rest)))) : own_Ends p e below s Q kc kn (T.setTop (mkF m pc Ls (.int j :: .ref a :: rest))) := by
  obtain ⟨-, cl, Ar, rfl, hv⟩ := A
  exact own_pre (X.baloadBytes hx (j := j) (v := .int (g i)) (by rw [eT]; exact Ar.1) (State.isArrayOf_alike hZ.alike Ar.2.1) Ar.2.2 (own_in hj hi) (by rw [(own_clamp hj).2]; exact hv i hi) (g := mkF m pc Ls (.int j :: .ref a :: rest)) rfl rfl hd) k
theorem own_lald (X : Stand p l e R s m args below meth c T locs cells slots) (hx : p.tables.exec = Jvm.exec) (hZ : Z.Warmed39 s.vm) (eT : T.heap = h) {g : Nat → Int64} (A : own_A Z h a .long n (fun i => .long (g i))) {pc : Nat} {Ls : Array Slot} {rest : List Value} {j : Int32} (i : Nat) (hj : j.toInt = (i : Int)) (hi : i < n) (hd : decode c.code pc = .ok (.laload, 1))
    (k : own_Ends p e below s Q kc kn (T.setTop (mkF m (pc + 1) Ls (.long (g i) :: rest)))) : own_Ends p e below s Q kc kn (T.setTop (mkF m pc Ls (.int j :: .ref a :: rest))) := by
  obtain ⟨-, cl, Ar, rfl, hv⟩ := A
  exact own_pre (X.laload hx (j := j) (v := .long (g i)) (by rw [eT]; exact Ar.1) (State.isArrayOf_alike hZ.alike Ar.2.1) Ar.2.2 (own_in hj hi) (by rw [(own_clamp hj).2]; exact hv i hi) (g := mkF m pc Ls (.int j :: .ref a :: rest)) rfl rfl hd) k
theorem own_aald (X : Stand p l e R s m args below meth c T locs cells slots) (hx : p.tables.exec = Jvm.exec) (hZ : Z.Warmed39 s.vm) (eT : T.heap = h) (hty : ty.isReference = true) (A : own_A Z h a ty n f) {pc : Nat} {Ls : Array Slot} {rest : List Value} {j : Int32} (i : Nat) (hj : j.toInt = (i : Int)) (hi : i < n) (hd : decode c.code pc = .ok (.aaload, 1))
    (k : own_Ends p e below s Q kc kn (T.setTop (mkF m (pc + 1) Ls (f i :: rest)))) : own_Ends p e below s Q kc kn (T.setTop (mkF m pc Ls (.int j :: .ref a :: rest))) := by
  obtain ⟨-, cl, Ar, rfl, hv⟩ := A
  exact own_pre (X.aaload hx (j := j) (v := f i) (by rw [eT]; exact Ar.1) (State.isArrayOf_alike hZ.alike Ar.2.1) hty Ar.2.2 (own_in hj hi) (by rw [(own_clamp hj).2]; exact hv i hi) (g := mkF m pc Ls (.int j :: .ref a :: rest)) rfl rfl hd) k
/-- the array behind a store -/
theorem own_A.set {cl : Cell} {i : Nat} {v : Value} (q : n < 2 ^ 31) (Ar : Arr Z h a cl ty) (hn : cl.slots.size = n) (hv : ∀ i, i < n → cl.slots[i]? = some (f i)) (W : Wr h h' a i v) (hi : i < n) : own_A Z h' a ty n (fun k => if k = i then v else f k) := by
  refine ⟨q, _, Ar.same W, by rw [sz_set, hn], fun k hk => ?_⟩
  by_cases e : k = i
  · subst e; simp [Cell.setSlot, hn, hk]
  · have := hv k hk
    simp only [e, if_false]
    rw [← this]
    exact Array.getElem?_setIfInBounds_ne (Ne.symm e)
theorem own_iast (X : Stand p l e R s m args below meth c T locs cells slots) (hx : p.tables.exec = Jvm.exec) (hZ : Z.Warmed39 s.vm) (eT : T.heap = h) {g : Nat → Int32} (A : own_A Z h a .int n (fun i => .int (g i))) {pc : Nat} {Ls : Array Slot} {rest : List Value} {j x : Int32} (i : Nat) (hj : j.toInt = (i : Int)) (hi : i < n) (hd : decode c.code pc = .ok (.iastore, 1))
    (k : ∀ T' h', Stand p l e R s m args below meth c T' (locs ++ [⟨a, i⟩]) cells slots → T'.heap = h' → Wr h h' a i (.int x) → own_A Z h' a .int n (fun k => .int (if k = i then x else g k)) → own_Ends p e below s Q kc kn (T'.setTop (mkF m (pc + 1) Ls rest))) :
    own_Ends p e below s Q kc kn (T.setTop (mkF m pc Ls (.int x :: .int j :: .ref a :: rest))) := by
  obtain ⟨q, cl, Ar, hn, hv⟩ := A
  obtain ⟨T', h', X', e', W, st⟩ := stI X hx hZ eT Ar (j := j) (x := x) (own_in hj (by rw [hn]; exact hi)) (g := mkF m pc Ls (.int x :: .int j :: .ref a :: rest)) rfl rfl hd
  rw [(own_clamp hj).2] at X' W
  exact own_pre st (k T' h' X' e' W ((own_A.set q Ar hn hv W hi).congr fun k _ => by by_cases z : k = i <;> simp [z]))
theorem own_last (X : Stand p l e R s m args below meth c T locs cells slots) (hx : p.tables.exec = Jvm.exec) (hZ : Z.Warmed39 s.vm) (eT : T.heap = h) {g : Nat → Int64} (A : own_A Z h a .long n (fun i => .long (g i))) {pc : Nat} {Ls : Array Slot} {rest : List Value} {j : Int32} {x : Int64} (i : Nat) (hj : j.toInt = (i : Int)) (hi : i < n) (hd : decode c.code pc = .ok (.lastore, 1))
    (k : ∀ T' h', Stand p l e R s m args below meth c T' (locs ++ [⟨a, i⟩]) cells slots → T'.heap = h' → Wr h h' a i (.long x) → own_A Z h' a .long n (fun k => .long (if k = i then x else g k)) → own_Ends p e below s Q kc kn (T'.setTop (mkF m (pc + 1) Ls rest))) :
    own_Ends p e below s Q kc kn (T.setTop (mkF m pc Ls (.long x :: .int j :: .ref a :: rest))) := by
  obtain ⟨q, cl, Ar, hn, hv⟩ := A
  obtain ⟨T', h', X', e', W, st⟩ := stJ X hx hZ eT Ar (j := j) (x := x) (own_in hj (by rw [hn]; exact hi)) (g := mkF m pc Ls (.long x :: .int j :: .ref a :: rest)) rfl rfl hd
  rw [(own_clamp hj).2] at X' W
  exact own_pre st (k T' h' X' e' W ((own_A.set q Ar hn hv W hi).congr fun k _ => by by_cases z : k = i <;> simp [z]))
theorem own_cast (X : Stand p l e R s m args below meth c T locs cells slots) (hx : p.tables.exec = Jvm.exec) (hZ : Z.Warmed39 s.vm) (eT : T.heap = h) {g : Nat → Int32} (A : own_A Z h a .char n (fun i => .int (g i))) {pc : Nat} {Ls : Array Slot} {rest : List Value} {j x : Int32} (i : Nat) (hj : j.toInt = (i : Int)) (hi : i < n) (x' : Int32) (hx' : nar .char x = x') (hd : decode c.code pc = .ok (.castore, 1))
    (k : ∀ T' h', Stand p l e R s m args below meth c T' (locs ++ [⟨a, i⟩]) cells slots → T'.heap = h' → Wr h h' a i (.int x') → own_A Z h' a .char n (fun k => .int (if k = i then x' else g k)) → own_Ends p e below s Q kc kn (T'.setTop (mkF m (pc + 1) Ls rest))) :
    own_Ends p e below s Q kc kn (T.setTop (mkF m pc Ls (.int x :: .int j :: .ref a :: rest))) := by
  subst hx'
  obtain ⟨q, cl, Ar, hn, hv⟩ := A
  obtain ⟨T', h', X', e', W, st⟩ := stC X hx hZ eT Ar (j := j) (x := x) (own_in hj (by rw [hn]; exact hi)) (g := mkF m pc Ls (.int x :: .int j :: .ref a :: rest)) rfl rfl hd
  rw [(own_clamp hj).2] at X' W
  exact own_pre st (k T' h' X' e' W ((own_A.set q Ar hn hv W hi).congr fun k _ => by by_cases z : k = i <;> simp [z]))
theorem own_bast (X : Stand p l e R s m args below meth c T locs cells slots) (hx : p.tables.exec = Jvm.exec) (hZ : Z.Warmed39 s.vm) (eT : T.heap = h) {g : Nat → Int32} (A : own_A Z h a .byte n (fun i => .int (g i))) {pc : Nat} {Ls : Array Slot} {rest : List Value} {j x : Int32} (i : Nat) (hj : j.toInt = (i : Int)) (hi : i < n) (x' : Int32) (hx' : nar .byte x = x') (hd : decode c.code pc = .ok (.bastore, 1))
    (k : ∀ T' h', Stand p l e R s m args below meth c T' (locs ++ [⟨a, i⟩]) cells slots → T'.heap = h' → Wr h h' a i (.int x') → own_A Z h' a .byte n (fun k => .int (if k = i then x' else g k)) → own_Ends p e below s Q kc kn (T'.setTop (mkF m (pc + 1) Ls rest))) :
    own_Ends p e below s Q kc kn (T.setTop (mkF m pc Ls (.int x :: .int j :: .ref a :: rest))) := by
  subst hx'
  obtain ⟨q, cl, Ar, hn, hv⟩ := A
  obtain ⟨T', h', X', e', W, st⟩ := stB X hx hZ eT Ar (j := j) (x := x) (own_in hj (by rw [hn]; exact hi)) (g := mkF m pc Ls (.int x :: .int j :: .ref a :: rest)) rfl rfl hd
  rw [(own_clamp hj).2] at X' W
  exact own_pre st (k T' h' X' e' W ((own_A.set q Ar hn hv W hi).congr fun k _ => by by_cases z : k = i <;> simp [z]))
theorem own_newA (X : Stand p l e R s m args below meth c T locs cells slots) (hx : p.tables.exec = Jvm.exec) (hZ : Z.Warmed39 s.vm) {aty : ArrayType} (ty : FieldType) (hty : newarray.typeOf aty = ty) (w : (Cond.arrayClass ty).before a0 Z = true) (eT : T.heap = h) {pc : Nat} {Ls : Array Slot} {rest : List Value} {j : Int32} (hd : decode c.code pc = .ok (.newarray aty, 2))
    (n : Nat) (hj : j.toInt = (n : Int)) (cap : Nat) (hcap : n ≤ cap) (hb : cap * 8 ≤ 536870912) (hc : cells + 1 ≤ R.cells) (hl : slots + cap ≤ R.slots)
    (k : ∀ T' h' (b : Addr), Stand p l e R s m args below meth c T' locs (cells + 1) (slots + cap) → T'.heap = h' → Ext h h' → b = h.size → own_A Z h' b ty n (fun _ => defaultValue ty) → own_Ends p e below s Q kc kn (T'.setTop (mkF m (pc + 2) Ls (.ref b :: rest)))) :
    own_Ends p e below s Q kc kn (T.setTop (mkF m pc Ls (.int j :: rest))) := by
  subst hty
  obtain ⟨q1, q2⟩ := own_clamp hj
  obtain ⟨T', h', cA, X', e', E, A, st⟩ := newP X hx hZ w eT (g := mkF m pc Ls (.int j :: rest)) rfl hd rfl q1 (cap := cap) (by rw [q2]; exact hcap) hb hc hl
  refine own_pre st (k T' h' _ X' e' E rfl ⟨by omega, _, A, by rw [sz_new, q2], fun i hi => ?_⟩)
  simp [newA, q2, hi]
theorem own_lenS {t : Term} {k : Int32} {args : Array Value} {s : State} {cl : Cell} (ht : t.eval args s none [] s = some (.ref a)) (A : Arr s s.heap a cl ty) (h : (Jvm.Cond.eq (Term.length t) (Term.int k)).value args s none s [] = some true) : cl.slots.size.toInt32 = k ∧ cl.slots.size < 2 ^ 31 := by
  have h1 := own_eqi h
  have h2 : s.arrayAt? a = some cl := Arr.fin (Vm.Alike.refl _) A
  by_cases q : cl.slots.size < 2 ^ 31
  · rw [len_f ht h2 q] at h1
    exact ⟨Value.int.inj (Option.some.inj h1), q⟩
  · simp [Term.eval, ht, h2, q] at h1
theorem own_plainA (F : own_A Z h a ty n f) : own_plain h a := by obtain ⟨_, c, A, -⟩ := F; exact ⟨c, A.1, A.plain⟩
theorem own_sz {k : Int32} (h : n.toInt32 = k) (q : n < 2 ^ 31) : (n : Int) = k.toInt := by rw [← h, len_toInt q]
theorem own_sz0 (h : n.toInt32 = 0) (q : n < 2 ^ 31) : n = 0 := by
  have := own_sz h q
  rw [Int32.toInt_zero] at this; omega
end OwnArr
section OwnCp
variable {p : Program} {l : Launch} {e : Env} {R : Room} {s : State} {m : MethodId} {args : Array Value} {below : List Frame} {meth : Method} {c : Code} {T : State} {locs : List Loc} {cells slots : Nat} {Z : State} {a0 : Array Value} {h h' : Heap} {Q : own_Post} {kc kn : Nat} {a b : Addr} {ty : FieldType} {n n' : Nat} {f f' : Nat → Value}
theorem own_rgetD (f : Nat → Value) (d : Value) {n i : Nat} (hi : i < n) : ((List.range n).map f).getD i d = f i := by simp [List.getD_eq_getElem?_getD, hi]
theorem own_toArv (F : own_A Z h a ty n f) (hf : ∀ i, fits ty (f i) = true) (d : Value) : ∃ k, Arv Z h a k ty n.toInt32 ((List.range n).map f) d := by
  obtain ⟨q, cl, A, S, V⟩ := F
  have e := own_clamp (len_toInt q)
  refine ⟨cl.cls, cl, A, rfl, by rw [S, e.2], e.1, fun i hi => ?_, fun i hi => ?_⟩
  · rw [S] at hi; rw [own_rgetD f d hi]; exact V i hi
  · rw [S] at hi; rw [own_rgetD f d hi]; exact hf i
theorem own_ofArv {k : ClassId} {z : Int32} {vs : List Value} {d : Value} (F : Arv Z h a k ty z vs d) (hz : z.toNatClampNeg = n) (hn : n < 2 ^ 31) : own_A Z h a ty n (fun i => vs.getD i d) := by
  obtain ⟨c, A, -, S, -, H, -⟩ := F
  exact ⟨hn, c, A, by rw [S, hz], fun i hi => H i (by rw [S, hz]; exact hi)⟩
theorem own_cp (X : Stand p l e R s m args below meth c T locs cells slots) (hx : p.tables.exec = Jvm.exec) (hZ : Z.Warmed39 s.vm) {own : String} {index : Nat} (hown : s.vm.findClass own = some m.cls)
    (w1 : (Cond.methodLink own index Jvm.Stand.acN).before a0 Z = true) (w2 : (Cond.native Jvm.Stand.acN).before a0 Z = true) (w3 : (Cond.static Jvm.Stand.acN).before a0 Z = true) (w4 : (Cond.initialized "java/lang/System").before a0 Z = true) (eT : T.heap = h)
    (A : own_A Z h a ty n f) (B : own_A Z h b ty n' f') (hfA : ∀ i, fits ty (f i) = true) (hfB : ∀ i, fits ty (f' i) = true) (hp : refKind ty = false) {nn : Int32} (k : Nat) (hk : nn.toInt = (k : Int)) (hkn : k ≤ n) (hkn' : k ≤ n') {n0 : Nat} (N : Fr n0 locs) (ge : n0 ≤ b)
    {pc : Nat} {Ls : Array Slot} (hsz : Ls.size = c.maxLocals) {rest : List Value} (hd : decode c.code pc = .ok (.invokestatic index, 3)) (hfr : 1 ≤ R.frames) {W : Nat} (hW : (rest.map fun v => v.category).sum ≤ W) (hlo : W + 18 ≤ R.locals)
    (kk : ∀ T' h' L, Stand p l e R s m args below meth c T' L cells slots → T'.heap = h' → Fr n0 L → Keep h h' [b] → own_A Z h' b ty n' (fun i => if i < k then f i else f' i) → own_Ends p e below s Q kc kn (T'.setTop (mkF m (pc + 3) Ls rest))) :
    own_Ends p e below s Q kc kn (T.setTop (mkF m pc Ls (.int nn :: .int 0 :: .ref b :: .int 0 :: .ref a :: rest))) := by
  obtain ⟨k1, A1⟩ := own_toArv A hfA (.int 0)
  obtain ⟨k2, B1⟩ := own_toArv B hfB (.int 0)
  have e1 := own_clamp (len_toInt A.1)
  have e2 := own_clamp (len_toInt B.1)
  have e3 := own_clamp hk
  have z0 : (0 : Int32).toNatClampNeg = 0 := by decide
  obtain ⟨T', h', L, X', e', N', K, V, st⟩ := cpA X hx hZ hown w1 w2 w3 w4 eT (sp := 0) (dp := 0) (nn := nn) (us := (List.range nn.toNatClampNeg).map fun i => ((List.range n).map f).getD ((0 : Int32).toNatClampNeg + i) (.int 0)) A1 B1 (Or.inl ⟨rfl, hp⟩) (by decide) (by decide) e3.1 (by rw [z0, e1.2, e3.2]; omega) (by rw [z0, e2.2, e3.2]; omega) rfl (by rw [z0, e3.2]; simp; omega) N ge (g := mkF m pc Ls (.int nn :: .int 0 :: .ref b :: .int 0 :: .ref a :: rest)) rfl hsz rfl hd hfr (W := W) (by show 2 * 0 + _ ≤ _; simpa using hW) (by show W + (7 + 11) ≤ _; omega)
  refine own_pre st (kk T' h' L X' e' N' K ((own_ofArv V e2.2 B.1).congr fun i hi => ?_))
  rw [z0, e3.2]
  simp only [List.take_zero, List.nil_append, Nat.zero_add, List.getD_eq_getElem?_getD]
  by_cases q : i < k
  · have q2 : i < n := by omega
    rw [List.getElem?_append_left (by simpa using q)]
    simp [q, q2]
  · rw [List.getElem?_append_right (by simp; omega)]
    have q3 : k + (i - k) = i := by omega
    simp [q, List.getElem?_drop, q3, hi]
theorem own_callP (X : Stand p l e R s m args below meth c T locs cells slots) (hx : p.tables.exec = Jvm.exec) (hZ : Z.Warmed39 s.vm) {own C : String} {index : Nat} {y : MethodName} {bytes : ByteArray} {maxL : Nat} {ret : Option FieldType} {rm : Room} {Qc : own_Post} {PV : Vm → Prop} {b : Addr}
    (hown : s.vm.findClass own = some m.cls) (w1 : (Cond.methodLink own index y).before a0 Z = true) (w2 : (Cond.instanceMethod y).before a0 Z = true) (w3 : (Cond.selects y.cls y y).before a0 Z = true) (w4 : (Cond.privateMethod y).before a0 Z = true) (w5 : (Cond.code y bytes maxL ret).before a0 Z = true) (w6 : (Cond.initialized y.cls).before a0 Z = true)
    (hy : y.cls ≠ "java/lang/invoke/MethodHandle" ∧ y.cls ≠ "java/lang/invoke/VarHandle") (eT : T.heap = h) (E : Exa Z h b C) {argsL rest st0 : List Value} (hM : own_MetW l Z y bytes maxL ret [] rm (.ref b :: argsL).toArray h PV Qc) {W pc : Nat} {Ls : Array Slot}
    (hsz : Ls.size = c.maxLocals) (hlen : ∀ sig, parseMethodDescriptor y.desc = some sig → argsL.length = sig.parameters.length) (hst : st0 = argsL.reverse ++ .ref b :: rest) (hW : (rest.map fun v => v.category).sum ≤ W) (hd : decode c.code pc = .ok (.invokevirtual index, 3))
    (hf : rm.frames + 1 ≤ R.frames) (hl : W + (maxL + 11) + rm.locals ≤ R.locals) (hc : cells + rm.cells ≤ R.cells) (hs : slots + rm.slots ≤ R.slots)
    (k : own_K p l e R s m args below meth c own Z locs Q kc kn (cells + rm.cells) (slots + rm.slots) Qc (fun v => mkF m (pc + 3) Ls (v.toList ++ rest)))
    (hv : ∀ vm, s.WarmedH vm → PV vm := by exact fun _ _ => trivial) (hsub : ∀ x ∈ Qc.2, x ∈ Q.2 := by simp) :
    own_Ends p e below s Q kc kn (T.setTop (mkF m pc Ls st0)) := by
  obtain ⟨cq, q1, q2⟩ := E.cell
  obtain ⟨v, vm1, ⟨T', L', k', n'⟩, hW1, X', hS, hgr, ⟨Lc, hQ, hI, l1, y1, z1⟩, st⟩ := X.privateBackS hx (y := y) hown (mvT hZ w1) (mvT hZ w2) (mvT hZ w3) (Cond.privateMethod_at (mvP hZ w4 (args := #[]))) (mvT hZ w5) hy (own_backW (W := W) hM hZ w5 w6 hf hl hv) (g := mkF m pc Ls st0) rfl hsz (Steps.refl _) (a := b) (by rw [eT]; exact q1) q2 (argsL := argsL) (rest := rest) hlen hst (by show 2 * 0 + _ ≤ _; simpa using hW) hd (fun _ _ => ⟨rfl, eT, hc, hs⟩)
  dsimp only [Pt.U, Pt.locs, Pt.cells, Pt.slots] at X' l1 y1 z1 st hQ hI hS
  subst l1 y1 z1
  exact own_come k hZ hown hW1 X' hS hI hsub hQ (fun t kk => st.trans kk)
theorem own_selp {y y' : MethodName} (hZ : Z.Warmed39 s.vm) (hc : y'.cls = y.cls) (w : (Cond.selects y'.cls y' y').before a0 Z = true) (wi : (Cond.instanceMethod y).before a0 Z = true) (wp : (Cond.privateMethod y).before a0 Z = true) (hy : y.cls ≠ "java/lang/invoke/MethodHandle" ∧ y.cls ≠ "java/lang/invoke/VarHandle") : (Cond.selects y.cls y y).before args s = true := by
  have w' : (Cond.selects y'.cls y' y').before args s = true := mvT hZ w
  obtain ⟨c2, r2, m2, q1, -, q3, -, kP, hkP, hkPi⟩ := Cond.selects_spec w'
  have q4 := findClass_of_methodNamed q3
  refine selects_self_of_private (c := m2.cls) (k := kP) (by rw [← hc]; exact q4) hkP hkPi (Cond.privateMethod_at (mvP hZ wp (args := #[]))) (mvT hZ wi) hy
theorem own_callQ (X : Stand p l e R s m args below meth c T locs cells slots) (hx : p.tables.exec = Jvm.exec) (hZ : Z.Warmed39 s.vm) {own C : String} {index : Nat} {y y' : MethodName} {bytes : ByteArray} {maxL : Nat} {ret : Option FieldType} {rm : Room} {Qc : own_Post} {PV : Vm → Prop} {b : Addr}
    (hown : s.vm.findClass own = some m.cls) (w1 : (Cond.methodLink own index y).before a0 Z = true) (w2 : (Cond.instanceMethod y).before a0 Z = true) (w3 : (Cond.selects y'.cls y' y').before a0 Z = true) (w4 : (Cond.privateMethod y).before a0 Z = true) (w5 : (Cond.code y bytes maxL ret).before a0 Z = true) (w6 : (Cond.initialized y.cls).before a0 Z = true)
    (hyy : y'.cls = y.cls) (hy : y.cls ≠ "java/lang/invoke/MethodHandle" ∧ y.cls ≠ "java/lang/invoke/VarHandle") (eT : T.heap = h) (E : Exa Z h b C) {argsL rest st0 : List Value} (hM : own_MetW l Z y bytes maxL ret [] rm (.ref b :: argsL).toArray h PV Qc) {W pc : Nat} {Ls : Array Slot}
    (hsz : Ls.size = c.maxLocals) (hlen : ∀ sig, parseMethodDescriptor y.desc = some sig → argsL.length = sig.parameters.length) (hst : st0 = argsL.reverse ++ .ref b :: rest) (hW : (rest.map fun v => v.category).sum ≤ W) (hd : decode c.code pc = .ok (.invokevirtual index, 3))
    (hf : rm.frames + 1 ≤ R.frames) (hl : W + (maxL + 11) + rm.locals ≤ R.locals) (hc : cells + rm.cells ≤ R.cells) (hs : slots + rm.slots ≤ R.slots)
    (k : own_K p l e R s m args below meth c own Z locs Q kc kn (cells + rm.cells) (slots + rm.slots) Qc (fun v => mkF m (pc + 3) Ls (v.toList ++ rest)))
    (hv : ∀ vm, s.WarmedH vm → PV vm := by exact fun _ _ => trivial) (hsub : ∀ x ∈ Qc.2, x ∈ Q.2 := by simp) :
    own_Ends p e below s Q kc kn (T.setTop (mkF m pc Ls st0)) := by
  obtain ⟨cq, q1, q2⟩ := E.cell
  obtain ⟨v, vm1, ⟨T', L', k', n'⟩, hW1, X', hS, hgr, ⟨Lc, hQ, hI, l1, y1, z1⟩, st⟩ := X.privateBackS hx (y := y) hown (mvT hZ w1) (mvT hZ w2) (own_selp hZ hyy w3 w2 w4 hy) (Cond.privateMethod_at (mvP hZ w4 (args := #[]))) (mvT hZ w5) hy (own_backW (W := W) hM hZ w5 w6 hf hl hv) (g := mkF m pc Ls st0) rfl hsz (Steps.refl _) (a := b) (by rw [eT]; exact q1) q2 (argsL := argsL) (rest := rest) hlen hst (by show 2 * 0 + _ ≤ _; simpa using hW) hd (fun _ _ => ⟨rfl, eT, hc, hs⟩)
  dsimp only [Pt.U, Pt.locs, Pt.cells, Pt.slots] at X' l1 y1 z1 st hQ hI hS
  subst l1 y1 z1
  exact own_come k hZ hown hW1 X' hS hI hsub hQ (fun t kk => st.trans kk)
end OwnCp
def own_Lat (Z : State) (h : Heap) (x t : Addr) (n : Nat) (f : Nat → Int32) : Prop := Exa Z h x "java/lang/String" ∧ Fld Z h x "java/lang/String" "value" "[B" (.ref t) ∧ Fld Z h x "java/lang/String" "coder" "B" (.int 0) ∧ own_A Z h t .byte n (fun i => .int ((f i).toInt8.toInt32)) ∧ ∀ i, i < n → 0 ≤ (f i).toInt ∧ (f i).toInt ≤ 255
theorem own_succ {j : Int32} {k n : Nat} (hj : j.toInt = (k : Int)) (hk : k < n) (hn : n < 2 ^ 31) : (j + (1 : Int32)).toInt = ((k + 1 : Nat) : Int) := by
  have h := c_iadd j 1
  have r := rng32 (j + 1)
  simp only [Int32.reduceToInt] at h
  omega
theorem own_jlt {j nn : Int32} {k n : Nat} (hj : j.toInt = (k : Int)) (hn : nn.toInt = (n : Int)) (h : k < n) : j < nn := by rw [Int32.lt_iff_toInt_lt]; omega
theorem own_jge {j nn : Int32} {k n : Nat} (hj : j.toInt = (k : Int)) (hn : nn.toInt = (n : Int)) (h : n ≤ k) : ¬ j < nn := by rw [Int32.lt_iff_toInt_lt]; omega
theorem own_sub31 (x : Int32) : (((x - x).toUInt32 >>> ((31 : Int32) &&& 31).toUInt32).toInt32).toInt8.toInt32 = (0 : Int32) := by rw [Int32.sub_self]; decide
theorem own_gstep {k : Nat} {g g' : Nat → Int32} {B : Nat → Int32} {x : Int32} (hg : ∀ i, i < k → g i = B i) (hg' : g' = fun q => if q = k then x else g q) (hx : x = B k) : ∀ i, i < k + 1 → g' i = B i := by
  intro i hi
  rw [hg']
  by_cases q : i = k
  · simp only [q, if_true]; exact hx
  · simp only [q, if_false]; exact hg i (by omega)
theorem own_i2b (x : Int32) : narrow .byte (.int x.toInt8.toInt32) = .int x.toInt8.toInt32 := by
  show Value.int (x.toInt8.toInt32).toInt8.toInt32 = _
  simp
theorem own_c255 {x : Int32} (h : x.toInt ≤ 255) : ¬ (255 : Int32) < x := by rw [Int32.lt_iff_toInt_lt]; simp only [Int32.reduceToInt]; omega
theorem own_narB (x : Int32) : nar .byte x.toInt8.toInt32 = x.toInt8.toInt32 := by
  show (x.toInt8.toInt32).toInt8.toInt32 = _
  simp
theorem own_n32 {n : Nat} {nn : Int32} (hn : nn.toInt = (n : Int)) : n.toInt32 = nn := by
  have r := rng32 nn
  rw [← Int32.toInt_inj, len_toInt (by omega), hn]
def own_ub (f : Nat → Int32) (j : Nat) : Int32 := if j % 2 = 0 then (((f (j / 2)) >>> ((0 : Int32) &&& 31)).toInt8.toInt32) else (((f (j / 2)) >>> ((8 : Int32) &&& 31)).toInt8.toInt32)
def own_Str (Z : State) (h : Heap) (x : Addr) (n : Nat) (f : Nat → Int32) : Prop := ∃ t : Nat, Exa Z h x "java/lang/String" ∧ Fld Z h x "java/lang/String" "value" "[B" (.ref t) ∧ (∀ i, i < n → 0 ≤ (f i).toInt ∧ (f i).toInt ≤ 65535) ∧
  ((Fld Z h x "java/lang/String" "coder" "B" (.int 0) ∧ own_A Z h t .byte n (fun i => .int ((f i).toInt8.toInt32)) ∧ ∀ i, i < n → 0 ≤ (f i).toInt ∧ (f i).toInt ≤ 255) ∨ (Fld Z h x "java/lang/String" "coder" "B" (.int 1) ∧ own_A Z h t .byte (2 * n) (fun i => .int (own_ub f i))))
theorem own_Str.keep {Z : State} {h h' : Heap} {x : Addr} {n : Nat} {f : Nat → Int32} {ws : List Addr} (F : own_Str Z h x n f) (K : Keep h h' ws) (q : ∀ y ∈ ws, h.size ≤ y) : own_Str Z h' x n f := by
  obtain ⟨t, E, V, B, C⟩ := F
  have nx : ∀ {z : Addr}, z < h.size → z ∉ ws := fun {z} hz hm => absurd hz (Nat.not_lt.mpr (q z hm))
  refine ⟨t, E.keep K, V.keep K (nx E.lt), B, ?_⟩
  rcases C with ⟨c, A, r⟩ | ⟨c, A⟩
  · exact Or.inl ⟨c.keep K (nx E.lt), A.keep K (nx A.lt), r⟩
  · exact Or.inr ⟨c.keep K (nx E.lt), A.keep K (nx A.lt)⟩
theorem own_get16 {c : Int32} (h : 0 ≤ c.toInt ∧ c.toInt ≤ 65535) : (((((c >>> ((0 : Int32) &&& 31)).toInt8.toInt32 &&& (255 : Int32)) <<< ((0 : Int32) &&& 31)) ||| (((c >>> ((8 : Int32) &&& 31)).toInt8.toInt32 &&& (255 : Int32)) <<< ((8 : Int32) &&& 31))).toUInt32.toUInt16.toUInt32.toInt32) = c := by
  have a1 := c_ishr c 0 0 (by decide)
  have a2 := c_i2b (c >>> ((0 : Int32) &&& 31))
  have a3 := c_mask (c >>> ((0 : Int32) &&& 31)).toInt8.toInt32 255 8 (by decide) (by decide)
  have a4 := c_ishl ((c >>> ((0 : Int32) &&& 31)).toInt8.toInt32 &&& (255 : Int32)) 0 0 (by decide)
  have b1 := c_ishr c 8 8 (by decide)
  have b2 := c_i2b (c >>> ((8 : Int32) &&& 31))
  have b3 := c_mask (c >>> ((8 : Int32) &&& 31)).toInt8.toInt32 255 8 (by decide) (by decide)
  have b4 := c_ishl ((c >>> ((8 : Int32) &&& 31)).toInt8.toInt32 &&& (255 : Int32)) 8 8 (by decide)
  generalize (c >>> ((0 : Int32) &&& 31)).toInt8.toInt32 &&& (255 : Int32) = p0 at *
  generalize (c >>> ((8 : Int32) &&& 31)).toInt8.toInt32 &&& (255 : Int32) = p1 at *
  have r0 := rng32 (p0 <<< ((0 : Int32) &&& 31))
  have r1 := rng32 (p1 <<< ((8 : Int32) &&& 31))
  generalize p0 <<< ((0 : Int32) &&& 31) = q0 at *
  generalize p1 <<< ((8 : Int32) &&& 31) = q1 at *
  simp only [Nat.reducePow] at a1 a3 a4 b1 b3 b4
  have o := c_or' q0 q1 8 (by decide) 256 (by decide) (by omega) (by omega) (by omega)
  have ro := rng32 (q0 ||| q1)
  have e := c_i2c (q0 ||| q1)
  rw [← Int32.toInt_inj]
  omega
theorem own_ub0 (f : Nat → Int32) (i : Nat) : own_ub f (2 * i) = (((f i) >>> ((0 : Int32) &&& 31)).toInt8.toInt32) := by
  have q1 : 2 * i % 2 = 0 := by omega
  have q2 : 2 * i / 2 = i := by omega
  simp only [own_ub, q1, q2, if_true]
theorem own_ub1 (f : Nat → Int32) (i : Nat) : own_ub f (2 * i + 1) = (((f i) >>> ((8 : Int32) &&& 31)).toInt8.toInt32) := by
  have q1 : ¬ (2 * i + 1) % 2 = 0 := by omega
  have q2 : (2 * i + 1) / 2 = i := by omega
  simp only [own_ub, q1, q2, if_false]
theorem own_shl1 {j : Int32} {k n : Nat} (hj : j.toInt = (k : Int)) (hk : k < n) (hn : 2 * n < 2 ^ 31) : (j <<< ((1 : Int32) &&& 31)).toInt = ((2 * k : Nat) : Int) := by
  have h := c_ishl j 1 1 (by decide)
  have r := rng32 (j <<< ((1 : Int32) &&& 31))
  simp only [Nat.reducePow] at h
  omega
theorem own_shl1' {j : Int32} {n : Nat} (hj : j.toInt = (n : Int)) (hn : 2 * n < 2 ^ 31) : (j <<< ((1 : Int32) &&& 31)).toInt = ((2 * n : Nat) : Int) := by
  have h := c_ishl j 1 1 (by decide)
  have r := rng32 (j <<< ((1 : Int32) &&& 31))
  simp only [Nat.reducePow] at h
  omega
theorem own_add1 {j : Int32} {k : Nat} (hj : j.toInt = (k : Int)) (hn : k + 1 < 2 ^ 31) : (j + (1 : Int32)).toInt = ((k + 1 : Nat) : Int) := by
  have h := c_iadd j 1
  have r := rng32 (j + 1)
  simp only [Int32.reduceToInt] at h
  omega
theorem own_half {n : Nat} {nn : Int32} (hn : nn.toInt = (n : Int)) (h2 : 2 * n < 2 ^ 31) : ((2 * n).toInt32 >>> ((1 : Int32) &&& 31)) = nn := by
  have h := c_ishr (2 * n).toInt32 1 1 (by decide)
  rw [len_toInt h2] at h
  rw [← Int32.toInt_inj, h, hn]
  simp only [Nat.reducePow]
  omega
theorem own_neg31 {n : Nat} {nn : Int32} (hn : nn.toInt = (n : Int)) (h1 : 0 < n) (h2 : 2 * n < 2 ^ 31) : (((nn - (2 * n).toInt32).toUInt32 >>> ((31 : Int32) &&& 31).toUInt32).toInt32).toInt8.toInt32 = (1 : Int32) := by
  have a := c_isub nn (2 * n).toInt32
  have r := rng32 (nn - (2 * n).toInt32)
  rw [len_toInt h2, hn] at a
  have b := c_iushr (nn - (2 * n).toInt32) 31 31 (by decide) (by decide)
  generalize nn - (2 * n).toInt32 = d at *
  simp only [Nat.reducePow] at b
  have e : ((d.toUInt32 >>> ((31 : Int32) &&& 31).toUInt32).toInt32) = 1 := by
    rw [← Int32.toInt_inj, b]
    simp only [Int32.reduceToInt]
    omega
  rw [e]; decide
theorem own_lat {x : Int32} (h : 0 ≤ x.toInt ∧ x.toInt ≤ 255) : ((x.toInt8.toInt32 &&& (255 : Int32)).toUInt32.toUInt16.toUInt32.toInt32) = x := by
  have a := c_i2b x
  have b := c_mask x.toInt8.toInt32 255 8 (by decide) (by decide)
  generalize x.toInt8.toInt32 &&& (255 : Int32) = y at *
  have e := c_i2c y
  simp only [Nat.reducePow] at b
  rw [← Int32.toInt_inj]
  omega
theorem own_narR {x : Int32} (h : 0 ≤ x.toInt ∧ x.toInt ≤ 65535) : narrow .char (.int x) = .int x := congrArg Value.int (own_narC h)
theorem own_narI (x : Int32) : narrow .char (.int x.toUInt32.toUInt16.toUInt32.toInt32) = .int x.toUInt32.toUInt16.toUInt32.toInt32 := own_narR (by have := c_i2c x; omega)
theorem own_put {g g1 g2 : Nat → Int32} {k : Nat} {x y : Int32} (h1 : g1 = fun q => if q = 2 * k then x else g q) (h2 : g2 = fun q => if q = 2 * k + 1 then y else g1 q) : ∀ i, g2 i = if i = 2 * k + 1 then y else if i = 2 * k then x else g i := by
  intro i; rw [h2, h1]
theorem own_n0 {nn : Int32} {n : Nat} (hn : nn.toInt = (n : Int)) : ¬ nn < (0 : Int32) := by rw [Int32.lt_iff_toInt_lt, Int32.toInt_zero]; omega
theorem own_n1 {nn : Int32} {n : Nat} (hn : nn.toInt = (n : Int)) (h : n < 1000000) : nn < (1073741823 : Int32) := by rw [Int32.lt_iff_toInt_lt]; simp only [Int32.reduceToInt]; omega
theorem own_ubs {f g g2 : Nat → Int32} {k : Nat} (hg : ∀ i, i < 2 * k → g i = own_ub f i) (h2 : ∀ i, g2 i = if i = 2 * k + 1 then (((f k) >>> ((8 : Int32) &&& 31)).toInt8.toInt32) else if i = 2 * k then (((f k) >>> ((0 : Int32) &&& 31)).toInt8.toInt32) else g i) : ∀ i, i < 2 * (k + 1) → g2 i = own_ub f i := by
  intro i hi
  rw [h2]
  by_cases q1 : i = 2 * k + 1
  · rw [if_pos q1, q1, own_ub1]
  · rw [if_neg q1]
    by_cases q2 : i = 2 * k
    · rw [if_pos q2, q2, own_ub0]
    · rw [if_neg q2]; exact hg i (by omega)
theorem own_gt255 {x : Int32} (h : (255 : Int32) < x) : 255 < x.toInt := by rw [Int32.lt_iff_toInt_lt] at h; simpa only [Int32.reduceToInt] using h
theorem own_lstep {f : Nat → Int32} {k : Nat} (hl : ∀ i, i < k → (f i).toInt ≤ 255) (h : ¬ (255 : Int32) < f k) : ∀ i, i < k + 1 → (f i).toInt ≤ 255 := by
  intro i hi
  by_cases q : i = k
  · subst q; rw [Int32.lt_iff_toInt_lt] at h; simp only [Int32.reduceToInt] at h; omega
  · exact hl i (by omega)
theorem own_jne {j nn : Int32} {k n : Nat} (hj : j.toInt = (k : Int)) (hn : nn.toInt = (n : Int)) (h : k < n) : ¬ j = nn := by rw [← Int32.toInt_inj]; omega
theorem own_jeq {j nn : Int32} {n : Nat} (hj : j.toInt = (n : Int)) (hn : nn.toInt = (n : Int)) : j = nn := by rw [← Int32.toInt_inj]; omega
theorem own_255 {x : Int32} (h : 255 < x.toInt) : (255 : Int32) < x := by rw [Int32.lt_iff_toInt_lt]; simpa only [Int32.reduceToInt] using h
theorem own_nz {nn : Int32} {n : Nat} (hn : nn.toInt = (n : Int)) (hp : 0 < n) : ¬ nn = (0 : Int32) := by rw [← Int32.toInt_inj, Int32.toInt_zero]; omega
abbrev own_isp (V : Prop) (c : Int32) : Prop := c = (32 : Int32) ∨ c = (9 : Int32) ∨ c = (10 : Int32) ∨ c = (13 : Int32) ∨ (V ∧ (c = (133 : Int32) ∨ c = (8232 : Int32)))
abbrev own_dl (V : Prop) (c : Int32) : Prop := own_isp V c ∨ c = (62 : Int32) ∨ c = (47 : Int32) ∨ c = (61 : Int32)
def own_skip (V : Prop) (f : Nat → Int32) (k k' : Nat) : Prop := (k' = k ∧ ¬ own_isp V (f k)) ∨ (k' = k + 1 ∧ own_isp V (f k) ∧ ¬ own_isp V (f (k + 1)))
theorem own_dec (P : Prop) : ∃ r : Int32, (r = 1 ∧ P) ∨ (r = 0 ∧ ¬ P) := by
  by_cases h : P
  · exact ⟨1, Or.inl ⟨rfl, h⟩⟩
  · exact ⟨0, Or.inr ⟨rfl, h⟩⟩
theorem own_r1' {P : Prop} {r : Int32} (h : (r = 1 ∧ P) ∨ (r = 0 ∧ ¬ P)) (h0 : ¬ r = 0) : P := by rcases h with ⟨-, h⟩ | ⟨h, -⟩; exact h; exact absurd h h0
theorem own_r0' {P : Prop} {r : Int32} (h : (r = 1 ∧ P) ∨ (r = 0 ∧ ¬ P)) (h0 : r = 0) : ¬ P := by rcases h with ⟨h, -⟩ | ⟨-, h⟩; rw [h0] at h; exact absurd h (by decide); exact h
theorem own_b8 {a b : Int32} (ha : 0 ≤ a.toInt ∧ a.toInt ≤ 255) (hb : 0 ≤ b.toInt ∧ b.toInt ≤ 255) (h : a.toInt8.toInt32 = b.toInt8.toInt32) : a = b := by
  have h1 := c_i2b a
  have h2 := c_i2b b
  rw [h] at h1
  rw [← Int32.toInt_inj]
  omega
theorem own_sh0 {n : Nat} {nn : Int32} (hn : nn.toInt = (n : Int)) : (n.toInt32 >>> ((0 : Int32) &&& 31)) = nn := by
  have h := c_ishr n.toInt32 0 0 (by decide)
  rw [own_n32 hn] at h ⊢
  rw [← Int32.toInt_inj, h]
  simp
theorem own_StrE {Z : State} {h : Heap} {x : Addr} {n : Nat} {f : Nat → Int32} (F : own_Str Z h x n f) : Exa Z h x "java/lang/String" := by obtain ⟨_, E, -⟩ := F; exact E
theorem own_Str.ext {Z : State} {h h' : Heap} {x : Addr} {n : Nat} {f : Nat → Int32} (F : own_Str Z h x n f) (E : Ext h h') : own_Str Z h' x n f := by
  obtain ⟨t, a, b, c, d⟩ := F
  refine ⟨t, a.ext E, b.ext E, c, ?_⟩
  rcases d with ⟨d, e, g⟩ | ⟨d, e⟩
  · exact Or.inl ⟨d.ext E, e.ext E, g⟩
  · exact Or.inr ⟨d.ext E, e.ext E⟩
theorem own_Str.keepO {Z : State} {h h' : Heap} {a0 : Array Value} {x o : Addr} {n k : Nat} {f : Nat → Int32} {C : String} (F : own_Str Z h x n f) (K : Keep h h' [o]) (E : Exa Z h o C) (hC : "java/lang/String" ≠ C) (w : (Cond.instantiable C k).before a0 Z = true) : own_Str Z h' x n f := by
  obtain ⟨t, a, b, c, d⟩ := F
  have nx : x ∉ [o] := ninS (ne_exa a E hC) nin0
  have nt : ∀ {m : Nat} {g : Nat → Value}, own_A Z h t .byte m g → t ∉ [o] := fun A => by
    obtain ⟨_, cl, A, -⟩ := A
    exact ninS (ne_arr E w A).symm nin0
  refine ⟨t, a.keep K, b.keep K nx, c, ?_⟩
  rcases d with ⟨d, e, g⟩ | ⟨d, e⟩
  · exact Or.inl ⟨d.keep K nx, e.keep K (nt e), g⟩
  · exact Or.inr ⟨d.keep K nx, e.keep K (nt e)⟩
theorem own_lt16 {i : Nat} (h : i < 16) : i = 0 ∨ i = 1 ∨ i = 2 ∨ i = 3 ∨ i = 4 ∨ i = 5 ∨ i = 6 ∨ i = 7 ∨ i = 8 ∨ i = 9 ∨ i = 10 ∨ i = 11 ∨ i = 12 ∨ i = 13 ∨ i = 14 ∨ i = 15 := by omega
theorem own_i2cr (x : Int32) : 0 ≤ (x.toUInt32.toUInt16.toUInt32.toInt32).toInt ∧ (x.toUInt32.toUInt16.toUInt32.toInt32).toInt ≤ 65535 := by have := c_i2c x; omega
theorem own_narI' (x : Int32) : nar .char x.toUInt32.toUInt16.toUInt32.toInt32 = x.toUInt32.toUInt16.toUInt32.toInt32 := own_narC (own_i2cr x)
theorem own_rng {n : Nat} {g g' : Nat → Int32} {k : Nat} {x : Int32} (hr : ∀ i, i < n → 0 ≤ (g i).toInt ∧ (g i).toInt ≤ 65535) (hx : 0 ≤ x.toInt ∧ x.toInt ≤ 65535) (hg : g' = fun q => if q = k then x else g q) : ∀ i, i < n → 0 ≤ (g' i).toInt ∧ (g' i).toInt ≤ 65535 := by
  intro i hi; rw [hg]
  by_cases q : i = k
  · simp only [q, if_true]; exact hx
  · simp only [q, if_false]; exact hr i hi
theorem own_m255c (x : Int32) : 0 ≤ ((x &&& (255 : Int32)).toUInt32.toUInt16.toUInt32.toInt32).toInt ∧ ((x &&& (255 : Int32)).toUInt32.toUInt16.toUInt32.toInt32).toInt ≤ 255 := by
  have a := c_and x 255 (by decide)
  have b := c_i2c (x &&& (255 : Int32))
  simp only [Int32.reduceToInt] at a
  omega
theorem own_notsp {V : Prop} {c : Int32} (h : c = 62 ∨ c = 47 ∨ c = 61 ∨ c = 34 ∨ c = 39) : ¬ own_isp V c := by
  rcases h with rfl | rfl | rfl | rfl | rfl <;> (intro q; rcases q with q | q | q | q | ⟨-, q | q⟩ <;> exact absurd q (by decide))
theorem own_Str31 {Z : State} {h : Heap} {x : Addr} {n : Nat} {f : Nat → Int32} (F : own_Str Z h x n f) : n < 2 ^ 31 := by
  obtain ⟨t, a, b, c, d⟩ := F
  rcases d with ⟨d, e, g⟩ | ⟨d, e⟩
  · exact e.1
  · have := e.1; omega
theorem own_ro1 {P : Prop} {r : Int32} (h : (r = 1 ∧ P) ∨ (r = 0 ∧ ¬ P)) (h0 : ¬ r = 0) : r = 1 := by rcases h with ⟨h, -⟩ | ⟨h, -⟩; exact h; exact absurd h h0
theorem own_add2 {j : Int32} {k : Nat} (hj : j.toInt = (k : Int)) (hn : k + 2 < 2 ^ 31) : (j + (2 : Int32)).toInt = ((k + 2 : Nat) : Int) := by
  have h := c_iadd j 2
  have r := rng32 (j + 2)
  simp only [Int32.reduceToInt] at h
  omega
theorem own_rem6 (x : Int32) : 0 ≤ ((x &&& (2147483647 : Int32)) % (6 : Int32)).toInt ∧ ((x &&& (2147483647 : Int32)) % (6 : Int32)).toInt < 6 := by
  have a := c_and x 2147483647 (by decide)
  have q := (c_irem (x &&& (2147483647 : Int32)) 6 6 (by decide)).1 a.1
  rw [q]; omega
theorem own_rem4 (x : Int32) : 0 ≤ ((x &&& (2147483647 : Int32)) % (4 : Int32)).toInt ∧ ((x &&& (2147483647 : Int32)) % (4 : Int32)).toInt < 4 := by
  have a := c_and x 2147483647 (by decide)
  have q := (c_irem (x &&& (2147483647 : Int32)) 4 4 (by decide)).1 a.1
  rw [q]; omega
theorem own_na97 {V : Prop} (q : own_dl V (97 : Int32)) : False := by
  rcases q with (q | q | q | q | ⟨-, q | q⟩) | q | q | q <;> exact absurd q (by decide)
theorem own_del3 {f : Nat → Int32} {ke kz kp kq : Nat} {v1 sl kk : Int32} (hlay : (ke = 3 ∧ kp = 0) ∨ (¬ kp = 0 ∧ own_isp (¬ v1 = (0 : Int32)) (f 3) ∧ (∀ V : Prop, ¬ own_dl V (f 4)) ∧ (kp = 5 ∧ True ∨ kp = 6 ∧ own_isp (¬ v1 = (0 : Int32)) (f 5)) ∧ f kp = (61 : Int32) ∧ (kq = kp + 1 ∧ True ∨ kq = kp + 1 + 1 ∧ own_isp (¬ v1 = (0 : Int32)) (f (kp + 1))) ∧ (f kq = (34 : Int32) ∨ f kq = (39 : Int32)) ∧ ¬ f (kq + 1) = f kq ∧ f (kq + 1 + 1) = f kq ∧ ke = kq + 1 + 1 + 1)) (hlz : (kz = ke ∧ True ∨ kz = ke + 1 ∧ own_isp (¬ v1 = (0 : Int32)) (f ke)) ∧ kz < 15 ∧ (sl = 1 ∧ f kz = (47 : Int32) ∧ kk.toInt = ((kz + 2 : Nat) : Int) ∨ sl = 0 ∧ f kz = (62 : Int32) ∧ kk.toInt = ((kz + 1 : Nat) : Int))) : own_dl (¬ v1 = (0 : Int32)) (f (2 + 1)) := by
  rcases hlay with ⟨h, -⟩ | ⟨-, h, -⟩
  · subst h
    obtain ⟨z, -, q⟩ := hlz
    rcases z with ⟨z, -⟩ | ⟨z, w⟩
    · subst z
      rcases q with ⟨-, q, -⟩ | ⟨-, q, -⟩
      · exact Or.inr (Or.inr (Or.inl q))
      · exact Or.inr (Or.inl q)
    · exact Or.inl w
  · exact Or.inl h
theorem own_skz {V : Prop} {f : Nat → Int32} {ke kz : Nat} (h : kz = ke ∧ True ∨ kz = ke + 1 ∧ own_isp V (f ke)) (hn : ¬ own_isp V (f kz)) : own_skip V f ke kz := by
  rcases h with ⟨rfl, -⟩ | ⟨rfl, h⟩
  · exact Or.inl ⟨rfl, hn⟩
  · exact Or.inr ⟨rfl, h, hn⟩
theorem own_nsp61 {V : Prop} {c : Int32} (h : c = (61 : Int32)) : ¬ own_isp V c := own_notsp (Or.inr (Or.inr (Or.inl h)))
theorem own_nspq {V : Prop} {c : Int32} (h : c = (34 : Int32) ∨ c = (39 : Int32)) : ¬ own_isp V c := own_notsp (Or.inr (Or.inr (Or.inr h)))
theorem own_nspe {V : Prop} {c : Int32} (h : c = (62 : Int32) ∨ c = (47 : Int32)) : ¬ own_isp V c := own_notsp (h.elim Or.inl fun h => Or.inr (Or.inl h))
theorem own_q255 {c : Int32} (h : c = (34 : Int32) ∨ c = (39 : Int32)) : 0 ≤ c.toInt ∧ c.toInt ≤ 255 := by rcases h with rfl | rfl <;> decide
theorem own_wk {f : Nat → Int32} {kz : Nat} {w sl kk : Int32} (hw : (sl = 1 ∧ w.toInt = ((kz + 2 : Nat) : Int)) ∨ (sl = 0 ∧ w.toInt = ((kz + 1 : Nat) : Int))) (hz : sl = 1 ∧ f kz = (47 : Int32) ∧ kk.toInt = ((kz + 2 : Nat) : Int) ∨ sl = 0 ∧ f kz = (62 : Int32) ∧ kk.toInt = ((kz + 1 : Nat) : Int)) : w = kk := by
  rw [← Int32.toInt_inj]
  rcases hw with ⟨a, b⟩ | ⟨a, b⟩ <;> rcases hz with ⟨c, -, d⟩ | ⟨c, -, d⟩
  · omega
  · rw [a] at c; exact absurd c (by decide)
  · rw [a] at c; exact absurd c (by decide)
  · omega
theorem own_d1_0 : decode method_3_code 0 = .ok (.iload_n 0, 1) := by decide +kernel
theorem own_d1_1 : decode method_3_code 1 = .ok (.sipush 255, 3) := by decide +kernel
theorem own_d1_4 : decode method_3_code 4 = .ok (.iand, 1) := by decide +kernel
theorem own_d1_5 : decode method_3_code 5 = .ok (.i2c, 1) := by decide +kernel
theorem own_d1_6 : decode method_3_code 6 = .ok (.istore_n 1, 1) := by decide +kernel
theorem own_d1_7 : decode method_3_code 7 = .ok (.iload_n 1, 1) := by decide +kernel
theorem own_d1_8 : decode method_3_code 8 = .ok (.bipush 32, 2) := by decide +kernel
theorem own_d1_10 : decode method_3_code 10 = .ok (.if_icmp .le 52, 3) := by decide +kernel
theorem own_d1_13 : decode method_3_code 13 = .ok (.iload_n 1, 1) := by decide +kernel
theorem own_d1_14 : decode method_3_code 14 = .ok (.bipush 47, 2) := by decide +kernel
theorem own_d1_16 : decode method_3_code 16 = .ok (.if_icmp .eq 46, 3) := by decide +kernel
theorem own_d1_19 : decode method_3_code 19 = .ok (.iload_n 1, 1) := by decide +kernel
theorem own_d1_20 : decode method_3_code 20 = .ok (.bipush 62, 2) := by decide +kernel
theorem own_d1_22 : decode method_3_code 22 = .ok (.if_icmp .eq 40, 3) := by decide +kernel
theorem own_d1_25 : decode method_3_code 25 = .ok (.iload_n 1, 1) := by decide +kernel
theorem own_d1_26 : decode method_3_code 26 = .ok (.bipush 61, 2) := by decide +kernel
theorem own_d1_28 : decode method_3_code 28 = .ok (.if_icmp .eq 34, 3) := by decide +kernel
theorem own_d1_31 : decode method_3_code 31 = .ok (.iload_n 1, 1) := by decide +kernel
theorem own_d1_32 : decode method_3_code 32 = .ok (.sipush 133, 3) := by decide +kernel
theorem own_d1_35 : decode method_3_code 35 = .ok (.if_icmp .eq 27, 3) := by decide +kernel
theorem own_d1_38 : decode method_3_code 38 = .ok (.iload_n 1, 1) := by decide +kernel
theorem own_d1_39 : decode method_3_code 39 = .ok (.bipush 60, 2) := by decide +kernel
theorem own_d1_41 : decode method_3_code 41 = .ok (.if_icmp .eq 21, 3) := by decide +kernel
theorem own_d1_44 : decode method_3_code 44 = .ok (.iload_n 1, 1) := by decide +kernel
theorem own_d1_45 : decode method_3_code 45 = .ok (.bipush 34, 2) := by decide +kernel
theorem own_d1_47 : decode method_3_code 47 = .ok (.if_icmp .eq 15, 3) := by decide +kernel
theorem own_d1_50 : decode method_3_code 50 = .ok (.iload_n 1, 1) := by decide +kernel
theorem own_d1_51 : decode method_3_code 51 = .ok (.bipush 39, 2) := by decide +kernel
theorem own_d1_53 : decode method_3_code 53 = .ok (.if_icmp .eq 9, 3) := by decide +kernel
theorem own_d1_56 : decode method_3_code 56 = .ok (.iload_n 1, 1) := by decide +kernel
theorem own_d1_57 : decode method_3_code 57 = .ok (.bipush 38, 2) := by decide +kernel
theorem own_d1_59 : decode method_3_code 59 = .ok (.if_icmp .ne 6, 3) := by decide +kernel
theorem own_d1_62 : decode method_3_code 62 = .ok (.bipush 97, 2) := by decide +kernel
theorem own_d1_64 : decode method_3_code 64 = .ok (.ireturn, 1) := by decide +kernel
theorem own_d1_65 : decode method_3_code 65 = .ok (.iload_n 1, 1) := by decide +kernel
theorem own_d1_66 : decode method_3_code 66 = .ok (.ireturn, 1) := by decide +kernel
theorem own_d2_0 : decode prog_11_method_2_code 0 = .ok (.aload_n 0, 1) := by decide +kernel
theorem own_d2_1 : decode prog_11_method_2_code 1 = .ok (.invokespecial 11, 3) := by decide +kernel
theorem own_d2_4 : decode prog_11_method_2_code 4 = .ok (.aload_n 0, 1) := by decide +kernel
theorem own_d2_5 : decode prog_11_method_2_code 5 = .ok (.ldc 16, 2) := by decide +kernel
theorem own_d2_7 : decode prog_11_method_2_code 7 = .ok (.putfield 18, 3) := by decide +kernel
theorem own_d2_10 : decode prog_11_method_2_code 10 = .ok (.aload_n 0, 1) := by decide +kernel
theorem own_d2_11 : decode prog_11_method_2_code 11 = .ok (.aload_n 1, 1) := by decide +kernel
theorem own_d2_12 : decode prog_11_method_2_code 12 = .ok (.putfield 22, 3) := by decide +kernel
theorem own_d2_15 : decode prog_11_method_2_code 15 = .ok (.return_, 1) := by decide +kernel
theorem own_d4_0 : decode jdk_42_method_3_code 0 = .ok (.aload_n 0, 1) := by decide +kernel
theorem own_d4_1 : decode jdk_42_method_3_code 1 = .ok (.aload_n 1, 1) := by decide +kernel
theorem own_d4_2 : decode jdk_42_method_3_code 2 = .ok (.iconst 0, 1) := by decide +kernel
theorem own_d4_3 : decode jdk_42_method_3_code 3 = .ok (.aload_n 1, 1) := by decide +kernel
theorem own_d4_4 : decode jdk_42_method_3_code 4 = .ok (.arraylength, 1) := by decide +kernel
theorem own_d4_5 : decode jdk_42_method_3_code 5 = .ok (.aconst_null, 1) := by decide +kernel
theorem own_d4_6 : decode jdk_42_method_3_code 6 = .ok (.invokespecial 27, 3) := by decide +kernel
theorem own_d4_9 : decode jdk_42_method_3_code 9 = .ok (.return_, 1) := by decide +kernel
theorem own_d5_0 : decode jdk_42_method_149_code 0 = .ok (.aload_n 0, 1) := by decide +kernel
theorem own_d5_1 : decode jdk_42_method_149_code 1 = .ok (.invokespecial 1, 3) := by decide +kernel
theorem own_d5_4 : decode jdk_42_method_149_code 4 = .ok (.iload_n 3, 1) := by decide +kernel
theorem own_d5_5 : decode jdk_42_method_149_code 5 = .ok (.ifCond .ne 22, 3) := by decide +kernel
theorem own_d5_27 : decode jdk_42_method_149_code 27 = .ok (.getstatic 38, 3) := by decide +kernel
theorem own_d5_30 : decode jdk_42_method_149_code 30 = .ok (.ifCond .eq 28, 3) := by decide +kernel
theorem own_d5_33 : decode jdk_42_method_149_code 33 = .ok (.aload_n 1, 1) := by decide +kernel
theorem own_d5_34 : decode jdk_42_method_149_code 34 = .ok (.iload_n 2, 1) := by decide +kernel
theorem own_d5_35 : decode jdk_42_method_149_code 35 = .ok (.iload_n 3, 1) := by decide +kernel
theorem own_d5_36 : decode jdk_42_method_149_code 36 = .ok (.invokestatic 177, 3) := by decide +kernel
theorem own_d5_39 : decode jdk_42_method_149_code 39 = .ok (.astore 5, 2) := by decide +kernel
theorem own_d5_41 : decode jdk_42_method_149_code 41 = .ok (.aload_n 0, 1) := by decide +kernel
theorem own_d5_42 : decode jdk_42_method_149_code 42 = .ok (.aload 5, 2) := by decide +kernel
theorem own_d5_44 : decode jdk_42_method_149_code 44 = .ok (.iload_n 3, 1) := by decide +kernel
theorem own_d5_45 : decode jdk_42_method_149_code 45 = .ok (.invokestatic 47, 3) := by decide +kernel
theorem own_d5_48 : decode jdk_42_method_149_code 48 = .ok (.putfield 15, 3) := by decide +kernel
theorem own_d5_51 : decode jdk_42_method_149_code 51 = .ok (.aload_n 0, 1) := by decide +kernel
theorem own_d5_52 : decode jdk_42_method_149_code 52 = .ok (.aload 5, 2) := by decide +kernel
theorem own_d5_54 : decode jdk_42_method_149_code 54 = .ok (.putfield 9, 3) := by decide +kernel
theorem own_d5_57 : decode jdk_42_method_149_code 57 = .ok (.return_, 1) := by decide +kernel
theorem own_d6_0 : decode jdk_52_method_16_code 0 = .ok (.iload_n 2, 1) := by decide +kernel
theorem own_d6_1 : decode jdk_52_method_16_code 1 = .ok (.newarray .byte, 2) := by decide +kernel
theorem own_d6_3 : decode jdk_52_method_16_code 3 = .ok (.astore_n 3, 1) := by decide +kernel
theorem own_d6_4 : decode jdk_52_method_16_code 4 = .ok (.aload_n 0, 1) := by decide +kernel
theorem own_d6_5 : decode jdk_52_method_16_code 5 = .ok (.iload_n 1, 1) := by decide +kernel
theorem own_d6_6 : decode jdk_52_method_16_code 6 = .ok (.aload_n 3, 1) := by decide +kernel
theorem own_d6_7 : decode jdk_52_method_16_code 7 = .ok (.iconst 0, 1) := by decide +kernel
theorem own_d6_8 : decode jdk_52_method_16_code 8 = .ok (.iload_n 2, 1) := by decide +kernel
theorem own_d6_9 : decode jdk_52_method_16_code 9 = .ok (.invokestatic 115, 3) := by decide +kernel
theorem own_d6_12 : decode jdk_52_method_16_code 12 = .ok (.istore 4, 2) := by decide +kernel
theorem own_d6_14 : decode jdk_52_method_16_code 14 = .ok (.iload 4, 2) := by decide +kernel
theorem own_d6_16 : decode jdk_52_method_16_code 16 = .ok (.iload_n 2, 1) := by decide +kernel
theorem own_d6_17 : decode jdk_52_method_16_code 17 = .ok (.if_icmp .eq 40, 3) := by decide +kernel
theorem own_d6_20 : decode jdk_52_method_16_code 20 = .ok (.aload_n 0, 1) := by decide +kernel
theorem own_d6_21 : decode jdk_52_method_16_code 21 = .ok (.iload_n 1, 1) := by decide +kernel
theorem own_d6_22 : decode jdk_52_method_16_code 22 = .ok (.iload_n 2, 1) := by decide +kernel
theorem own_d6_23 : decode jdk_52_method_16_code 23 = .ok (.invokestatic 119, 3) := by decide +kernel
theorem own_d6_26 : decode jdk_52_method_16_code 26 = .ok (.astore 5, 2) := by decide +kernel
theorem own_d6_28 : decode jdk_52_method_16_code 28 = .ok (.aload 5, 2) := by decide +kernel
theorem own_d6_30 : decode jdk_52_method_16_code 30 = .ok (.iload 4, 2) := by decide +kernel
theorem own_d6_32 : decode jdk_52_method_16_code 32 = .ok (.invokestatic 71, 3) := by decide +kernel
theorem own_d6_35 : decode jdk_52_method_16_code 35 = .ok (.sipush 255, 3) := by decide +kernel
theorem own_d6_38 : decode jdk_52_method_16_code 38 = .ok (.if_icmp .gt 16, 3) := by decide +kernel
theorem own_d6_54 : decode jdk_52_method_16_code 54 = .ok (.aload 5, 2) := by decide +kernel
theorem own_d6_56 : decode jdk_52_method_16_code 56 = .ok (.areturn, 1) := by decide +kernel
theorem own_d6_57 : decode jdk_52_method_16_code 57 = .ok (.aload_n 3, 1) := by decide +kernel
theorem own_d6_58 : decode jdk_52_method_16_code 58 = .ok (.areturn, 1) := by decide +kernel
theorem own_d7_0 : decode jdk_52_method_21_code 0 = .ok (.iconst 0, 1) := by decide +kernel
theorem own_d7_1 : decode jdk_52_method_21_code 1 = .ok (.istore 5, 2) := by decide +kernel
theorem own_d7_3 : decode jdk_52_method_21_code 3 = .ok (.iload 5, 2) := by decide +kernel
theorem own_d7_5 : decode jdk_52_method_21_code 5 = .ok (.iload 4, 2) := by decide +kernel
theorem own_d7_7 : decode jdk_52_method_21_code 7 = .ok (.if_icmp .ge 37, 3) := by decide +kernel
theorem own_d7_10 : decode jdk_52_method_21_code 10 = .ok (.aload_n 0, 1) := by decide +kernel
theorem own_d7_11 : decode jdk_52_method_21_code 11 = .ok (.iload_n 1, 1) := by decide +kernel
theorem own_d7_12 : decode jdk_52_method_21_code 12 = .ok (.caload, 1) := by decide +kernel
theorem own_d7_13 : decode jdk_52_method_21_code 13 = .ok (.istore 6, 2) := by decide +kernel
theorem own_d7_15 : decode jdk_52_method_21_code 15 = .ok (.iload 6, 2) := by decide +kernel
theorem own_d7_17 : decode jdk_52_method_21_code 17 = .ok (.sipush 255, 3) := by decide +kernel
theorem own_d7_20 : decode jdk_52_method_21_code 20 = .ok (.if_icmp .le 6, 3) := by decide +kernel
theorem own_d7_23 : decode jdk_52_method_21_code 23 = .ok (.iload 5, 2) := by decide +kernel
theorem own_d7_25 : decode jdk_52_method_21_code 25 = .ok (.ireturn, 1) := by decide +kernel
theorem own_d7_26 : decode jdk_52_method_21_code 26 = .ok (.aload_n 2, 1) := by decide +kernel
theorem own_d7_27 : decode jdk_52_method_21_code 27 = .ok (.iload_n 3, 1) := by decide +kernel
theorem own_d7_28 : decode jdk_52_method_21_code 28 = .ok (.iload 6, 2) := by decide +kernel
theorem own_d7_30 : decode jdk_52_method_21_code 30 = .ok (.i2b, 1) := by decide +kernel
theorem own_d7_31 : decode jdk_52_method_21_code 31 = .ok (.bastore, 1) := by decide +kernel
theorem own_d7_32 : decode jdk_52_method_21_code 32 = .ok (.iinc 1 1, 3) := by decide +kernel
theorem own_d7_35 : decode jdk_52_method_21_code 35 = .ok (.iinc 3 1, 3) := by decide +kernel
theorem own_d7_38 : decode jdk_52_method_21_code 38 = .ok (.iinc 5 1, 3) := by decide +kernel
theorem own_d7_41 : decode jdk_52_method_21_code 41 = .ok (.goto (-38), 3) := by decide +kernel
theorem own_d7_44 : decode jdk_52_method_21_code 44 = .ok (.iload 4, 2) := by decide +kernel
theorem own_d7_46 : decode jdk_52_method_21_code 46 = .ok (.ireturn, 1) := by decide +kernel
theorem own_d8_0 : decode jdk_52_method_15_code 0 = .ok (.iload_n 1, 1) := by decide +kernel
theorem own_d8_1 : decode jdk_52_method_15_code 1 = .ok (.aload_n 0, 1) := by decide +kernel
theorem own_d8_2 : decode jdk_52_method_15_code 2 = .ok (.arraylength, 1) := by decide +kernel
theorem own_d8_3 : decode jdk_52_method_15_code 3 = .ok (.isub, 1) := by decide +kernel
theorem own_d8_4 : decode jdk_52_method_15_code 4 = .ok (.bipush 31, 2) := by decide +kernel
theorem own_d8_6 : decode jdk_52_method_15_code 6 = .ok (.iushr, 1) := by decide +kernel
theorem own_d8_7 : decode jdk_52_method_15_code 7 = .ok (.i2b, 1) := by decide +kernel
theorem own_d8_8 : decode jdk_52_method_15_code 8 = .ok (.ireturn, 1) := by decide +kernel
theorem own_d9_0 : decode prog_11_method_3_code 0 = .ok (.aload_n 0, 1) := by decide +kernel
theorem own_d9_1 : decode prog_11_method_3_code 1 = .ok (.aload_n 1, 1) := by decide +kernel
theorem own_d9_2 : decode prog_11_method_3_code 2 = .ok (.putfield 26, 3) := by decide +kernel
theorem own_d9_5 : decode prog_11_method_3_code 5 = .ok (.aload_n 0, 1) := by decide +kernel
theorem own_d9_6 : decode prog_11_method_3_code 6 = .ok (.aload_n 1, 1) := by decide +kernel
theorem own_d9_7 : decode prog_11_method_3_code 7 = .ok (.iload_n 2, 1) := by decide +kernel
theorem own_d9_8 : decode prog_11_method_3_code 8 = .ok (.iconst 1, 1) := by decide +kernel
theorem own_d9_9 : decode prog_11_method_3_code 9 = .ok (.iadd, 1) := by decide +kernel
theorem own_d9_10 : decode prog_11_method_3_code 10 = .ok (.aload_n 0, 1) := by decide +kernel
theorem own_d9_11 : decode prog_11_method_3_code 11 = .ok (.getfield 22, 3) := by decide +kernel
theorem own_d9_14 : decode prog_11_method_3_code 14 = .ok (.invokestatic 29, 3) := by decide +kernel
theorem own_d9_17 : decode prog_11_method_3_code 17 = .ok (.putfield 35, 3) := by decide +kernel
theorem own_d9_20 : decode prog_11_method_3_code 20 = .ok (.aload_n 0, 1) := by decide +kernel
theorem own_d9_21 : decode prog_11_method_3_code 21 = .ok (.aload_n 0, 1) := by decide +kernel
theorem own_d9_22 : decode prog_11_method_3_code 22 = .ok (.getfield 35, 3) := by decide +kernel
theorem own_d9_25 : decode prog_11_method_3_code 25 = .ok (.putfield 39, 3) := by decide +kernel
theorem own_d9_28 : decode prog_11_method_3_code 28 = .ok (.aload_n 0, 1) := by decide +kernel
theorem own_d9_29 : decode prog_11_method_3_code 29 = .ok (.areturn, 1) := by decide +kernel
theorem own_d10_0 : decode prog_6_method_24_code 0 = .ok (.iload_n 1, 1) := by decide +kernel
theorem own_d10_1 : decode prog_6_method_24_code 1 = .ok (.istore_n 3, 1) := by decide +kernel
theorem own_d10_2 : decode prog_6_method_24_code 2 = .ok (.aload_n 0, 1) := by decide +kernel
theorem own_d10_3 : decode prog_6_method_24_code 3 = .ok (.iload_n 3, 1) := by decide +kernel
theorem own_d10_4 : decode prog_6_method_24_code 4 = .ok (.invokevirtual 78, 3) := by decide +kernel
theorem own_d10_7 : decode prog_6_method_24_code 7 = .ok (.istore 4, 2) := by decide +kernel
theorem own_d10_9 : decode prog_6_method_24_code 9 = .ok (.aload_n 2, 1) := by decide +kernel
theorem own_d10_10 : decode prog_6_method_24_code 10 = .ok (.iload 4, 2) := by decide +kernel
theorem own_d10_12 : decode prog_6_method_24_code 12 = .ok (.invokevirtual 82, 3) := by decide +kernel
theorem own_d10_15 : decode prog_6_method_24_code 15 = .ok (.ifCond .ne 24, 3) := by decide +kernel
theorem own_d10_18 : decode prog_6_method_24_code 18 = .ok (.iload 4, 2) := by decide +kernel
theorem own_d10_20 : decode prog_6_method_24_code 20 = .ok (.bipush 62, 2) := by decide +kernel
theorem own_d10_22 : decode prog_6_method_24_code 22 = .ok (.if_icmp .eq 17, 3) := by decide +kernel
theorem own_d10_25 : decode prog_6_method_24_code 25 = .ok (.iload 4, 2) := by decide +kernel
theorem own_d10_27 : decode prog_6_method_24_code 27 = .ok (.bipush 47, 2) := by decide +kernel
theorem own_d10_29 : decode prog_6_method_24_code 29 = .ok (.if_icmp .eq 10, 3) := by decide +kernel
theorem own_d10_32 : decode prog_6_method_24_code 32 = .ok (.iload 4, 2) := by decide +kernel
theorem own_d10_34 : decode prog_6_method_24_code 34 = .ok (.bipush 61, 2) := by decide +kernel
theorem own_d10_36 : decode prog_6_method_24_code 36 = .ok (.if_icmp .ne 5, 3) := by decide +kernel
theorem own_d10_39 : decode prog_6_method_24_code 39 = .ok (.iload_n 3, 1) := by decide +kernel
theorem own_d10_40 : decode prog_6_method_24_code 40 = .ok (.ireturn, 1) := by decide +kernel
theorem own_d10_41 : decode prog_6_method_24_code 41 = .ok (.iinc 3 1, 3) := by decide +kernel
theorem own_d10_44 : decode prog_6_method_24_code 44 = .ok (.goto (-42), 3) := by decide +kernel
theorem own_d11_0 : decode jdk_42_method_56_code 0 = .ok (.aload_n 0, 1) := by decide +kernel
theorem own_d11_1 : decode jdk_42_method_56_code 1 = .ok (.invokevirtual 492, 3) := by decide +kernel
theorem own_d11_4 : decode jdk_42_method_56_code 4 = .ok (.ifCond .eq 12, 3) := by decide +kernel
theorem own_d11_7 : decode jdk_42_method_56_code 7 = .ok (.aload_n 0, 1) := by decide +kernel
theorem own_d11_8 : decode jdk_42_method_56_code 8 = .ok (.getfield 9, 3) := by decide +kernel
theorem own_d11_11 : decode jdk_42_method_56_code 11 = .ok (.iload_n 1, 1) := by decide +kernel
theorem own_d11_12 : decode jdk_42_method_56_code 12 = .ok (.invokestatic 495, 3) := by decide +kernel
theorem own_d11_15 : decode jdk_42_method_56_code 15 = .ok (.ireturn, 1) := by decide +kernel
theorem own_d11_16 : decode jdk_42_method_56_code 16 = .ok (.aload_n 0, 1) := by decide +kernel
theorem own_d11_17 : decode jdk_42_method_56_code 17 = .ok (.getfield 9, 3) := by decide +kernel
theorem own_d11_20 : decode jdk_42_method_56_code 20 = .ok (.iload_n 1, 1) := by decide +kernel
theorem own_d11_21 : decode jdk_42_method_56_code 21 = .ok (.invokestatic 498, 3) := by decide +kernel
theorem own_d11_24 : decode jdk_42_method_56_code 24 = .ok (.ireturn, 1) := by decide +kernel
theorem own_d12_0 : decode jdk_42_method_154_code 0 = .ok (.getstatic 38, 3) := by decide +kernel
theorem own_d12_3 : decode jdk_42_method_154_code 3 = .ok (.ifCond .eq 14, 3) := by decide +kernel
theorem own_d12_6 : decode jdk_42_method_154_code 6 = .ok (.aload_n 0, 1) := by decide +kernel
theorem own_d12_7 : decode jdk_42_method_154_code 7 = .ok (.getfield 15, 3) := by decide +kernel
theorem own_d12_10 : decode jdk_42_method_154_code 10 = .ok (.ifCond .ne 7, 3) := by decide +kernel
theorem own_d12_13 : decode jdk_42_method_154_code 13 = .ok (.iconst 1, 1) := by decide +kernel
theorem own_d12_14 : decode jdk_42_method_154_code 14 = .ok (.goto 4, 3) := by decide +kernel
theorem own_d12_17 : decode jdk_42_method_154_code 17 = .ok (.iconst 0, 1) := by decide +kernel
theorem own_d12_18 : decode jdk_42_method_154_code 18 = .ok (.ireturn, 1) := by decide +kernel
theorem own_d13_0 : decode jdk_43_method_2_code 0 = .ok (.iload_n 1, 1) := by decide +kernel
theorem own_d13_1 : decode jdk_43_method_2_code 1 = .ok (.aload_n 0, 1) := by decide +kernel
theorem own_d13_2 : decode jdk_43_method_2_code 2 = .ok (.arraylength, 1) := by decide +kernel
theorem own_d13_3 : decode jdk_43_method_2_code 3 = .ok (.invokestatic 9, 3) := by decide +kernel
theorem own_d13_6 : decode jdk_43_method_2_code 6 = .ok (.aload_n 0, 1) := by decide +kernel
theorem own_d13_7 : decode jdk_43_method_2_code 7 = .ok (.iload_n 1, 1) := by decide +kernel
theorem own_d13_8 : decode jdk_43_method_2_code 8 = .ok (.baload, 1) := by decide +kernel
theorem own_d13_9 : decode jdk_43_method_2_code 9 = .ok (.sipush 255, 3) := by decide +kernel
theorem own_d13_12 : decode jdk_43_method_2_code 12 = .ok (.iand, 1) := by decide +kernel
theorem own_d13_13 : decode jdk_43_method_2_code 13 = .ok (.i2c, 1) := by decide +kernel
theorem own_d13_14 : decode jdk_43_method_2_code 14 = .ok (.ireturn, 1) := by decide +kernel
theorem own_d14_0 : decode jdk_42_method_155_code 0 = .ok (.iload_n 0, 1) := by decide +kernel
theorem own_d14_1 : decode jdk_42_method_155_code 1 = .ok (.iload_n 1, 1) := by decide +kernel
theorem own_d14_2 : decode jdk_42_method_155_code 2 = .ok (.getstatic 1053, 3) := by decide +kernel
theorem own_d14_5 : decode jdk_42_method_155_code 5 = .ok (.invokestatic 1059, 3) := by decide +kernel
theorem own_d14_8 : decode jdk_42_method_155_code 8 = .ok (.pop, 1) := by decide +kernel
theorem own_d14_9 : decode jdk_42_method_155_code 9 = .ok (.return_, 1) := by decide +kernel
theorem own_d15_0 : decode jdk_41_method_11_code 0 = .ok (.iload_n 0, 1) := by decide +kernel
theorem own_d15_1 : decode jdk_41_method_11_code 1 = .ok (.ifCond .lt 8, 3) := by decide +kernel
theorem own_d15_4 : decode jdk_41_method_11_code 4 = .ok (.iload_n 0, 1) := by decide +kernel
theorem own_d15_5 : decode jdk_41_method_11_code 5 = .ok (.iload_n 1, 1) := by decide +kernel
theorem own_d15_6 : decode jdk_41_method_11_code 6 = .ok (.if_icmp .lt 10, 3) := by decide +kernel
theorem own_d15_16 : decode jdk_41_method_11_code 16 = .ok (.iload_n 0, 1) := by decide +kernel
theorem own_d15_17 : decode jdk_41_method_11_code 17 = .ok (.ireturn, 1) := by decide +kernel
theorem own_d16_0 : decode prog_31_method_5_code 0 = .ok (.iload_n 1, 1) := by decide +kernel
theorem own_d16_1 : decode prog_31_method_5_code 1 = .ok (.bipush 32, 2) := by decide +kernel
theorem own_d16_3 : decode prog_31_method_5_code 3 = .ok (.if_icmp .le 30, 3) := by decide +kernel
theorem own_d16_6 : decode prog_31_method_5_code 6 = .ok (.aload_n 0, 1) := by decide +kernel
theorem own_d16_7 : decode prog_31_method_5_code 7 = .ok (.getstatic 7, 3) := by decide +kernel
theorem own_d16_10 : decode prog_31_method_5_code 10 = .ok (.if_acmp .ne 21, 3) := by decide +kernel
theorem own_d16_13 : decode prog_31_method_5_code 13 = .ok (.iload_n 1, 1) := by decide +kernel
theorem own_d16_14 : decode prog_31_method_5_code 14 = .ok (.sipush 133, 3) := by decide +kernel
theorem own_d16_17 : decode prog_31_method_5_code 17 = .ok (.if_icmp .eq 10, 3) := by decide +kernel
theorem own_d16_20 : decode prog_31_method_5_code 20 = .ok (.iload_n 1, 1) := by decide +kernel
theorem own_d16_21 : decode prog_31_method_5_code 21 = .ok (.sipush 8232, 3) := by decide +kernel
theorem own_d16_24 : decode prog_31_method_5_code 24 = .ok (.if_icmp .ne 7, 3) := by decide +kernel
theorem own_d16_27 : decode prog_31_method_5_code 27 = .ok (.iconst 1, 1) := by decide +kernel
theorem own_d16_28 : decode prog_31_method_5_code 28 = .ok (.goto 4, 3) := by decide +kernel
theorem own_d16_31 : decode prog_31_method_5_code 31 = .ok (.iconst 0, 1) := by decide +kernel
theorem own_d16_32 : decode prog_31_method_5_code 32 = .ok (.ireturn, 1) := by decide +kernel
theorem own_d16_33 : decode prog_31_method_5_code 33 = .ok (.iload_n 1, 1) := by decide +kernel
theorem own_d16_34 : decode prog_31_method_5_code 34 = .ok (.bipush 32, 2) := by decide +kernel
theorem own_d16_36 : decode prog_31_method_5_code 36 = .ok (.if_icmp .eq 21, 3) := by decide +kernel
theorem own_d16_39 : decode prog_31_method_5_code 39 = .ok (.iload_n 1, 1) := by decide +kernel
theorem own_d16_40 : decode prog_31_method_5_code 40 = .ok (.bipush 9, 2) := by decide +kernel
theorem own_d16_42 : decode prog_31_method_5_code 42 = .ok (.if_icmp .eq 15, 3) := by decide +kernel
theorem own_d16_45 : decode prog_31_method_5_code 45 = .ok (.iload_n 1, 1) := by decide +kernel
theorem own_d16_46 : decode prog_31_method_5_code 46 = .ok (.bipush 10, 2) := by decide +kernel
theorem own_d16_48 : decode prog_31_method_5_code 48 = .ok (.if_icmp .eq 9, 3) := by decide +kernel
theorem own_d16_51 : decode prog_31_method_5_code 51 = .ok (.iload_n 1, 1) := by decide +kernel
theorem own_d16_52 : decode prog_31_method_5_code 52 = .ok (.bipush 13, 2) := by decide +kernel
theorem own_d16_54 : decode prog_31_method_5_code 54 = .ok (.if_icmp .ne 7, 3) := by decide +kernel
theorem own_d16_57 : decode prog_31_method_5_code 57 = .ok (.iconst 1, 1) := by decide +kernel
theorem own_d16_58 : decode prog_31_method_5_code 58 = .ok (.goto 4, 3) := by decide +kernel
theorem own_d16_61 : decode prog_31_method_5_code 61 = .ok (.iconst 0, 1) := by decide +kernel
theorem own_d16_62 : decode prog_31_method_5_code 62 = .ok (.ireturn, 1) := by decide +kernel
theorem own_d17_0 : decode prog_11_method_8_code 0 = .ok (.aload_n 0, 1) := by decide +kernel
theorem own_d17_1 : decode prog_11_method_8_code 1 = .ok (.invokevirtual 78, 3) := by decide +kernel
theorem own_d17_4 : decode prog_11_method_8_code 4 = .ok (.ifCond .eq 6, 3) := by decide +kernel
theorem own_d17_7 : decode prog_11_method_8_code 7 = .ok (.goto (-7), 3) := by decide +kernel
theorem own_d17_10 : decode prog_11_method_8_code 10 = .ok (.aload_n 0, 1) := by decide +kernel
theorem own_d17_11 : decode prog_11_method_8_code 11 = .ok (.invokevirtual 82, 3) := by decide +kernel
theorem own_d17_14 : decode prog_11_method_8_code 14 = .ok (.ifCond .eq 12, 3) := by decide +kernel
theorem own_d17_17 : decode prog_11_method_8_code 17 = .ok (.aload_n 0, 1) := by decide +kernel
theorem own_d17_18 : decode prog_11_method_8_code 18 = .ok (.getfield 35, 3) := by decide +kernel
theorem own_d17_21 : decode prog_11_method_8_code 21 = .ok (.iconst 2, 1) := by decide +kernel
theorem own_d17_22 : decode prog_11_method_8_code 22 = .ok (.iadd, 1) := by decide +kernel
theorem own_d17_23 : decode prog_11_method_8_code 23 = .ok (.goto 9, 3) := by decide +kernel
theorem own_d17_26 : decode prog_11_method_8_code 26 = .ok (.aload_n 0, 1) := by decide +kernel
theorem own_d17_27 : decode prog_11_method_8_code 27 = .ok (.getfield 35, 3) := by decide +kernel
theorem own_d17_30 : decode prog_11_method_8_code 30 = .ok (.iconst 1, 1) := by decide +kernel
theorem own_d17_31 : decode prog_11_method_8_code 31 = .ok (.iadd, 1) := by decide +kernel
theorem own_d17_32 : decode prog_11_method_8_code 32 = .ok (.ireturn, 1) := by decide +kernel
theorem own_d18_0 : decode prog_11_method_4_code 0 = .ok (.aload_n 0, 1) := by decide +kernel
theorem own_d18_1 : decode prog_11_method_4_code 1 = .ok (.aload_n 0, 1) := by decide +kernel
theorem own_d18_2 : decode prog_11_method_4_code 2 = .ok (.getfield 26, 3) := by decide +kernel
theorem own_d18_5 : decode prog_11_method_4_code 5 = .ok (.aload_n 0, 1) := by decide +kernel
theorem own_d18_6 : decode prog_11_method_4_code 6 = .ok (.getfield 35, 3) := by decide +kernel
theorem own_d18_9 : decode prog_11_method_4_code 9 = .ok (.aload_n 0, 1) := by decide +kernel
theorem own_d18_10 : decode prog_11_method_4_code 10 = .ok (.getfield 22, 3) := by decide +kernel
theorem own_d18_13 : decode prog_11_method_4_code 13 = .ok (.invokestatic 42, 3) := by decide +kernel
theorem own_d18_16 : decode prog_11_method_4_code 16 = .ok (.putfield 35, 3) := by decide +kernel
theorem own_d18_19 : decode prog_11_method_4_code 19 = .ok (.aload_n 0, 1) := by decide +kernel
theorem own_d18_20 : decode prog_11_method_4_code 20 = .ok (.getfield 26, 3) := by decide +kernel
theorem own_d18_23 : decode prog_11_method_4_code 23 = .ok (.aload_n 0, 1) := by decide +kernel
theorem own_d18_24 : decode prog_11_method_4_code 24 = .ok (.getfield 35, 3) := by decide +kernel
theorem own_d18_27 : decode prog_11_method_4_code 27 = .ok (.invokevirtual 45, 3) := by decide +kernel
theorem own_d18_30 : decode prog_11_method_4_code 30 = .ok (.istore_n 1, 1) := by decide +kernel
theorem own_d18_31 : decode prog_11_method_4_code 31 = .ok (.iload_n 1, 1) := by decide +kernel
theorem own_d18_32 : decode prog_11_method_4_code 32 = .ok (.bipush 62, 2) := by decide +kernel
theorem own_d18_34 : decode prog_11_method_4_code 34 = .ok (.if_icmp .eq 9, 3) := by decide +kernel
theorem own_d18_37 : decode prog_11_method_4_code 37 = .ok (.iload_n 1, 1) := by decide +kernel
theorem own_d18_38 : decode prog_11_method_4_code 38 = .ok (.bipush 47, 2) := by decide +kernel
theorem own_d18_40 : decode prog_11_method_4_code 40 = .ok (.if_icmp .ne 5, 3) := by decide +kernel
theorem own_d18_43 : decode prog_11_method_4_code 43 = .ok (.iconst 0, 1) := by decide +kernel
theorem own_d18_44 : decode prog_11_method_4_code 44 = .ok (.ireturn, 1) := by decide +kernel
theorem own_d18_45 : decode prog_11_method_4_code 45 = .ok (.aload_n 0, 1) := by decide +kernel
theorem own_d18_46 : decode prog_11_method_4_code 46 = .ok (.aload_n 0, 1) := by decide +kernel
theorem own_d18_47 : decode prog_11_method_4_code 47 = .ok (.getfield 35, 3) := by decide +kernel
theorem own_d18_50 : decode prog_11_method_4_code 50 = .ok (.putfield 51, 3) := by decide +kernel
theorem own_d18_53 : decode prog_11_method_4_code 53 = .ok (.aload_n 0, 1) := by decide +kernel
theorem own_d18_54 : decode prog_11_method_4_code 54 = .ok (.aload_n 0, 1) := by decide +kernel
theorem own_d18_55 : decode prog_11_method_4_code 55 = .ok (.getfield 26, 3) := by decide +kernel
theorem own_d18_58 : decode prog_11_method_4_code 58 = .ok (.aload_n 0, 1) := by decide +kernel
theorem own_d18_59 : decode prog_11_method_4_code 59 = .ok (.getfield 35, 3) := by decide +kernel
theorem own_d18_62 : decode prog_11_method_4_code 62 = .ok (.aload_n 0, 1) := by decide +kernel
theorem own_d18_63 : decode prog_11_method_4_code 63 = .ok (.getfield 22, 3) := by decide +kernel
theorem own_d18_66 : decode prog_11_method_4_code 66 = .ok (.invokestatic 29, 3) := by decide +kernel
theorem own_d18_69 : decode prog_11_method_4_code 69 = .ok (.putfield 54, 3) := by decide +kernel
theorem own_d18_72 : decode prog_11_method_4_code 72 = .ok (.aload_n 0, 1) := by decide +kernel
theorem own_d18_73 : decode prog_11_method_4_code 73 = .ok (.aload_n 0, 1) := by decide +kernel
theorem own_d18_74 : decode prog_11_method_4_code 74 = .ok (.getfield 26, 3) := by decide +kernel
theorem own_d18_77 : decode prog_11_method_4_code 77 = .ok (.aload_n 0, 1) := by decide +kernel
theorem own_d18_78 : decode prog_11_method_4_code 78 = .ok (.getfield 26, 3) := by decide +kernel
theorem own_d18_81 : decode prog_11_method_4_code 81 = .ok (.aload_n 0, 1) := by decide +kernel
theorem own_d18_82 : decode prog_11_method_4_code 82 = .ok (.getfield 54, 3) := by decide +kernel
theorem own_d18_85 : decode prog_11_method_4_code 85 = .ok (.aload_n 0, 1) := by decide +kernel
theorem own_d18_86 : decode prog_11_method_4_code 86 = .ok (.getfield 22, 3) := by decide +kernel
theorem own_d18_89 : decode prog_11_method_4_code 89 = .ok (.invokestatic 42, 3) := by decide +kernel
theorem own_d18_92 : decode prog_11_method_4_code 92 = .ok (.iconst 1, 1) := by decide +kernel
theorem own_d18_93 : decode prog_11_method_4_code 93 = .ok (.iadd, 1) := by decide +kernel
theorem own_d18_94 : decode prog_11_method_4_code 94 = .ok (.aload_n 0, 1) := by decide +kernel
theorem own_d18_95 : decode prog_11_method_4_code 95 = .ok (.getfield 22, 3) := by decide +kernel
theorem own_d18_98 : decode prog_11_method_4_code 98 = .ok (.invokestatic 42, 3) := by decide +kernel
theorem own_d18_101 : decode prog_11_method_4_code 101 = .ok (.putfield 35, 3) := by decide +kernel
theorem own_d18_104 : decode prog_11_method_4_code 104 = .ok (.aload_n 0, 1) := by decide +kernel
theorem own_d18_105 : decode prog_11_method_4_code 105 = .ok (.aload_n 0, 1) := by decide +kernel
theorem own_d18_106 : decode prog_11_method_4_code 106 = .ok (.getfield 35, 3) := by decide +kernel
theorem own_d18_109 : decode prog_11_method_4_code 109 = .ok (.iconst 1, 1) := by decide +kernel
theorem own_d18_110 : decode prog_11_method_4_code 110 = .ok (.iadd, 1) := by decide +kernel
theorem own_d18_111 : decode prog_11_method_4_code 111 = .ok (.putfield 56, 3) := by decide +kernel
theorem own_d18_114 : decode prog_11_method_4_code 114 = .ok (.aload_n 0, 1) := by decide +kernel
theorem own_d18_115 : decode prog_11_method_4_code 115 = .ok (.aload_n 0, 1) := by decide +kernel
theorem own_d18_116 : decode prog_11_method_4_code 116 = .ok (.getfield 26, 3) := by decide +kernel
theorem own_d18_119 : decode prog_11_method_4_code 119 = .ok (.aload_n 0, 1) := by decide +kernel
theorem own_d18_120 : decode prog_11_method_4_code 120 = .ok (.getfield 26, 3) := by decide +kernel
theorem own_d18_123 : decode prog_11_method_4_code 123 = .ok (.aload_n 0, 1) := by decide +kernel
theorem own_d18_124 : decode prog_11_method_4_code 124 = .ok (.getfield 35, 3) := by decide +kernel
theorem own_d18_127 : decode prog_11_method_4_code 127 = .ok (.invokevirtual 45, 3) := by decide +kernel
theorem own_d18_130 : decode prog_11_method_4_code 130 = .ok (.aload_n 0, 1) := by decide +kernel
theorem own_d18_131 : decode prog_11_method_4_code 131 = .ok (.getfield 56, 3) := by decide +kernel
theorem own_d18_134 : decode prog_11_method_4_code 134 = .ok (.invokestatic 59, 3) := by decide +kernel
theorem own_d18_137 : decode prog_11_method_4_code 137 = .ok (.putfield 35, 3) := by decide +kernel
theorem own_d18_140 : decode prog_11_method_4_code 140 = .ok (.aload_n 0, 1) := by decide +kernel
theorem own_d18_141 : decode prog_11_method_4_code 141 = .ok (.aload_n 0, 1) := by decide +kernel
theorem own_d18_142 : decode prog_11_method_4_code 142 = .ok (.getfield 35, 3) := by decide +kernel
theorem own_d18_145 : decode prog_11_method_4_code 145 = .ok (.iconst 1, 1) := by decide +kernel
theorem own_d18_146 : decode prog_11_method_4_code 146 = .ok (.isub, 1) := by decide +kernel
theorem own_d18_147 : decode prog_11_method_4_code 147 = .ok (.putfield 63, 3) := by decide +kernel
theorem own_d18_150 : decode prog_11_method_4_code 150 = .ok (.aload_n 0, 1) := by decide +kernel
theorem own_d18_151 : decode prog_11_method_4_code 151 = .ok (.aload_n 0, 1) := by decide +kernel
theorem own_d18_152 : decode prog_11_method_4_code 152 = .ok (.getfield 35, 3) := by decide +kernel
theorem own_d18_155 : decode prog_11_method_4_code 155 = .ok (.putfield 39, 3) := by decide +kernel
theorem own_d18_158 : decode prog_11_method_4_code 158 = .ok (.iconst 1, 1) := by decide +kernel
theorem own_d18_159 : decode prog_11_method_4_code 159 = .ok (.ireturn, 1) := by decide +kernel
theorem own_d19_0 : decode prog_6_method_23_code 0 = .ok (.iload_n 1, 1) := by decide +kernel
theorem own_d19_1 : decode prog_6_method_23_code 1 = .ok (.istore_n 3, 1) := by decide +kernel
theorem own_d19_2 : decode prog_6_method_23_code 2 = .ok (.iload_n 3, 1) := by decide +kernel
theorem own_d19_3 : decode prog_6_method_23_code 3 = .ok (.aload_n 0, 1) := by decide +kernel
theorem own_d19_4 : decode prog_6_method_23_code 4 = .ok (.invokevirtual 56, 3) := by decide +kernel
theorem own_d19_7 : decode prog_6_method_23_code 7 = .ok (.if_icmp .ge 21, 3) := by decide +kernel
theorem own_d19_10 : decode prog_6_method_23_code 10 = .ok (.aload_n 2, 1) := by decide +kernel
theorem own_d19_11 : decode prog_6_method_23_code 11 = .ok (.aload_n 0, 1) := by decide +kernel
theorem own_d19_12 : decode prog_6_method_23_code 12 = .ok (.iload_n 3, 1) := by decide +kernel
theorem own_d19_13 : decode prog_6_method_23_code 13 = .ok (.invokevirtual 78, 3) := by decide +kernel
theorem own_d19_16 : decode prog_6_method_23_code 16 = .ok (.invokevirtual 82, 3) := by decide +kernel
theorem own_d19_19 : decode prog_6_method_23_code 19 = .ok (.ifCond .eq 9, 3) := by decide +kernel
theorem own_d19_22 : decode prog_6_method_23_code 22 = .ok (.iinc 3 1, 3) := by decide +kernel
theorem own_d19_25 : decode prog_6_method_23_code 25 = .ok (.goto (-23), 3) := by decide +kernel
theorem own_d19_28 : decode prog_6_method_23_code 28 = .ok (.iload_n 3, 1) := by decide +kernel
theorem own_d19_29 : decode prog_6_method_23_code 29 = .ok (.ireturn, 1) := by decide +kernel
theorem own_d20_0 : decode jdk_42_method_54_code 0 = .ok (.aload_n 0, 1) := by decide +kernel
theorem own_d20_1 : decode jdk_42_method_54_code 1 = .ok (.getfield 9, 3) := by decide +kernel
theorem own_d20_4 : decode jdk_42_method_54_code 4 = .ok (.arraylength, 1) := by decide +kernel
theorem own_d20_5 : decode jdk_42_method_54_code 5 = .ok (.aload_n 0, 1) := by decide +kernel
theorem own_d20_6 : decode jdk_42_method_54_code 6 = .ok (.invokevirtual 335, 3) := by decide +kernel
theorem own_d20_9 : decode jdk_42_method_54_code 9 = .ok (.ishr, 1) := by decide +kernel
theorem own_d20_10 : decode jdk_42_method_54_code 10 = .ok (.ireturn, 1) := by decide +kernel
theorem own_d21_0 : decode jdk_42_method_152_code 0 = .ok (.getstatic 38, 3) := by decide +kernel
theorem own_d21_3 : decode jdk_42_method_152_code 3 = .ok (.ifCond .eq 10, 3) := by decide +kernel
theorem own_d21_6 : decode jdk_42_method_152_code 6 = .ok (.aload_n 0, 1) := by decide +kernel
theorem own_d21_7 : decode jdk_42_method_152_code 7 = .ok (.getfield 15, 3) := by decide +kernel
theorem own_d21_10 : decode jdk_42_method_152_code 10 = .ok (.goto 4, 3) := by decide +kernel
theorem own_d21_14 : decode jdk_42_method_152_code 14 = .ok (.ireturn, 1) := by decide +kernel
theorem own_d22_0 : decode prog_11_method_9_code 0 = .ok (.aload_n 0, 1) := by decide +kernel
theorem own_d22_1 : decode prog_11_method_9_code 1 = .ok (.getfield 26, 3) := by decide +kernel
theorem own_d22_4 : decode prog_11_method_9_code 4 = .ok (.aload_n 0, 1) := by decide +kernel
theorem own_d22_5 : decode prog_11_method_9_code 5 = .ok (.getfield 35, 3) := by decide +kernel
theorem own_d22_8 : decode prog_11_method_9_code 8 = .ok (.invokevirtual 45, 3) := by decide +kernel
theorem own_d22_11 : decode prog_11_method_9_code 11 = .ok (.bipush 47, 2) := by decide +kernel
theorem own_d22_13 : decode prog_11_method_9_code 13 = .ok (.if_icmp .ne 7, 3) := by decide +kernel
theorem own_d22_16 : decode prog_11_method_9_code 16 = .ok (.iconst 1, 1) := by decide +kernel
theorem own_d22_17 : decode prog_11_method_9_code 17 = .ok (.goto 4, 3) := by decide +kernel
theorem own_d22_20 : decode prog_11_method_9_code 20 = .ok (.iconst 0, 1) := by decide +kernel
theorem own_d22_21 : decode prog_11_method_9_code 21 = .ok (.ireturn, 1) := by decide +kernel
theorem own_d23_0 : decode method_2_code 0 = .ok (.iload_n 0, 1) := by decide +kernel
theorem own_d23_1 : decode method_2_code 1 = .ok (.ldc 7, 2) := by decide +kernel
theorem own_d23_3 : decode method_2_code 3 = .ok (.iand, 1) := by decide +kernel
theorem own_d23_4 : decode method_2_code 4 = .ok (.iload_n 1, 1) := by decide +kernel
theorem own_d23_5 : decode method_2_code 5 = .ok (.ifCond .eq 8, 3) := by decide +kernel
theorem own_d23_8 : decode method_2_code 8 = .ok (.bipush 6, 2) := by decide +kernel
theorem own_d23_10 : decode method_2_code 10 = .ok (.goto 4, 3) := by decide +kernel
theorem own_d23_13 : decode method_2_code 13 = .ok (.iconst 4, 1) := by decide +kernel
theorem own_d23_14 : decode method_2_code 14 = .ok (.irem, 1) := by decide +kernel
theorem own_d23_15 : decode method_2_code 15 = .ok (.istore_n 2, 1) := by decide +kernel
theorem own_d23_16 : decode method_2_code 16 = .ok (.iload_n 2, 1) := by decide +kernel
theorem own_d23_17 : decode method_2_code 17 = .ok (.ifCond .ne 6, 3) := by decide +kernel
theorem own_d23_20 : decode method_2_code 20 = .ok (.bipush 32, 2) := by decide +kernel
theorem own_d23_22 : decode method_2_code 22 = .ok (.ireturn, 1) := by decide +kernel
theorem own_d23_23 : decode method_2_code 23 = .ok (.iload_n 2, 1) := by decide +kernel
theorem own_d23_24 : decode method_2_code 24 = .ok (.iconst 1, 1) := by decide +kernel
theorem own_d23_25 : decode method_2_code 25 = .ok (.if_icmp .ne 6, 3) := by decide +kernel
theorem own_d23_28 : decode method_2_code 28 = .ok (.bipush 9, 2) := by decide +kernel
theorem own_d23_30 : decode method_2_code 30 = .ok (.ireturn, 1) := by decide +kernel
theorem own_d23_31 : decode method_2_code 31 = .ok (.iload_n 2, 1) := by decide +kernel
theorem own_d23_32 : decode method_2_code 32 = .ok (.iconst 2, 1) := by decide +kernel
theorem own_d23_33 : decode method_2_code 33 = .ok (.if_icmp .ne 6, 3) := by decide +kernel
theorem own_d23_36 : decode method_2_code 36 = .ok (.bipush 10, 2) := by decide +kernel
theorem own_d23_38 : decode method_2_code 38 = .ok (.ireturn, 1) := by decide +kernel
theorem own_d23_39 : decode method_2_code 39 = .ok (.iload_n 2, 1) := by decide +kernel
theorem own_d23_40 : decode method_2_code 40 = .ok (.iconst 3, 1) := by decide +kernel
theorem own_d23_41 : decode method_2_code 41 = .ok (.if_icmp .ne 6, 3) := by decide +kernel
theorem own_d23_44 : decode method_2_code 44 = .ok (.bipush 13, 2) := by decide +kernel
theorem own_d23_46 : decode method_2_code 46 = .ok (.ireturn, 1) := by decide +kernel
theorem own_d23_47 : decode method_2_code 47 = .ok (.iload_n 2, 1) := by decide +kernel
theorem own_d23_48 : decode method_2_code 48 = .ok (.iconst 4, 1) := by decide +kernel
theorem own_d23_49 : decode method_2_code 49 = .ok (.if_icmp .ne 7, 3) := by decide +kernel
theorem own_d23_52 : decode method_2_code 52 = .ok (.sipush 133, 3) := by decide +kernel
theorem own_d23_55 : decode method_2_code 55 = .ok (.ireturn, 1) := by decide +kernel
theorem own_d23_56 : decode method_2_code 56 = .ok (.sipush 8232, 3) := by decide +kernel
theorem own_d23_59 : decode method_2_code 59 = .ok (.ireturn, 1) := by decide +kernel
theorem own_d24_0 : decode prog_6_method_16_code 0 = .ok (.aload_n 0, 1) := by decide +kernel
theorem own_d24_1 : decode prog_6_method_16_code 1 = .ok (.iload_n 1, 1) := by decide +kernel
theorem own_d24_2 : decode prog_6_method_16_code 2 = .ok (.iload_n 2, 1) := by decide +kernel
theorem own_d24_3 : decode prog_6_method_16_code 3 = .ok (.invokevirtual 140, 3) := by decide +kernel
theorem own_d24_6 : decode prog_6_method_16_code 6 = .ok (.istore_n 3, 1) := by decide +kernel
theorem own_d24_7 : decode prog_6_method_16_code 7 = .ok (.iload_n 3, 1) := by decide +kernel
theorem own_d24_8 : decode prog_6_method_16_code 8 = .ok (.ifCond .ge 12, 3) := by decide +kernel
theorem own_d24_20 : decode prog_6_method_16_code 20 = .ok (.iload_n 3, 1) := by decide +kernel
theorem own_d24_21 : decode prog_6_method_16_code 21 = .ok (.iconst 1, 1) := by decide +kernel
theorem own_d24_22 : decode prog_6_method_16_code 22 = .ok (.iadd, 1) := by decide +kernel
theorem own_d24_23 : decode prog_6_method_16_code 23 = .ok (.ireturn, 1) := by decide +kernel
theorem own_d25_0 : decode jdk_42_method_80_code 0 = .ok (.aload_n 0, 1) := by decide +kernel
theorem own_d25_1 : decode jdk_42_method_80_code 1 = .ok (.invokevirtual 492, 3) := by decide +kernel
theorem own_d25_4 : decode jdk_42_method_80_code 4 = .ok (.ifCond .eq 19, 3) := by decide +kernel
theorem own_d25_7 : decode jdk_42_method_80_code 7 = .ok (.aload_n 0, 1) := by decide +kernel
theorem own_d25_8 : decode jdk_42_method_80_code 8 = .ok (.getfield 9, 3) := by decide +kernel
theorem own_d25_11 : decode jdk_42_method_80_code 11 = .ok (.iload_n 1, 1) := by decide +kernel
theorem own_d25_12 : decode jdk_42_method_80_code 12 = .ok (.iload_n 2, 1) := by decide +kernel
theorem own_d25_13 : decode jdk_42_method_80_code 13 = .ok (.aload_n 0, 1) := by decide +kernel
theorem own_d25_14 : decode jdk_42_method_80_code 14 = .ok (.invokevirtual 505, 3) := by decide +kernel
theorem own_d25_17 : decode jdk_42_method_80_code 17 = .ok (.invokestatic 637, 3) := by decide +kernel
theorem own_d25_20 : decode jdk_42_method_80_code 20 = .ok (.goto 16, 3) := by decide +kernel
theorem own_d25_23 : decode jdk_42_method_80_code 23 = .ok (.aload_n 0, 1) := by decide +kernel
theorem own_d25_24 : decode jdk_42_method_80_code 24 = .ok (.getfield 9, 3) := by decide +kernel
theorem own_d25_27 : decode jdk_42_method_80_code 27 = .ok (.iload_n 1, 1) := by decide +kernel
theorem own_d25_28 : decode jdk_42_method_80_code 28 = .ok (.iload_n 2, 1) := by decide +kernel
theorem own_d25_29 : decode jdk_42_method_80_code 29 = .ok (.aload_n 0, 1) := by decide +kernel
theorem own_d25_30 : decode jdk_42_method_80_code 30 = .ok (.invokevirtual 505, 3) := by decide +kernel
theorem own_d25_33 : decode jdk_42_method_80_code 33 = .ok (.invokestatic 640, 3) := by decide +kernel
theorem own_d25_36 : decode jdk_42_method_80_code 36 = .ok (.ireturn, 1) := by decide +kernel
theorem own_d26_0 : decode jdk_43_method_22_code 0 = .ok (.iload_n 1, 1) := by decide +kernel
theorem own_d26_1 : decode jdk_43_method_22_code 1 = .ok (.invokestatic 88, 3) := by decide +kernel
theorem own_d26_4 : decode jdk_43_method_22_code 4 = .ok (.ifCond .ne 5, 3) := by decide +kernel
theorem own_d26_9 : decode jdk_43_method_22_code 9 = .ok (.iload_n 2, 1) := by decide +kernel
theorem own_d26_10 : decode jdk_43_method_22_code 10 = .ok (.iconst 0, 1) := by decide +kernel
theorem own_d26_11 : decode jdk_43_method_22_code 11 = .ok (.invokestatic 92, 3) := by decide +kernel
theorem own_d26_14 : decode jdk_43_method_22_code 14 = .ok (.istore_n 2, 1) := by decide +kernel
theorem own_d26_15 : decode jdk_43_method_22_code 15 = .ok (.iload_n 3, 1) := by decide +kernel
theorem own_d26_16 : decode jdk_43_method_22_code 16 = .ok (.aload_n 0, 1) := by decide +kernel
theorem own_d26_17 : decode jdk_43_method_22_code 17 = .ok (.arraylength, 1) := by decide +kernel
theorem own_d26_18 : decode jdk_43_method_22_code 18 = .ok (.invokestatic 38, 3) := by decide +kernel
theorem own_d26_21 : decode jdk_43_method_22_code 21 = .ok (.istore_n 3, 1) := by decide +kernel
theorem own_d26_22 : decode jdk_43_method_22_code 22 = .ok (.iload_n 2, 1) := by decide +kernel
theorem own_d26_23 : decode jdk_43_method_22_code 23 = .ok (.iload_n 3, 1) := by decide +kernel
theorem own_d26_24 : decode jdk_43_method_22_code 24 = .ok (.if_icmp .lt 5, 3) := by decide +kernel
theorem own_d26_29 : decode jdk_43_method_22_code 29 = .ok (.aload_n 0, 1) := by decide +kernel
theorem own_d26_30 : decode jdk_43_method_22_code 30 = .ok (.iload_n 1, 1) := by decide +kernel
theorem own_d26_31 : decode jdk_43_method_22_code 31 = .ok (.iload_n 2, 1) := by decide +kernel
theorem own_d26_32 : decode jdk_43_method_22_code 32 = .ok (.iload_n 3, 1) := by decide +kernel
theorem own_d26_33 : decode jdk_43_method_22_code 33 = .ok (.invokestatic 95, 3) := by decide +kernel
theorem own_d26_36 : decode jdk_43_method_22_code 36 = .ok (.ireturn, 1) := by decide +kernel
theorem own_d27_0 : decode jdk_43_method_4_code 0 = .ok (.iload_n 0, 1) := by decide +kernel
theorem own_d27_1 : decode jdk_43_method_4_code 1 = .ok (.ifCond .lt 14, 3) := by decide +kernel
theorem own_d27_4 : decode jdk_43_method_4_code 4 = .ok (.iload_n 0, 1) := by decide +kernel
theorem own_d27_5 : decode jdk_43_method_4_code 5 = .ok (.sipush 255, 3) := by decide +kernel
theorem own_d27_8 : decode jdk_43_method_4_code 8 = .ok (.if_icmp .gt 7, 3) := by decide +kernel
theorem own_d27_11 : decode jdk_43_method_4_code 11 = .ok (.iconst 1, 1) := by decide +kernel
theorem own_d27_12 : decode jdk_43_method_4_code 12 = .ok (.goto 4, 3) := by decide +kernel
theorem own_d27_16 : decode jdk_43_method_4_code 16 = .ok (.ireturn, 1) := by decide +kernel
theorem own_d28_0 : decode jdk_29_method_65_code 0 = .ok (.iload_n 0, 1) := by decide +kernel
theorem own_d28_1 : decode jdk_29_method_65_code 1 = .ok (.iload_n 1, 1) := by decide +kernel
theorem own_d28_2 : decode jdk_29_method_65_code 2 = .ok (.if_icmp .lt 7, 3) := by decide +kernel
theorem own_d28_5 : decode jdk_29_method_65_code 5 = .ok (.iload_n 0, 1) := by decide +kernel
theorem own_d28_6 : decode jdk_29_method_65_code 6 = .ok (.goto 4, 3) := by decide +kernel
theorem own_d28_10 : decode jdk_29_method_65_code 10 = .ok (.ireturn, 1) := by decide +kernel
theorem own_d29_0 : decode jdk_29_method_69_code 0 = .ok (.iload_n 0, 1) := by decide +kernel
theorem own_d29_1 : decode jdk_29_method_69_code 1 = .ok (.iload_n 1, 1) := by decide +kernel
theorem own_d29_2 : decode jdk_29_method_69_code 2 = .ok (.if_icmp .gt 7, 3) := by decide +kernel
theorem own_d29_5 : decode jdk_29_method_69_code 5 = .ok (.iload_n 0, 1) := by decide +kernel
theorem own_d29_6 : decode jdk_29_method_69_code 6 = .ok (.goto 4, 3) := by decide +kernel
theorem own_d29_10 : decode jdk_29_method_69_code 10 = .ok (.ireturn, 1) := by decide +kernel
theorem own_d30_0 : decode jdk_43_method_23_code 0 = .ok (.iload_n 1, 1) := by decide +kernel
theorem own_d30_1 : decode jdk_43_method_23_code 1 = .ok (.i2b, 1) := by decide +kernel
theorem own_d30_2 : decode jdk_43_method_23_code 2 = .ok (.istore 4, 2) := by decide +kernel
theorem own_d30_4 : decode jdk_43_method_23_code 4 = .ok (.iload_n 2, 1) := by decide +kernel
theorem own_d30_5 : decode jdk_43_method_23_code 5 = .ok (.istore 5, 2) := by decide +kernel
theorem own_d30_7 : decode jdk_43_method_23_code 7 = .ok (.iload 5, 2) := by decide +kernel
theorem own_d30_9 : decode jdk_43_method_23_code 9 = .ok (.iload_n 3, 1) := by decide +kernel
theorem own_d30_10 : decode jdk_43_method_23_code 10 = .ok (.if_icmp .ge 21, 3) := by decide +kernel
theorem own_d30_13 : decode jdk_43_method_23_code 13 = .ok (.aload_n 0, 1) := by decide +kernel
theorem own_d30_14 : decode jdk_43_method_23_code 14 = .ok (.iload 5, 2) := by decide +kernel
theorem own_d30_16 : decode jdk_43_method_23_code 16 = .ok (.baload, 1) := by decide +kernel
theorem own_d30_17 : decode jdk_43_method_23_code 17 = .ok (.iload 4, 2) := by decide +kernel
theorem own_d30_19 : decode jdk_43_method_23_code 19 = .ok (.if_icmp .ne 6, 3) := by decide +kernel
theorem own_d30_22 : decode jdk_43_method_23_code 22 = .ok (.iload 5, 2) := by decide +kernel
theorem own_d30_24 : decode jdk_43_method_23_code 24 = .ok (.ireturn, 1) := by decide +kernel
theorem own_d30_25 : decode jdk_43_method_23_code 25 = .ok (.iinc 5 1, 3) := by decide +kernel
theorem own_d30_28 : decode jdk_43_method_23_code 28 = .ok (.goto (-21), 3) := by decide +kernel
theorem own_d31_0 : decode jdk_52_method_14_code 0 = .ok (.iload_n 2, 1) := by decide +kernel
theorem own_d31_1 : decode jdk_52_method_14_code 1 = .ok (.invokestatic 107, 3) := by decide +kernel
theorem own_d31_4 : decode jdk_52_method_14_code 4 = .ok (.astore_n 3, 1) := by decide +kernel
theorem own_d31_5 : decode jdk_52_method_14_code 5 = .ok (.iconst 0, 1) := by decide +kernel
theorem own_d31_6 : decode jdk_52_method_14_code 6 = .ok (.istore 4, 2) := by decide +kernel
theorem own_d31_8 : decode jdk_52_method_14_code 8 = .ok (.iload 4, 2) := by decide +kernel
theorem own_d31_10 : decode jdk_52_method_14_code 10 = .ok (.iload_n 2, 1) := by decide +kernel
theorem own_d31_11 : decode jdk_52_method_14_code 11 = .ok (.if_icmp .ge 21, 3) := by decide +kernel
theorem own_d31_14 : decode jdk_52_method_14_code 14 = .ok (.aload_n 3, 1) := by decide +kernel
theorem own_d31_15 : decode jdk_52_method_14_code 15 = .ok (.iload 4, 2) := by decide +kernel
theorem own_d31_17 : decode jdk_52_method_14_code 17 = .ok (.aload_n 0, 1) := by decide +kernel
theorem own_d31_18 : decode jdk_52_method_14_code 18 = .ok (.iload_n 1, 1) := by decide +kernel
theorem own_d31_19 : decode jdk_52_method_14_code 19 = .ok (.caload, 1) := by decide +kernel
theorem own_d31_20 : decode jdk_52_method_14_code 20 = .ok (.invokestatic 111, 3) := by decide +kernel
theorem own_d31_23 : decode jdk_52_method_14_code 23 = .ok (.iinc 1 1, 3) := by decide +kernel
theorem own_d31_26 : decode jdk_52_method_14_code 26 = .ok (.iinc 4 1, 3) := by decide +kernel
theorem own_d31_29 : decode jdk_52_method_14_code 29 = .ok (.goto (-21), 3) := by decide +kernel
theorem own_d31_32 : decode jdk_52_method_14_code 32 = .ok (.aload_n 3, 1) := by decide +kernel
theorem own_d31_33 : decode jdk_52_method_14_code 33 = .ok (.areturn, 1) := by decide +kernel
theorem own_d32_0 : decode jdk_52_method_2_code 0 = .ok (.iload_n 0, 1) := by decide +kernel
theorem own_d32_1 : decode jdk_52_method_2_code 1 = .ok (.invokestatic 11, 3) := by decide +kernel
theorem own_d32_4 : decode jdk_52_method_2_code 4 = .ok (.newarray .byte, 2) := by decide +kernel
theorem own_d32_6 : decode jdk_52_method_2_code 6 = .ok (.areturn, 1) := by decide +kernel
theorem own_d33_0 : decode jdk_52_method_3_code 0 = .ok (.iload_n 0, 1) := by decide +kernel
theorem own_d33_1 : decode jdk_52_method_3_code 1 = .ok (.ifCond .ge 11, 3) := by decide +kernel
theorem own_d33_12 : decode jdk_52_method_3_code 12 = .ok (.iload_n 0, 1) := by decide +kernel
theorem own_d33_13 : decode jdk_52_method_3_code 13 = .ok (.ldc 20, 2) := by decide +kernel
theorem own_d33_15 : decode jdk_52_method_3_code 15 = .ok (.if_icmp .lt 40, 3) := by decide +kernel
theorem own_d33_55 : decode jdk_52_method_3_code 55 = .ok (.iload_n 0, 1) := by decide +kernel
theorem own_d33_56 : decode jdk_52_method_3_code 56 = .ok (.iconst 1, 1) := by decide +kernel
theorem own_d33_57 : decode jdk_52_method_3_code 57 = .ok (.ishl, 1) := by decide +kernel
theorem own_d33_58 : decode jdk_52_method_3_code 58 = .ok (.ireturn, 1) := by decide +kernel
theorem own_d34_0 : decode jdk_52_method_4_code 0 = .ok (.getstatic 44, 3) := by decide +kernel
theorem own_d34_3 : decode jdk_52_method_4_code 3 = .ok (.ifCond .ne 25, 3) := by decide +kernel
theorem own_d34_28 : decode jdk_52_method_4_code 28 = .ok (.iload_n 1, 1) := by decide +kernel
theorem own_d34_29 : decode jdk_52_method_4_code 29 = .ok (.iconst 1, 1) := by decide +kernel
theorem own_d34_30 : decode jdk_52_method_4_code 30 = .ok (.ishl, 1) := by decide +kernel
theorem own_d34_31 : decode jdk_52_method_4_code 31 = .ok (.istore_n 1, 1) := by decide +kernel
theorem own_d34_32 : decode jdk_52_method_4_code 32 = .ok (.aload_n 0, 1) := by decide +kernel
theorem own_d34_33 : decode jdk_52_method_4_code 33 = .ok (.iload_n 1, 1) := by decide +kernel
theorem own_d34_34 : decode jdk_52_method_4_code 34 = .ok (.iinc 1 1, 3) := by decide +kernel
theorem own_d34_37 : decode jdk_52_method_4_code 37 = .ok (.iload_n 2, 1) := by decide +kernel
theorem own_d34_38 : decode jdk_52_method_4_code 38 = .ok (.getstatic 59, 3) := by decide +kernel
theorem own_d34_41 : decode jdk_52_method_4_code 41 = .ok (.ishr, 1) := by decide +kernel
theorem own_d34_42 : decode jdk_52_method_4_code 42 = .ok (.i2b, 1) := by decide +kernel
theorem own_d34_43 : decode jdk_52_method_4_code 43 = .ok (.bastore, 1) := by decide +kernel
theorem own_d34_44 : decode jdk_52_method_4_code 44 = .ok (.aload_n 0, 1) := by decide +kernel
theorem own_d34_45 : decode jdk_52_method_4_code 45 = .ok (.iload_n 1, 1) := by decide +kernel
theorem own_d34_46 : decode jdk_52_method_4_code 46 = .ok (.iload_n 2, 1) := by decide +kernel
theorem own_d34_47 : decode jdk_52_method_4_code 47 = .ok (.getstatic 63, 3) := by decide +kernel
theorem own_d34_50 : decode jdk_52_method_4_code 50 = .ok (.ishr, 1) := by decide +kernel
theorem own_d34_51 : decode jdk_52_method_4_code 51 = .ok (.i2b, 1) := by decide +kernel
theorem own_d34_52 : decode jdk_52_method_4_code 52 = .ok (.bastore, 1) := by decide +kernel
theorem own_d34_53 : decode jdk_52_method_4_code 53 = .ok (.return_, 1) := by decide +kernel
theorem own_d35_0 : decode jdk_52_method_5_code 0 = .ok (.getstatic 44, 3) := by decide +kernel
theorem own_d35_3 : decode jdk_52_method_5_code 3 = .ok (.ifCond .ne 25, 3) := by decide +kernel
theorem own_d35_28 : decode jdk_52_method_5_code 28 = .ok (.iload_n 1, 1) := by decide +kernel
theorem own_d35_29 : decode jdk_52_method_5_code 29 = .ok (.iconst 1, 1) := by decide +kernel
theorem own_d35_30 : decode jdk_52_method_5_code 30 = .ok (.ishl, 1) := by decide +kernel
theorem own_d35_31 : decode jdk_52_method_5_code 31 = .ok (.istore_n 1, 1) := by decide +kernel
theorem own_d35_32 : decode jdk_52_method_5_code 32 = .ok (.aload_n 0, 1) := by decide +kernel
theorem own_d35_33 : decode jdk_52_method_5_code 33 = .ok (.iload_n 1, 1) := by decide +kernel
theorem own_d35_34 : decode jdk_52_method_5_code 34 = .ok (.iinc 1 1, 3) := by decide +kernel
theorem own_d35_37 : decode jdk_52_method_5_code 37 = .ok (.baload, 1) := by decide +kernel
theorem own_d35_38 : decode jdk_52_method_5_code 38 = .ok (.sipush 255, 3) := by decide +kernel
theorem own_d35_41 : decode jdk_52_method_5_code 41 = .ok (.iand, 1) := by decide +kernel
theorem own_d35_42 : decode jdk_52_method_5_code 42 = .ok (.getstatic 59, 3) := by decide +kernel
theorem own_d35_45 : decode jdk_52_method_5_code 45 = .ok (.ishl, 1) := by decide +kernel
theorem own_d35_46 : decode jdk_52_method_5_code 46 = .ok (.aload_n 0, 1) := by decide +kernel
theorem own_d35_47 : decode jdk_52_method_5_code 47 = .ok (.iload_n 1, 1) := by decide +kernel
theorem own_d35_48 : decode jdk_52_method_5_code 48 = .ok (.baload, 1) := by decide +kernel
theorem own_d35_49 : decode jdk_52_method_5_code 49 = .ok (.sipush 255, 3) := by decide +kernel
theorem own_d35_52 : decode jdk_52_method_5_code 52 = .ok (.iand, 1) := by decide +kernel
theorem own_d35_53 : decode jdk_52_method_5_code 53 = .ok (.getstatic 63, 3) := by decide +kernel
theorem own_d35_56 : decode jdk_52_method_5_code 56 = .ok (.ishl, 1) := by decide +kernel
theorem own_d35_57 : decode jdk_52_method_5_code 57 = .ok (.ior, 1) := by decide +kernel
theorem own_d35_58 : decode jdk_52_method_5_code 58 = .ok (.i2c, 1) := by decide +kernel
theorem own_d35_59 : decode jdk_52_method_5_code 59 = .ok (.ireturn, 1) := by decide +kernel
theorem own_d36_0 : decode jdk_52_method_83_code 0 = .ok (.iload_n 1, 1) := by decide +kernel
theorem own_d36_1 : decode jdk_52_method_83_code 1 = .ok (.aload_n 0, 1) := by decide +kernel
theorem own_d36_2 : decode jdk_52_method_83_code 2 = .ok (.invokestatic 67, 3) := by decide +kernel
theorem own_d36_5 : decode jdk_52_method_83_code 5 = .ok (.aload_n 0, 1) := by decide +kernel
theorem own_d36_6 : decode jdk_52_method_83_code 6 = .ok (.iload_n 1, 1) := by decide +kernel
theorem own_d36_7 : decode jdk_52_method_83_code 7 = .ok (.invokestatic 71, 3) := by decide +kernel
theorem own_d36_10 : decode jdk_52_method_83_code 10 = .ok (.ireturn, 1) := by decide +kernel
theorem own_d37_0 : decode jdk_52_method_91_code 0 = .ok (.iload_n 0, 1) := by decide +kernel
theorem own_d37_1 : decode jdk_52_method_91_code 1 = .ok (.aload_n 1, 1) := by decide +kernel
theorem own_d37_2 : decode jdk_52_method_91_code 2 = .ok (.invokestatic 48, 3) := by decide +kernel
theorem own_d37_5 : decode jdk_52_method_91_code 5 = .ok (.invokestatic 414, 3) := by decide +kernel
theorem own_d37_8 : decode jdk_52_method_91_code 8 = .ok (.return_, 1) := by decide +kernel
theorem own_d38_0 : decode jdk_52_method_6_code 0 = .ok (.aload_n 0, 1) := by decide +kernel
theorem own_d38_1 : decode jdk_52_method_6_code 1 = .ok (.arraylength, 1) := by decide +kernel
theorem own_d38_2 : decode jdk_52_method_6_code 2 = .ok (.iconst 1, 1) := by decide +kernel
theorem own_d38_3 : decode jdk_52_method_6_code 3 = .ok (.ishr, 1) := by decide +kernel
theorem own_d38_4 : decode jdk_52_method_6_code 4 = .ok (.ireturn, 1) := by decide +kernel
theorem own_d39_0 : decode jdk_52_method_40_code 0 = .ok (.iload_n 2, 1) := by decide +kernel
theorem own_d39_1 : decode jdk_52_method_40_code 1 = .ok (.iconst 0, 1) := by decide +kernel
theorem own_d39_2 : decode jdk_52_method_40_code 2 = .ok (.invokestatic 224, 3) := by decide +kernel
theorem own_d39_5 : decode jdk_52_method_40_code 5 = .ok (.istore_n 2, 1) := by decide +kernel
theorem own_d39_6 : decode jdk_52_method_40_code 6 = .ok (.iload_n 3, 1) := by decide +kernel
theorem own_d39_7 : decode jdk_52_method_40_code 7 = .ok (.aload_n 0, 1) := by decide +kernel
theorem own_d39_8 : decode jdk_52_method_40_code 8 = .ok (.arraylength, 1) := by decide +kernel
theorem own_d39_9 : decode jdk_52_method_40_code 9 = .ok (.iconst 1, 1) := by decide +kernel
theorem own_d39_10 : decode jdk_52_method_40_code 10 = .ok (.ishr, 1) := by decide +kernel
theorem own_d39_11 : decode jdk_52_method_40_code 11 = .ok (.invokestatic 183, 3) := by decide +kernel
theorem own_d39_14 : decode jdk_52_method_40_code 14 = .ok (.istore_n 3, 1) := by decide +kernel
theorem own_d39_15 : decode jdk_52_method_40_code 15 = .ok (.iload_n 2, 1) := by decide +kernel
theorem own_d39_16 : decode jdk_52_method_40_code 16 = .ok (.iload_n 3, 1) := by decide +kernel
theorem own_d39_17 : decode jdk_52_method_40_code 17 = .ok (.if_icmp .lt 5, 3) := by decide +kernel
theorem own_d39_22 : decode jdk_52_method_40_code 22 = .ok (.iload_n 1, 1) := by decide +kernel
theorem own_d39_23 : decode jdk_52_method_40_code 23 = .ok (.ldc 227, 2) := by decide +kernel
theorem own_d39_25 : decode jdk_52_method_40_code 25 = .ok (.if_icmp .ge 11, 3) := by decide +kernel
theorem own_d39_28 : decode jdk_52_method_40_code 28 = .ok (.aload_n 0, 1) := by decide +kernel
theorem own_d39_29 : decode jdk_52_method_40_code 29 = .ok (.iload_n 1, 1) := by decide +kernel
theorem own_d39_30 : decode jdk_52_method_40_code 30 = .ok (.iload_n 2, 1) := by decide +kernel
theorem own_d39_31 : decode jdk_52_method_40_code 31 = .ok (.iload_n 3, 1) := by decide +kernel
theorem own_d39_32 : decode jdk_52_method_40_code 32 = .ok (.invokestatic 228, 3) := by decide +kernel
theorem own_d39_35 : decode jdk_52_method_40_code 35 = .ok (.ireturn, 1) := by decide +kernel
theorem own_d40_0 : decode jdk_52_method_47_code 0 = .ok (.iload_n 2, 1) := by decide +kernel
theorem own_d40_1 : decode jdk_52_method_47_code 1 = .ok (.iload_n 3, 1) := by decide +kernel
theorem own_d40_2 : decode jdk_52_method_47_code 2 = .ok (.aload_n 0, 1) := by decide +kernel
theorem own_d40_3 : decode jdk_52_method_47_code 3 = .ok (.invokestatic 96, 3) := by decide +kernel
theorem own_d40_6 : decode jdk_52_method_47_code 6 = .ok (.aload_n 0, 1) := by decide +kernel
theorem own_d40_7 : decode jdk_52_method_47_code 7 = .ok (.iload_n 1, 1) := by decide +kernel
theorem own_d40_8 : decode jdk_52_method_47_code 8 = .ok (.iload_n 2, 1) := by decide +kernel
theorem own_d40_9 : decode jdk_52_method_47_code 9 = .ok (.iload_n 3, 1) := by decide +kernel
theorem own_d40_10 : decode jdk_52_method_47_code 10 = .ok (.invokestatic 244, 3) := by decide +kernel
theorem own_d40_13 : decode jdk_52_method_47_code 13 = .ok (.ireturn, 1) := by decide +kernel
theorem own_d41_0 : decode jdk_52_method_93_code 0 = .ok (.iload_n 0, 1) := by decide +kernel
theorem own_d41_1 : decode jdk_52_method_93_code 1 = .ok (.iload_n 1, 1) := by decide +kernel
theorem own_d41_2 : decode jdk_52_method_93_code 2 = .ok (.aload_n 2, 1) := by decide +kernel
theorem own_d41_3 : decode jdk_52_method_93_code 3 = .ok (.invokestatic 48, 3) := by decide +kernel
theorem own_d41_6 : decode jdk_52_method_93_code 6 = .ok (.invokestatic 241, 3) := by decide +kernel
theorem own_d41_9 : decode jdk_52_method_93_code 9 = .ok (.return_, 1) := by decide +kernel
theorem own_d42_0 : decode jdk_42_method_158_code 0 = .ok (.iload_n 0, 1) := by decide +kernel
theorem own_d42_1 : decode jdk_42_method_158_code 1 = .ok (.iload_n 1, 1) := by decide +kernel
theorem own_d42_2 : decode jdk_42_method_158_code 2 = .ok (.iload_n 2, 1) := by decide +kernel
theorem own_d42_3 : decode jdk_42_method_158_code 3 = .ok (.getstatic 1053, 3) := by decide +kernel
theorem own_d42_6 : decode jdk_42_method_158_code 6 = .ok (.invokestatic 1062, 3) := by decide +kernel
theorem own_d42_9 : decode jdk_42_method_158_code 9 = .ok (.pop, 1) := by decide +kernel
theorem own_d42_10 : decode jdk_42_method_158_code 10 = .ok (.return_, 1) := by decide +kernel
theorem own_d43_0 : decode jdk_41_method_12_code 0 = .ok (.iload_n 0, 1) := by decide +kernel
theorem own_d43_1 : decode jdk_41_method_12_code 1 = .ok (.ifCond .lt 13, 3) := by decide +kernel
theorem own_d43_4 : decode jdk_41_method_12_code 4 = .ok (.iload_n 0, 1) := by decide +kernel
theorem own_d43_5 : decode jdk_41_method_12_code 5 = .ok (.iload_n 1, 1) := by decide +kernel
theorem own_d43_6 : decode jdk_41_method_12_code 6 = .ok (.if_icmp .gt 8, 3) := by decide +kernel
theorem own_d43_9 : decode jdk_41_method_12_code 9 = .ok (.iload_n 1, 1) := by decide +kernel
theorem own_d43_10 : decode jdk_41_method_12_code 10 = .ok (.iload_n 2, 1) := by decide +kernel
theorem own_d43_11 : decode jdk_41_method_12_code 11 = .ok (.if_icmp .le 11, 3) := by decide +kernel
theorem own_d43_22 : decode jdk_41_method_12_code 22 = .ok (.iload_n 0, 1) := by decide +kernel
theorem own_d43_23 : decode jdk_41_method_12_code 23 = .ok (.ireturn, 1) := by decide +kernel
theorem own_d44_0 : decode jdk_52_method_48_code 0 = .ok (.iload_n 2, 1) := by decide +kernel
theorem own_d44_1 : decode jdk_52_method_48_code 1 = .ok (.istore 4, 2) := by decide +kernel
theorem own_d44_3 : decode jdk_52_method_48_code 3 = .ok (.iload 4, 2) := by decide +kernel
theorem own_d44_5 : decode jdk_52_method_48_code 5 = .ok (.iload_n 3, 1) := by decide +kernel
theorem own_d44_6 : decode jdk_52_method_48_code 6 = .ok (.if_icmp .ge 22, 3) := by decide +kernel
theorem own_d44_9 : decode jdk_52_method_48_code 9 = .ok (.aload_n 0, 1) := by decide +kernel
theorem own_d44_10 : decode jdk_52_method_48_code 10 = .ok (.iload 4, 2) := by decide +kernel
theorem own_d44_12 : decode jdk_52_method_48_code 12 = .ok (.invokestatic 71, 3) := by decide +kernel
theorem own_d44_15 : decode jdk_52_method_48_code 15 = .ok (.iload_n 1, 1) := by decide +kernel
theorem own_d44_16 : decode jdk_52_method_48_code 16 = .ok (.if_icmp .ne 6, 3) := by decide +kernel
theorem own_d44_19 : decode jdk_52_method_48_code 19 = .ok (.iload 4, 2) := by decide +kernel
theorem own_d44_21 : decode jdk_52_method_48_code 21 = .ok (.ireturn, 1) := by decide +kernel
theorem own_d44_22 : decode jdk_52_method_48_code 22 = .ok (.iinc 4 1, 3) := by decide +kernel
theorem own_d44_25 : decode jdk_52_method_48_code 25 = .ok (.goto (-22), 3) := by decide +kernel
theorem own_pn0 : plainFor (⟨"java/lang/StringUTF16", "putChar", "([BII)V"⟩ : MethodName) = true := by first | exact plainFor_of_name (by first | (simp [plainName, overriddenIn]; done) | decide +kernel) | decide +kernel
theorem own_pn1 : plainFor (⟨"java/lang/StringUTF16", "getChar", "([BI)C"⟩ : MethodName) = true := by first | exact plainFor_of_name (by first | (simp [plainName, overriddenIn]; done) | decide +kernel) | decide +kernel
theorem own_pn2 : plainFor (⟨"java/lang/StringUTF16", "newBytesLength", "(I)I"⟩ : MethodName) = true := by first | exact plainFor_of_name (by first | (simp [plainName, overriddenIn]; done) | decide +kernel) | decide +kernel
theorem own_pn3 : plainFor (⟨"java/lang/StringUTF16", "newBytesFor", "(I)[B"⟩ : MethodName) = true := by first | exact plainFor_of_name (by first | (simp [plainName, overriddenIn]; done) | decide +kernel) | decide +kernel
theorem own_pn4 : plainFor (⟨"java/lang/StringUTF16", "toBytes", "([CII)[B"⟩ : MethodName) = true := by first | exact plainFor_of_name (by first | (simp [plainName, overriddenIn]; done) | decide +kernel) | decide +kernel
theorem own_pn5 : plainFor (⟨"java/lang/StringUTF16", "compress", "([CI[BII)I"⟩ : MethodName) = true := by first | exact plainFor_of_name (by first | (simp [plainName, overriddenIn]; done) | decide +kernel) | decide +kernel
theorem own_pn6 : plainFor (⟨"java/lang/StringUTF16", "compress", "([CII)[B"⟩ : MethodName) = true := by first | exact plainFor_of_name (by first | (simp [plainName, overriddenIn]; done) | decide +kernel) | decide +kernel
theorem own_pn7 : plainFor (⟨"java/lang/StringUTF16", "coderFromArrayLen", "([BI)B"⟩ : MethodName) = true := by first | exact plainFor_of_name (by first | (simp [plainName, overriddenIn]; done) | decide +kernel) | decide +kernel
theorem own_pn8 : plainFor (⟨"java/lang/String", "<init>", "([CIILjava/lang/Void;)V"⟩ : MethodName) = true := by first | exact plainFor_of_name (by first | (simp [plainName, overriddenIn]; done) | decide +kernel) | decide +kernel
theorem own_pn9 : plainFor (⟨"java/lang/String", "<init>", "([C)V"⟩ : MethodName) = true := by first | exact plainFor_of_name (by first | (simp [plainName, overriddenIn]; done) | decide +kernel) | decide +kernel
theorem own_pn10 : plainFor (⟨"jdk/internal/util/Preconditions", "checkIndex", "(IILjava/util/function/BiFunction;)I"⟩ : MethodName) = true := by first | exact plainFor_of_name (by first | (simp [plainName, overriddenIn]; done) | decide +kernel) | decide +kernel
theorem own_pn11 : plainFor (⟨"java/lang/String", "checkIndex", "(II)V"⟩ : MethodName) = true := by first | exact plainFor_of_name (by first | (simp [plainName, overriddenIn]; done) | decide +kernel) | decide +kernel
theorem own_pn12 : plainFor (⟨"java/lang/StringLatin1", "charAt", "([BI)C"⟩ : MethodName) = true := by first | exact plainFor_of_name (by first | (simp [plainName, overriddenIn]; done) | decide +kernel) | decide +kernel
theorem own_pn13 : plainFor (⟨"java/lang/StringUTF16", "length", "([B)I"⟩ : MethodName) = true := by first | exact plainFor_of_name (by first | (simp [plainName, overriddenIn]; done) | decide +kernel) | decide +kernel
theorem own_pn14 : plainFor (⟨"java/lang/StringUTF16", "checkIndex", "(I[B)V"⟩ : MethodName) = true := by first | exact plainFor_of_name (by first | (simp [plainName, overriddenIn]; done) | decide +kernel) | decide +kernel
theorem own_pn15 : plainFor (⟨"java/lang/StringUTF16", "charAt", "([BI)C"⟩ : MethodName) = true := by first | exact plainFor_of_name (by first | (simp [plainName, overriddenIn]; done) | decide +kernel) | decide +kernel
theorem own_pn16 : plainFor (⟨"java/lang/String", "isLatin1", "()Z"⟩ : MethodName) = true := by first | exact plainFor_of_name (by first | (simp [plainName, overriddenIn]; done) | decide +kernel) | decide +kernel
theorem own_pn17 : plainFor (⟨"java/lang/String", "charAt", "(I)C"⟩ : MethodName) = true := by first | exact plainFor_of_name (by first | (simp [plainName, overriddenIn]; done) | decide +kernel) | decide +kernel
theorem own_pn18 : plainFor (⟨"java/lang/String", "coder", "()B"⟩ : MethodName) = true := by first | exact plainFor_of_name (by first | (simp [plainName, overriddenIn]; done) | decide +kernel) | decide +kernel
theorem own_pn19 : plainFor (⟨"java/lang/String", "length", "()I"⟩ : MethodName) = true := by first | exact plainFor_of_name (by first | (simp [plainName, overriddenIn]; done) | decide +kernel) | decide +kernel
theorem own_pn20 : plainFor (⟨"java/lang/Math", "max", "(II)I"⟩ : MethodName) = true := by first | exact plainFor_of_name (by first | (simp [plainName, overriddenIn]; done) | decide +kernel) | decide +kernel
theorem own_pn21 : plainFor (⟨"java/lang/Math", "min", "(II)I"⟩ : MethodName) = true := by first | exact plainFor_of_name (by first | (simp [plainName, overriddenIn]; done) | decide +kernel) | decide +kernel
theorem own_pn22 : plainFor (⟨"java/lang/StringLatin1", "canEncode", "(I)Z"⟩ : MethodName) = true := by first | exact plainFor_of_name (by first | (simp [plainName, overriddenIn]; done) | decide +kernel) | decide +kernel
theorem own_pn23 : plainFor (⟨"java/lang/StringLatin1", "indexOfChar", "([BIII)I"⟩ : MethodName) = true := by first | exact plainFor_of_name (by first | (simp [plainName, overriddenIn]; done) | decide +kernel) | decide +kernel
theorem own_pn24 : plainFor (⟨"java/lang/StringLatin1", "indexOf", "([BIII)I"⟩ : MethodName) = true := by first | exact plainFor_of_name (by first | (simp [plainName, overriddenIn]; done) | decide +kernel) | decide +kernel
theorem own_pn25 : plainFor (⟨"java/lang/StringUTF16", "indexOfCharUnsafe", "([BIII)I"⟩ : MethodName) = true := by first | exact plainFor_of_name (by first | (simp [plainName, overriddenIn]; done) | decide +kernel) | decide +kernel
theorem own_pn26 : plainFor (⟨"jdk/internal/util/Preconditions", "checkFromToIndex", "(IIILjava/util/function/BiFunction;)I"⟩ : MethodName) = true := by first | exact plainFor_of_name (by first | (simp [plainName, overriddenIn]; done) | decide +kernel) | decide +kernel
theorem own_pn27 : plainFor (⟨"java/lang/String", "checkBoundsBeginEnd", "(III)V"⟩ : MethodName) = true := by first | exact plainFor_of_name (by first | (simp [plainName, overriddenIn]; done) | decide +kernel) | decide +kernel
theorem own_pn28 : plainFor (⟨"java/lang/StringUTF16", "checkBoundsBeginEnd", "(II[B)V"⟩ : MethodName) = true := by first | exact plainFor_of_name (by first | (simp [plainName, overriddenIn]; done) | decide +kernel) | decide +kernel
theorem own_pn29 : plainFor (⟨"java/lang/StringUTF16", "indexOfChar", "([BIII)I"⟩ : MethodName) = true := by first | exact plainFor_of_name (by first | (simp [plainName, overriddenIn]; done) | decide +kernel) | decide +kernel
theorem own_pn30 : plainFor (⟨"java/lang/StringUTF16", "indexOf", "([BIII)I"⟩ : MethodName) = true := by first | exact plainFor_of_name (by first | (simp [plainName, overriddenIn]; done) | decide +kernel) | decide +kernel
theorem own_pn31 : plainFor (⟨"java/lang/String", "indexOf", "(II)I"⟩ : MethodName) = true := by first | exact plainFor_of_name (by first | (simp [plainName, overriddenIn]; done) | decide +kernel) | decide +kernel
theorem own_pn32 : plainFor (⟨"com/example/cadmus/cadmus/Markup", "after", "(Ljava/lang/String;CI)I"⟩ : MethodName) = true := by first | exact plainFor_of_name (by first | (simp [plainName, overriddenIn]; done) | decide +kernel) | decide +kernel
theorem own_pn33 : plainFor (⟨"com/example/cadmus/cadmus/XmlVersion", "isSpace", "(C)Z"⟩ : MethodName) = true := by first | exact plainFor_of_name (by first | (simp [plainName, overriddenIn]; done) | decide +kernel) | decide +kernel
theorem own_pn34 : plainFor (⟨"com/example/cadmus/cadmus/Markup", "nameEnd", "(Ljava/lang/String;ILcom/example/cadmus/cadmus/XmlVersion;)I"⟩ : MethodName) = true := by first | exact plainFor_of_name (by first | (simp [plainName, overriddenIn]; done) | decide +kernel) | decide +kernel
theorem own_pn35 : plainFor (⟨"com/example/cadmus/cadmus/Markup", "spaceEnd", "(Ljava/lang/String;ILcom/example/cadmus/cadmus/XmlVersion;)I"⟩ : MethodName) = true := by first | exact plainFor_of_name (by first | (simp [plainName, overriddenIn]; done) | decide +kernel) | decide +kernel
theorem own_pn36 : plainFor (⟨"com/example/cadmus/cadmus/Markup$StartTag", "nextAttribute", "()Z"⟩ : MethodName) = true := by first | exact plainFor_of_name (by first | (simp [plainName, overriddenIn]; done) | decide +kernel) | decide +kernel
theorem own_pn37 : plainFor (⟨"com/example/cadmus/cadmus/Markup$StartTag", "empty", "()Z"⟩ : MethodName) = true := by first | exact plainFor_of_name (by first | (simp [plainName, overriddenIn]; done) | decide +kernel) | decide +kernel
theorem own_pn38 : plainFor (⟨"com/example/cadmus/cadmus/Markup$StartTag", "end", "()I"⟩ : MethodName) = true := by first | exact plainFor_of_name (by first | (simp [plainName, overriddenIn]; done) | decide +kernel) | decide +kernel
theorem own_pn39 : plainFor (⟨"com/example/cadmus/cadmus/Markup$StartTag", "read", "(Ljava/lang/String;I)Lcom/example/cadmus/cadmus/Markup$StartTag;"⟩ : MethodName) = true := by first | exact plainFor_of_name (by first | (simp [plainName, overriddenIn]; done) | decide +kernel) | decide +kernel
theorem own_pn40 : plainFor (⟨"com/example/cadmus/cadmus/Markup$StartTag", "<init>", "(Lcom/example/cadmus/cadmus/XmlVersion;)V"⟩ : MethodName) = true := by first | exact plainFor_of_name (by first | (simp [plainName, overriddenIn]; done) | decide +kernel) | decide +kernel
theorem own_pn41 : plainFor (⟨"com/example/cadmus/cadmus/StartTagEmptyPinLaw", "space", "(IZ)C"⟩ : MethodName) = true := by first | exact plainFor_of_name (by first | (simp [plainName, overriddenIn]; done) | decide +kernel) | decide +kernel
theorem own_pn42 : plainFor (⟨"com/example/cadmus/cadmus/StartTagEmptyPinLaw", "nameChar", "(I)C"⟩ : MethodName) = true := by first | exact plainFor_of_name (by first | (simp [plainName, overriddenIn]; done) | decide +kernel) | decide +kernel
theorem own_pn43 : plainFor (⟨"com/example/cadmus/cadmus/StartTagEmptyPinLaw", "law", "(IIIIII)Z"⟩ : MethodName) = true := by first | exact plainFor_of_name (by first | (simp [plainName, overriddenIn]; done) | decide +kernel) | decide +kernel
theorem own_pd0 : parseMethodDescriptor "(I)I" = some ⟨[.int], some .int⟩ := by decide +kernel
theorem own_pd1 : parseMethodDescriptor "(I)[B" = some ⟨[.int], some (.array .byte)⟩ := by decide +kernel
theorem own_pd2 : parseMethodDescriptor "([BII)V" = some ⟨[(.array .byte), .int, .int], none⟩ := by decide +kernel
theorem own_pd3 : parseMethodDescriptor "([CI[BII)I" = some ⟨[(.array .char), .int, (.array .byte), .int, .int], some .int⟩ := by decide +kernel
theorem own_pd4 : parseMethodDescriptor "([CII)[B" = some ⟨[(.array .char), .int, .int], some (.array .byte)⟩ := by decide +kernel
theorem own_pd5 : parseMethodDescriptor "([BI)C" = some ⟨[(.array .byte), .int], some .char⟩ := by decide +kernel
theorem own_pd6 : parseMethodDescriptor "([BI)B" = some ⟨[(.array .byte), .int], some .byte⟩ := by decide +kernel
theorem own_pd7 : parseMethodDescriptor "([CIILjava/lang/Void;)V" = some ⟨[(.array .char), .int, .int, (.object "java/lang/Void")], none⟩ := by decide +kernel
theorem own_pd8 : parseMethodDescriptor "(IILjava/util/function/BiFunction;)I" = some ⟨[.int, .int, (.object "java/util/function/BiFunction")], some .int⟩ := by decide +kernel
theorem own_pd9 : parseMethodDescriptor "(II)V" = some ⟨[.int, .int], none⟩ := by decide +kernel
theorem own_pd10 : parseMethodDescriptor "([B)I" = some ⟨[(.array .byte)], some .int⟩ := by decide +kernel
theorem own_pd11 : parseMethodDescriptor "(I[B)V" = some ⟨[.int, (.array .byte)], none⟩ := by decide +kernel
theorem own_pd12 : parseMethodDescriptor "()Z" = some ⟨[], some .boolean⟩ := by decide +kernel
theorem own_pd13 : parseMethodDescriptor "()B" = some ⟨[], some .byte⟩ := by decide +kernel
theorem own_pd14 : parseMethodDescriptor "(I)Z" = some ⟨[.int], some .boolean⟩ := by decide +kernel
theorem own_pd15 : parseMethodDescriptor "(II)I" = some ⟨[.int, .int], some .int⟩ := by decide +kernel
theorem own_pd16 : parseMethodDescriptor "([BIII)I" = some ⟨[(.array .byte), .int, .int, .int], some .int⟩ := by decide +kernel
theorem own_pd17 : parseMethodDescriptor "(IIILjava/util/function/BiFunction;)I" = some ⟨[.int, .int, .int, (.object "java/util/function/BiFunction")], some .int⟩ := by decide +kernel
theorem own_pd18 : parseMethodDescriptor "(III)V" = some ⟨[.int, .int, .int], none⟩ := by decide +kernel
theorem own_pd19 : parseMethodDescriptor "(II[B)V" = some ⟨[.int, .int, (.array .byte)], none⟩ := by decide +kernel
theorem own_pd20 : parseMethodDescriptor "()I" = some ⟨[], some .int⟩ := by decide +kernel
theorem own_pd21 : parseMethodDescriptor "(I)C" = some ⟨[.int], some .char⟩ := by decide +kernel
theorem own_pd22 : parseMethodDescriptor "(C)Z" = some ⟨[.char], some .boolean⟩ := by decide +kernel
theorem own_pd23 : parseMethodDescriptor "(Ljava/lang/String;ILcom/example/cadmus/cadmus/XmlVersion;)I" = some ⟨[(.object "java/lang/String"), .int, (.object "com/example/cadmus/cadmus/XmlVersion")], some .int⟩ := by decide +kernel
theorem own_pd24 : parseMethodDescriptor "(Ljava/lang/String;CI)I" = some ⟨[(.object "java/lang/String"), .char, .int], some .int⟩ := by decide +kernel
theorem own_pd25 : parseMethodDescriptor "(Lcom/example/cadmus/cadmus/XmlVersion;)V" = some ⟨[(.object "com/example/cadmus/cadmus/XmlVersion")], none⟩ := by decide +kernel
theorem own_pd26 : parseMethodDescriptor "([C)V" = some ⟨[(.array .char)], none⟩ := by decide +kernel
theorem own_pd27 : parseMethodDescriptor "(Ljava/lang/String;I)Lcom/example/cadmus/cadmus/Markup$StartTag;" = some ⟨[(.object "java/lang/String"), .int], some (.object "com/example/cadmus/cadmus/Markup$StartTag")⟩ := by decide +kernel
theorem own_pd28 : parseMethodDescriptor "(IZ)C" = some ⟨[.int, .boolean], some .char⟩ := by decide +kernel
theorem own_ef_own_putc (m : MethodId) (x0 : Addr) (x1 : Int32) (x2 : Int32) : entryFrame m #[(.ref x0), (.int x1), (.int x2)] 3 = mkF m 0 #[rv x0, iv x1, iv x2] [] := by first | (simp [entryFrame, mkF, argsToLocals, Value.category]; done) | rfl
theorem own_ef_own_getc (m : MethodId) (x0 : Addr) (x1 : Int32) : entryFrame m #[(.ref x0), (.int x1)] 2 = mkF m 0 #[rv x0, iv x1] [] := by first | (simp [entryFrame, mkF, argsToLocals, Value.category]; done) | rfl
theorem own_ef_own_nbl (m : MethodId) (x0 : Int32) : entryFrame m #[(.int x0)] 1 = mkF m 0 #[iv x0] [] := by first | (simp [entryFrame, mkF, argsToLocals, Value.category]; done) | rfl
theorem own_ef_own_nbf (m : MethodId) (x0 : Int32) : entryFrame m #[(.int x0)] 1 = mkF m 0 #[iv x0] [] := by first | (simp [entryFrame, mkF, argsToLocals, Value.category]; done) | rfl
theorem own_ef_own_tob (m : MethodId) (x0 : Addr) (x1 : Int32) (x2 : Int32) : entryFrame m #[(.ref x0), (.int x1), (.int x2)] 5 = mkF m 0 #[rv x0, iv x1, iv x2, .unset, .unset] [] := by first | (simp [entryFrame, mkF, argsToLocals, Value.category]; done) | rfl
theorem own_ef_own_cmp2 (m : MethodId) (x0 : Addr) (x1 : Int32) (x2 : Addr) (x3 : Int32) (x4 : Int32) : entryFrame m #[(.ref x0), (.int x1), (.ref x2), (.int x3), (.int x4)] 7 = mkF m 0 #[rv x0, iv x1, rv x2, iv x3, iv x4, .unset, .unset] [] := by first | (simp [entryFrame, mkF, argsToLocals, Value.category]; done) | rfl
theorem own_ef_own_cmp1 (m : MethodId) (x0 : Addr) (x1 : Int32) (x2 : Int32) : entryFrame m #[(.ref x0), (.int x1), (.int x2)] 6 = mkF m 0 #[rv x0, iv x1, iv x2, .unset, .unset, .unset] [] := by first | (simp [entryFrame, mkF, argsToLocals, Value.category]; done) | rfl
theorem own_ef_own_cfl (m : MethodId) (x0 : Addr) (x1 : Int32) : entryFrame m #[(.ref x0), (.int x1)] 2 = mkF m 0 #[rv x0, iv x1] [] := by first | (simp [entryFrame, mkF, argsToLocals, Value.category]; done) | rfl
theorem own_ef_own_cfu (m : MethodId) (x0 : Addr) (x1 : Int32) : entryFrame m #[(.ref x0), (.int x1)] 2 = mkF m 0 #[rv x0, iv x1] [] := by first | (simp [entryFrame, mkF, argsToLocals, Value.category]; done) | rfl
theorem own_ef_own_si4 (m : MethodId) (x0 : Addr) (x1 : Addr) (x2 : Int32) (x3 : Int32) : entryFrame m #[(.ref x0), (.ref x1), (.int x2), (.int x3), .null] 6 = mkF m 0 #[rv x0, rv x1, iv x2, iv x3, .val .null, .unset] [] := by first | (simp [entryFrame, mkF, argsToLocals, Value.category]; done) | rfl
theorem own_ef_own_si (m : MethodId) (x0 : Addr) (x1 : Addr) : entryFrame m #[(.ref x0), (.ref x1)] 2 = mkF m 0 #[rv x0, rv x1] [] := by first | (simp [entryFrame, mkF, argsToLocals, Value.category]; done) | rfl
theorem own_ef_own_pci (m : MethodId) (x0 : Int32) (x1 : Int32) (x2 : Value) (hx2 : x2.isRef = true) : entryFrame m #[(.int x0), (.int x1), x2] 3 = mkF m 0 #[iv x0, iv x1, .val x2] [] := by
  rcases ref_cases hx2 with rfl | ⟨_, rfl⟩
  all_goals first | (simp [entryFrame, mkF, argsToLocals, Value.category]; done) | rfl
theorem own_ef_own_sci (m : MethodId) (x0 : Int32) (x1 : Int32) : entryFrame m #[(.int x0), (.int x1)] 2 = mkF m 0 #[iv x0, iv x1] [] := by first | (simp [entryFrame, mkF, argsToLocals, Value.category]; done) | rfl
theorem own_ef_own_lca (m : MethodId) (x0 : Addr) (x1 : Int32) : entryFrame m #[(.ref x0), (.int x1)] 2 = mkF m 0 #[rv x0, iv x1] [] := by first | (simp [entryFrame, mkF, argsToLocals, Value.category]; done) | rfl
theorem own_ef_own_ulen (m : MethodId) (x0 : Addr) : entryFrame m #[(.ref x0)] 1 = mkF m 0 #[rv x0] [] := by first | (simp [entryFrame, mkF, argsToLocals, Value.category]; done) | rfl
theorem own_ef_own_uci (m : MethodId) (x0 : Int32) (x1 : Addr) : entryFrame m #[(.int x0), (.ref x1)] 2 = mkF m 0 #[iv x0, rv x1] [] := by first | (simp [entryFrame, mkF, argsToLocals, Value.category]; done) | rfl
theorem own_ef_own_uca (m : MethodId) (x0 : Addr) (x1 : Int32) : entryFrame m #[(.ref x0), (.int x1)] 2 = mkF m 0 #[rv x0, iv x1] [] := by first | (simp [entryFrame, mkF, argsToLocals, Value.category]; done) | rfl
theorem own_ef_own_isl (m : MethodId) (x0 : Addr) : entryFrame m #[(.ref x0)] 1 = mkF m 0 #[rv x0] [] := by first | (simp [entryFrame, mkF, argsToLocals, Value.category]; done) | rfl
theorem own_ef_own_charAt (m : MethodId) (x0 : Addr) (x1 : Int32) : entryFrame m #[(.ref x0), (.int x1)] 2 = mkF m 0 #[rv x0, iv x1] [] := by first | (simp [entryFrame, mkF, argsToLocals, Value.category]; done) | rfl
theorem own_ef_own_cod (m : MethodId) (x0 : Addr) : entryFrame m #[(.ref x0)] 1 = mkF m 0 #[rv x0] [] := by first | (simp [entryFrame, mkF, argsToLocals, Value.category]; done) | rfl
theorem own_ef_own_slen (m : MethodId) (x0 : Addr) : entryFrame m #[(.ref x0)] 1 = mkF m 0 #[rv x0] [] := by first | (simp [entryFrame, mkF, argsToLocals, Value.category]; done) | rfl
theorem own_ef_own_mx0 (m : MethodId) (x0 : Int32) (x1 : Int32) : entryFrame m #[(.int x0), (.int x1)] 2 = mkF m 0 #[iv x0, iv x1] [] := by first | (simp [entryFrame, mkF, argsToLocals, Value.category]; done) | rfl
theorem own_ef_own_mnn (m : MethodId) (x0 : Int32) (x1 : Int32) : entryFrame m #[(.int x0), (.int x1)] 2 = mkF m 0 #[iv x0, iv x1] [] := by first | (simp [entryFrame, mkF, argsToLocals, Value.category]; done) | rfl
theorem own_ef_own_ce2 (m : MethodId) (x0 : Int32) : entryFrame m #[(.int x0)] 1 = mkF m 0 #[iv x0] [] := by first | (simp [entryFrame, mkF, argsToLocals, Value.category]; done) | rfl
theorem own_ef_own_lic (m : MethodId) (x0 : Addr) (x1 : Int32) (x2 : Int32) (x3 : Int32) : entryFrame m #[(.ref x0), (.int x1), (.int x2), (.int x3)] 6 = mkF m 0 #[rv x0, iv x1, iv x2, iv x3, .unset, .unset] [] := by first | (simp [entryFrame, mkF, argsToLocals, Value.category]; done) | rfl
theorem own_ef_own_lio (m : MethodId) (x0 : Addr) (x1 : Int32) (x2 : Int32) (x3 : Int32) : entryFrame m #[(.ref x0), (.int x1), (.int x2), (.int x3)] 4 = mkF m 0 #[rv x0, iv x1, iv x2, iv x3] [] := by first | (simp [entryFrame, mkF, argsToLocals, Value.category]; done) | rfl
theorem own_ef_own_uiu (m : MethodId) (x0 : Addr) (x1 : Int32) (x2 : Int32) (x3 : Int32) : entryFrame m #[(.ref x0), (.int x1), (.int x2), (.int x3)] 5 = mkF m 0 #[rv x0, iv x1, iv x2, iv x3, .unset] [] := by first | (simp [entryFrame, mkF, argsToLocals, Value.category]; done) | rfl
theorem own_ef_own_pft (m : MethodId) (x0 : Int32) (x1 : Int32) (x2 : Int32) (x3 : Value) (hx3 : x3.isRef = true) : entryFrame m #[(.int x0), (.int x1), (.int x2), x3] 4 = mkF m 0 #[iv x0, iv x1, iv x2, .val x3] [] := by
  rcases ref_cases hx3 with rfl | ⟨_, rfl⟩
  all_goals first | (simp [entryFrame, mkF, argsToLocals, Value.category]; done) | rfl
theorem own_ef_own_scb (m : MethodId) (x0 : Int32) (x1 : Int32) (x2 : Int32) : entryFrame m #[(.int x0), (.int x1), (.int x2)] 3 = mkF m 0 #[iv x0, iv x1, iv x2] [] := by first | (simp [entryFrame, mkF, argsToLocals, Value.category]; done) | rfl
theorem own_ef_own_ucb (m : MethodId) (x0 : Int32) (x1 : Int32) (x2 : Addr) : entryFrame m #[(.int x0), (.int x1), (.ref x2)] 3 = mkF m 0 #[iv x0, iv x1, rv x2] [] := by first | (simp [entryFrame, mkF, argsToLocals, Value.category]; done) | rfl
theorem own_ef_own_uic (m : MethodId) (x0 : Addr) (x1 : Int32) (x2 : Int32) (x3 : Int32) : entryFrame m #[(.ref x0), (.int x1), (.int x2), (.int x3)] 4 = mkF m 0 #[rv x0, iv x1, iv x2, iv x3] [] := by first | (simp [entryFrame, mkF, argsToLocals, Value.category]; done) | rfl
theorem own_ef_own_uio (m : MethodId) (x0 : Addr) (x1 : Int32) (x2 : Int32) (x3 : Int32) : entryFrame m #[(.ref x0), (.int x1), (.int x2), (.int x3)] 4 = mkF m 0 #[rv x0, iv x1, iv x2, iv x3] [] := by first | (simp [entryFrame, mkF, argsToLocals, Value.category]; done) | rfl
theorem own_ef_own_io (m : MethodId) (x0 : Addr) (x1 : Int32) (x2 : Int32) : entryFrame m #[(.ref x0), (.int x1), (.int x2)] 3 = mkF m 0 #[rv x0, iv x1, iv x2] [] := by first | (simp [entryFrame, mkF, argsToLocals, Value.category]; done) | rfl
theorem own_ef_own_after (m : MethodId) (x0 : Addr) (x1 : Int32) (x2 : Int32) : entryFrame m #[(.ref x0), (.int x1), (.int x2)] 4 = mkF m 0 #[rv x0, iv x1, iv x2, .unset] [] := by first | (simp [entryFrame, mkF, argsToLocals, Value.category]; done) | rfl
theorem own_ef_own_isC (m : MethodId) (x0 : Addr) (x1 : Int32) : entryFrame m #[(.ref x0), (.int x1)] 2 = mkF m 0 #[rv x0, iv x1] [] := by first | (simp [entryFrame, mkF, argsToLocals, Value.category]; done) | rfl
theorem own_ef_own_nend (m : MethodId) (x0 : Addr) (x1 : Int32) (x2 : Addr) : entryFrame m #[(.ref x0), (.int x1), (.ref x2)] 5 = mkF m 0 #[rv x0, iv x1, rv x2, .unset, .unset] [] := by first | (simp [entryFrame, mkF, argsToLocals, Value.category]; done) | rfl
theorem own_ef_own_send (m : MethodId) (x0 : Addr) (x1 : Int32) (x2 : Addr) : entryFrame m #[(.ref x0), (.int x1), (.ref x2)] 4 = mkF m 0 #[rv x0, iv x1, rv x2, .unset] [] := by first | (simp [entryFrame, mkF, argsToLocals, Value.category]; done) | rfl
theorem own_ef_own_na0 (m : MethodId) (x0 : Addr) : entryFrame m #[(.ref x0)] 2 = mkF m 0 #[rv x0, .unset] [] := by first | (simp [entryFrame, mkF, argsToLocals, Value.category]; done) | rfl
theorem own_ef_own_na1 (m : MethodId) (x0 : Addr) : entryFrame m #[(.ref x0)] 2 = mkF m 0 #[rv x0, .unset] [] := by first | (simp [entryFrame, mkF, argsToLocals, Value.category]; done) | rfl
theorem own_ef_own_emp (m : MethodId) (x0 : Addr) : entryFrame m #[(.ref x0)] 1 = mkF m 0 #[rv x0] [] := by first | (simp [entryFrame, mkF, argsToLocals, Value.category]; done) | rfl
theorem own_ef_own_end0 (m : MethodId) (x0 : Addr) : entryFrame m #[(.ref x0)] 1 = mkF m 0 #[rv x0] [] := by first | (simp [entryFrame, mkF, argsToLocals, Value.category]; done) | rfl
theorem own_ef_own_end1 (m : MethodId) (x0 : Addr) : entryFrame m #[(.ref x0)] 1 = mkF m 0 #[rv x0] [] := by first | (simp [entryFrame, mkF, argsToLocals, Value.category]; done) | rfl
theorem own_ef_own_read (m : MethodId) (x0 : Addr) (x1 : Addr) (x2 : Int32) : entryFrame m #[(.ref x0), (.ref x1), (.int x2)] 3 = mkF m 0 #[rv x0, rv x1, iv x2] [] := by first | (simp [entryFrame, mkF, argsToLocals, Value.category]; done) | rfl
theorem own_ef_own_ti (m : MethodId) (x0 : Addr) (x1 : Addr) : entryFrame m #[(.ref x0), (.ref x1)] 2 = mkF m 0 #[rv x0, rv x1] [] := by first | (simp [entryFrame, mkF, argsToLocals, Value.category]; done) | rfl
theorem own_ef_own_space (m : MethodId) (x0 : Int32) (x1 : Int32) : entryFrame m #[(.int x0), (.int x1)] 3 = mkF m 0 #[iv x0, iv x1, .unset] [] := by first | (simp [entryFrame, mkF, argsToLocals, Value.category]; done) | rfl
theorem own_ef_own_nc (m : MethodId) (x0 : Int32) : entryFrame m #[(.int x0)] 2 = mkF m 0 #[iv x0, .unset] [] := by first | (simp [entryFrame, mkF, argsToLocals, Value.category]; done) | rfl
theorem own_ef_own_law (m : MethodId) (x0 : Int32) (x1 : Int32) (x2 : Int32) (x3 : Int32) (x4 : Int32) (x5 : Int32) : entryFrame m #[(.int x0), (.int x1), (.int x2), (.int x3), (.int x4), (.int x5)] maxLocals = mkF m 0 #[iv x0, iv x1, iv x2, iv x3, iv x4, iv x5, .unset, .unset, .unset, .unset, .unset, .unset, .unset, .unset, .unset, .unset, .unset, .unset, .unset, .unset, .unset] [] := by first | (simp [entryFrame, mkF, argsToLocals, Value.category, maxLocals]; done) | rfl
theorem own_wS {a0 : Array Value} {Z : State} (hw : ∀ d ∈ tables_1, d.before a0 Z = true) : ∀ a ∈ Bundle.stringAtoms, a.before a0 Z = true := by
  intro a ha
  simp only [Bundle.stringAtoms, List.mem_cons, List.not_mem_nil, or_false] at ha
  rcases ha with rfl | rfl | rfl | rfl | rfl | rfl | rfl
  · exact (own_w hw 18)
  · exact (own_w hw 19)
  · exact (own_w hw 20)
  · exact (own_w hw 21)
  · exact (own_w hw 22)
  · exact (own_w hw 23)
  · exact (own_w hw 24)

set_option maxRecDepth 65536 in
set_option maxHeartbeats 40000000 in
theorem own_putc (l : Launch) (Z : State) (a0 : Array Value) (hw : ∀ d ∈ tables_1, d.before a0 Z = true) (ws : List Jvm.Cond) (a : Addr) (n k : Nat) (j ch : Int32) (g : Nat → Int32) (h0 : Heap) (n0 : Nat) (Z0 : n0 ≤ h0.size) (hj : j.toInt = (k : Int)) (hk : k < n) (hn : 2 * n < 2 ^ 31) (Aa : own_A Z h0 a .byte (2 * n) (fun i => .int (g i))) (g_a : n0 ≤ a) (S_ad : Sta Z h0 "java/lang/StringUTF16" "$assertionsDisabled" "Z" (.int (1 : Int32))) (S_hi : Sta Z h0 "java/lang/StringUTF16" "HI_BYTE_SHIFT" "I" (.int (0 : Int32))) (S_lo : Sta Z h0 "java/lang/StringUTF16" "LO_BYTE_SHIFT" "I" (.int (8 : Int32))) :
    own_Met l Z (⟨"java/lang/StringUTF16", "putChar", "([BII)V"⟩ : MethodName) jdk_52_method_4_code 3 none ws ({ frames := 0, cells := 0, slots := 0, locals := 0 } : Room) #[(.ref a), (.int j), (.int ch)] h0 (fun v h L => v = none ∧ Fr n0 L ∧ Keep h0 h [a] ∧ ∃ g2 : Nat → Int32, own_A Z h a .byte (2 * n) (fun i => .int (g2 i)) ∧ (∀ i, g2 i = if i = 2 * k + 1 then ((ch >>> ((8 : Int32) &&& 31)).toInt8.toInt32) else if i = 2 * k then ((ch >>> ((0 : Int32) &&& 31)).toInt8.toInt32) else g i)) := by
  refine own_body own_pn0 (fun m => mkF m 0 #[rv a, iv j, iv ch] []) (fun m => own_ef_own_putc m a j ch) ?_
  intro p e s m below meth c T0 hx hby hml hlk hrt hZ hown hnm X0 e0
  have hown : s.vm.findClass "java/lang/StringUTF16" = some m.cls := hown
  have N0 := Fr.nil n0
  obtain ⟨T1, X1, e1, st1⟩ := getS2 X0 hx hZ hown (host := "") (Or.inl (own_w hw 176)) Via.refl e0 S_ad (g := (mkF m 0 #[rv a, iv j, iv ch] [])) rfl (hb hby own_d34_0)
  refine own_pre (S' := (own_F T1 m 3 #[rv a, iv j, iv ch] [(.int 1)])) st1 ?_
  refine own_g (own_F T1 m 28 #[rv a, iv j, iv ch] []) (fun _ z_ => XS.ifYes X1.here hx rfl (pc0 := 3) (pc' := 28) rfl (hb hby own_d34_3) rfl ((if0 _ _).trans (feq (by decide : ¬ ((1 : Int32) = (0 : Int32)))).2) (by decide) (by decide) z_) ?_
  refine own_g (own_F T1 m 29 #[rv a, iv j, iv ch] [(.int j)]) (fun _ z_ => XS.iloadN X1.here hx rfl (hb hby own_d34_28) rfl z_) ?_
  refine own_g (own_F T1 m 30 #[rv a, iv j, iv ch] [(.int 1), (.int j)]) (fun _ z_ => XS.iconst X1.here hx rfl (hb hby own_d34_29) z_) ?_
  refine own_g (own_F T1 m 31 #[rv a, iv j, iv ch] [(.int (j <<< ((1 : Int32) &&& 31)))]) (fun _ z_ => XS.ishl X1.here hx rfl (hb hby own_d34_30) rfl z_) ?_
  refine own_g (own_F T1 m 32 #[rv a, iv (j <<< ((1 : Int32) &&& 31)), iv ch] []) (fun _ z_ => XS.istoreN X1.here hx rfl (hb hby own_d34_31) rfl (l' := #[rv a, iv (j <<< ((1 : Int32) &&& 31)), iv ch]) rfl z_) ?_
  refine own_g (own_F T1 m 33 #[rv a, iv (j <<< ((1 : Int32) &&& 31)), iv ch] [(.ref a)]) (fun _ z_ => XS.aloadN X1.here hx rfl (hb hby own_d34_32) rfl rfl z_) ?_
  refine own_g (own_F T1 m 34 #[rv a, iv (j <<< ((1 : Int32) &&& 31)), iv ch] [(.int (j <<< ((1 : Int32) &&& 31))), (.ref a)]) (fun _ z_ => XS.iloadN X1.here hx rfl (hb hby own_d34_33) rfl z_) ?_
  refine own_g (own_F T1 m 37 #[rv a, iv ((j <<< ((1 : Int32) &&& 31)) + (1 : Int32)), iv ch] [(.int (j <<< ((1 : Int32) &&& 31))), (.ref a)]) (fun _ z_ => XS.iinc X1.here hx rfl (hb hby own_d34_34) rfl (l' := #[rv a, iv ((j <<< ((1 : Int32) &&& 31)) + (1 : Int32)), iv ch]) rfl z_) ?_
  refine own_g (own_F T1 m 38 #[rv a, iv ((j <<< ((1 : Int32) &&& 31)) + (1 : Int32)), iv ch] [(.int ch), (.int (j <<< ((1 : Int32) &&& 31))), (.ref a)]) (fun _ z_ => XS.iloadN X1.here hx rfl (hb hby own_d34_37) rfl z_) ?_
  obtain ⟨T2, X2, e2, st2⟩ := getS2 X1 hx hZ hown (host := "") (Or.inl (own_w hw 177)) Via.refl e1 S_hi (g := (mkF m 38 #[rv a, iv ((j <<< ((1 : Int32) &&& 31)) + (1 : Int32)), iv ch] [(.int ch), (.int (j <<< ((1 : Int32) &&& 31))), (.ref a)])) rfl (hb hby own_d34_38)
  refine own_pre (S' := (own_F T2 m 41 #[rv a, iv ((j <<< ((1 : Int32) &&& 31)) + (1 : Int32)), iv ch] [(.int 0), (.int ch), (.int (j <<< ((1 : Int32) &&& 31))), (.ref a)])) st2 ?_
  refine own_g (own_F T2 m 42 #[rv a, iv ((j <<< ((1 : Int32) &&& 31)) + (1 : Int32)), iv ch] [(.int (ch >>> ((0 : Int32) &&& 31))), (.int (j <<< ((1 : Int32) &&& 31))), (.ref a)]) (fun _ z_ => XS.ishr X2.here hx rfl (hb hby own_d34_41) rfl z_) ?_
  refine own_g (own_F T2 m 43 #[rv a, iv ((j <<< ((1 : Int32) &&& 31)) + (1 : Int32)), iv ch] [(.int ((ch >>> ((0 : Int32) &&& 31)).toInt8.toInt32)), (.int (j <<< ((1 : Int32) &&& 31))), (.ref a)]) (fun _ z_ => XS.i2b X2.here hx rfl (hb hby own_d34_42) rfl z_) ?_
  refine own_bast X2 hx hZ e2 Aa (2 * k) (own_shl1 hj hk hn) (by omega) ((ch >>> ((0 : Int32) &&& 31)).toInt8.toInt32) (own_narB _) (hb hby own_d34_43) ?_
  intro T3 h3 X3 e3 W3 A3
  have N3 := Fr.snoc X3 N0 g_a
  obtain ⟨g3, hg3⟩ : ∃ gq_ : Nat → Int32, gq_ = fun q_ => if q_ = (2 * k) then ((ch >>> ((0 : Int32) &&& 31)).toInt8.toInt32) else g q_ := ⟨_, rfl⟩
  have A3 : own_A Z h3 a .byte (2 * n) (fun q_ => .int (g3 q_)) := by rw [hg3]; exact A3
  show own_Ends p e below s _ _ _ (own_F T3 m 44 #[rv a, iv ((j <<< ((1 : Int32) &&& 31)) + (1 : Int32)), iv ch] [])
  refine own_g (own_F T3 m 45 #[rv a, iv ((j <<< ((1 : Int32) &&& 31)) + (1 : Int32)), iv ch] [(.ref a)]) (fun _ z_ => XS.aloadN X3.here hx rfl (hb hby own_d34_44) rfl rfl z_) ?_
  refine own_g (own_F T3 m 46 #[rv a, iv ((j <<< ((1 : Int32) &&& 31)) + (1 : Int32)), iv ch] [(.int ((j <<< ((1 : Int32) &&& 31)) + (1 : Int32))), (.ref a)]) (fun _ z_ => XS.iloadN X3.here hx rfl (hb hby own_d34_45) rfl z_) ?_
  refine own_g (own_F T3 m 47 #[rv a, iv ((j <<< ((1 : Int32) &&& 31)) + (1 : Int32)), iv ch] [(.int ch), (.int ((j <<< ((1 : Int32) &&& 31)) + (1 : Int32))), (.ref a)]) (fun _ z_ => XS.iloadN X3.here hx rfl (hb hby own_d34_46) rfl z_) ?_
  obtain ⟨T4, X4, e4, st4⟩ := getS2 X3 hx hZ hown (host := "") (Or.inl (own_w hw 178)) Via.refl e3 (S_lo.wr W3) (g := (mkF m 47 #[rv a, iv ((j <<< ((1 : Int32) &&& 31)) + (1 : Int32)), iv ch] [(.int ch), (.int ((j <<< ((1 : Int32) &&& 31)) + (1 : Int32))), (.ref a)])) rfl (hb hby own_d34_47)
  refine own_pre (S' := (own_F T4 m 50 #[rv a, iv ((j <<< ((1 : Int32) &&& 31)) + (1 : Int32)), iv ch] [(.int 8), (.int ch), (.int ((j <<< ((1 : Int32) &&& 31)) + (1 : Int32))), (.ref a)])) st4 ?_
  refine own_g (own_F T4 m 51 #[rv a, iv ((j <<< ((1 : Int32) &&& 31)) + (1 : Int32)), iv ch] [(.int (ch >>> ((8 : Int32) &&& 31))), (.int ((j <<< ((1 : Int32) &&& 31)) + (1 : Int32))), (.ref a)]) (fun _ z_ => XS.ishr X4.here hx rfl (hb hby own_d34_50) rfl z_) ?_
  refine own_g (own_F T4 m 52 #[rv a, iv ((j <<< ((1 : Int32) &&& 31)) + (1 : Int32)), iv ch] [(.int ((ch >>> ((8 : Int32) &&& 31)).toInt8.toInt32)), (.int ((j <<< ((1 : Int32) &&& 31)) + (1 : Int32))), (.ref a)]) (fun _ z_ => XS.i2b X4.here hx rfl (hb hby own_d34_51) rfl z_) ?_
  refine own_bast X4 hx hZ e4 A3 (2 * k + 1) (own_add1 (own_shl1 hj hk hn) (by omega)) (by omega) ((ch >>> ((8 : Int32) &&& 31)).toInt8.toInt32) (own_narB _) (hb hby own_d34_52) ?_
  intro T5 h5 X5 e5 W5 A5
  have N5 := Fr.snoc X5 N3 g_a
  obtain ⟨g5, hg5⟩ : ∃ gq_ : Nat → Int32, gq_ = fun q_ => if q_ = (2 * k + 1) then ((ch >>> ((8 : Int32) &&& 31)).toInt8.toInt32) else g3 q_ := ⟨_, rfl⟩
  have A5 : own_A Z h5 a .byte (2 * n) (fun q_ => .int (g5 q_)) := by rw [hg5]; exact A5
  show own_Ends p e below s _ _ _ (own_F T5 m 53 #[rv a, iv ((j <<< ((1 : Int32) &&& 31)) + (1 : Int32)), iv ch] [])
  refine own_retV X5 hx hlk hrt (hb hby own_d34_53) (by decide) (by decide) ?_
  show _ ∧ Fr n0 _ ∧ Keep h0 T5.heap [a] ∧ ∃ g2 : Nat → Int32, own_A Z T5.heap a .byte (2 * n) (fun i => .int (g2 i)) ∧ _
  rw [e5]
  exact ⟨rfl, N5, (((Keep.refl _ _).wr W3 (Or.inl (List.mem_of_getElem? (i := 0) rfl))).wr W5 (Or.inl (List.mem_of_getElem? (i := 0) rfl))), _, A5, (own_put hg3 hg5)⟩
set_option maxRecDepth 65536 in
set_option maxHeartbeats 40000000 in
theorem own_getc (l : Launch) (Z : State) (a0 : Array Value) (hw : ∀ d ∈ tables_1, d.before a0 Z = true) (ws : List Jvm.Cond) (a : Addr) (n k : Nat) (j : Int32) (f : Nat → Int32) (h0 : Heap) (n0 : Nat) (Z0 : n0 ≤ h0.size) (hj : j.toInt = (k : Int)) (hk : k < n) (hn : 2 * n < 2 ^ 31) (hc : 0 ≤ (f k).toInt ∧ (f k).toInt ≤ 65535) (Aa : own_A Z h0 a .byte (2 * n) (fun i => .int (own_ub f i))) (S_ad : Sta Z h0 "java/lang/StringUTF16" "$assertionsDisabled" "Z" (.int (1 : Int32))) (S_hi : Sta Z h0 "java/lang/StringUTF16" "HI_BYTE_SHIFT" "I" (.int (0 : Int32))) (S_lo : Sta Z h0 "java/lang/StringUTF16" "LO_BYTE_SHIFT" "I" (.int (8 : Int32))) :
    own_Met l Z (⟨"java/lang/StringUTF16", "getChar", "([BI)C"⟩ : MethodName) jdk_52_method_5_code 2 (some .char) ws ({ frames := 0, cells := 0, slots := 0, locals := 0 } : Room) #[(.ref a), (.int j)] h0 (fun v h L => v = some (.int (f k)) ∧ Fr n0 L ∧ h = h0) := by
  refine own_body own_pn1 (fun m => mkF m 0 #[rv a, iv j] []) (fun m => own_ef_own_getc m a j) ?_
  intro p e s m below meth c T0 hx hby hml hlk hrt hZ hown hnm X0 e0
  have hown : s.vm.findClass "java/lang/StringUTF16" = some m.cls := hown
  have N0 := Fr.nil n0
  obtain ⟨T1, X1, e1, st1⟩ := getS2 X0 hx hZ hown (host := "") (Or.inl (own_w hw 176)) Via.refl e0 S_ad (g := (mkF m 0 #[rv a, iv j] [])) rfl (hb hby own_d35_0)
  refine own_pre (S' := (own_F T1 m 3 #[rv a, iv j] [(.int 1)])) st1 ?_
  refine own_g (own_F T1 m 28 #[rv a, iv j] []) (fun _ z_ => XS.ifYes X1.here hx rfl (pc0 := 3) (pc' := 28) rfl (hb hby own_d35_3) rfl ((if0 _ _).trans (feq (by decide : ¬ ((1 : Int32) = (0 : Int32)))).2) (by decide) (by decide) z_) ?_
  refine own_g (own_F T1 m 29 #[rv a, iv j] [(.int j)]) (fun _ z_ => XS.iloadN X1.here hx rfl (hb hby own_d35_28) rfl z_) ?_
  refine own_g (own_F T1 m 30 #[rv a, iv j] [(.int 1), (.int j)]) (fun _ z_ => XS.iconst X1.here hx rfl (hb hby own_d35_29) z_) ?_
  refine own_g (own_F T1 m 31 #[rv a, iv j] [(.int (j <<< ((1 : Int32) &&& 31)))]) (fun _ z_ => XS.ishl X1.here hx rfl (hb hby own_d35_30) rfl z_) ?_
  refine own_g (own_F T1 m 32 #[rv a, iv (j <<< ((1 : Int32) &&& 31))] []) (fun _ z_ => XS.istoreN X1.here hx rfl (hb hby own_d35_31) rfl (l' := #[rv a, iv (j <<< ((1 : Int32) &&& 31))]) rfl z_) ?_
  refine own_g (own_F T1 m 33 #[rv a, iv (j <<< ((1 : Int32) &&& 31))] [(.ref a)]) (fun _ z_ => XS.aloadN X1.here hx rfl (hb hby own_d35_32) rfl rfl z_) ?_
  refine own_g (own_F T1 m 34 #[rv a, iv (j <<< ((1 : Int32) &&& 31))] [(.int (j <<< ((1 : Int32) &&& 31))), (.ref a)]) (fun _ z_ => XS.iloadN X1.here hx rfl (hb hby own_d35_33) rfl z_) ?_
  refine own_g (own_F T1 m 37 #[rv a, iv ((j <<< ((1 : Int32) &&& 31)) + (1 : Int32))] [(.int (j <<< ((1 : Int32) &&& 31))), (.ref a)]) (fun _ z_ => XS.iinc X1.here hx rfl (hb hby own_d35_34) rfl (l' := #[rv a, iv ((j <<< ((1 : Int32) &&& 31)) + (1 : Int32))]) rfl z_) ?_
  refine own_bald X1 hx hZ e1 Aa (2 * k) (own_shl1 hj hk hn) (by omega) (hb hby own_d35_37) ?_
  show own_Ends p e below s _ _ _ (own_F T1 m 38 #[rv a, iv ((j <<< ((1 : Int32) &&& 31)) + (1 : Int32))] [(.int ((own_ub f) (2 * k)))])
  refine own_g (own_F T1 m 41 #[rv a, iv ((j <<< ((1 : Int32) &&& 31)) + (1 : Int32))] [(.int 255), (.int ((own_ub f) (2 * k)))]) (fun _ z_ => XS.sipush X1.here hx rfl (hb hby own_d35_38) z_) ?_
  refine own_g (own_F T1 m 42 #[rv a, iv ((j <<< ((1 : Int32) &&& 31)) + (1 : Int32))] [(.int (((own_ub f) (2 * k)) &&& (255 : Int32)))]) (fun _ z_ => XS.iand X1.here hx rfl (hb hby own_d35_41) rfl z_) ?_
  obtain ⟨T2, X2, e2, st2⟩ := getS2 X1 hx hZ hown (host := "") (Or.inl (own_w hw 177)) Via.refl e1 S_hi (g := (mkF m 42 #[rv a, iv ((j <<< ((1 : Int32) &&& 31)) + (1 : Int32))] [(.int (((own_ub f) (2 * k)) &&& (255 : Int32)))])) rfl (hb hby own_d35_42)
  refine own_pre (S' := (own_F T2 m 45 #[rv a, iv ((j <<< ((1 : Int32) &&& 31)) + (1 : Int32))] [(.int 0), (.int (((own_ub f) (2 * k)) &&& (255 : Int32)))])) st2 ?_
  refine own_g (own_F T2 m 46 #[rv a, iv ((j <<< ((1 : Int32) &&& 31)) + (1 : Int32))] [(.int ((((own_ub f) (2 * k)) &&& (255 : Int32)) <<< ((0 : Int32) &&& 31)))]) (fun _ z_ => XS.ishl X2.here hx rfl (hb hby own_d35_45) rfl z_) ?_
  refine own_g (own_F T2 m 47 #[rv a, iv ((j <<< ((1 : Int32) &&& 31)) + (1 : Int32))] [(.ref a), (.int ((((own_ub f) (2 * k)) &&& (255 : Int32)) <<< ((0 : Int32) &&& 31)))]) (fun _ z_ => XS.aloadN X2.here hx rfl (hb hby own_d35_46) rfl rfl z_) ?_
  refine own_g (own_F T2 m 48 #[rv a, iv ((j <<< ((1 : Int32) &&& 31)) + (1 : Int32))] [(.int ((j <<< ((1 : Int32) &&& 31)) + (1 : Int32))), (.ref a), (.int ((((own_ub f) (2 * k)) &&& (255 : Int32)) <<< ((0 : Int32) &&& 31)))]) (fun _ z_ => XS.iloadN X2.here hx rfl (hb hby own_d35_47) rfl z_) ?_
  refine own_bald X2 hx hZ e2 Aa (2 * k + 1) (own_add1 (own_shl1 hj hk hn) (by omega)) (by omega) (hb hby own_d35_48) ?_
  show own_Ends p e below s _ _ _ (own_F T2 m 49 #[rv a, iv ((j <<< ((1 : Int32) &&& 31)) + (1 : Int32))] [(.int ((own_ub f) (2 * k + 1))), (.int ((((own_ub f) (2 * k)) &&& (255 : Int32)) <<< ((0 : Int32) &&& 31)))])
  refine own_g (own_F T2 m 52 #[rv a, iv ((j <<< ((1 : Int32) &&& 31)) + (1 : Int32))] [(.int 255), (.int ((own_ub f) (2 * k + 1))), (.int ((((own_ub f) (2 * k)) &&& (255 : Int32)) <<< ((0 : Int32) &&& 31)))]) (fun _ z_ => XS.sipush X2.here hx rfl (hb hby own_d35_49) z_) ?_
  refine own_g (own_F T2 m 53 #[rv a, iv ((j <<< ((1 : Int32) &&& 31)) + (1 : Int32))] [(.int (((own_ub f) (2 * k + 1)) &&& (255 : Int32))), (.int ((((own_ub f) (2 * k)) &&& (255 : Int32)) <<< ((0 : Int32) &&& 31)))]) (fun _ z_ => XS.iand X2.here hx rfl (hb hby own_d35_52) rfl z_) ?_
  obtain ⟨T3, X3, e3, st3⟩ := getS2 X2 hx hZ hown (host := "") (Or.inl (own_w hw 178)) Via.refl e2 S_lo (g := (mkF m 53 #[rv a, iv ((j <<< ((1 : Int32) &&& 31)) + (1 : Int32))] [(.int (((own_ub f) (2 * k + 1)) &&& (255 : Int32))), (.int ((((own_ub f) (2 * k)) &&& (255 : Int32)) <<< ((0 : Int32) &&& 31)))])) rfl (hb hby own_d35_53)
  refine own_pre (S' := (own_F T3 m 56 #[rv a, iv ((j <<< ((1 : Int32) &&& 31)) + (1 : Int32))] [(.int 8), (.int (((own_ub f) (2 * k + 1)) &&& (255 : Int32))), (.int ((((own_ub f) (2 * k)) &&& (255 : Int32)) <<< ((0 : Int32) &&& 31)))])) st3 ?_
  refine own_g (own_F T3 m 57 #[rv a, iv ((j <<< ((1 : Int32) &&& 31)) + (1 : Int32))] [(.int ((((own_ub f) (2 * k + 1)) &&& (255 : Int32)) <<< ((8 : Int32) &&& 31))), (.int ((((own_ub f) (2 * k)) &&& (255 : Int32)) <<< ((0 : Int32) &&& 31)))]) (fun _ z_ => XS.ishl X3.here hx rfl (hb hby own_d35_56) rfl z_) ?_
  refine own_g (own_F T3 m 58 #[rv a, iv ((j <<< ((1 : Int32) &&& 31)) + (1 : Int32))] [(.int (((((own_ub f) (2 * k)) &&& (255 : Int32)) <<< ((0 : Int32) &&& 31)) ||| ((((own_ub f) (2 * k + 1)) &&& (255 : Int32)) <<< ((8 : Int32) &&& 31))))]) (fun _ z_ => XS.ior X3.here hx rfl (hb hby own_d35_57) rfl z_) ?_
  refine own_g (own_F T3 m 59 #[rv a, iv ((j <<< ((1 : Int32) &&& 31)) + (1 : Int32))] [(.int ((((((own_ub f) (2 * k)) &&& (255 : Int32)) <<< ((0 : Int32) &&& 31)) ||| ((((own_ub f) (2 * k + 1)) &&& (255 : Int32)) <<< ((8 : Int32) &&& 31))).toUInt32.toUInt16.toUInt32.toInt32))]) (fun _ z_ => XS.i2c X3.here hx rfl (hb hby own_d35_58) rfl z_) ?_
  refine own_ret (t := .char) X3 hx hlk hrt (own_narI _) (Or.inl ⟨rfl, by simp, _, rfl⟩) (hb hby own_d35_59) (by decide) (by decide) ?_
  exact ⟨congrArg (fun z => some (Value.int z)) (by rw [own_ub0, own_ub1]; exact own_get16 hc), N0, e3⟩
set_option maxRecDepth 65536 in
set_option maxHeartbeats 40000000 in
theorem own_nbl (l : Launch) (Z : State) (a0 : Array Value) (hw : ∀ d ∈ tables_1, d.before a0 Z = true) (ws : List Jvm.Cond) (n : Nat) (nn : Int32) (h0 : Heap) (n0 : Nat) (Z0 : n0 ≤ h0.size) (hn : nn.toInt = (n : Int)) (h2 : n < 1000000) :
    own_Met l Z (⟨"java/lang/StringUTF16", "newBytesLength", "(I)I"⟩ : MethodName) jdk_52_method_3_code 1 (some .int) ws ({ frames := 0, cells := 0, slots := 0, locals := 0 } : Room) #[(.int nn)] h0 (fun v h L => v = some (.int (nn <<< ((1 : Int32) &&& 31))) ∧ Fr n0 L ∧ h = h0) := by
  refine own_body own_pn2 (fun m => mkF m 0 #[iv nn] []) (fun m => own_ef_own_nbl m nn) ?_
  intro p e s m below meth c T0 hx hby hml hlk hrt hZ hown hnm X0 e0
  have hown : s.vm.findClass "java/lang/StringUTF16" = some m.cls := hown
  have N0 := Fr.nil n0
  refine own_g (own_F T0 m 1 #[iv nn] [(.int nn)]) (fun _ z_ => XS.iloadN X0.here hx rfl (hb hby own_d33_0) rfl z_) ?_
  refine own_g (own_F T0 m 12 #[iv nn] []) (fun _ z_ => XS.ifYes X0.here hx rfl (pc0 := 1) (pc' := 12) rfl (hb hby own_d33_1) rfl ((if0 _ _).trans (flt (own_n0 hn)).2.1) (by decide) (by decide) z_) ?_
  refine own_g (own_F T0 m 13 #[iv nn] [(.int nn)]) (fun _ z_ => XS.iloadN X0.here hx rfl (hb hby own_d33_12) rfl z_) ?_
  refine own_pre (S' := (own_F T0 m 15 #[iv nn] [(.int 1073741823), (.int nn)])) (X0.ldcInt hx hown (mvT hZ (own_w hw 172)) (g := (mkF m 13 #[iv nn] [(.int nn)])) rfl (hb hby own_d33_13)) ?_
  refine own_g (own_F T0 m 55 #[iv nn] []) (fun _ z_ => XS.icmpYes X0.here hx rfl (pc0 := 15) (pc' := 55) rfl (hb hby own_d33_15) rfl (tlt (own_n1 hn h2)).1 (by decide) (by decide) z_) ?_
  refine own_g (own_F T0 m 56 #[iv nn] [(.int nn)]) (fun _ z_ => XS.iloadN X0.here hx rfl (hb hby own_d33_55) rfl z_) ?_
  refine own_g (own_F T0 m 57 #[iv nn] [(.int 1), (.int nn)]) (fun _ z_ => XS.iconst X0.here hx rfl (hb hby own_d33_56) z_) ?_
  refine own_g (own_F T0 m 58 #[iv nn] [(.int (nn <<< ((1 : Int32) &&& 31)))]) (fun _ z_ => XS.ishl X0.here hx rfl (hb hby own_d33_57) rfl z_) ?_
  refine own_ret (t := .int) X0 hx hlk hrt rfl (Or.inl ⟨rfl, by simp, _, rfl⟩) (hb hby own_d33_58) (by decide) (by decide) ?_
  exact ⟨rfl, N0, e0⟩
set_option maxRecDepth 65536 in
set_option maxHeartbeats 40000000 in
theorem own_nbf (l : Launch) (Z : State) (a0 : Array Value) (hw : ∀ d ∈ tables_1, d.before a0 Z = true) (ws : List Jvm.Cond) (n : Nat) (nn : Int32) (h0 : Heap) (n0 : Nat) (Z0 : n0 ≤ h0.size) (hn : nn.toInt = (n : Int)) (hcap : 2 * n ≤ 32) :
    own_Met l Z (⟨"java/lang/StringUTF16", "newBytesFor", "(I)[B"⟩ : MethodName) jdk_52_method_2_code 1 (some (.array .byte)) ws ({ frames := 1, cells := 1, slots := 32, locals := 12 } : Room) #[(.int nn)] h0 (fun v h L => ∃ b : Addr, v = some (.ref b) ∧ Fr n0 L ∧ Keep h0 h [] ∧ n0 ≤ b ∧ h0.size ≤ b ∧ own_A Z h b .byte (2 * n) (fun i => .int ((fun _ => 0) i))) := by
  refine own_body own_pn3 (fun m => mkF m 0 #[iv nn] []) (fun m => own_ef_own_nbf m nn) ?_
  intro p e s m below meth c T0 hx hby hml hlk hrt hZ hown hnm X0 e0
  have hown : s.vm.findClass "java/lang/StringUTF16" = some m.cls := hown
  have N0 := Fr.nil n0
  refine own_g (own_F T0 m 1 #[iv nn] [(.int nn)]) (fun _ z_ => XS.iloadN X0.here hx rfl (hb hby own_d32_0) rfl z_) ?_
  refine own_callS (y := (⟨"java/lang/StringUTF16", "newBytesLength", "(I)I"⟩ : MethodName)) X0 hx hZ hown (own_w hw 169) (own_w hw 170) (own_w hw 41) (own_w hw 171) (by decide) e0 (hM := own_nbl l Z a0 hw [] n nn h0 n0 Z0 hn (by omega)) (W := 0) (pc := 1) (Ls := #[iv nn]) (argsL := [(.int nn)]) (rest := []) (st0 := [(.int nn)]) (by rw [hml]; rfl) (lenOf own_pd0 rfl) rfl (Nat.le_of_eq rfl) (hb hby own_d32_1) (by decide) (by decide) (by decide) (by decide) ?_
  intro v1 T1 L1 s X1 hZ hown hI1 hvm1 hhp1 hWw1 hQ1
  obtain ⟨rfl, Nq1, hh1⟩ := hQ1
  have N1 := Fr.app N0 Nq1
  show own_Ends p e below s _ _ _ (own_F T1 m 4 #[iv nn] [(.int (nn <<< ((1 : Int32) &&& 31)))])
  refine own_newA X1 hx hZ .byte rfl (own_w hw 20) hh1 (hb hby own_d32_4) (2 * n) (own_shl1' hn (by omega)) 32 (by omega) (by decide) (by decide) (by decide) ?_
  intro T2 h2 b2 X2 e2 E2 g2 A2
  have sz_b2 : h0.size ≤ b2 := Nat.le_trans (Nat.le_refl h0.size) (Nat.le_of_eq g2.symm)
  have ge_b2 : n0 ≤ b2 := Nat.le_trans Z0 (Nat.le_of_eq g2.symm)
  have A2 : own_A Z h2 b2 .byte (2 * n) (fun q_ => .int ((fun _ => (0 : Int32)) q_)) := A2
  show own_Ends p e below s _ _ _ (own_F T2 m 6 #[iv nn] [(.ref b2)])
  refine own_ret (t := (.array .byte)) X2 hx hlk hrt rfl (Or.inr (Or.inr (Or.inr (Or.inr ⟨rfl, rfl, rfl⟩)))) (hb hby own_d32_6) (by decide) (by decide) ?_
  exact ⟨b2, rfl, N1, (e2.symm ▸ ((Keep.refl _ _).ext E2)), ge_b2, sz_b2, (e2.symm ▸ A2)⟩
set_option maxRecDepth 65536 in
set_option maxHeartbeats 40000000 in
theorem own_tob (l : Launch) (Z : State) (a0 : Array Value) (hw : ∀ d ∈ tables_1, d.before a0 Z = true) (ws : List Jvm.Cond) (a : Addr) (n : Nat) (nn : Int32) (f : Nat → Int32) (h0 : Heap) (n0 : Nat) (Z0 : n0 ≤ h0.size) (hn : nn.toInt = (n : Int)) (hcap : 2 * n ≤ 32) (Aa : own_A Z h0 a .char n (fun i => .int (f i))) (S_ad : Sta Z h0 "java/lang/StringUTF16" "$assertionsDisabled" "Z" (.int (1 : Int32))) (S_hi : Sta Z h0 "java/lang/StringUTF16" "HI_BYTE_SHIFT" "I" (.int (0 : Int32))) (S_lo : Sta Z h0 "java/lang/StringUTF16" "LO_BYTE_SHIFT" "I" (.int (8 : Int32))) :
    own_Met l Z (⟨"java/lang/StringUTF16", "toBytes", "([CII)[B"⟩ : MethodName) jdk_52_method_14_code 5 (some (.array .byte)) ws ({ frames := 2, cells := 1, slots := 32, locals := 24 } : Room) #[(.ref a), (.int 0), (.int nn)] h0 (fun v h L => ∃ b : Addr, v = some (.ref b) ∧ Fr n0 L ∧ Keep h0 h [] ∧ n0 ≤ b ∧ h0.size ≤ b ∧ own_A Z h b .byte (2 * n) (fun i => .int (own_ub f i))) := by
  refine own_body own_pn4 (fun m => mkF m 0 #[rv a, iv 0, iv nn, .unset, .unset] []) (fun m => own_ef_own_tob m a (0 : Int32) nn) ?_
  intro p e s m below meth c T0 hx hby hml hlk hrt hZ hown hnm X0 e0
  have hown : s.vm.findClass "java/lang/StringUTF16" = some m.cls := hown
  have N0 := Fr.nil n0
  refine own_g (own_F T0 m 1 #[rv a, iv 0, iv nn, .unset, .unset] [(.int nn)]) (fun _ z_ => XS.iloadN X0.here hx rfl (hb hby own_d31_0) rfl z_) ?_
  refine own_callS (y := (⟨"java/lang/StringUTF16", "newBytesFor", "(I)[B"⟩ : MethodName)) X0 hx hZ hown (own_w hw 166) (own_w hw 167) (own_w hw 41) (own_w hw 168) (by decide) e0 (hM := own_nbf l Z a0 hw [] n nn h0 n0 Z0 hn hcap) (W := 0) (pc := 1) (Ls := #[rv a, iv 0, iv nn, .unset, .unset]) (argsL := [(.int nn)]) (rest := []) (st0 := [(.int nn)]) (by rw [hml]; rfl) (lenOf own_pd1 rfl) rfl (Nat.le_of_eq rfl) (hb hby own_d31_1) (by decide) (by decide) (by decide) (by decide) ?_
  intro v1 T1 L1 s X1 hZ hown hI1 hvm1 hhp1 hWw1 hQ1
  obtain ⟨b1, rfl, Nq1, K1, ge_b1, sz_b1, Ab1⟩ := hQ1
  have N1 := Fr.app N0 Nq1
  show own_Ends p e below s _ _ _ (own_F T1 m 4 #[rv a, iv 0, iv nn, .unset, .unset] [(.ref b1)])
  have ne_ab1 : a ≠ b1 := Nat.ne_of_lt (Nat.lt_of_lt_of_le Aa.lt sz_b1)
  refine own_g (own_F T1 m 5 #[rv a, iv 0, iv nn, rv b1, .unset] []) (fun _ z_ => XS.astoreN X1.here hx rfl (hb hby own_d31_4) rfl rfl (l' := #[rv a, iv 0, iv nn, rv b1, .unset]) rfl z_) ?_
  refine own_g (own_F T1 m 6 #[rv a, iv 0, iv nn, rv b1, .unset] [(.int 0)]) (fun _ z_ => XS.iconst X1.here hx rfl (hb hby own_d31_5) z_) ?_
  refine own_g (own_F T1 m 8 #[rv a, iv 0, iv nn, rv b1, iv 0] []) (fun _ z_ => XS.istore X1.here hx rfl (hb hby own_d31_6) rfl (l' := #[rv a, iv 0, iv nn, rv b1, iv 0]) rfl z_) ?_
  have J : ∀ (r : Nat) (k : Nat) (j : Int32) (g : Nat → Int32) (T2 : State) (lc2 : List Loc) (hp2 : Heap) (s : State) (hZ : Z.Warmed39 s.vm) (hown : s.vm.findClass "java/lang/StringUTF16" = some m.cls) (X2 : Stand p l e ({ frames := 2, cells := 1, slots := 32, locals := 24 } : Room) s m #[(.ref a), (.int 0), (.int nn)] below meth c T2 lc2 1 32) (e2 : T2.heap = hp2) (N2 : Fr n0 lc2) (zs2 : n0 ≤ hp2.size) (zz2 : h0.size ≤ hp2.size) (K2 : Keep h0 hp2 []) (f2_0 : own_A Z hp2 a .char n (fun i => .int (f i))) (f2_1 : own_A Z hp2 b1 .byte (2 * n) (fun i => .int (g i))) (f2_2 : Sta Z hp2 "java/lang/StringUTF16" "$assertionsDisabled" "Z" (.int (1 : Int32))) (f2_3 : Sta Z hp2 "java/lang/StringUTF16" "HI_BYTE_SHIFT" "I" (.int (0 : Int32))) (f2_4 : Sta Z hp2 "java/lang/StringUTF16" "LO_BYTE_SHIFT" "I" (.int (8 : Int32))) (hkr : k + r = n) (hj : j.toInt = (k : Int)) (hg : ∀ i, i < 2 * k → g i = own_ub f i), own_Ends p e below s ((fun v h L _ => ∃ b : Addr, v = some (.ref b) ∧ Fr n0 L ∧ Keep h0 h [] ∧ n0 ≤ b ∧ h0.size ≤ b ∧ own_A Z h b .byte (2 * n) (fun i => .int (own_ub f i))), []) ({ frames := 2, cells := 1, slots := 32, locals := 24 } : Room).cells ({ frames := 2, cells := 1, slots := 32, locals := 24 } : Room).slots (own_F T2 m 8 #[rv a, iv j, iv nn, rv b1, iv j] []) := by
   intro r
   induction r with
   | zero =>
    intro k j g T2 lc2 hp2 s hZ hown X2 e2 N2 zs2 zz2 K2 f2_0 f2_1 f2_2 f2_3 f2_4 hkr hj hg
    refine own_g (own_F T2 m 10 #[rv a, iv j, iv nn, rv b1, iv j] [(.int j)]) (fun _ z_ => XS.iload X2.here hx rfl (hb hby own_d31_8) rfl z_) ?_
    refine own_g (own_F T2 m 11 #[rv a, iv j, iv nn, rv b1, iv j] [(.int nn), (.int j)]) (fun _ z_ => XS.iloadN X2.here hx rfl (hb hby own_d31_10) rfl z_) ?_
    refine own_g (own_F T2 m 32 #[rv a, iv j, iv nn, rv b1, iv j] []) (fun _ z_ => XS.icmpYes X2.here hx rfl (pc0 := 11) (pc' := 32) rfl (hb hby own_d31_11) rfl (flt (own_jge hj hn (by omega))).2.1 (by decide) (by decide) z_) ?_
    refine own_g (own_F T2 m 33 #[rv a, iv j, iv nn, rv b1, iv j] [(.ref b1)]) (fun _ z_ => XS.aloadN X2.here hx rfl (hb hby own_d31_32) rfl rfl z_) ?_
    refine own_ret (t := (.array .byte)) X2 hx hlk hrt rfl (Or.inr (Or.inr (Or.inr (Or.inr ⟨rfl, rfl, rfl⟩)))) (hb hby own_d31_33) (by decide) (by decide) ?_
    show ∃ b : Addr, _ ∧ Fr n0 _ ∧ Keep h0 T2.heap [] ∧ _ ∧ _ ∧ own_A Z T2.heap b .byte (2 * n) _
    rw [e2]
    exact ⟨b1, rfl, N2, K2, ge_b1, sz_b1, (f2_1).congr fun i hi => congrArg Value.int (hg i (by omega))⟩
   | succ r ih =>
    intro k j g T2 lc2 hp2 s hZ hown X2 e2 N2 zs2 zz2 K2 f2_0 f2_1 f2_2 f2_3 f2_4 hkr hj hg
    have hkn : k < n := by omega
    refine own_g (own_F T2 m 10 #[rv a, iv j, iv nn, rv b1, iv j] [(.int j)]) (fun _ z_ => XS.iload X2.here hx rfl (hb hby own_d31_8) rfl z_) ?_
    refine own_g (own_F T2 m 11 #[rv a, iv j, iv nn, rv b1, iv j] [(.int nn), (.int j)]) (fun _ z_ => XS.iloadN X2.here hx rfl (hb hby own_d31_10) rfl z_) ?_
    refine own_g (own_F T2 m 14 #[rv a, iv j, iv nn, rv b1, iv j] []) (fun _ z_ => XS.icmpNo X2.here hx rfl (hb hby own_d31_11) rfl (tlt (own_jlt hj hn hkn)).2.1 z_) ?_
    refine own_g (own_F T2 m 15 #[rv a, iv j, iv nn, rv b1, iv j] [(.ref b1)]) (fun _ z_ => XS.aloadN X2.here hx rfl (hb hby own_d31_14) rfl rfl z_) ?_
    refine own_g (own_F T2 m 17 #[rv a, iv j, iv nn, rv b1, iv j] [(.int j), (.ref b1)]) (fun _ z_ => XS.iload X2.here hx rfl (hb hby own_d31_15) rfl z_) ?_
    refine own_g (own_F T2 m 18 #[rv a, iv j, iv nn, rv b1, iv j] [(.ref a), (.int j), (.ref b1)]) (fun _ z_ => XS.aloadN X2.here hx rfl (hb hby own_d31_17) rfl rfl z_) ?_
    refine own_g (own_F T2 m 19 #[rv a, iv j, iv nn, rv b1, iv j] [(.int j), (.ref a), (.int j), (.ref b1)]) (fun _ z_ => XS.iloadN X2.here hx rfl (hb hby own_d31_18) rfl z_) ?_
    refine own_cald X2 hx hZ e2 f2_0 k hj hkn (hb hby own_d31_19) ?_
    show own_Ends p e below s _ _ _ (own_F T2 m 20 #[rv a, iv j, iv nn, rv b1, iv j] [(.int (f k)), (.int j), (.ref b1)])
    refine own_callS (y := (⟨"java/lang/StringUTF16", "putChar", "([BII)V"⟩ : MethodName)) X2 hx hZ hown (own_w hw 173) (own_w hw 174) (own_w hw 41) (own_w hw 175) (by decide) e2 (hM := own_putc l Z a0 hw [] b1 n k j (f k) g hp2 n0 zs2 hj hkn (by omega) f2_1 ge_b1 f2_2 f2_3 f2_4) (W := 0) (pc := 20) (Ls := #[rv a, iv j, iv nn, rv b1, iv j]) (argsL := [(.ref b1), (.int j), (.int (f k))]) (rest := []) (st0 := [(.int (f k)), (.int j), (.ref b1)]) (by rw [hml]; rfl) (lenOf own_pd2 rfl) rfl (Nat.le_of_eq rfl) (hb hby own_d31_20) (by decide) (by decide) (by decide) (by decide) ?_
    intro v3 T3 L3 s X3 hZ hown hI3 hvm3 hhp3 hWw3 hQ3
    obtain ⟨rfl, Nq3, K3, g3, Ab3, hg3⟩ := hQ3
    have N3 := Fr.app N2 Nq3
    show own_Ends p e below s _ _ _ (own_F T3 m 23 #[rv a, iv j, iv nn, rv b1, iv j] [])
    refine own_g (own_F T3 m 26 #[rv a, iv (j + (1 : Int32)), iv nn, rv b1, iv j] []) (fun _ z_ => XS.iinc X3.here hx rfl (hb hby own_d31_23) rfl (l' := #[rv a, iv (j + (1 : Int32)), iv nn, rv b1, iv j]) rfl z_) ?_
    refine own_g (own_F T3 m 29 #[rv a, iv (j + (1 : Int32)), iv nn, rv b1, iv (j + (1 : Int32))] []) (fun _ z_ => XS.iinc X3.here hx rfl (hb hby own_d31_26) rfl (l' := #[rv a, iv (j + (1 : Int32)), iv nn, rv b1, iv (j + (1 : Int32))]) rfl z_) ?_
    refine own_g (own_F T3 m 8 #[rv a, iv (j + (1 : Int32)), iv nn, rv b1, iv (j + (1 : Int32))] []) (fun _ z_ => XS.goto X3.here hx rfl (pc0 := 29) (pc' := 8) rfl (hb hby own_d31_29) (by decide) (by decide) z_) ?_
    exact ih (k + 1) (j + (1 : Int32)) g3 T3 _ _ s hZ hown X3 (rfl : T3.heap = T3.heap) N3 (Nat.le_trans zs2 K3.1) (Nat.le_trans zz2 K3.1) (K2.trans K3 (allS (Or.inr sz_b1) all0)) (f2_0.keep K3 (ninS ne_ab1 nin0)) Ab3 (own_sta_keep f2_2 K3 (allS (own_plainA f2_1) all0)) (own_sta_keep f2_3 K3 (allS (own_plainA f2_1) all0)) (own_sta_keep f2_4 K3 (allS (own_plainA f2_1) all0)) (by omega) (own_succ hj hkn (by omega)) (own_ubs hg hg3)
  exact J n 0 (0 : Int32) (fun _ => 0) T1 _ _ s hZ hown X1 (rfl : T1.heap = T1.heap) N1 (Nat.le_trans Z0 K1.1) (Nat.le_trans (Nat.le_refl h0.size) K1.1) ((Keep.refl _ _).trans K1 all0) (Aa.keep K1 nin0) Ab1 (own_sta_keep S_ad K1 all0) (own_sta_keep S_hi K1 all0) (own_sta_keep S_lo K1 all0) (by omega) rfl (fun i hi => absurd hi (by omega))
set_option maxRecDepth 65536 in
set_option maxHeartbeats 40000000 in
theorem own_cmp2 (l : Launch) (Z : State) (a0 : Array Value) (hw : ∀ d ∈ tables_1, d.before a0 Z = true) (ws : List Jvm.Cond) (a b : Addr) (n : Nat) (nn : Int32) (f g : Nat → Int32) (h0 : Heap) (n0 : Nat) (Z0 : n0 ≤ h0.size) (hn : nn.toInt = (n : Int)) (hn31 : n < 2 ^ 31) (Aa : own_A Z h0 a .char n (fun i => .int (f i))) (Ab : own_A Z h0 b .byte n (fun i => .int (g i))) (g_b : n0 ≤ b) (ne_ab : a ≠ b) :
    own_Met l Z (⟨"java/lang/StringUTF16", "compress", "([CI[BII)I"⟩ : MethodName) jdk_52_method_21_code 7 (some .int) ws ({ frames := 0, cells := 0, slots := 0, locals := 0 } : Room) #[(.ref a), (.int 0), (.ref b), (.int 0), (.int nn)] h0 (fun v h L => ∃ rr : Nat, (∃ jj : Int32, v = some (.int jj) ∧ jj.toInt = (rr : Int)) ∧ Fr n0 L ∧ Keep h0 h [b] ∧ (rr = n ∧ (∀ i, i < n → (f i).toInt ≤ 255) ∧ own_A Z h b .byte n (fun i => .int ((f i).toInt8.toInt32)) ∨ rr < n ∧ 255 < (f rr).toInt ∧ ∃ g' : Nat → Int32, own_A Z h b .byte n (fun i => .int (g' i)))) := by
  refine own_body own_pn5 (fun m => mkF m 0 #[rv a, iv 0, rv b, iv 0, iv nn, .unset, .unset] []) (fun m => own_ef_own_cmp2 m a (0 : Int32) b (0 : Int32) nn) ?_
  intro p e s m below meth c T0 hx hby hml hlk hrt hZ hown hnm X0 e0
  have hown : s.vm.findClass "java/lang/StringUTF16" = some m.cls := hown
  have N0 := Fr.nil n0
  have J : ∀ (r : Nat) (k : Nat) (j : Int32) (s6 : Slot) (g : Nat → Int32) (T1 : State) (lc1 : List Loc) (hp1 : Heap) (s : State) (hZ : Z.Warmed39 s.vm) (hown : s.vm.findClass "java/lang/StringUTF16" = some m.cls) (X1 : Stand p l e ({ frames := 0, cells := 0, slots := 0, locals := 0 } : Room) s m #[(.ref a), (.int 0), (.ref b), (.int 0), (.int nn)] below meth c T1 lc1 0 0) (e1 : T1.heap = hp1) (N1 : Fr n0 lc1) (zs1 : n0 ≤ hp1.size) (zz1 : h0.size ≤ hp1.size) (K1 : Keep h0 hp1 [b]) (f1_0 : own_A Z hp1 a .char n (fun i => .int (f i))) (f1_1 : own_A Z hp1 b .byte n (fun i => .int (g i))) (hkr : k + r = n) (hj : j.toInt = (k : Int)) (hs6 : One s6) (hg : ∀ i, i < k → g i = (f i).toInt8.toInt32) (hl : ∀ i, i < k → (f i).toInt ≤ 255), own_Ends p e below s ((fun v h L _ => ∃ rr : Nat, (∃ jj : Int32, v = some (.int jj) ∧ jj.toInt = (rr : Int)) ∧ Fr n0 L ∧ Keep h0 h [b] ∧ (rr = n ∧ (∀ i, i < n → (f i).toInt ≤ 255) ∧ own_A Z h b .byte n (fun i => .int ((f i).toInt8.toInt32)) ∨ rr < n ∧ 255 < (f rr).toInt ∧ ∃ g' : Nat → Int32, own_A Z h b .byte n (fun i => .int (g' i)))), []) ({ frames := 0, cells := 0, slots := 0, locals := 0 } : Room).cells ({ frames := 0, cells := 0, slots := 0, locals := 0 } : Room).slots (own_F T1 m 3 #[rv a, iv j, rv b, iv j, iv nn, iv j, s6] []) := by
   intro r
   induction r with
   | zero =>
    intro k j s6 g T1 lc1 hp1 s hZ hown X1 e1 N1 zs1 zz1 K1 f1_0 f1_1 hkr hj hs6 hg hl
    refine own_g (own_F T1 m 5 #[rv a, iv j, rv b, iv j, iv nn, iv j, s6] [(.int j)]) (fun _ z_ => XS.iload X1.here hx rfl (hb hby own_d7_3) rfl z_) ?_
    refine own_g (own_F T1 m 7 #[rv a, iv j, rv b, iv j, iv nn, iv j, s6] [(.int nn), (.int j)]) (fun _ z_ => XS.iload X1.here hx rfl (hb hby own_d7_5) rfl z_) ?_
    refine own_g (own_F T1 m 44 #[rv a, iv j, rv b, iv j, iv nn, iv j, s6] []) (fun _ z_ => XS.icmpYes X1.here hx rfl (pc0 := 7) (pc' := 44) rfl (hb hby own_d7_7) rfl (flt (own_jge hj hn (by omega))).2.1 (by decide) (by decide) z_) ?_
    refine own_g (own_F T1 m 46 #[rv a, iv j, rv b, iv j, iv nn, iv j, s6] [(.int nn)]) (fun _ z_ => XS.iload X1.here hx rfl (hb hby own_d7_44) rfl z_) ?_
    refine own_ret (t := .int) X1 hx hlk hrt rfl (Or.inl ⟨rfl, by simp, _, rfl⟩) (hb hby own_d7_46) (by decide) (by decide) ?_
    show ∃ (rr : Nat), _ ∧ Fr n0 _ ∧ Keep h0 T1.heap [b] ∧ (_ ∧ _ ∧ own_A Z T1.heap b .byte n _ ∨ _ ∧ _ ∧ ∃ g', own_A Z T1.heap b .byte n _)
    rw [e1]
    exact ⟨n, ⟨nn, rfl, hn⟩, N1, K1, Or.inl ⟨rfl, fun i hi => hl i (by omega), (f1_1).congr fun i hi => congrArg Value.int (hg i (by omega))⟩⟩
   | succ r ih =>
    intro k j s6 g T1 lc1 hp1 s hZ hown X1 e1 N1 zs1 zz1 K1 f1_0 f1_1 hkr hj hs6 hg hl
    have hkn : k < n := by omega
    refine own_g (own_F T1 m 5 #[rv a, iv j, rv b, iv j, iv nn, iv j, s6] [(.int j)]) (fun _ z_ => XS.iload X1.here hx rfl (hb hby own_d7_3) rfl z_) ?_
    refine own_g (own_F T1 m 7 #[rv a, iv j, rv b, iv j, iv nn, iv j, s6] [(.int nn), (.int j)]) (fun _ z_ => XS.iload X1.here hx rfl (hb hby own_d7_5) rfl z_) ?_
    refine own_g (own_F T1 m 10 #[rv a, iv j, rv b, iv j, iv nn, iv j, s6] []) (fun _ z_ => XS.icmpNo X1.here hx rfl (hb hby own_d7_7) rfl (tlt (own_jlt hj hn hkn)).2.1 z_) ?_
    refine own_g (own_F T1 m 11 #[rv a, iv j, rv b, iv j, iv nn, iv j, s6] [(.ref a)]) (fun _ z_ => XS.aloadN X1.here hx rfl (hb hby own_d7_10) rfl rfl z_) ?_
    refine own_g (own_F T1 m 12 #[rv a, iv j, rv b, iv j, iv nn, iv j, s6] [(.int j), (.ref a)]) (fun _ z_ => XS.iloadN X1.here hx rfl (hb hby own_d7_11) rfl z_) ?_
    refine own_cald X1 hx hZ e1 f1_0 k hj hkn (hb hby own_d7_12) ?_
    show own_Ends p e below s _ _ _ (own_F T1 m 13 #[rv a, iv j, rv b, iv j, iv nn, iv j, s6] [(.int (f k))])
    refine own_g (own_F T1 m 15 #[rv a, iv j, rv b, iv j, iv nn, iv j, iv (f k)] []) (fun _ z_ => XS.istore X1.here hx rfl (hb hby own_d7_13) rfl (l' := #[rv a, iv j, rv b, iv j, iv nn, iv j, iv (f k)]) (own_st1 rfl hs6 rfl rfl) z_) ?_
    refine own_g (own_F T1 m 17 #[rv a, iv j, rv b, iv j, iv nn, iv j, iv (f k)] [(.int (f k))]) (fun _ z_ => XS.iload X1.here hx rfl (hb hby own_d7_15) rfl z_) ?_
    refine own_g (own_F T1 m 20 #[rv a, iv j, rv b, iv j, iv nn, iv j, iv (f k)] [(.int 255), (.int (f k))]) (fun _ z_ => XS.sipush X1.here hx rfl (hb hby own_d7_17) z_) ?_
    by_cases c20 : (255 : Int32) < (f k)
    · -- pc 20: (255 : Int32) < (f k)
     refine own_g (own_F T1 m 23 #[rv a, iv j, rv b, iv j, iv nn, iv j, iv (f k)] []) (fun _ z_ => XS.icmpNo X1.here hx rfl (hb hby own_d7_20) rfl (tlt c20).2.2.2 z_) ?_
     refine own_g (own_F T1 m 25 #[rv a, iv j, rv b, iv j, iv nn, iv j, iv (f k)] [(.int j)]) (fun _ z_ => XS.iload X1.here hx rfl (hb hby own_d7_23) rfl z_) ?_
     refine own_ret (t := .int) X1 hx hlk hrt rfl (Or.inl ⟨rfl, by simp, _, rfl⟩) (hb hby own_d7_25) (by decide) (by decide) ?_
     show ∃ (rr : Nat), _ ∧ Fr n0 _ ∧ Keep h0 T1.heap [b] ∧ (_ ∧ _ ∧ own_A Z T1.heap b .byte n _ ∨ _ ∧ _ ∧ ∃ g', own_A Z T1.heap b .byte n _)
     rw [e1]
     exact ⟨k, ⟨j, rfl, hj⟩, N1, K1, Or.inr ⟨hkn, own_gt255 c20, g, f1_1⟩⟩
    · -- pc 20: not (255 : Int32) < (f k)
     refine own_g (own_F T1 m 26 #[rv a, iv j, rv b, iv j, iv nn, iv j, iv (f k)] []) (fun _ z_ => XS.icmpYes X1.here hx rfl (pc0 := 20) (pc' := 26) rfl (hb hby own_d7_20) rfl (flt c20).2.2.2 (by decide) (by decide) z_) ?_
     refine own_g (own_F T1 m 27 #[rv a, iv j, rv b, iv j, iv nn, iv j, iv (f k)] [(.ref b)]) (fun _ z_ => XS.aloadN X1.here hx rfl (hb hby own_d7_26) rfl rfl z_) ?_
     refine own_g (own_F T1 m 28 #[rv a, iv j, rv b, iv j, iv nn, iv j, iv (f k)] [(.int j), (.ref b)]) (fun _ z_ => XS.iloadN X1.here hx rfl (hb hby own_d7_27) rfl z_) ?_
     refine own_g (own_F T1 m 30 #[rv a, iv j, rv b, iv j, iv nn, iv j, iv (f k)] [(.int (f k)), (.int j), (.ref b)]) (fun _ z_ => XS.iload X1.here hx rfl (hb hby own_d7_28) rfl z_) ?_
     refine own_g (own_F T1 m 31 #[rv a, iv j, rv b, iv j, iv nn, iv j, iv (f k)] [(.int ((f k).toInt8.toInt32)), (.int j), (.ref b)]) (fun _ z_ => XS.i2b X1.here hx rfl (hb hby own_d7_30) rfl z_) ?_
     refine own_bast X1 hx hZ e1 f1_1 k hj hkn ((f k).toInt8.toInt32) (own_narB _) (hb hby own_d7_31) ?_
     intro T2 h2 X2 e2 W2 A2
     have N2 := Fr.snoc X2 N1 g_b
     obtain ⟨g2, hg2⟩ : ∃ gq_ : Nat → Int32, gq_ = fun q_ => if q_ = k then ((f k).toInt8.toInt32) else g q_ := ⟨_, rfl⟩
     have A2 : own_A Z h2 b .byte n (fun q_ => .int (g2 q_)) := by rw [hg2]; exact A2
     show own_Ends p e below s _ _ _ (own_F T2 m 32 #[rv a, iv j, rv b, iv j, iv nn, iv j, iv (f k)] [])
     refine own_g (own_F T2 m 35 #[rv a, iv (j + (1 : Int32)), rv b, iv j, iv nn, iv j, iv (f k)] []) (fun _ z_ => XS.iinc X2.here hx rfl (hb hby own_d7_32) rfl (l' := #[rv a, iv (j + (1 : Int32)), rv b, iv j, iv nn, iv j, iv (f k)]) rfl z_) ?_
     refine own_g (own_F T2 m 38 #[rv a, iv (j + (1 : Int32)), rv b, iv (j + (1 : Int32)), iv nn, iv j, iv (f k)] []) (fun _ z_ => XS.iinc X2.here hx rfl (hb hby own_d7_35) rfl (l' := #[rv a, iv (j + (1 : Int32)), rv b, iv (j + (1 : Int32)), iv nn, iv j, iv (f k)]) rfl z_) ?_
     refine own_g (own_F T2 m 41 #[rv a, iv (j + (1 : Int32)), rv b, iv (j + (1 : Int32)), iv nn, iv (j + (1 : Int32)), iv (f k)] []) (fun _ z_ => XS.iinc X2.here hx rfl (hb hby own_d7_38) rfl (l' := #[rv a, iv (j + (1 : Int32)), rv b, iv (j + (1 : Int32)), iv nn, iv (j + (1 : Int32)), iv (f k)]) rfl z_) ?_
     refine own_g (own_F T2 m 3 #[rv a, iv (j + (1 : Int32)), rv b, iv (j + (1 : Int32)), iv nn, iv (j + (1 : Int32)), iv (f k)] []) (fun _ z_ => XS.goto X2.here hx rfl (pc0 := 41) (pc' := 3) rfl (hb hby own_d7_41) (by decide) (by decide) z_) ?_
     exact ih (k + 1) (j + (1 : Int32)) _ g2 T2 _ _ s hZ hown X2 e2 N2 (Nat.le_trans zs1 (Nat.le_of_eq W2.size.symm)) (Nat.le_trans zz1 (Nat.le_of_eq W2.size.symm)) (K1.wr W2 (Or.inl (List.mem_of_getElem? (i := 0) rfl))) (f1_0.other W2 ne_ab) A2 (by omega) (own_succ hj hkn hn31) (One.val rfl) (own_gstep hg hg2 rfl) (own_lstep hl c20)
  refine own_g (own_F T0 m 1 #[rv a, iv 0, rv b, iv 0, iv nn, .unset, .unset] [(.int 0)]) (fun _ z_ => XS.iconst X0.here hx rfl (hb hby own_d7_0) z_) ?_
  refine own_g (own_F T0 m 3 #[rv a, iv 0, rv b, iv 0, iv nn, iv 0, .unset] []) (fun _ z_ => XS.istore X0.here hx rfl (hb hby own_d7_1) rfl (l' := #[rv a, iv 0, rv b, iv 0, iv nn, iv 0, .unset]) rfl z_) ?_
  exact J n 0 (0 : Int32) _ g T0 _ _ s hZ hown X0 e0 N0 Z0 (Nat.le_refl h0.size) (Keep.refl _ _) Aa Ab (by omega) rfl (One.u) (fun i hi => absurd hi (Nat.not_lt_zero i)) (fun i hi => absurd hi (Nat.not_lt_zero i))
set_option maxRecDepth 65536 in
set_option maxHeartbeats 40000000 in
theorem own_cmp1 (l : Launch) (Z : State) (a0 : Array Value) (hw : ∀ d ∈ tables_1, d.before a0 Z = true) (ws : List Jvm.Cond) (a : Addr) (n : Nat) (nn : Int32) (f : Nat → Int32) (h0 : Heap) (n0 : Nat) (Z0 : n0 ≤ h0.size) (hn : nn.toInt = (n : Int)) (hcap : 2 * n ≤ 32) (Aa : own_A Z h0 a .char n (fun i => .int (f i))) (hf : ∀ i, i < n → 0 ≤ (f i).toInt ∧ (f i).toInt ≤ 65535) (S_ad : Sta Z h0 "java/lang/StringUTF16" "$assertionsDisabled" "Z" (.int (1 : Int32))) (S_hi : Sta Z h0 "java/lang/StringUTF16" "HI_BYTE_SHIFT" "I" (.int (0 : Int32))) (S_lo : Sta Z h0 "java/lang/StringUTF16" "LO_BYTE_SHIFT" "I" (.int (8 : Int32))) :
    own_Met l Z (⟨"java/lang/StringUTF16", "compress", "([CII)[B"⟩ : MethodName) jdk_52_method_16_code 6 (some (.array .byte)) ws ({ frames := 3, cells := 2, slots := 64, locals := 40 } : Room) #[(.ref a), (.int 0), (.int nn)] h0 (fun v h L => ∃ b : Addr, v = some (.ref b) ∧ Fr n0 L ∧ Keep h0 h [] ∧ n0 ≤ b ∧ h0.size ≤ b ∧ ((∀ i, i < n → (f i).toInt ≤ 255) ∧ own_A Z h b .byte n (fun i => .int ((f i).toInt8.toInt32)) ∨ own_A Z h b .byte (2 * n) (fun i => .int (own_ub f i)))) := by
  refine own_body own_pn6 (fun m => mkF m 0 #[rv a, iv 0, iv nn, .unset, .unset, .unset] []) (fun m => own_ef_own_cmp1 m a (0 : Int32) nn) ?_
  intro p e s m below meth c T0 hx hby hml hlk hrt hZ hown hnm X0 e0
  have hown : s.vm.findClass "java/lang/StringUTF16" = some m.cls := hown
  have N0 := Fr.nil n0
  refine own_g (own_F T0 m 1 #[rv a, iv 0, iv nn, .unset, .unset, .unset] [(.int nn)]) (fun _ z_ => XS.iloadN X0.here hx rfl (hb hby own_d6_0) rfl z_) ?_
  refine own_newA X0 hx hZ .byte rfl (own_w hw 20) e0 (hb hby own_d6_1) n hn 32 (by omega) (by decide) (by decide) (by decide) ?_
  intro T1 h1 b1 X1 e1 E1 g1 A1
  have sz_b1 : h0.size ≤ b1 := Nat.le_trans (Nat.le_refl h0.size) (Nat.le_of_eq g1.symm)
  have ge_b1 : n0 ≤ b1 := Nat.le_trans Z0 (Nat.le_of_eq g1.symm)
  have ne_a_b1 : a ≠ b1 := Nat.ne_of_lt (Nat.lt_of_lt_of_le Aa.lt (Nat.le_of_eq g1.symm))
  have A1 : own_A Z h1 b1 .byte n (fun q_ => .int ((fun _ => (0 : Int32)) q_)) := A1
  show own_Ends p e below s _ _ _ (own_F T1 m 3 #[rv a, iv 0, iv nn, .unset, .unset, .unset] [(.ref b1)])
  refine own_g (own_F T1 m 4 #[rv a, iv 0, iv nn, rv b1, .unset, .unset] []) (fun _ z_ => XS.astoreN X1.here hx rfl (hb hby own_d6_3) rfl rfl (l' := #[rv a, iv 0, iv nn, rv b1, .unset, .unset]) rfl z_) ?_
  refine own_g (own_F T1 m 5 #[rv a, iv 0, iv nn, rv b1, .unset, .unset] [(.ref a)]) (fun _ z_ => XS.aloadN X1.here hx rfl (hb hby own_d6_4) rfl rfl z_) ?_
  refine own_g (own_F T1 m 6 #[rv a, iv 0, iv nn, rv b1, .unset, .unset] [(.int 0), (.ref a)]) (fun _ z_ => XS.iloadN X1.here hx rfl (hb hby own_d6_5) rfl z_) ?_
  refine own_g (own_F T1 m 7 #[rv a, iv 0, iv nn, rv b1, .unset, .unset] [(.ref b1), (.int 0), (.ref a)]) (fun _ z_ => XS.aloadN X1.here hx rfl (hb hby own_d6_6) rfl rfl z_) ?_
  refine own_g (own_F T1 m 8 #[rv a, iv 0, iv nn, rv b1, .unset, .unset] [(.int 0), (.ref b1), (.int 0), (.ref a)]) (fun _ z_ => XS.iconst X1.here hx rfl (hb hby own_d6_7) z_) ?_
  refine own_g (own_F T1 m 9 #[rv a, iv 0, iv nn, rv b1, .unset, .unset] [(.int nn), (.int 0), (.ref b1), (.int 0), (.ref a)]) (fun _ z_ => XS.iloadN X1.here hx rfl (hb hby own_d6_8) rfl z_) ?_
  refine own_callS (y := (⟨"java/lang/StringUTF16", "compress", "([CI[BII)I"⟩ : MethodName)) X1 hx hZ hown (own_w hw 43) (own_w hw 44) (own_w hw 41) (own_w hw 45) (by decide) e1 (hM := own_cmp2 l Z a0 hw [] a b1 n nn f (fun _ => 0) h1 n0 (Nat.le_trans Z0 E1.1) hn (by omega) (Aa.ext E1) A1 ge_b1 ne_a_b1) (W := 0) (pc := 9) (Ls := #[rv a, iv 0, iv nn, rv b1, .unset, .unset]) (argsL := [(.ref a), (.int 0), (.ref b1), (.int 0), (.int nn)]) (rest := []) (st0 := [(.int nn), (.int 0), (.ref b1), (.int 0), (.ref a)]) (by rw [hml]; rfl) (lenOf own_pd3 rfl) rfl (Nat.le_of_eq rfl) (hb hby own_d6_9) (by decide) (by decide) (by decide) (by decide) ?_
  intro v2 T2 L2 s X2 hZ hown hI2 hvm2 hhp2 hWw2 hQ2
  obtain ⟨rr2, ⟨jj2, rfl, hj2⟩, Nq2, K2, C2⟩ := hQ2
  have N2 := Fr.app N0 Nq2
  show own_Ends p e below s _ _ _ (own_F T2 m 12 #[rv a, iv 0, iv nn, rv b1, .unset, .unset] [(.int jj2)])
  rcases C2 with ⟨er2, hl2, Ab2⟩ | ⟨er2, hl2, g2, Ab2⟩
  ·
   rw [er2] at hj2
   refine own_g (own_F T2 m 14 #[rv a, iv 0, iv nn, rv b1, iv jj2, .unset] []) (fun _ z_ => XS.istore X2.here hx rfl (hb hby own_d6_12) rfl (l' := #[rv a, iv 0, iv nn, rv b1, iv jj2, .unset]) rfl z_) ?_
   refine own_g (own_F T2 m 16 #[rv a, iv 0, iv nn, rv b1, iv jj2, .unset] [(.int jj2)]) (fun _ z_ => XS.iload X2.here hx rfl (hb hby own_d6_14) rfl z_) ?_
   refine own_g (own_F T2 m 17 #[rv a, iv 0, iv nn, rv b1, iv jj2, .unset] [(.int nn), (.int jj2)]) (fun _ z_ => XS.iloadN X2.here hx rfl (hb hby own_d6_16) rfl z_) ?_
   refine own_g (own_F T2 m 57 #[rv a, iv 0, iv nn, rv b1, iv jj2, .unset] []) (fun _ z_ => XS.icmpYes X2.here hx rfl (pc0 := 17) (pc' := 57) rfl (hb hby own_d6_17) rfl (teq (own_jeq hj2 hn)).1 (by decide) (by decide) z_) ?_
   refine own_g (own_F T2 m 58 #[rv a, iv 0, iv nn, rv b1, iv jj2, .unset] [(.ref b1)]) (fun _ z_ => XS.aloadN X2.here hx rfl (hb hby own_d6_57) rfl rfl z_) ?_
   refine own_ret (t := (.array .byte)) X2 hx hlk hrt rfl (Or.inr (Or.inr (Or.inr (Or.inr ⟨rfl, rfl, rfl⟩)))) (hb hby own_d6_58) (by decide) (by decide) ?_
   show ∃ b : Addr, _ ∧ Fr n0 _ ∧ Keep h0 T2.heap [] ∧ _ ∧ _ ∧ ((∀ i, i < n → (f i).toInt ≤ 255) ∧ own_A Z T2.heap b .byte n (fun i => .int ((f i).toInt8.toInt32)) ∨ own_A Z T2.heap b .byte (2 * n) (fun i => .int (own_ub f i)))
   rw [(rfl : T2.heap = T2.heap)]
   exact ⟨b1, rfl, N2, (((Keep.refl _ _).ext E1).trans K2 (allS (Or.inr sz_b1) all0)), ge_b1, sz_b1, Or.inl ⟨hl2, Ab2⟩⟩
  ·
   refine own_g (own_F T2 m 14 #[rv a, iv 0, iv nn, rv b1, iv jj2, .unset] []) (fun _ z_ => XS.istore X2.here hx rfl (hb hby own_d6_12) rfl (l' := #[rv a, iv 0, iv nn, rv b1, iv jj2, .unset]) rfl z_) ?_
   refine own_g (own_F T2 m 16 #[rv a, iv 0, iv nn, rv b1, iv jj2, .unset] [(.int jj2)]) (fun _ z_ => XS.iload X2.here hx rfl (hb hby own_d6_14) rfl z_) ?_
   refine own_g (own_F T2 m 17 #[rv a, iv 0, iv nn, rv b1, iv jj2, .unset] [(.int nn), (.int jj2)]) (fun _ z_ => XS.iloadN X2.here hx rfl (hb hby own_d6_16) rfl z_) ?_
   refine own_g (own_F T2 m 20 #[rv a, iv 0, iv nn, rv b1, iv jj2, .unset] []) (fun _ z_ => XS.icmpNo X2.here hx rfl (hb hby own_d6_17) rfl (feq (own_jne hj2 hn er2)).1 z_) ?_
   refine own_g (own_F T2 m 21 #[rv a, iv 0, iv nn, rv b1, iv jj2, .unset] [(.ref a)]) (fun _ z_ => XS.aloadN X2.here hx rfl (hb hby own_d6_20) rfl rfl z_) ?_
   refine own_g (own_F T2 m 22 #[rv a, iv 0, iv nn, rv b1, iv jj2, .unset] [(.int 0), (.ref a)]) (fun _ z_ => XS.iloadN X2.here hx rfl (hb hby own_d6_21) rfl z_) ?_
   refine own_g (own_F T2 m 23 #[rv a, iv 0, iv nn, rv b1, iv jj2, .unset] [(.int nn), (.int 0), (.ref a)]) (fun _ z_ => XS.iloadN X2.here hx rfl (hb hby own_d6_22) rfl z_) ?_
   refine own_callS (y := (⟨"java/lang/StringUTF16", "toBytes", "([CII)[B"⟩ : MethodName)) X2 hx hZ hown (own_w hw 163) (own_w hw 164) (own_w hw 41) (own_w hw 165) (by decide) (rfl : T2.heap = T2.heap) (hM := own_tob l Z a0 hw [] a n nn f T2.heap n0 (Nat.le_trans (Nat.le_trans Z0 E1.1) K2.1) hn hcap ((Aa.ext E1).keep K2 (ninS ne_a_b1 nin0)) (own_sta_keep (S_ad.ext E1) K2 (allS (own_plainA A1) all0)) (own_sta_keep (S_hi.ext E1) K2 (allS (own_plainA A1) all0)) (own_sta_keep (S_lo.ext E1) K2 (allS (own_plainA A1) all0))) (W := 0) (pc := 23) (Ls := #[rv a, iv 0, iv nn, rv b1, iv jj2, .unset]) (argsL := [(.ref a), (.int 0), (.int nn)]) (rest := []) (st0 := [(.int nn), (.int 0), (.ref a)]) (by rw [hml]; rfl) (lenOf own_pd4 rfl) rfl (Nat.le_of_eq rfl) (hb hby own_d6_23) (by decide) (by decide) (by decide) (by decide) ?_
   intro v3 T3 L3 s X3 hZ hown hI3 hvm3 hhp3 hWw3 hQ3
   obtain ⟨b3, rfl, Nq3, K3, ge_b3, gz3, Ab3⟩ := hQ3
   have N3 := Fr.app N2 Nq3
   show own_Ends p e below s _ _ _ (own_F T3 m 26 #[rv a, iv 0, iv nn, rv b1, iv jj2, .unset] [(.ref b3)])
   have sz_b3 : h0.size ≤ b3 := Nat.le_trans (Nat.le_trans (Nat.le_trans (Nat.le_refl h0.size) E1.1) K2.1) gz3
   refine own_g (own_F T3 m 28 #[rv a, iv 0, iv nn, rv b1, iv jj2, rv b3] []) (fun _ z_ => XS.astore X3.here hx rfl (hb hby own_d6_26) rfl rfl (l' := #[rv a, iv 0, iv nn, rv b1, iv jj2, rv b3]) rfl z_) ?_
   refine own_g (own_F T3 m 30 #[rv a, iv 0, iv nn, rv b1, iv jj2, rv b3] [(.ref b3)]) (fun _ z_ => XS.aload X3.here hx rfl (hb hby own_d6_28) rfl rfl z_) ?_
   refine own_g (own_F T3 m 32 #[rv a, iv 0, iv nn, rv b1, iv jj2, rv b3] [(.int jj2), (.ref b3)]) (fun _ z_ => XS.iload X3.here hx rfl (hb hby own_d6_30) rfl z_) ?_
   refine own_callS (y := (⟨"java/lang/StringUTF16", "getChar", "([BI)C"⟩ : MethodName)) X3 hx hZ hown (own_w hw 179) (own_w hw 180) (own_w hw 41) (own_w hw 181) (by decide) (rfl : T3.heap = T3.heap) (hM := own_getc l Z a0 hw [] b3 n rr2 jj2 f T3.heap n0 (Nat.le_trans (Nat.le_trans (Nat.le_trans Z0 E1.1) K2.1) K3.1) hj2 er2 (by omega) (hf _ er2) Ab3 (own_sta_keep (own_sta_keep (S_ad.ext E1) K2 (allS (own_plainA A1) all0)) K3 all0) (own_sta_keep (own_sta_keep (S_hi.ext E1) K2 (allS (own_plainA A1) all0)) K3 all0) (own_sta_keep (own_sta_keep (S_lo.ext E1) K2 (allS (own_plainA A1) all0)) K3 all0)) (W := 0) (pc := 32) (Ls := #[rv a, iv 0, iv nn, rv b1, iv jj2, rv b3]) (argsL := [(.ref b3), (.int jj2)]) (rest := []) (st0 := [(.int jj2), (.ref b3)]) (by rw [hml]; rfl) (lenOf own_pd5 rfl) rfl (Nat.le_of_eq rfl) (hb hby own_d6_32) (by decide) (by decide) (by decide) (by decide) ?_
   intro v4 T4 L4 s X4 hZ hown hI4 hvm4 hhp4 hWw4 hQ4
   obtain ⟨rfl, Nq4, hh4⟩ := hQ4
   have N4 := Fr.app N3 Nq4
   show own_Ends p e below s _ _ _ (own_F T4 m 35 #[rv a, iv 0, iv nn, rv b1, iv jj2, rv b3] [(.int (f rr2))])
   refine own_g (own_F T4 m 38 #[rv a, iv 0, iv nn, rv b1, iv jj2, rv b3] [(.int 255), (.int (f rr2))]) (fun _ z_ => XS.sipush X4.here hx rfl (hb hby own_d6_35) z_) ?_
   refine own_g (own_F T4 m 54 #[rv a, iv 0, iv nn, rv b1, iv jj2, rv b3] []) (fun _ z_ => XS.icmpYes X4.here hx rfl (pc0 := 38) (pc' := 54) rfl (hb hby own_d6_38) rfl (tlt (own_255 hl2)).2.2.1 (by decide) (by decide) z_) ?_
   refine own_g (own_F T4 m 56 #[rv a, iv 0, iv nn, rv b1, iv jj2, rv b3] [(.ref b3)]) (fun _ z_ => XS.aload X4.here hx rfl (hb hby own_d6_54) rfl rfl z_) ?_
   refine own_ret (t := (.array .byte)) X4 hx hlk hrt rfl (Or.inr (Or.inr (Or.inr (Or.inr ⟨rfl, rfl, rfl⟩)))) (hb hby own_d6_56) (by decide) (by decide) ?_
   show ∃ b : Addr, _ ∧ Fr n0 _ ∧ Keep h0 T4.heap [] ∧ _ ∧ _ ∧ ((∀ i, i < n → (f i).toInt ≤ 255) ∧ own_A Z T4.heap b .byte n (fun i => .int ((f i).toInt8.toInt32)) ∨ own_A Z T4.heap b .byte (2 * n) (fun i => .int (own_ub f i)))
   rw [hh4]
   exact ⟨b3, rfl, N4, ((((Keep.refl _ _).ext E1).trans K2 (allS (Or.inr sz_b1) all0)).trans K3 all0), ge_b3, sz_b3, Or.inr Ab3⟩
set_option maxRecDepth 65536 in
set_option maxHeartbeats 40000000 in
theorem own_cfl (l : Launch) (Z : State) (a0 : Array Value) (hw : ∀ d ∈ tables_1, d.before a0 Z = true) (ws : List Jvm.Cond) (a : Addr) (n : Nat) (nn : Int32) (g : Nat → Int32) (h0 : Heap) (n0 : Nat) (Z0 : n0 ≤ h0.size) (hn : nn.toInt = (n : Int)) (Aa : own_A Z h0 a .byte n (fun i => .int (g i))) :
    own_Met l Z (⟨"java/lang/StringUTF16", "coderFromArrayLen", "([BI)B"⟩ : MethodName) jdk_52_method_15_code 2 (some .byte) ws ({ frames := 0, cells := 0, slots := 0, locals := 0 } : Room) #[(.ref a), (.int nn)] h0 (fun v h L => v = some (.int (0 : Int32)) ∧ Fr n0 L ∧ h = h0) := by
  refine own_body own_pn7 (fun m => mkF m 0 #[rv a, iv nn] []) (fun m => own_ef_own_cfl m a nn) ?_
  intro p e s m below meth c T0 hx hby hml hlk hrt hZ hown hnm X0 e0
  have hown : s.vm.findClass "java/lang/StringUTF16" = some m.cls := hown
  have N0 := Fr.nil n0
  refine own_g (own_F T0 m 1 #[rv a, iv nn] [(.int nn)]) (fun _ z_ => XS.iloadN X0.here hx rfl (hb hby own_d8_0) rfl z_) ?_
  refine own_g (own_F T0 m 2 #[rv a, iv nn] [(.ref a), (.int nn)]) (fun _ z_ => XS.aloadN X0.here hx rfl (hb hby own_d8_1) rfl rfl z_) ?_
  refine own_alen X0 hx hZ e0 Aa (hb hby own_d8_2) ?_
  rw [own_n32 hn]
  show own_Ends p e below s _ _ _ (own_F T0 m 3 #[rv a, iv nn] [(.int nn), (.int nn)])
  refine own_g (own_F T0 m 4 #[rv a, iv nn] [(.int (nn - nn))]) (fun _ z_ => XS.isub X0.here hx rfl (hb hby own_d8_3) rfl z_) ?_
  refine own_g (own_F T0 m 6 #[rv a, iv nn] [(.int 31), (.int (nn - nn))]) (fun _ z_ => XS.bipush X0.here hx rfl (hb hby own_d8_4) z_) ?_
  refine own_g (own_F T0 m 7 #[rv a, iv nn] [(.int (((nn - nn).toUInt32 >>> ((31 : Int32) &&& 31).toUInt32).toInt32))]) (fun _ z_ => XS.iushr X0.here hx rfl (hb hby own_d8_6) rfl z_) ?_
  refine own_g (own_F T0 m 8 #[rv a, iv nn] [(.int ((((nn - nn).toUInt32 >>> ((31 : Int32) &&& 31).toUInt32).toInt32).toInt8.toInt32))]) (fun _ z_ => XS.i2b X0.here hx rfl (hb hby own_d8_7) rfl z_) ?_
  refine own_ret (t := .byte) X0 hx hlk hrt (own_i2b _) (Or.inl ⟨rfl, by simp, _, rfl⟩) (hb hby own_d8_8) (by decide) (by decide) ?_
  exact ⟨congrArg (fun z => some (Value.int z)) (own_sub31 nn), N0, e0⟩
set_option maxRecDepth 65536 in
set_option maxHeartbeats 40000000 in
theorem own_cfu (l : Launch) (Z : State) (a0 : Array Value) (hw : ∀ d ∈ tables_1, d.before a0 Z = true) (ws : List Jvm.Cond) (a : Addr) (n : Nat) (nn : Int32) (g : Nat → Int32) (h0 : Heap) (n0 : Nat) (Z0 : n0 ≤ h0.size) (hn : nn.toInt = (n : Int)) (hp : 0 < n) (h2 : 2 * n < 2 ^ 31) (Aa : own_A Z h0 a .byte (2 * n) (fun i => .int (g i))) :
    own_Met l Z (⟨"java/lang/StringUTF16", "coderFromArrayLen", "([BI)B"⟩ : MethodName) jdk_52_method_15_code 2 (some .byte) ws ({ frames := 0, cells := 0, slots := 0, locals := 0 } : Room) #[(.ref a), (.int nn)] h0 (fun v h L => v = some (.int (1 : Int32)) ∧ Fr n0 L ∧ h = h0) := by
  refine own_body own_pn7 (fun m => mkF m 0 #[rv a, iv nn] []) (fun m => own_ef_own_cfu m a nn) ?_
  intro p e s m below meth c T0 hx hby hml hlk hrt hZ hown hnm X0 e0
  have hown : s.vm.findClass "java/lang/StringUTF16" = some m.cls := hown
  have N0 := Fr.nil n0
  refine own_g (own_F T0 m 1 #[rv a, iv nn] [(.int nn)]) (fun _ z_ => XS.iloadN X0.here hx rfl (hb hby own_d8_0) rfl z_) ?_
  refine own_g (own_F T0 m 2 #[rv a, iv nn] [(.ref a), (.int nn)]) (fun _ z_ => XS.aloadN X0.here hx rfl (hb hby own_d8_1) rfl rfl z_) ?_
  refine own_alen X0 hx hZ e0 Aa (hb hby own_d8_2) ?_
  show own_Ends p e below s _ _ _ (own_F T0 m 3 #[rv a, iv nn] [(.int (Nat.toInt32 (2 * n))), (.int nn)])
  refine own_g (own_F T0 m 4 #[rv a, iv nn] [(.int (nn - (Nat.toInt32 (2 * n))))]) (fun _ z_ => XS.isub X0.here hx rfl (hb hby own_d8_3) rfl z_) ?_
  refine own_g (own_F T0 m 6 #[rv a, iv nn] [(.int 31), (.int (nn - (Nat.toInt32 (2 * n))))]) (fun _ z_ => XS.bipush X0.here hx rfl (hb hby own_d8_4) z_) ?_
  refine own_g (own_F T0 m 7 #[rv a, iv nn] [(.int (((nn - (Nat.toInt32 (2 * n))).toUInt32 >>> ((31 : Int32) &&& 31).toUInt32).toInt32))]) (fun _ z_ => XS.iushr X0.here hx rfl (hb hby own_d8_6) rfl z_) ?_
  refine own_g (own_F T0 m 8 #[rv a, iv nn] [(.int ((((nn - (Nat.toInt32 (2 * n))).toUInt32 >>> ((31 : Int32) &&& 31).toUInt32).toInt32).toInt8.toInt32))]) (fun _ z_ => XS.i2b X0.here hx rfl (hb hby own_d8_7) rfl z_) ?_
  refine own_ret (t := .byte) X0 hx hlk hrt (own_i2b _) (Or.inl ⟨rfl, by simp, _, rfl⟩) (hb hby own_d8_8) (by decide) (by decide) ?_
  exact ⟨congrArg (fun z => some (Value.int z)) (own_neg31 hn hp (by omega)), N0, e0⟩
set_option maxRecDepth 65536 in
set_option maxHeartbeats 40000000 in
theorem own_si4 (l : Launch) (Z : State) (a0 : Array Value) (hw : ∀ d ∈ tables_1, d.before a0 Z = true) (ws : List Jvm.Cond) (x a : Addr) (n : Nat) (nn zc : Int32) (f : Nat → Int32) (h0 : Heap) (n0 : Nat) (Z0 : n0 ≤ h0.size) (hn : nn.toInt = (n : Int)) (hcap : 2 * n ≤ 32) (hp : 0 < n) (hzc : ¬ zc = (0 : Int32)) (Aa : own_A Z h0 a .char n (fun i => .int (f i))) (hf : ∀ i, i < n → 0 ≤ (f i).toInt ∧ (f i).toInt ≤ 65535) (E_x : Exa Z h0 x "java/lang/String") (F_v : Fld Z h0 x "java/lang/String" "value" "[B" .null) (F_c : Fld Z h0 x "java/lang/String" "coder" "B" (.int (0 : Int32))) (S_cs : Sta Z h0 "java/lang/String" "COMPACT_STRINGS" "Z" (.int zc)) (S_ad : Sta Z h0 "java/lang/StringUTF16" "$assertionsDisabled" "Z" (.int (1 : Int32))) (S_hi : Sta Z h0 "java/lang/StringUTF16" "HI_BYTE_SHIFT" "I" (.int (0 : Int32))) (S_lo : Sta Z h0 "java/lang/StringUTF16" "LO_BYTE_SHIFT" "I" (.int (8 : Int32))) (g_x : n0 ≤ x) (ne_xa : x ≠ a) :
    own_Met l Z (⟨"java/lang/String", "<init>", "([CIILjava/lang/Void;)V"⟩ : MethodName) jdk_42_method_149_code 6 none ws ({ frames := 4, cells := 2, slots := 64, locals := 57 } : Room) #[(.ref x), (.ref a), (.int 0), (.int nn), .null] h0 (fun v h L => v = none ∧ Fr n0 L ∧ Keep h0 h [x] ∧ own_Str Z h x n f) := by
  refine own_body own_pn8 (fun m => mkF m 0 #[rv x, rv a, iv 0, iv nn, .val .null, .unset] []) (fun m => own_ef_own_si4 m x a (0 : Int32) nn) ?_
  intro p e s m below meth c T0 hx hby hml hlk hrt hZ hown hnm X0 e0
  have hown : s.vm.findClass "java/lang/String" = some m.cls := hown
  have N0 := Fr.nil n0
  refine own_g (own_F T0 m 1 #[rv x, rv a, iv 0, iv nn, .val .null, .unset] [(.ref x)]) (fun _ z_ => XS.aloadN X0.here hx rfl (hb hby own_d5_0) rfl rfl z_) ?_
  obtain ⟨T1, X1, e1, st1⟩ := initO X0 hx hZ hown (own_w hw 37) (own_w hw 15) (own_w hw 16) e0 (g := (mkF m 1 #[rv x, rv a, iv 0, iv nn, .val .null, .unset] [(.ref x)])) rfl (by rw [hml]; rfl) rfl (hb hby own_d5_1) (by decide) (W := 0) (by show 2 * 0 + _ ≤ _; exact Nat.le_of_eq rfl) (by decide)
  refine own_pre (S' := (own_F T1 m 4 #[rv x, rv a, iv 0, iv nn, .val .null, .unset] [])) st1 ?_
  refine own_g (own_F T1 m 5 #[rv x, rv a, iv 0, iv nn, .val .null, .unset] [(.int nn)]) (fun _ z_ => XS.iloadN X1.here hx rfl (hb hby own_d5_4) rfl z_) ?_
  refine own_g (own_F T1 m 27 #[rv x, rv a, iv 0, iv nn, .val .null, .unset] []) (fun _ z_ => XS.ifYes X1.here hx rfl (pc0 := 5) (pc' := 27) rfl (hb hby own_d5_5) rfl ((if0 _ _).trans (feq (own_nz hn hp)).2) (by decide) (by decide) z_) ?_
  obtain ⟨T2, X2, e2, st2⟩ := getS2 X1 hx hZ hown (host := "") (Or.inl (own_w hw 38)) Via.refl e1 S_cs (g := (mkF m 27 #[rv x, rv a, iv 0, iv nn, .val .null, .unset] [])) rfl (hb hby own_d5_27)
  refine own_pre (S' := (own_F T2 m 30 #[rv x, rv a, iv 0, iv nn, .val .null, .unset] [(.int zc)])) st2 ?_
  refine own_g (own_F T2 m 33 #[rv x, rv a, iv 0, iv nn, .val .null, .unset] []) (fun _ z_ => XS.ifNo X2.here hx rfl (hb hby own_d5_30) rfl ((if0 _ _).trans (feq hzc).1) z_) ?_
  refine own_g (own_F T2 m 34 #[rv x, rv a, iv 0, iv nn, .val .null, .unset] [(.ref a)]) (fun _ z_ => XS.aloadN X2.here hx rfl (hb hby own_d5_33) rfl rfl z_) ?_
  refine own_g (own_F T2 m 35 #[rv x, rv a, iv 0, iv nn, .val .null, .unset] [(.int 0), (.ref a)]) (fun _ z_ => XS.iloadN X2.here hx rfl (hb hby own_d5_34) rfl z_) ?_
  refine own_g (own_F T2 m 36 #[rv x, rv a, iv 0, iv nn, .val .null, .unset] [(.int nn), (.int 0), (.ref a)]) (fun _ z_ => XS.iloadN X2.here hx rfl (hb hby own_d5_35) rfl z_) ?_
  refine own_callS (y := (⟨"java/lang/StringUTF16", "compress", "([CII)[B"⟩ : MethodName)) X2 hx hZ hown (own_w hw 39) (own_w hw 40) (own_w hw 41) (own_w hw 42) (by decide) e2 (hM := own_cmp1 l Z a0 hw [] a n nn f h0 n0 Z0 hn hcap Aa hf S_ad S_hi S_lo) (W := 0) (pc := 36) (Ls := #[rv x, rv a, iv 0, iv nn, .val .null, .unset]) (argsL := [(.ref a), (.int 0), (.int nn)]) (rest := []) (st0 := [(.int nn), (.int 0), (.ref a)]) (by rw [hml]; rfl) (lenOf own_pd4 rfl) rfl (Nat.le_of_eq rfl) (hb hby own_d5_36) (by decide) (by decide) (by decide) (by decide) ?_
  intro v3 T3 L3 s X3 hZ hown hI3 hvm3 hhp3 hWw3 hQ3
  obtain ⟨t3, rfl, Nq3, K3, gt3, gz3, C3⟩ := hQ3
  have N3 := Fr.app N0 Nq3
  show own_Ends p e below s _ _ _ (own_F T3 m 39 #[rv x, rv a, iv 0, iv nn, .val .null, .unset] [(.ref t3)])
  have ne_xt3 : x ≠ t3 := Nat.ne_of_lt (Nat.lt_of_lt_of_le E_x.lt gz3)
  rcases C3 with ⟨hl3, At3⟩ | At3
  ·
   refine own_g (own_F T3 m 41 #[rv x, rv a, iv 0, iv nn, .val .null, rv t3] []) (fun _ z_ => XS.astore X3.here hx rfl (hb hby own_d5_39) rfl rfl (l' := #[rv x, rv a, iv 0, iv nn, .val .null, rv t3]) rfl z_) ?_
   refine own_g (own_F T3 m 42 #[rv x, rv a, iv 0, iv nn, .val .null, rv t3] [(.ref x)]) (fun _ z_ => XS.aloadN X3.here hx rfl (hb hby own_d5_41) rfl rfl z_) ?_
   refine own_g (own_F T3 m 44 #[rv x, rv a, iv 0, iv nn, .val .null, rv t3] [(.ref t3), (.ref x)]) (fun _ z_ => XS.aload X3.here hx rfl (hb hby own_d5_42) rfl rfl z_) ?_
   refine own_g (own_F T3 m 45 #[rv x, rv a, iv 0, iv nn, .val .null, rv t3] [(.int nn), (.ref t3), (.ref x)]) (fun _ z_ => XS.iloadN X3.here hx rfl (hb hby own_d5_44) rfl z_) ?_
   refine own_callS (y := (⟨"java/lang/StringUTF16", "coderFromArrayLen", "([BI)B"⟩ : MethodName)) X3 hx hZ hown (own_w hw 46) (own_w hw 47) (own_w hw 41) (own_w hw 48) (by decide) (rfl : T3.heap = T3.heap) (hM := own_cfl l Z a0 hw [] t3 n nn _ T3.heap n0 (Nat.le_trans Z0 K3.1) hn At3) (W := 1) (pc := 45) (Ls := #[rv x, rv a, iv 0, iv nn, .val .null, rv t3]) (argsL := [(.ref t3), (.int nn)]) (rest := [(.ref x)]) (st0 := [(.int nn), (.ref t3), (.ref x)]) (by rw [hml]; rfl) (lenOf own_pd6 rfl) rfl (Nat.le_of_eq rfl) (hb hby own_d5_45) (by decide) (by decide) (by decide) (by decide) ?_
   intro v4 T4 L4 s X4 hZ hown hI4 hvm4 hhp4 hWw4 hQ4
   obtain ⟨rfl, Nq4, hh4⟩ := hQ4
   have N4 := Fr.app N3 Nq4
   show own_Ends p e below s _ _ _ (own_F T4 m 48 #[rv x, rv a, iv 0, iv nn, .val .null, rv t3] [(.int 0), (.ref x)])
   obtain ⟨T5, h5, X5, e5, W5, st5⟩ := putF X4 hx hZ hown (host := "") (Or.inl (own_w hw 49)) Via.refl hh4 (F_c.keep K3 nin0) (E_x.keep K3) (Or.inr ⟨(own_w hw 22), rfl, hnm⟩) (own_w hw 19) (ty := .byte) (by decide) rfl rfl (g := (mkF m 48 #[rv x, rv a, iv 0, iv nn, .val .null, rv t3] [(.int 0), (.ref x)])) rfl rfl (hb hby own_d5_48)
   have N5 := Fr.snoc X5 N4 g_x
   have Fw5 := (F_c.keep K3 nin0).same W5
   refine own_pre (S' := (own_F T5 m 51 #[rv x, rv a, iv 0, iv nn, .val .null, rv t3] [])) st5 ?_
   refine own_g (own_F T5 m 52 #[rv x, rv a, iv 0, iv nn, .val .null, rv t3] [(.ref x)]) (fun _ z_ => XS.aloadN X5.here hx rfl (hb hby own_d5_51) rfl rfl z_) ?_
   refine own_g (own_F T5 m 54 #[rv x, rv a, iv 0, iv nn, .val .null, rv t3] [(.ref t3), (.ref x)]) (fun _ z_ => XS.aload X5.here hx rfl (hb hby own_d5_52) rfl rfl z_) ?_
   obtain ⟨T6, h6, X6, e6, W6, st6⟩ := putF X5 hx hZ hown (host := "") (Or.inl (own_w hw 50)) Via.refl e5 ((F_v.keep K3 nin0).other W5 (Or.inr (slot_ne (C := "java/lang/String") (Or.inr (own_w hw 21)) (Or.inr (own_w hw 22)) (by decide) (t := (.array .byte)) (t' := .byte) (by decide) (by decide)))) ((E_x.keep K3).wr W5) (Or.inr ⟨(own_w hw 21), rfl, hnm⟩) (own_w hw 19) (ty := (.array .byte)) (by decide) rfl rfl (g := (mkF m 54 #[rv x, rv a, iv 0, iv nn, .val .null, rv t3] [(.ref t3), (.ref x)])) rfl rfl (hb hby own_d5_54)
   have N6 := Fr.snoc X6 N5 g_x
   have Fw6 := ((F_v.keep K3 nin0).other W5 (Or.inr (slot_ne (C := "java/lang/String") (Or.inr (own_w hw 21)) (Or.inr (own_w hw 22)) (by decide) (t := (.array .byte)) (t' := .byte) (by decide) (by decide)))).same W6
   refine own_pre (S' := (own_F T6 m 57 #[rv x, rv a, iv 0, iv nn, .val .null, rv t3] [])) st6 ?_
   refine own_retV X6 hx hlk hrt (hb hby own_d5_57) (by decide) (by decide) ?_
   show _ ∧ Fr n0 _ ∧ Keep h0 T6.heap [x] ∧ own_Str Z T6.heap x n f
   rw [e6]
   exact ⟨rfl, N6, ((((Keep.refl _ _).trans K3 all0).wr W5 (Or.inl (List.mem_of_getElem? (i := 0) rfl))).wr W6 (Or.inl (List.mem_of_getElem? (i := 0) rfl))), t3, (((E_x.keep K3).wr W5).wr W6), Fw6, hf, Or.inl ⟨(Fw5.other W6 (Or.inr (slot_ne (C := "java/lang/String") (Or.inr (own_w hw 22)) (Or.inr (own_w hw 21)) (by decide) (t := .byte) (t' := (.array .byte)) (by decide) (by decide)))), ((At3.other W5 (Ne.symm ne_xt3)).other W6 (Ne.symm ne_xt3)), fun i hi => ⟨(hf i hi).1, hl3 i hi⟩⟩⟩
  ·
   refine own_g (own_F T3 m 41 #[rv x, rv a, iv 0, iv nn, .val .null, rv t3] []) (fun _ z_ => XS.astore X3.here hx rfl (hb hby own_d5_39) rfl rfl (l' := #[rv x, rv a, iv 0, iv nn, .val .null, rv t3]) rfl z_) ?_
   refine own_g (own_F T3 m 42 #[rv x, rv a, iv 0, iv nn, .val .null, rv t3] [(.ref x)]) (fun _ z_ => XS.aloadN X3.here hx rfl (hb hby own_d5_41) rfl rfl z_) ?_
   refine own_g (own_F T3 m 44 #[rv x, rv a, iv 0, iv nn, .val .null, rv t3] [(.ref t3), (.ref x)]) (fun _ z_ => XS.aload X3.here hx rfl (hb hby own_d5_42) rfl rfl z_) ?_
   refine own_g (own_F T3 m 45 #[rv x, rv a, iv 0, iv nn, .val .null, rv t3] [(.int nn), (.ref t3), (.ref x)]) (fun _ z_ => XS.iloadN X3.here hx rfl (hb hby own_d5_44) rfl z_) ?_
   refine own_callS (y := (⟨"java/lang/StringUTF16", "coderFromArrayLen", "([BI)B"⟩ : MethodName)) X3 hx hZ hown (own_w hw 46) (own_w hw 47) (own_w hw 41) (own_w hw 48) (by decide) (rfl : T3.heap = T3.heap) (hM := own_cfu l Z a0 hw [] t3 n nn _ T3.heap n0 (Nat.le_trans Z0 K3.1) hn hp (by omega) At3) (W := 1) (pc := 45) (Ls := #[rv x, rv a, iv 0, iv nn, .val .null, rv t3]) (argsL := [(.ref t3), (.int nn)]) (rest := [(.ref x)]) (st0 := [(.int nn), (.ref t3), (.ref x)]) (by rw [hml]; rfl) (lenOf own_pd6 rfl) rfl (Nat.le_of_eq rfl) (hb hby own_d5_45) (by decide) (by decide) (by decide) (by decide) ?_
   intro v7 T7 L7 s X7 hZ hown hI7 hvm7 hhp7 hWw7 hQ7
   obtain ⟨rfl, Nq7, hh7⟩ := hQ7
   have N7 := Fr.app N3 Nq7
   show own_Ends p e below s _ _ _ (own_F T7 m 48 #[rv x, rv a, iv 0, iv nn, .val .null, rv t3] [(.int 1), (.ref x)])
   obtain ⟨T8, h8, X8, e8, W8, st8⟩ := putF X7 hx hZ hown (host := "") (Or.inl (own_w hw 49)) Via.refl hh7 (F_c.keep K3 nin0) (E_x.keep K3) (Or.inr ⟨(own_w hw 22), rfl, hnm⟩) (own_w hw 19) (ty := .byte) (by decide) rfl rfl (g := (mkF m 48 #[rv x, rv a, iv 0, iv nn, .val .null, rv t3] [(.int 1), (.ref x)])) rfl rfl (hb hby own_d5_48)
   have N8 := Fr.snoc X8 N7 g_x
   have Fw8 := (F_c.keep K3 nin0).same W8
   refine own_pre (S' := (own_F T8 m 51 #[rv x, rv a, iv 0, iv nn, .val .null, rv t3] [])) st8 ?_
   refine own_g (own_F T8 m 52 #[rv x, rv a, iv 0, iv nn, .val .null, rv t3] [(.ref x)]) (fun _ z_ => XS.aloadN X8.here hx rfl (hb hby own_d5_51) rfl rfl z_) ?_
   refine own_g (own_F T8 m 54 #[rv x, rv a, iv 0, iv nn, .val .null, rv t3] [(.ref t3), (.ref x)]) (fun _ z_ => XS.aload X8.here hx rfl (hb hby own_d5_52) rfl rfl z_) ?_
   obtain ⟨T9, h9, X9, e9, W9, st9⟩ := putF X8 hx hZ hown (host := "") (Or.inl (own_w hw 50)) Via.refl e8 ((F_v.keep K3 nin0).other W8 (Or.inr (slot_ne (C := "java/lang/String") (Or.inr (own_w hw 21)) (Or.inr (own_w hw 22)) (by decide) (t := (.array .byte)) (t' := .byte) (by decide) (by decide)))) ((E_x.keep K3).wr W8) (Or.inr ⟨(own_w hw 21), rfl, hnm⟩) (own_w hw 19) (ty := (.array .byte)) (by decide) rfl rfl (g := (mkF m 54 #[rv x, rv a, iv 0, iv nn, .val .null, rv t3] [(.ref t3), (.ref x)])) rfl rfl (hb hby own_d5_54)
   have N9 := Fr.snoc X9 N8 g_x
   have Fw9 := ((F_v.keep K3 nin0).other W8 (Or.inr (slot_ne (C := "java/lang/String") (Or.inr (own_w hw 21)) (Or.inr (own_w hw 22)) (by decide) (t := (.array .byte)) (t' := .byte) (by decide) (by decide)))).same W9
   refine own_pre (S' := (own_F T9 m 57 #[rv x, rv a, iv 0, iv nn, .val .null, rv t3] [])) st9 ?_
   refine own_retV X9 hx hlk hrt (hb hby own_d5_57) (by decide) (by decide) ?_
   show _ ∧ Fr n0 _ ∧ Keep h0 T9.heap [x] ∧ own_Str Z T9.heap x n f
   rw [e9]
   exact ⟨rfl, N9, ((((Keep.refl _ _).trans K3 all0).wr W8 (Or.inl (List.mem_of_getElem? (i := 0) rfl))).wr W9 (Or.inl (List.mem_of_getElem? (i := 0) rfl))), t3, (((E_x.keep K3).wr W8).wr W9), Fw9, hf, Or.inr ⟨(Fw8.other W9 (Or.inr (slot_ne (C := "java/lang/String") (Or.inr (own_w hw 22)) (Or.inr (own_w hw 21)) (by decide) (t := .byte) (t' := (.array .byte)) (by decide) (by decide)))), ((At3.other W8 (Ne.symm ne_xt3)).other W9 (Ne.symm ne_xt3))⟩⟩
set_option maxRecDepth 65536 in
set_option maxHeartbeats 40000000 in
theorem own_si (l : Launch) (Z : State) (a0 : Array Value) (hw : ∀ d ∈ tables_1, d.before a0 Z = true) (ws : List Jvm.Cond) (x a : Addr) (n : Nat) (nn zc : Int32) (f : Nat → Int32) (h0 : Heap) (n0 : Nat) (Z0 : n0 ≤ h0.size) (hn : nn.toInt = (n : Int)) (hcap : 2 * n ≤ 32) (hp : 0 < n) (hzc : ¬ zc = (0 : Int32)) (Aa : own_A Z h0 a .char n (fun i => .int (f i))) (hf : ∀ i, i < n → 0 ≤ (f i).toInt ∧ (f i).toInt ≤ 65535) (E_x : Exa Z h0 x "java/lang/String") (F_v : Fld Z h0 x "java/lang/String" "value" "[B" .null) (F_c : Fld Z h0 x "java/lang/String" "coder" "B" (.int (0 : Int32))) (S_cs : Sta Z h0 "java/lang/String" "COMPACT_STRINGS" "Z" (.int zc)) (S_ad : Sta Z h0 "java/lang/StringUTF16" "$assertionsDisabled" "Z" (.int (1 : Int32))) (S_hi : Sta Z h0 "java/lang/StringUTF16" "HI_BYTE_SHIFT" "I" (.int (0 : Int32))) (S_lo : Sta Z h0 "java/lang/StringUTF16" "LO_BYTE_SHIFT" "I" (.int (8 : Int32))) (g_x : n0 ≤ x) (ne_xa : x ≠ a) :
    own_Met l Z (⟨"java/lang/String", "<init>", "([C)V"⟩ : MethodName) jdk_42_method_3_code 2 none ws ({ frames := 5, cells := 2, slots := 64, locals := 74 } : Room) #[(.ref x), (.ref a)] h0 (fun v h L => v = none ∧ Fr n0 L ∧ Keep h0 h [x] ∧ own_Str Z h x n f) := by
  refine own_body own_pn9 (fun m => mkF m 0 #[rv x, rv a] []) (fun m => own_ef_own_si m x a) ?_
  intro p e s m below meth c T0 hx hby hml hlk hrt hZ hown hnm X0 e0
  have hown : s.vm.findClass "java/lang/String" = some m.cls := hown
  have N0 := Fr.nil n0
  refine own_g (own_F T0 m 1 #[rv x, rv a] [(.ref x)]) (fun _ z_ => XS.aloadN X0.here hx rfl (hb hby own_d4_0) rfl rfl z_) ?_
  refine own_g (own_F T0 m 2 #[rv x, rv a] [(.ref a), (.ref x)]) (fun _ z_ => XS.aloadN X0.here hx rfl (hb hby own_d4_1) rfl rfl z_) ?_
  refine own_g (own_F T0 m 3 #[rv x, rv a] [(.int 0), (.ref a), (.ref x)]) (fun _ z_ => XS.iconst X0.here hx rfl (hb hby own_d4_2) z_) ?_
  refine own_g (own_F T0 m 4 #[rv x, rv a] [(.ref a), (.int 0), (.ref a), (.ref x)]) (fun _ z_ => XS.aloadN X0.here hx rfl (hb hby own_d4_3) rfl rfl z_) ?_
  refine own_alen X0 hx hZ e0 Aa (hb hby own_d4_4) ?_
  rw [own_n32 hn]
  show own_Ends p e below s _ _ _ (own_F T0 m 5 #[rv x, rv a] [(.int nn), (.int 0), (.ref a), (.ref x)])
  refine own_g (own_F T0 m 6 #[rv x, rv a] [.null, (.int nn), (.int 0), (.ref a), (.ref x)]) (fun _ z_ => XS.aconstNull X0.here hx rfl (hb hby own_d4_5) z_) ?_
  refine own_callI (y := (⟨"java/lang/String", "<init>", "([CIILjava/lang/Void;)V"⟩ : MethodName)) (b := x) X0 hx hZ hown rfl (own_w hw 33) (own_w hw 34) (own_w hw 36) (own_w hw 18) (by decide) e0 (hM := own_si4 l Z a0 hw [] x a n nn zc f h0 n0 Z0 hn hcap hp hzc Aa hf E_x F_v F_c S_cs S_ad S_hi S_lo g_x ne_xa) (W := 0) (pc := 6) (Ls := #[rv x, rv a]) (argsL := [(.ref a), (.int 0), (.int nn), .null]) (rest := []) (st0 := [.null, (.int nn), (.int 0), (.ref a), (.ref x)]) (by rw [hml]; rfl) (lenOf own_pd7 rfl) rfl (Nat.le_of_eq rfl) (hb hby own_d4_6) (by decide) (by decide) (by decide) (by decide) ?_
  intro v1 T1 L1 s X1 hZ hown hI1 hvm1 hhp1 hWw1 hQ1
  obtain ⟨rfl, Nq1, K1, Sx1⟩ := hQ1
  have N1 := Fr.app N0 Nq1
  show own_Ends p e below s _ _ _ (own_F T1 m 9 #[rv x, rv a] [])
  refine own_retV X1 hx hlk hrt (hb hby own_d4_9) (by decide) (by decide) ?_
  exact ⟨rfl, N1, K1, Sx1⟩
set_option maxRecDepth 65536 in
set_option maxHeartbeats 40000000 in
theorem own_pci (l : Launch) (Z : State) (a0 : Array Value) (hw : ∀ d ∈ tables_1, d.before a0 Z = true) (ws : List Jvm.Cond) (j nn : Int32) (k n : Nat) (sv : Value) (hsv : sv.isRef = true) (h0 : Heap) (n0 : Nat) (Z0 : n0 ≤ h0.size) (hj : j.toInt = (k : Int)) (hn : nn.toInt = (n : Int)) (hk : k < n) :
    own_Met l Z (⟨"jdk/internal/util/Preconditions", "checkIndex", "(IILjava/util/function/BiFunction;)I"⟩ : MethodName) jdk_41_method_11_code 3 (some .int) ws ({ frames := 0, cells := 0, slots := 0, locals := 0 } : Room) #[(.int j), (.int nn), sv] h0 (fun v h L => v = some (.int j) ∧ Fr n0 L ∧ h = h0) := by
  refine own_body own_pn10 (fun m => mkF m 0 #[iv j, iv nn, .val sv] []) (fun m => own_ef_own_pci m j nn sv hsv) ?_
  intro p e s m below meth c T0 hx hby hml hlk hrt hZ hown hnm X0 e0
  have hown : s.vm.findClass "jdk/internal/util/Preconditions" = some m.cls := hown
  have N0 := Fr.nil n0
  refine own_g (own_F T0 m 1 #[iv j, iv nn, .val sv] [(.int j)]) (fun _ z_ => XS.iloadN X0.here hx rfl (hb hby own_d15_0) rfl z_) ?_
  refine own_g (own_F T0 m 4 #[iv j, iv nn, .val sv] []) (fun _ z_ => XS.ifNo X0.here hx rfl (hb hby own_d15_1) rfl ((if0 _ _).trans (flt (own_n0 hj)).1) z_) ?_
  refine own_g (own_F T0 m 5 #[iv j, iv nn, .val sv] [(.int j)]) (fun _ z_ => XS.iloadN X0.here hx rfl (hb hby own_d15_4) rfl z_) ?_
  refine own_g (own_F T0 m 6 #[iv j, iv nn, .val sv] [(.int nn), (.int j)]) (fun _ z_ => XS.iloadN X0.here hx rfl (hb hby own_d15_5) rfl z_) ?_
  refine own_g (own_F T0 m 16 #[iv j, iv nn, .val sv] []) (fun _ z_ => XS.icmpYes X0.here hx rfl (pc0 := 6) (pc' := 16) rfl (hb hby own_d15_6) rfl (tlt (own_jlt hj hn hk)).1 (by decide) (by decide) z_) ?_
  refine own_g (own_F T0 m 17 #[iv j, iv nn, .val sv] [(.int j)]) (fun _ z_ => XS.iloadN X0.here hx rfl (hb hby own_d15_16) rfl z_) ?_
  refine own_ret (t := .int) X0 hx hlk hrt rfl (Or.inl ⟨rfl, by simp, _, rfl⟩) (hb hby own_d15_17) (by decide) (by decide) ?_
  exact ⟨rfl, N0, e0⟩
set_option maxRecDepth 65536 in
set_option maxHeartbeats 40000000 in
theorem own_sci (l : Launch) (Z : State) (a0 : Array Value) (hw : ∀ d ∈ tables_1, d.before a0 Z = true) (ws : List Jvm.Cond) (j nn : Int32) (k n : Nat) (sv : Value) (hsv : sv.isRef = true) (h0 : Heap) (n0 : Nat) (Z0 : n0 ≤ h0.size) (hj : j.toInt = (k : Int)) (hn : nn.toInt = (n : Int)) (hk : k < n) (S_sf : Sta Z h0 "jdk/internal/util/Preconditions" "SIOOBE_FORMATTER" "Ljava/util/function/BiFunction;" sv) :
    own_Met l Z (⟨"java/lang/String", "checkIndex", "(II)V"⟩ : MethodName) jdk_42_method_155_code 2 none ws ({ frames := 1, cells := 0, slots := 0, locals := 14 } : Room) #[(.int j), (.int nn)] h0 (fun v h L => v = none ∧ Fr n0 L ∧ h = h0) := by
  refine own_body own_pn11 (fun m => mkF m 0 #[iv j, iv nn] []) (fun m => own_ef_own_sci m j nn) ?_
  intro p e s m below meth c T0 hx hby hml hlk hrt hZ hown hnm X0 e0
  have hown : s.vm.findClass "java/lang/String" = some m.cls := hown
  have N0 := Fr.nil n0
  refine own_g (own_F T0 m 1 #[iv j, iv nn] [(.int j)]) (fun _ z_ => XS.iloadN X0.here hx rfl (hb hby own_d14_0) rfl z_) ?_
  refine own_g (own_F T0 m 2 #[iv j, iv nn] [(.int nn), (.int j)]) (fun _ z_ => XS.iloadN X0.here hx rfl (hb hby own_d14_1) rfl z_) ?_
  obtain ⟨T1, X1, e1, st1⟩ := getS2 X0 hx hZ hown (host := "") (Or.inl (own_w hw 79)) Via.refl e0 S_sf (g := (mkF m 2 #[iv j, iv nn] [(.int nn), (.int j)])) rfl (hb hby own_d14_2)
  refine own_pre (S' := (own_F T1 m 5 #[iv j, iv nn] [sv, (.int nn), (.int j)])) st1 ?_
  refine own_callS (y := (⟨"jdk/internal/util/Preconditions", "checkIndex", "(IILjava/util/function/BiFunction;)I"⟩ : MethodName)) X1 hx hZ hown (own_w hw 81) (own_w hw 82) (own_w hw 80) (own_w hw 83) (by decide) e1 (hM := own_pci l Z a0 hw [] j nn k n sv hsv h0 n0 Z0 hj hn hk) (W := 0) (pc := 5) (Ls := #[iv j, iv nn]) (argsL := [(.int j), (.int nn), sv]) (rest := []) (st0 := [sv, (.int nn), (.int j)]) (by rw [hml]; rfl) (lenOf own_pd8 rfl) rfl (Nat.le_of_eq rfl) (hb hby own_d14_5) (by decide) (by decide) (by decide) (by decide) ?_
  intro v2 T2 L2 s X2 hZ hown hI2 hvm2 hhp2 hWw2 hQ2
  obtain ⟨rfl, Nq2, hh2⟩ := hQ2
  have N2 := Fr.app N0 Nq2
  show own_Ends p e below s _ _ _ (own_F T2 m 8 #[iv j, iv nn] [(.int j)])
  refine own_g (own_F T2 m 9 #[iv j, iv nn] []) (fun _ z_ => XS.pop X2.here hx rfl (hb hby own_d14_8) rfl rfl z_) ?_
  refine own_retV X2 hx hlk hrt (hb hby own_d14_9) (by decide) (by decide) ?_
  exact ⟨rfl, N2, hh2⟩
set_option maxRecDepth 65536 in
set_option maxHeartbeats 40000000 in
theorem own_lca (l : Launch) (Z : State) (a0 : Array Value) (hw : ∀ d ∈ tables_1, d.before a0 Z = true) (ws : List Jvm.Cond) (t : Addr) (j : Int32) (k n : Nat) (f : Nat → Int32) (sv : Value) (hsv : sv.isRef = true) (h0 : Heap) (n0 : Nat) (Z0 : n0 ≤ h0.size) (hj : j.toInt = (k : Int)) (hk : k < n) (hc : 0 ≤ (f k).toInt ∧ (f k).toInt ≤ 255) (At : own_A Z h0 t .byte n (fun i => .int ((f i).toInt8.toInt32))) (S_sf : Sta Z h0 "jdk/internal/util/Preconditions" "SIOOBE_FORMATTER" "Ljava/util/function/BiFunction;" sv) :
    own_Met l Z (⟨"java/lang/StringLatin1", "charAt", "([BI)C"⟩ : MethodName) jdk_43_method_2_code 2 (some .char) ws ({ frames := 2, cells := 0, slots := 0, locals := 27 } : Room) #[(.ref t), (.int j)] h0 (fun v h L => v = some (.int (f k)) ∧ Fr n0 L ∧ h = h0) := by
  refine own_body own_pn12 (fun m => mkF m 0 #[rv t, iv j] []) (fun m => own_ef_own_lca m t j) ?_
  intro p e s m below meth c T0 hx hby hml hlk hrt hZ hown hnm X0 e0
  have hown : s.vm.findClass "java/lang/StringLatin1" = some m.cls := hown
  have N0 := Fr.nil n0
  refine own_g (own_F T0 m 1 #[rv t, iv j] [(.int j)]) (fun _ z_ => XS.iloadN X0.here hx rfl (hb hby own_d13_0) rfl z_) ?_
  refine own_g (own_F T0 m 2 #[rv t, iv j] [(.ref t), (.int j)]) (fun _ z_ => XS.aloadN X0.here hx rfl (hb hby own_d13_1) rfl rfl z_) ?_
  refine own_alen X0 hx hZ e0 At (hb hby own_d13_2) ?_
  show own_Ends p e below s _ _ _ (own_F T0 m 3 #[rv t, iv j] [(.int (Nat.toInt32 n)), (.int j)])
  refine own_callS (y := (⟨"java/lang/String", "checkIndex", "(II)V"⟩ : MethodName)) X0 hx hZ hown (own_w hw 76) (own_w hw 77) (own_w hw 18) (own_w hw 78) (by decide) e0 (hM := own_sci l Z a0 hw [] j (Nat.toInt32 n) k n sv hsv h0 n0 Z0 hj (len_toInt At.1) hk S_sf) (W := 0) (pc := 3) (Ls := #[rv t, iv j]) (argsL := [(.int j), (.int (Nat.toInt32 n))]) (rest := []) (st0 := [(.int (Nat.toInt32 n)), (.int j)]) (by rw [hml]; rfl) (lenOf own_pd9 rfl) rfl (Nat.le_of_eq rfl) (hb hby own_d13_3) (by decide) (by decide) (by decide) (by decide) ?_
  intro v1 T1 L1 s X1 hZ hown hI1 hvm1 hhp1 hWw1 hQ1
  obtain ⟨rfl, Nq1, hh1⟩ := hQ1
  have N1 := Fr.app N0 Nq1
  show own_Ends p e below s _ _ _ (own_F T1 m 6 #[rv t, iv j] [])
  refine own_g (own_F T1 m 7 #[rv t, iv j] [(.ref t)]) (fun _ z_ => XS.aloadN X1.here hx rfl (hb hby own_d13_6) rfl rfl z_) ?_
  refine own_g (own_F T1 m 8 #[rv t, iv j] [(.int j), (.ref t)]) (fun _ z_ => XS.iloadN X1.here hx rfl (hb hby own_d13_7) rfl z_) ?_
  refine own_bald X1 hx hZ hh1 At k hj hk (hb hby own_d13_8) ?_
  show own_Ends p e below s _ _ _ (own_F T1 m 9 #[rv t, iv j] [(.int ((f k).toInt8.toInt32))])
  refine own_g (own_F T1 m 12 #[rv t, iv j] [(.int 255), (.int ((f k).toInt8.toInt32))]) (fun _ z_ => XS.sipush X1.here hx rfl (hb hby own_d13_9) z_) ?_
  refine own_g (own_F T1 m 13 #[rv t, iv j] [(.int (((f k).toInt8.toInt32) &&& (255 : Int32)))]) (fun _ z_ => XS.iand X1.here hx rfl (hb hby own_d13_12) rfl z_) ?_
  refine own_g (own_F T1 m 14 #[rv t, iv j] [(.int ((((f k).toInt8.toInt32) &&& (255 : Int32)).toUInt32.toUInt16.toUInt32.toInt32))]) (fun _ z_ => XS.i2c X1.here hx rfl (hb hby own_d13_13) rfl z_) ?_
  refine own_ret (t := .char) X1 hx hlk hrt (own_narI _) (Or.inl ⟨rfl, by simp, _, rfl⟩) (hb hby own_d13_14) (by decide) (by decide) ?_
  exact ⟨congrArg (fun z => some (Value.int z)) (own_lat hc), N1, hh1⟩
set_option maxRecDepth 65536 in
set_option maxHeartbeats 40000000 in
theorem own_ulen (l : Launch) (Z : State) (a0 : Array Value) (hw : ∀ d ∈ tables_1, d.before a0 Z = true) (ws : List Jvm.Cond) (t : Addr) (n : Nat) (f : Nat → Int32) (h0 : Heap) (n0 : Nat) (Z0 : n0 ≤ h0.size) (At : own_A Z h0 t .byte (2 * n) (fun i => .int (own_ub f i))) :
    own_Met l Z (⟨"java/lang/StringUTF16", "length", "([B)I"⟩ : MethodName) jdk_52_method_6_code 1 (some .int) ws ({ frames := 0, cells := 0, slots := 0, locals := 0 } : Room) #[(.ref t)] h0 (fun v h L => v = some (.int n.toInt32) ∧ Fr n0 L ∧ h = h0) := by
  refine own_body own_pn13 (fun m => mkF m 0 #[rv t] []) (fun m => own_ef_own_ulen m t) ?_
  intro p e s m below meth c T0 hx hby hml hlk hrt hZ hown hnm X0 e0
  have hown : s.vm.findClass "java/lang/StringUTF16" = some m.cls := hown
  have N0 := Fr.nil n0
  refine own_g (own_F T0 m 1 #[rv t] [(.ref t)]) (fun _ z_ => XS.aloadN X0.here hx rfl (hb hby own_d38_0) rfl rfl z_) ?_
  refine own_alen X0 hx hZ e0 At (hb hby own_d38_1) ?_
  show own_Ends p e below s _ _ _ (own_F T0 m 2 #[rv t] [(.int (Nat.toInt32 (2 * n)))])
  refine own_g (own_F T0 m 3 #[rv t] [(.int 1), (.int (Nat.toInt32 (2 * n)))]) (fun _ z_ => XS.iconst X0.here hx rfl (hb hby own_d38_2) z_) ?_
  refine own_g (own_F T0 m 4 #[rv t] [(.int ((Nat.toInt32 (2 * n)) >>> ((1 : Int32) &&& 31)))]) (fun _ z_ => XS.ishr X0.here hx rfl (hb hby own_d38_3) rfl z_) ?_
  refine own_ret (t := .int) X0 hx hlk hrt rfl (Or.inl ⟨rfl, by simp, _, rfl⟩) (hb hby own_d38_4) (by decide) (by decide) ?_
  exact ⟨congrArg (fun z => some (Value.int z)) (own_half (len_toInt (by have := At.1; omega)) At.1), N0, e0⟩
set_option maxRecDepth 65536 in
set_option maxHeartbeats 40000000 in
theorem own_uci (l : Launch) (Z : State) (a0 : Array Value) (hw : ∀ d ∈ tables_1, d.before a0 Z = true) (ws : List Jvm.Cond) (t : Addr) (j : Int32) (k n : Nat) (f : Nat → Int32) (sv : Value) (hsv : sv.isRef = true) (h0 : Heap) (n0 : Nat) (Z0 : n0 ≤ h0.size) (hj : j.toInt = (k : Int)) (hk : k < n) (At : own_A Z h0 t .byte (2 * n) (fun i => .int (own_ub f i))) (S_sf : Sta Z h0 "jdk/internal/util/Preconditions" "SIOOBE_FORMATTER" "Ljava/util/function/BiFunction;" sv) :
    own_Met l Z (⟨"java/lang/StringUTF16", "checkIndex", "(I[B)V"⟩ : MethodName) jdk_52_method_91_code 2 none ws ({ frames := 2, cells := 0, slots := 0, locals := 27 } : Room) #[(.int j), (.ref t)] h0 (fun v h L => v = none ∧ Fr n0 L ∧ h = h0) := by
  refine own_body own_pn14 (fun m => mkF m 0 #[iv j, rv t] []) (fun m => own_ef_own_uci m j t) ?_
  intro p e s m below meth c T0 hx hby hml hlk hrt hZ hown hnm X0 e0
  have hown : s.vm.findClass "java/lang/StringUTF16" = some m.cls := hown
  have N0 := Fr.nil n0
  refine own_g (own_F T0 m 1 #[iv j, rv t] [(.int j)]) (fun _ z_ => XS.iloadN X0.here hx rfl (hb hby own_d37_0) rfl z_) ?_
  refine own_g (own_F T0 m 2 #[iv j, rv t] [(.ref t), (.int j)]) (fun _ z_ => XS.aloadN X0.here hx rfl (hb hby own_d37_1) rfl rfl z_) ?_
  refine own_callS (y := (⟨"java/lang/StringUTF16", "length", "([B)I"⟩ : MethodName)) X0 hx hZ hown (own_w hw 188) (own_w hw 189) (own_w hw 41) (own_w hw 190) (by decide) e0 (hM := own_ulen l Z a0 hw [] t n f h0 n0 Z0 At) (W := 1) (pc := 2) (Ls := #[iv j, rv t]) (argsL := [(.ref t)]) (rest := [(.int j)]) (st0 := [(.ref t), (.int j)]) (by rw [hml]; rfl) (lenOf own_pd10 rfl) rfl (Nat.le_of_eq rfl) (hb hby own_d37_2) (by decide) (by decide) (by decide) (by decide) ?_
  intro v1 T1 L1 s X1 hZ hown hI1 hvm1 hhp1 hWw1 hQ1
  obtain ⟨rfl, Nq1, hh1⟩ := hQ1
  have N1 := Fr.app N0 Nq1
  show own_Ends p e below s _ _ _ (own_F T1 m 5 #[iv j, rv t] [(.int (Nat.toInt32 n)), (.int j)])
  refine own_callS (y := (⟨"java/lang/String", "checkIndex", "(II)V"⟩ : MethodName)) X1 hx hZ hown (own_w hw 191) (own_w hw 77) (own_w hw 18) (own_w hw 78) (by decide) hh1 (hM := own_sci l Z a0 hw [] j (Nat.toInt32 n) k n sv hsv h0 n0 Z0 hj (len_toInt (by have := At.1; omega)) hk S_sf) (W := 0) (pc := 5) (Ls := #[iv j, rv t]) (argsL := [(.int j), (.int (Nat.toInt32 n))]) (rest := []) (st0 := [(.int (Nat.toInt32 n)), (.int j)]) (by rw [hml]; rfl) (lenOf own_pd9 rfl) rfl (Nat.le_of_eq rfl) (hb hby own_d37_5) (by decide) (by decide) (by decide) (by decide) ?_
  intro v2 T2 L2 s X2 hZ hown hI2 hvm2 hhp2 hWw2 hQ2
  obtain ⟨rfl, Nq2, hh2⟩ := hQ2
  have N2 := Fr.app N1 Nq2
  show own_Ends p e below s _ _ _ (own_F T2 m 8 #[iv j, rv t] [])
  refine own_retV X2 hx hlk hrt (hb hby own_d37_8) (by decide) (by decide) ?_
  exact ⟨rfl, N2, hh2⟩
set_option maxRecDepth 65536 in
set_option maxHeartbeats 40000000 in
theorem own_uca (l : Launch) (Z : State) (a0 : Array Value) (hw : ∀ d ∈ tables_1, d.before a0 Z = true) (ws : List Jvm.Cond) (t : Addr) (j : Int32) (k n : Nat) (f : Nat → Int32) (sv : Value) (hsv : sv.isRef = true) (h0 : Heap) (n0 : Nat) (Z0 : n0 ≤ h0.size) (hj : j.toInt = (k : Int)) (hk : k < n) (hc : 0 ≤ (f k).toInt ∧ (f k).toInt ≤ 65535) (At : own_A Z h0 t .byte (2 * n) (fun i => .int (own_ub f i))) (S_sf : Sta Z h0 "jdk/internal/util/Preconditions" "SIOOBE_FORMATTER" "Ljava/util/function/BiFunction;" sv) (S_ad : Sta Z h0 "java/lang/StringUTF16" "$assertionsDisabled" "Z" (.int (1 : Int32))) (S_hi : Sta Z h0 "java/lang/StringUTF16" "HI_BYTE_SHIFT" "I" (.int (0 : Int32))) (S_lo : Sta Z h0 "java/lang/StringUTF16" "LO_BYTE_SHIFT" "I" (.int (8 : Int32))) :
    own_Met l Z (⟨"java/lang/StringUTF16", "charAt", "([BI)C"⟩ : MethodName) jdk_52_method_83_code 2 (some .char) ws ({ frames := 3, cells := 0, slots := 0, locals := 40 } : Room) #[(.ref t), (.int j)] h0 (fun v h L => v = some (.int (f k)) ∧ Fr n0 L ∧ h = h0) := by
  refine own_body own_pn15 (fun m => mkF m 0 #[rv t, iv j] []) (fun m => own_ef_own_uca m t j) ?_
  intro p e s m below meth c T0 hx hby hml hlk hrt hZ hown hnm X0 e0
  have hown : s.vm.findClass "java/lang/StringUTF16" = some m.cls := hown
  have N0 := Fr.nil n0
  refine own_g (own_F T0 m 1 #[rv t, iv j] [(.int j)]) (fun _ z_ => XS.iloadN X0.here hx rfl (hb hby own_d36_0) rfl z_) ?_
  refine own_g (own_F T0 m 2 #[rv t, iv j] [(.ref t), (.int j)]) (fun _ z_ => XS.aloadN X0.here hx rfl (hb hby own_d36_1) rfl rfl z_) ?_
  refine own_callS (y := (⟨"java/lang/StringUTF16", "checkIndex", "(I[B)V"⟩ : MethodName)) X0 hx hZ hown (own_w hw 185) (own_w hw 186) (own_w hw 41) (own_w hw 187) (by decide) e0 (hM := own_uci l Z a0 hw [] t j k n f sv hsv h0 n0 Z0 hj hk At S_sf) (W := 0) (pc := 2) (Ls := #[rv t, iv j]) (argsL := [(.int j), (.ref t)]) (rest := []) (st0 := [(.ref t), (.int j)]) (by rw [hml]; rfl) (lenOf own_pd11 rfl) rfl (Nat.le_of_eq rfl) (hb hby own_d36_2) (by decide) (by decide) (by decide) (by decide) ?_
  intro v1 T1 L1 s X1 hZ hown hI1 hvm1 hhp1 hWw1 hQ1
  obtain ⟨rfl, Nq1, hh1⟩ := hQ1
  have N1 := Fr.app N0 Nq1
  show own_Ends p e below s _ _ _ (own_F T1 m 5 #[rv t, iv j] [])
  refine own_g (own_F T1 m 6 #[rv t, iv j] [(.ref t)]) (fun _ z_ => XS.aloadN X1.here hx rfl (hb hby own_d36_5) rfl rfl z_) ?_
  refine own_g (own_F T1 m 7 #[rv t, iv j] [(.int j), (.ref t)]) (fun _ z_ => XS.iloadN X1.here hx rfl (hb hby own_d36_6) rfl z_) ?_
  refine own_callS (y := (⟨"java/lang/StringUTF16", "getChar", "([BI)C"⟩ : MethodName)) X1 hx hZ hown (own_w hw 179) (own_w hw 180) (own_w hw 41) (own_w hw 181) (by decide) hh1 (hM := own_getc l Z a0 hw [] t n k j f h0 n0 Z0 hj hk At.1 hc At S_ad S_hi S_lo) (W := 0) (pc := 7) (Ls := #[rv t, iv j]) (argsL := [(.ref t), (.int j)]) (rest := []) (st0 := [(.int j), (.ref t)]) (by rw [hml]; rfl) (lenOf own_pd5 rfl) rfl (Nat.le_of_eq rfl) (hb hby own_d36_7) (by decide) (by decide) (by decide) (by decide) ?_
  intro v2 T2 L2 s X2 hZ hown hI2 hvm2 hhp2 hWw2 hQ2
  obtain ⟨rfl, Nq2, hh2⟩ := hQ2
  have N2 := Fr.app N1 Nq2
  show own_Ends p e below s _ _ _ (own_F T2 m 10 #[rv t, iv j] [(.int (f k))])
  refine own_ret (t := .char) X2 hx hlk hrt (own_narR hc) (Or.inl ⟨rfl, by simp, _, rfl⟩) (hb hby own_d36_10) (by decide) (by decide) ?_
  exact ⟨rfl, N2, hh2⟩
set_option maxRecDepth 65536 in
set_option maxHeartbeats 40000000 in
theorem own_isl (l : Launch) (Z : State) (a0 : Array Value) (hw : ∀ d ∈ tables_1, d.before a0 Z = true) (ws : List Jvm.Cond) (x : Addr) (cd zc r : Int32) (h0 : Heap) (n0 : Nat) (Z0 : n0 ≤ h0.size) (hr : (if cd = (0 : Int32) then (1 : Int32) else 0) = r) (hzc : ¬ zc = (0 : Int32)) (F_c : Fld Z h0 x "java/lang/String" "coder" "B" (.int cd)) (S_cs : Sta Z h0 "java/lang/String" "COMPACT_STRINGS" "Z" (.int zc)) :
    own_Met l Z (⟨"java/lang/String", "isLatin1", "()Z"⟩ : MethodName) jdk_42_method_154_code 1 (some .boolean) ws ({ frames := 0, cells := 0, slots := 0, locals := 0 } : Room) #[(.ref x)] h0 (fun v h L => v = some (.int r) ∧ Fr n0 L ∧ h = h0) := by
  refine own_body own_pn16 (fun m => mkF m 0 #[rv x] []) (fun m => own_ef_own_isl m x) ?_
  intro p e s m below meth c T0 hx hby hml hlk hrt hZ hown hnm X0 e0
  have hown : s.vm.findClass "java/lang/String" = some m.cls := hown
  have N0 := Fr.nil n0
  obtain ⟨T1, X1, e1, st1⟩ := getS2 X0 hx hZ hown (host := "") (Or.inl (own_w hw 38)) Via.refl e0 S_cs (g := (mkF m 0 #[rv x] [])) rfl (hb hby own_d12_0)
  refine own_pre (S' := (own_F T1 m 3 #[rv x] [(.int zc)])) st1 ?_
  refine own_g (own_F T1 m 6 #[rv x] []) (fun _ z_ => XS.ifNo X1.here hx rfl (hb hby own_d12_3) rfl ((if0 _ _).trans (feq hzc).1) z_) ?_
  refine own_g (own_F T1 m 7 #[rv x] [(.ref x)]) (fun _ z_ => XS.aloadN X1.here hx rfl (hb hby own_d12_6) rfl rfl z_) ?_
  obtain ⟨T2, X2, e2, st2⟩ := getF X1 hx hZ hown (host := "") (Or.inl (own_w hw 49)) Via.refl e1 F_c (g := (mkF m 7 #[rv x] [(.ref x)])) rfl rfl (hb hby own_d12_7)
  refine own_pre (S' := (own_F T2 m 10 #[rv x] [(.int cd)])) st2 ?_
  by_cases c10 : cd = (0 : Int32)
  · -- pc 10: cd = (0 : Int32)
   refine own_g (own_F T2 m 13 #[rv x] []) (fun _ z_ => XS.ifNo X2.here hx rfl (hb hby own_d12_10) rfl ((if0 _ _).trans (teq c10).2) z_) ?_
   refine own_g (own_F T2 m 14 #[rv x] [(.int 1)]) (fun _ z_ => XS.iconst X2.here hx rfl (hb hby own_d12_13) z_) ?_
   refine own_g (own_F T2 m 18 #[rv x] [(.int 1)]) (fun _ z_ => XS.goto X2.here hx rfl (pc0 := 14) (pc' := 18) rfl (hb hby own_d12_14) (by decide) (by decide) z_) ?_
   refine own_ret (t := .boolean) X2 hx hlk hrt rfl (Or.inl ⟨rfl, by simp, _, rfl⟩) (hb hby own_d12_18) (by decide) (by decide) ?_
   exact ⟨by rw [← hr]; simp [c10], N0, e2⟩
  · -- pc 10: not cd = (0 : Int32)
   refine own_g (own_F T2 m 17 #[rv x] []) (fun _ z_ => XS.ifYes X2.here hx rfl (pc0 := 10) (pc' := 17) rfl (hb hby own_d12_10) rfl ((if0 _ _).trans (feq c10).2) (by decide) (by decide) z_) ?_
   refine own_g (own_F T2 m 18 #[rv x] [(.int 0)]) (fun _ z_ => XS.iconst X2.here hx rfl (hb hby own_d12_17) z_) ?_
   refine own_ret (t := .boolean) X2 hx hlk hrt rfl (Or.inl ⟨rfl, by simp, _, rfl⟩) (hb hby own_d12_18) (by decide) (by decide) ?_
   exact ⟨by rw [← hr]; simp [c10], N0, e2⟩
set_option maxRecDepth 65536 in
set_option maxHeartbeats 40000000 in
theorem own_charAt (l : Launch) (Z : State) (a0 : Array Value) (hw : ∀ d ∈ tables_1, d.before a0 Z = true) (ws : List Jvm.Cond) (x : Addr) (j zc : Int32) (k n : Nat) (f : Nat → Int32) (sv : Value) (hsv : sv.isRef = true) (h0 : Heap) (n0 : Nat) (Z0 : n0 ≤ h0.size) (hj : j.toInt = (k : Int)) (hk : k < n) (hzc : ¬ zc = (0 : Int32)) (hS : own_Str Z h0 x n f) (S_cs : Sta Z h0 "java/lang/String" "COMPACT_STRINGS" "Z" (.int zc)) (S_sf : Sta Z h0 "jdk/internal/util/Preconditions" "SIOOBE_FORMATTER" "Ljava/util/function/BiFunction;" sv) (S_ad : Sta Z h0 "java/lang/StringUTF16" "$assertionsDisabled" "Z" (.int (1 : Int32))) (S_hi : Sta Z h0 "java/lang/StringUTF16" "HI_BYTE_SHIFT" "I" (.int (0 : Int32))) (S_lo : Sta Z h0 "java/lang/StringUTF16" "LO_BYTE_SHIFT" "I" (.int (8 : Int32))) :
    own_Met l Z (⟨"java/lang/String", "charAt", "(I)C"⟩ : MethodName) jdk_42_method_56_code 2 (some .char) ws ({ frames := 4, cells := 0, slots := 0, locals := 53 } : Room) #[(.ref x), (.int j)] h0 (fun v h L => v = some (.int (f k)) ∧ Fr n0 L ∧ h = h0) := by
  refine own_body own_pn17 (fun m => mkF m 0 #[rv x, iv j] []) (fun m => own_ef_own_charAt m x j) ?_
  intro p e s m below meth c T0 hx hby hml hlk hrt hZ hown hnm X0 e0
  have hown : s.vm.findClass "java/lang/String" = some m.cls := hown
  have N0 := Fr.nil n0
  obtain ⟨t, E_x, F_v, hf, CC⟩ := hS
  rcases CC with ⟨F_c, At, hl⟩ | ⟨F_c, At⟩
  ·
   refine own_g (own_F T0 m 1 #[rv x, iv j] [(.ref x)]) (fun _ z_ => XS.aloadN X0.here hx rfl (hb hby own_d11_0) rfl rfl z_) ?_
   refine own_callV (C := "java/lang/String") (y := (⟨"java/lang/String", "isLatin1", "()Z"⟩ : MethodName)) (b := x) X0 hx hZ hown (own_w hw 67) (own_w hw 68) (own_w hw 70) (own_w hw 69) (own_w hw 71) (own_w hw 18) (by decide) e0 E_x (hM := own_isl l Z a0 hw [] x (0 : Int32) zc (1 : Int32) h0 n0 Z0 (by decide) hzc F_c S_cs) (W := 0) (pc := 1) (Ls := #[rv x, iv j]) (argsL := []) (rest := []) (st0 := [(.ref x)]) (by rw [hml]; rfl) (lenOf own_pd12 rfl) rfl (Nat.le_of_eq rfl) (hb hby own_d11_1) (by decide) (by decide) (by decide) (by decide) ?_
   intro v1 T1 L1 s X1 hZ hown hI1 hvm1 hhp1 hWw1 hQ1
   obtain ⟨rfl, Nq1, hh1⟩ := hQ1
   have N1 := Fr.app N0 Nq1
   show own_Ends p e below s _ _ _ (own_F T1 m 4 #[rv x, iv j] [(.int 1)])
   refine own_g (own_F T1 m 7 #[rv x, iv j] []) (fun _ z_ => XS.ifNo X1.here hx rfl (hb hby own_d11_4) rfl ((if0 _ _).trans (feq (by decide : ¬ ((1 : Int32) = (0 : Int32)))).1) z_) ?_
   refine own_g (own_F T1 m 8 #[rv x, iv j] [(.ref x)]) (fun _ z_ => XS.aloadN X1.here hx rfl (hb hby own_d11_7) rfl rfl z_) ?_
   obtain ⟨T2, X2, e2, st2⟩ := getF X1 hx hZ hown (host := "") (Or.inl (own_w hw 50)) Via.refl hh1 F_v (g := (mkF m 8 #[rv x, iv j] [(.ref x)])) rfl rfl (hb hby own_d11_8)
   refine own_pre (S' := (own_F T2 m 11 #[rv x, iv j] [(.ref t)])) st2 ?_
   refine own_g (own_F T2 m 12 #[rv x, iv j] [(.int j), (.ref t)]) (fun _ z_ => XS.iloadN X2.here hx rfl (hb hby own_d11_11) rfl z_) ?_
   refine own_callS (y := (⟨"java/lang/StringLatin1", "charAt", "([BI)C"⟩ : MethodName)) X2 hx hZ hown (own_w hw 72) (own_w hw 73) (own_w hw 74) (own_w hw 75) (by decide) e2 (hM := own_lca l Z a0 hw [] t j k n f sv hsv h0 n0 Z0 hj hk (hl k hk) At S_sf) (W := 0) (pc := 12) (Ls := #[rv x, iv j]) (argsL := [(.ref t), (.int j)]) (rest := []) (st0 := [(.int j), (.ref t)]) (by rw [hml]; rfl) (lenOf own_pd5 rfl) rfl (Nat.le_of_eq rfl) (hb hby own_d11_12) (by decide) (by decide) (by decide) (by decide) ?_
   intro v3 T3 L3 s X3 hZ hown hI3 hvm3 hhp3 hWw3 hQ3
   obtain ⟨rfl, Nq3, hh3⟩ := hQ3
   have N3 := Fr.app N1 Nq3
   show own_Ends p e below s _ _ _ (own_F T3 m 15 #[rv x, iv j] [(.int (f k))])
   refine own_ret (t := .char) X3 hx hlk hrt (own_narR (hf k hk)) (Or.inl ⟨rfl, by simp, _, rfl⟩) (hb hby own_d11_15) (by decide) (by decide) ?_
   exact ⟨rfl, N3, hh3⟩
  ·
   refine own_g (own_F T0 m 1 #[rv x, iv j] [(.ref x)]) (fun _ z_ => XS.aloadN X0.here hx rfl (hb hby own_d11_0) rfl rfl z_) ?_
   refine own_callV (C := "java/lang/String") (y := (⟨"java/lang/String", "isLatin1", "()Z"⟩ : MethodName)) (b := x) X0 hx hZ hown (own_w hw 67) (own_w hw 68) (own_w hw 70) (own_w hw 69) (own_w hw 71) (own_w hw 18) (by decide) e0 E_x (hM := own_isl l Z a0 hw [] x (1 : Int32) zc (0 : Int32) h0 n0 Z0 (by decide) hzc F_c S_cs) (W := 0) (pc := 1) (Ls := #[rv x, iv j]) (argsL := []) (rest := []) (st0 := [(.ref x)]) (by rw [hml]; rfl) (lenOf own_pd12 rfl) rfl (Nat.le_of_eq rfl) (hb hby own_d11_1) (by decide) (by decide) (by decide) (by decide) ?_
   intro v4 T4 L4 s X4 hZ hown hI4 hvm4 hhp4 hWw4 hQ4
   obtain ⟨rfl, Nq4, hh4⟩ := hQ4
   have N4 := Fr.app N0 Nq4
   show own_Ends p e below s _ _ _ (own_F T4 m 4 #[rv x, iv j] [(.int 0)])
   refine own_g (own_F T4 m 16 #[rv x, iv j] []) (fun _ z_ => XS.ifYes X4.here hx rfl (pc0 := 4) (pc' := 16) rfl (hb hby own_d11_4) rfl ((if0 _ _).trans (teq (by decide : ((0 : Int32) = (0 : Int32)))).1) (by decide) (by decide) z_) ?_
   refine own_g (own_F T4 m 17 #[rv x, iv j] [(.ref x)]) (fun _ z_ => XS.aloadN X4.here hx rfl (hb hby own_d11_16) rfl rfl z_) ?_
   obtain ⟨T5, X5, e5, st5⟩ := getF X4 hx hZ hown (host := "") (Or.inl (own_w hw 50)) Via.refl hh4 F_v (g := (mkF m 17 #[rv x, iv j] [(.ref x)])) rfl rfl (hb hby own_d11_17)
   refine own_pre (S' := (own_F T5 m 20 #[rv x, iv j] [(.ref t)])) st5 ?_
   refine own_g (own_F T5 m 21 #[rv x, iv j] [(.int j), (.ref t)]) (fun _ z_ => XS.iloadN X5.here hx rfl (hb hby own_d11_20) rfl z_) ?_
   refine own_callS (y := (⟨"java/lang/StringUTF16", "charAt", "([BI)C"⟩ : MethodName)) X5 hx hZ hown (own_w hw 182) (own_w hw 183) (own_w hw 41) (own_w hw 184) (by decide) e5 (hM := own_uca l Z a0 hw [] t j k n f sv hsv h0 n0 Z0 hj hk (hf k hk) At S_sf S_ad S_hi S_lo) (W := 0) (pc := 21) (Ls := #[rv x, iv j]) (argsL := [(.ref t), (.int j)]) (rest := []) (st0 := [(.int j), (.ref t)]) (by rw [hml]; rfl) (lenOf own_pd5 rfl) rfl (Nat.le_of_eq rfl) (hb hby own_d11_21) (by decide) (by decide) (by decide) (by decide) ?_
   intro v6 T6 L6 s X6 hZ hown hI6 hvm6 hhp6 hWw6 hQ6
   obtain ⟨rfl, Nq6, hh6⟩ := hQ6
   have N6 := Fr.app N4 Nq6
   show own_Ends p e below s _ _ _ (own_F T6 m 24 #[rv x, iv j] [(.int (f k))])
   refine own_ret (t := .char) X6 hx hlk hrt (own_narR (hf k hk)) (Or.inl ⟨rfl, by simp, _, rfl⟩) (hb hby own_d11_24) (by decide) (by decide) ?_
   exact ⟨rfl, N6, hh6⟩
set_option maxRecDepth 65536 in
set_option maxHeartbeats 40000000 in
theorem own_cod (l : Launch) (Z : State) (a0 : Array Value) (hw : ∀ d ∈ tables_1, d.before a0 Z = true) (ws : List Jvm.Cond) (x : Addr) (cd zc : Int32) (h0 : Heap) (n0 : Nat) (Z0 : n0 ≤ h0.size) (hcd : narrow .byte (.int cd) = .int cd) (hzc : ¬ zc = (0 : Int32)) (F_c : Fld Z h0 x "java/lang/String" "coder" "B" (.int cd)) (S_cs : Sta Z h0 "java/lang/String" "COMPACT_STRINGS" "Z" (.int zc)) :
    own_Met l Z (⟨"java/lang/String", "coder", "()B"⟩ : MethodName) jdk_42_method_152_code 1 (some .byte) ws ({ frames := 0, cells := 0, slots := 0, locals := 0 } : Room) #[(.ref x)] h0 (fun v h L => v = some (.int cd) ∧ Fr n0 L ∧ h = h0) := by
  refine own_body own_pn18 (fun m => mkF m 0 #[rv x] []) (fun m => own_ef_own_cod m x) ?_
  intro p e s m below meth c T0 hx hby hml hlk hrt hZ hown hnm X0 e0
  have hown : s.vm.findClass "java/lang/String" = some m.cls := hown
  have N0 := Fr.nil n0
  obtain ⟨T1, X1, e1, st1⟩ := getS2 X0 hx hZ hown (host := "") (Or.inl (own_w hw 38)) Via.refl e0 S_cs (g := (mkF m 0 #[rv x] [])) rfl (hb hby own_d21_0)
  refine own_pre (S' := (own_F T1 m 3 #[rv x] [(.int zc)])) st1 ?_
  refine own_g (own_F T1 m 6 #[rv x] []) (fun _ z_ => XS.ifNo X1.here hx rfl (hb hby own_d21_3) rfl ((if0 _ _).trans (feq hzc).1) z_) ?_
  refine own_g (own_F T1 m 7 #[rv x] [(.ref x)]) (fun _ z_ => XS.aloadN X1.here hx rfl (hb hby own_d21_6) rfl rfl z_) ?_
  obtain ⟨T2, X2, e2, st2⟩ := getF X1 hx hZ hown (host := "") (Or.inl (own_w hw 49)) Via.refl e1 F_c (g := (mkF m 7 #[rv x] [(.ref x)])) rfl rfl (hb hby own_d21_7)
  refine own_pre (S' := (own_F T2 m 10 #[rv x] [(.int cd)])) st2 ?_
  refine own_g (own_F T2 m 14 #[rv x] [(.int cd)]) (fun _ z_ => XS.goto X2.here hx rfl (pc0 := 10) (pc' := 14) rfl (hb hby own_d21_10) (by decide) (by decide) z_) ?_
  refine own_ret (t := .byte) X2 hx hlk hrt hcd (Or.inl ⟨rfl, by simp, _, rfl⟩) (hb hby own_d21_14) (by decide) (by decide) ?_
  exact ⟨rfl, N0, e2⟩
set_option maxRecDepth 65536 in
set_option maxHeartbeats 40000000 in
theorem own_slen (l : Launch) (Z : State) (a0 : Array Value) (hw : ∀ d ∈ tables_1, d.before a0 Z = true) (ws : List Jvm.Cond) (x : Addr) (n : Nat) (nn zc : Int32) (f : Nat → Int32) (h0 : Heap) (n0 : Nat) (Z0 : n0 ≤ h0.size) (hn : nn.toInt = (n : Int)) (hzc : ¬ zc = (0 : Int32)) (hS : own_Str Z h0 x n f) (S_cs : Sta Z h0 "java/lang/String" "COMPACT_STRINGS" "Z" (.int zc)) :
    own_Met l Z (⟨"java/lang/String", "length", "()I"⟩ : MethodName) jdk_42_method_54_code 1 (some .int) ws ({ frames := 1, cells := 0, slots := 0, locals := 13 } : Room) #[(.ref x)] h0 (fun v h L => v = some (.int nn) ∧ Fr n0 L ∧ h = h0) := by
  refine own_body own_pn19 (fun m => mkF m 0 #[rv x] []) (fun m => own_ef_own_slen m x) ?_
  intro p e s m below meth c T0 hx hby hml hlk hrt hZ hown hnm X0 e0
  have hown : s.vm.findClass "java/lang/String" = some m.cls := hown
  have N0 := Fr.nil n0
  obtain ⟨t, E_x, F_v, hf, CC⟩ := hS
  rcases CC with ⟨F_c, At, hl⟩ | ⟨F_c, At⟩
  ·
   refine own_g (own_F T0 m 1 #[rv x] [(.ref x)]) (fun _ z_ => XS.aloadN X0.here hx rfl (hb hby own_d20_0) rfl rfl z_) ?_
   obtain ⟨T1, X1, e1, st1⟩ := getF X0 hx hZ hown (host := "") (Or.inl (own_w hw 50)) Via.refl e0 F_v (g := (mkF m 1 #[rv x] [(.ref x)])) rfl rfl (hb hby own_d20_1)
   refine own_pre (S' := (own_F T1 m 4 #[rv x] [(.ref t)])) st1 ?_
   refine own_alen X1 hx hZ e1 At (hb hby own_d20_4) ?_
   show own_Ends p e below s _ _ _ (own_F T1 m 5 #[rv x] [(.int (Nat.toInt32 n))])
   refine own_g (own_F T1 m 6 #[rv x] [(.ref x), (.int (Nat.toInt32 n))]) (fun _ z_ => XS.aloadN X1.here hx rfl (hb hby own_d20_5) rfl rfl z_) ?_
   refine own_callV (C := "java/lang/String") (y := (⟨"java/lang/String", "coder", "()B"⟩ : MethodName)) (b := x) X1 hx hZ hown (own_w hw 113) (own_w hw 114) (own_w hw 116) (own_w hw 115) (own_w hw 117) (own_w hw 18) (by decide) e1 E_x (hM := own_cod l Z a0 hw [] x (0 : Int32) zc h0 n0 Z0 rfl hzc F_c S_cs) (W := 1) (pc := 6) (Ls := #[rv x]) (argsL := []) (rest := [(.int (Nat.toInt32 n))]) (st0 := [(.ref x), (.int (Nat.toInt32 n))]) (by rw [hml]; rfl) (lenOf own_pd13 rfl) rfl (Nat.le_of_eq rfl) (hb hby own_d20_6) (by decide) (by decide) (by decide) (by decide) ?_
   intro v2 T2 L2 s X2 hZ hown hI2 hvm2 hhp2 hWw2 hQ2
   obtain ⟨rfl, Nq2, hh2⟩ := hQ2
   have N2 := Fr.app N0 Nq2
   show own_Ends p e below s _ _ _ (own_F T2 m 9 #[rv x] [(.int 0), (.int (Nat.toInt32 n))])
   refine own_g (own_F T2 m 10 #[rv x] [(.int ((Nat.toInt32 n) >>> ((0 : Int32) &&& 31)))]) (fun _ z_ => XS.ishr X2.here hx rfl (hb hby own_d20_9) rfl z_) ?_
   refine own_ret (t := .int) X2 hx hlk hrt rfl (Or.inl ⟨rfl, by simp, _, rfl⟩) (hb hby own_d20_10) (by decide) (by decide) ?_
   exact ⟨congrArg (fun z => some (Value.int z)) (own_sh0 hn), N2, hh2⟩
  ·
   refine own_g (own_F T0 m 1 #[rv x] [(.ref x)]) (fun _ z_ => XS.aloadN X0.here hx rfl (hb hby own_d20_0) rfl rfl z_) ?_
   obtain ⟨T3, X3, e3, st3⟩ := getF X0 hx hZ hown (host := "") (Or.inl (own_w hw 50)) Via.refl e0 F_v (g := (mkF m 1 #[rv x] [(.ref x)])) rfl rfl (hb hby own_d20_1)
   refine own_pre (S' := (own_F T3 m 4 #[rv x] [(.ref t)])) st3 ?_
   refine own_alen X3 hx hZ e3 At (hb hby own_d20_4) ?_
   show own_Ends p e below s _ _ _ (own_F T3 m 5 #[rv x] [(.int (Nat.toInt32 (2 * n)))])
   refine own_g (own_F T3 m 6 #[rv x] [(.ref x), (.int (Nat.toInt32 (2 * n)))]) (fun _ z_ => XS.aloadN X3.here hx rfl (hb hby own_d20_5) rfl rfl z_) ?_
   refine own_callV (C := "java/lang/String") (y := (⟨"java/lang/String", "coder", "()B"⟩ : MethodName)) (b := x) X3 hx hZ hown (own_w hw 113) (own_w hw 114) (own_w hw 116) (own_w hw 115) (own_w hw 117) (own_w hw 18) (by decide) e3 E_x (hM := own_cod l Z a0 hw [] x (1 : Int32) zc h0 n0 Z0 rfl hzc F_c S_cs) (W := 1) (pc := 6) (Ls := #[rv x]) (argsL := []) (rest := [(.int (Nat.toInt32 (2 * n)))]) (st0 := [(.ref x), (.int (Nat.toInt32 (2 * n)))]) (by rw [hml]; rfl) (lenOf own_pd13 rfl) rfl (Nat.le_of_eq rfl) (hb hby own_d20_6) (by decide) (by decide) (by decide) (by decide) ?_
   intro v4 T4 L4 s X4 hZ hown hI4 hvm4 hhp4 hWw4 hQ4
   obtain ⟨rfl, Nq4, hh4⟩ := hQ4
   have N4 := Fr.app N0 Nq4
   show own_Ends p e below s _ _ _ (own_F T4 m 9 #[rv x] [(.int 1), (.int (Nat.toInt32 (2 * n)))])
   refine own_g (own_F T4 m 10 #[rv x] [(.int ((Nat.toInt32 (2 * n)) >>> ((1 : Int32) &&& 31)))]) (fun _ z_ => XS.ishr X4.here hx rfl (hb hby own_d20_9) rfl z_) ?_
   refine own_ret (t := .int) X4 hx hlk hrt rfl (Or.inl ⟨rfl, by simp, _, rfl⟩) (hb hby own_d20_10) (by decide) (by decide) ?_
   exact ⟨congrArg (fun z => some (Value.int z)) (own_half hn At.1), N4, hh4⟩
set_option maxRecDepth 65536 in
set_option maxHeartbeats 40000000 in
theorem own_mx0 (l : Launch) (Z : State) (a0 : Array Value) (hw : ∀ d ∈ tables_1, d.before a0 Z = true) (ws : List Jvm.Cond) (j : Int32) (h0 : Heap) (n0 : Nat) (Z0 : n0 ≤ h0.size) (hj0 : ¬ j < (0 : Int32)) :
    own_Met l Z (⟨"java/lang/Math", "max", "(II)I"⟩ : MethodName) jdk_29_method_65_code 2 (some .int) ws ({ frames := 0, cells := 0, slots := 0, locals := 0 } : Room) #[(.int j), (.int 0)] h0 (fun v h L => v = some (.int j) ∧ Fr n0 L ∧ h = h0) := by
  refine own_body own_pn20 (fun m => mkF m 0 #[iv j, iv 0] []) (fun m => own_ef_own_mx0 m j (0 : Int32)) ?_
  intro p e s m below meth c T0 hx hby hml hlk hrt hZ hown hnm X0 e0
  have hown : s.vm.findClass "java/lang/Math" = some m.cls := hown
  have N0 := Fr.nil n0
  refine own_g (own_F T0 m 1 #[iv j, iv 0] [(.int j)]) (fun _ z_ => XS.iloadN X0.here hx rfl (hb hby own_d28_0) rfl z_) ?_
  refine own_g (own_F T0 m 2 #[iv j, iv 0] [(.int 0), (.int j)]) (fun _ z_ => XS.iloadN X0.here hx rfl (hb hby own_d28_1) rfl z_) ?_
  refine own_g (own_F T0 m 5 #[iv j, iv 0] []) (fun _ z_ => XS.icmpNo X0.here hx rfl (hb hby own_d28_2) rfl (flt hj0).1 z_) ?_
  refine own_g (own_F T0 m 6 #[iv j, iv 0] [(.int j)]) (fun _ z_ => XS.iloadN X0.here hx rfl (hb hby own_d28_5) rfl z_) ?_
  refine own_g (own_F T0 m 10 #[iv j, iv 0] [(.int j)]) (fun _ z_ => XS.goto X0.here hx rfl (pc0 := 6) (pc' := 10) rfl (hb hby own_d28_6) (by decide) (by decide) z_) ?_
  refine own_ret (t := .int) X0 hx hlk hrt rfl (Or.inl ⟨rfl, by simp, _, rfl⟩) (hb hby own_d28_10) (by decide) (by decide) ?_
  exact ⟨rfl, N0, e0⟩
set_option maxRecDepth 65536 in
set_option maxHeartbeats 40000000 in
theorem own_mnn (l : Launch) (Z : State) (a0 : Array Value) (hw : ∀ d ∈ tables_1, d.before a0 Z = true) (ws : List Jvm.Cond) (j : Int32) (h0 : Heap) (n0 : Nat) (Z0 : n0 ≤ h0.size)  :
    own_Met l Z (⟨"java/lang/Math", "min", "(II)I"⟩ : MethodName) jdk_29_method_69_code 2 (some .int) ws ({ frames := 0, cells := 0, slots := 0, locals := 0 } : Room) #[(.int j), (.int j)] h0 (fun v h L => v = some (.int j) ∧ Fr n0 L ∧ h = h0) := by
  refine own_body own_pn21 (fun m => mkF m 0 #[iv j, iv j] []) (fun m => own_ef_own_mnn m j j) ?_
  intro p e s m below meth c T0 hx hby hml hlk hrt hZ hown hnm X0 e0
  have hown : s.vm.findClass "java/lang/Math" = some m.cls := hown
  have N0 := Fr.nil n0
  refine own_g (own_F T0 m 1 #[iv j, iv j] [(.int j)]) (fun _ z_ => XS.iloadN X0.here hx rfl (hb hby own_d29_0) rfl z_) ?_
  refine own_g (own_F T0 m 2 #[iv j, iv j] [(.int j), (.int j)]) (fun _ z_ => XS.iloadN X0.here hx rfl (hb hby own_d29_1) rfl z_) ?_
  refine own_g (own_F T0 m 5 #[iv j, iv j] []) (fun _ z_ => XS.icmpNo X0.here hx rfl (hb hby own_d29_2) rfl (flt (fun z_ => Int32.lt_irrefl z_)).2.2.1 z_) ?_
  refine own_g (own_F T0 m 6 #[iv j, iv j] [(.int j)]) (fun _ z_ => XS.iloadN X0.here hx rfl (hb hby own_d29_5) rfl z_) ?_
  refine own_g (own_F T0 m 10 #[iv j, iv j] [(.int j)]) (fun _ z_ => XS.goto X0.here hx rfl (pc0 := 6) (pc' := 10) rfl (hb hby own_d29_6) (by decide) (by decide) z_) ?_
  refine own_ret (t := .int) X0 hx hlk hrt rfl (Or.inl ⟨rfl, by simp, _, rfl⟩) (hb hby own_d29_10) (by decide) (by decide) ?_
  exact ⟨rfl, N0, e0⟩
set_option maxRecDepth 65536 in
set_option maxHeartbeats 40000000 in
theorem own_ce2 (l : Launch) (Z : State) (a0 : Array Value) (hw : ∀ d ∈ tables_1, d.before a0 Z = true) (ws : List Jvm.Cond) (ch : Int32) (h0 : Heap) (n0 : Nat) (Z0 : n0 ≤ h0.size) (hc : 0 ≤ ch.toInt ∧ ch.toInt ≤ 255) :
    own_Met l Z (⟨"java/lang/StringLatin1", "canEncode", "(I)Z"⟩ : MethodName) jdk_43_method_4_code 1 (some .boolean) ws ({ frames := 0, cells := 0, slots := 0, locals := 0 } : Room) #[(.int ch)] h0 (fun v h L => v = some (.int (1 : Int32)) ∧ Fr n0 L ∧ h = h0) := by
  refine own_body own_pn22 (fun m => mkF m 0 #[iv ch] []) (fun m => own_ef_own_ce2 m ch) ?_
  intro p e s m below meth c T0 hx hby hml hlk hrt hZ hown hnm X0 e0
  have hown : s.vm.findClass "java/lang/StringLatin1" = some m.cls := hown
  have N0 := Fr.nil n0
  refine own_g (own_F T0 m 1 #[iv ch] [(.int ch)]) (fun _ z_ => XS.iloadN X0.here hx rfl (hb hby own_d27_0) rfl z_) ?_
  refine own_g (own_F T0 m 4 #[iv ch] []) (fun _ z_ => XS.ifNo X0.here hx rfl (hb hby own_d27_1) rfl ((if0 _ _).trans (flt (by rw [Int32.lt_iff_toInt_lt, Int32.toInt_zero]; omega)).1) z_) ?_
  refine own_g (own_F T0 m 5 #[iv ch] [(.int ch)]) (fun _ z_ => XS.iloadN X0.here hx rfl (hb hby own_d27_4) rfl z_) ?_
  refine own_g (own_F T0 m 8 #[iv ch] [(.int 255), (.int ch)]) (fun _ z_ => XS.sipush X0.here hx rfl (hb hby own_d27_5) z_) ?_
  refine own_g (own_F T0 m 11 #[iv ch] []) (fun _ z_ => XS.icmpNo X0.here hx rfl (hb hby own_d27_8) rfl (flt (own_c255 hc.2)).2.2.1 z_) ?_
  refine own_g (own_F T0 m 12 #[iv ch] [(.int 1)]) (fun _ z_ => XS.iconst X0.here hx rfl (hb hby own_d27_11) z_) ?_
  refine own_g (own_F T0 m 16 #[iv ch] [(.int 1)]) (fun _ z_ => XS.goto X0.here hx rfl (pc0 := 12) (pc' := 16) rfl (hb hby own_d27_12) (by decide) (by decide) z_) ?_
  refine own_ret (t := .boolean) X0 hx hlk hrt rfl (Or.inl ⟨rfl, by simp, _, rfl⟩) (hb hby own_d27_16) (by decide) (by decide) ?_
  exact ⟨rfl, N0, e0⟩
set_option maxRecDepth 65536 in
set_option maxHeartbeats 40000000 in
theorem own_lic (l : Launch) (Z : State) (a0 : Array Value) (hw : ∀ d ∈ tables_1, d.before a0 Z = true) (ws : List Jvm.Cond) (t : Addr) (n k : Nat) (ch j nn : Int32) (f : Nat → Int32) (h0 : Heap) (n0 : Nat) (Z0 : n0 ≤ h0.size) (hj : j.toInt = (k : Int)) (hk : k + 1 < n) (hn : nn.toInt = (n : Int)) (hc : 0 ≤ ch.toInt ∧ ch.toInt ≤ 255) (hne : ¬ f k = ch) (heq : f (k + 1) = ch) (At : own_A Z h0 t .byte n (fun i => .int ((f i).toInt8.toInt32))) (hl : ∀ i, i < n → 0 ≤ (f i).toInt ∧ (f i).toInt ≤ 255) :
    own_Met l Z (⟨"java/lang/StringLatin1", "indexOfChar", "([BIII)I"⟩ : MethodName) jdk_43_method_23_code 6 (some .int) ws ({ frames := 0, cells := 0, slots := 0, locals := 0 } : Room) #[(.ref t), (.int ch), (.int j), (.int nn)] h0 (fun v h L => v = some (.int (j + (1 : Int32))) ∧ Fr n0 L ∧ h = h0) := by
  refine own_body own_pn23 (fun m => mkF m 0 #[rv t, iv ch, iv j, iv nn, .unset, .unset] []) (fun m => own_ef_own_lic m t ch j nn) ?_
  intro p e s m below meth c T0 hx hby hml hlk hrt hZ hown hnm X0 e0
  have hown : s.vm.findClass "java/lang/StringLatin1" = some m.cls := hown
  have N0 := Fr.nil n0
  have hbA := At.1
  refine own_g (own_F T0 m 1 #[rv t, iv ch, iv j, iv nn, .unset, .unset] [(.int ch)]) (fun _ z_ => XS.iloadN X0.here hx rfl (hb hby own_d30_0) rfl z_) ?_
  refine own_g (own_F T0 m 2 #[rv t, iv ch, iv j, iv nn, .unset, .unset] [(.int (ch.toInt8.toInt32))]) (fun _ z_ => XS.i2b X0.here hx rfl (hb hby own_d30_1) rfl z_) ?_
  refine own_g (own_F T0 m 4 #[rv t, iv ch, iv j, iv nn, iv (ch.toInt8.toInt32), .unset] []) (fun _ z_ => XS.istore X0.here hx rfl (hb hby own_d30_2) rfl (l' := #[rv t, iv ch, iv j, iv nn, iv (ch.toInt8.toInt32), .unset]) rfl z_) ?_
  refine own_g (own_F T0 m 5 #[rv t, iv ch, iv j, iv nn, iv (ch.toInt8.toInt32), .unset] [(.int j)]) (fun _ z_ => XS.iloadN X0.here hx rfl (hb hby own_d30_4) rfl z_) ?_
  refine own_g (own_F T0 m 7 #[rv t, iv ch, iv j, iv nn, iv (ch.toInt8.toInt32), iv j] []) (fun _ z_ => XS.istore X0.here hx rfl (hb hby own_d30_5) rfl (l' := #[rv t, iv ch, iv j, iv nn, iv (ch.toInt8.toInt32), iv j]) rfl z_) ?_
  refine own_g (own_F T0 m 9 #[rv t, iv ch, iv j, iv nn, iv (ch.toInt8.toInt32), iv j] [(.int j)]) (fun _ z_ => XS.iload X0.here hx rfl (hb hby own_d30_7) rfl z_) ?_
  refine own_g (own_F T0 m 10 #[rv t, iv ch, iv j, iv nn, iv (ch.toInt8.toInt32), iv j] [(.int nn), (.int j)]) (fun _ z_ => XS.iloadN X0.here hx rfl (hb hby own_d30_9) rfl z_) ?_
  refine own_g (own_F T0 m 13 #[rv t, iv ch, iv j, iv nn, iv (ch.toInt8.toInt32), iv j] []) (fun _ z_ => XS.icmpNo X0.here hx rfl (hb hby own_d30_10) rfl (tlt (own_jlt hj hn (by omega))).2.1 z_) ?_
  refine own_g (own_F T0 m 14 #[rv t, iv ch, iv j, iv nn, iv (ch.toInt8.toInt32), iv j] [(.ref t)]) (fun _ z_ => XS.aloadN X0.here hx rfl (hb hby own_d30_13) rfl rfl z_) ?_
  refine own_g (own_F T0 m 16 #[rv t, iv ch, iv j, iv nn, iv (ch.toInt8.toInt32), iv j] [(.int j), (.ref t)]) (fun _ z_ => XS.iload X0.here hx rfl (hb hby own_d30_14) rfl z_) ?_
  refine own_bald X0 hx hZ e0 At k hj (by omega) (hb hby own_d30_16) ?_
  show own_Ends p e below s _ _ _ (own_F T0 m 17 #[rv t, iv ch, iv j, iv nn, iv (ch.toInt8.toInt32), iv j] [(.int ((f k).toInt8.toInt32))])
  refine own_g (own_F T0 m 19 #[rv t, iv ch, iv j, iv nn, iv (ch.toInt8.toInt32), iv j] [(.int (ch.toInt8.toInt32)), (.int ((f k).toInt8.toInt32))]) (fun _ z_ => XS.iload X0.here hx rfl (hb hby own_d30_17) rfl z_) ?_
  refine own_g (own_F T0 m 25 #[rv t, iv ch, iv j, iv nn, iv (ch.toInt8.toInt32), iv j] []) (fun _ z_ => XS.icmpYes X0.here hx rfl (pc0 := 19) (pc' := 25) rfl (hb hby own_d30_19) rfl (feq (fun q => hne (own_b8 (hl k (by omega)) hc q))).2 (by decide) (by decide) z_) ?_
  refine own_g (own_F T0 m 28 #[rv t, iv ch, iv j, iv nn, iv (ch.toInt8.toInt32), iv (j + (1 : Int32))] []) (fun _ z_ => XS.iinc X0.here hx rfl (hb hby own_d30_25) rfl (l' := #[rv t, iv ch, iv j, iv nn, iv (ch.toInt8.toInt32), iv (j + (1 : Int32))]) rfl z_) ?_
  refine own_g (own_F T0 m 7 #[rv t, iv ch, iv j, iv nn, iv (ch.toInt8.toInt32), iv (j + (1 : Int32))] []) (fun _ z_ => XS.goto X0.here hx rfl (pc0 := 28) (pc' := 7) rfl (hb hby own_d30_28) (by decide) (by decide) z_) ?_
  refine own_g (own_F T0 m 9 #[rv t, iv ch, iv j, iv nn, iv (ch.toInt8.toInt32), iv (j + (1 : Int32))] [(.int (j + (1 : Int32)))]) (fun _ z_ => XS.iload X0.here hx rfl (hb hby own_d30_7) rfl z_) ?_
  refine own_g (own_F T0 m 10 #[rv t, iv ch, iv j, iv nn, iv (ch.toInt8.toInt32), iv (j + (1 : Int32))] [(.int nn), (.int (j + (1 : Int32)))]) (fun _ z_ => XS.iloadN X0.here hx rfl (hb hby own_d30_9) rfl z_) ?_
  refine own_g (own_F T0 m 13 #[rv t, iv ch, iv j, iv nn, iv (ch.toInt8.toInt32), iv (j + (1 : Int32))] []) (fun _ z_ => XS.icmpNo X0.here hx rfl (hb hby own_d30_10) rfl (tlt (own_jlt (own_add1 hj (by omega)) hn hk)).2.1 z_) ?_
  refine own_g (own_F T0 m 14 #[rv t, iv ch, iv j, iv nn, iv (ch.toInt8.toInt32), iv (j + (1 : Int32))] [(.ref t)]) (fun _ z_ => XS.aloadN X0.here hx rfl (hb hby own_d30_13) rfl rfl z_) ?_
  refine own_g (own_F T0 m 16 #[rv t, iv ch, iv j, iv nn, iv (ch.toInt8.toInt32), iv (j + (1 : Int32))] [(.int (j + (1 : Int32))), (.ref t)]) (fun _ z_ => XS.iload X0.here hx rfl (hb hby own_d30_14) rfl z_) ?_
  refine own_bald X0 hx hZ e0 At (k + 1) (own_add1 hj (by omega)) hk (hb hby own_d30_16) ?_
  show own_Ends p e below s _ _ _ (own_F T0 m 17 #[rv t, iv ch, iv j, iv nn, iv (ch.toInt8.toInt32), iv (j + (1 : Int32))] [(.int ((f (k + 1)).toInt8.toInt32))])
  refine own_g (own_F T0 m 19 #[rv t, iv ch, iv j, iv nn, iv (ch.toInt8.toInt32), iv (j + (1 : Int32))] [(.int (ch.toInt8.toInt32)), (.int ((f (k + 1)).toInt8.toInt32))]) (fun _ z_ => XS.iload X0.here hx rfl (hb hby own_d30_17) rfl z_) ?_
  refine own_g (own_F T0 m 22 #[rv t, iv ch, iv j, iv nn, iv (ch.toInt8.toInt32), iv (j + (1 : Int32))] []) (fun _ z_ => XS.icmpNo X0.here hx rfl (hb hby own_d30_19) rfl (teq (by rw [heq])).2 z_) ?_
  refine own_g (own_F T0 m 24 #[rv t, iv ch, iv j, iv nn, iv (ch.toInt8.toInt32), iv (j + (1 : Int32))] [(.int (j + (1 : Int32)))]) (fun _ z_ => XS.iload X0.here hx rfl (hb hby own_d30_22) rfl z_) ?_
  refine own_ret (t := .int) X0 hx hlk hrt rfl (Or.inl ⟨rfl, by simp, _, rfl⟩) (hb hby own_d30_24) (by decide) (by decide) ?_
  exact ⟨rfl, N0, e0⟩
set_option maxRecDepth 65536 in
set_option maxHeartbeats 40000000 in
theorem own_lio (l : Launch) (Z : State) (a0 : Array Value) (hw : ∀ d ∈ tables_1, d.before a0 Z = true) (ws : List Jvm.Cond) (t : Addr) (n k : Nat) (ch j nn : Int32) (f : Nat → Int32) (h0 : Heap) (n0 : Nat) (Z0 : n0 ≤ h0.size) (hj : j.toInt = (k : Int)) (hk : k + 1 < n) (hn : nn.toInt = (n : Int)) (hc : 0 ≤ ch.toInt ∧ ch.toInt ≤ 255) (hne : ¬ f k = ch) (heq : f (k + 1) = ch) (At : own_A Z h0 t .byte n (fun i => .int ((f i).toInt8.toInt32))) (hl : ∀ i, i < n → 0 ≤ (f i).toInt ∧ (f i).toInt ≤ 255) :
    own_Met l Z (⟨"java/lang/StringLatin1", "indexOf", "([BIII)I"⟩ : MethodName) jdk_43_method_22_code 4 (some .int) ws ({ frames := 1, cells := 0, slots := 0, locals := 17 } : Room) #[(.ref t), (.int ch), (.int j), (.int nn)] h0 (fun v h L => v = some (.int (j + (1 : Int32))) ∧ Fr n0 L ∧ h = h0) := by
  refine own_body own_pn24 (fun m => mkF m 0 #[rv t, iv ch, iv j, iv nn] []) (fun m => own_ef_own_lio m t ch j nn) ?_
  intro p e s m below meth c T0 hx hby hml hlk hrt hZ hown hnm X0 e0
  have hown : s.vm.findClass "java/lang/StringLatin1" = some m.cls := hown
  have N0 := Fr.nil n0
  refine own_g (own_F T0 m 1 #[rv t, iv ch, iv j, iv nn] [(.int ch)]) (fun _ z_ => XS.iloadN X0.here hx rfl (hb hby own_d26_0) rfl z_) ?_
  refine own_callS (y := (⟨"java/lang/StringLatin1", "canEncode", "(I)Z"⟩ : MethodName)) X0 hx hZ hown (own_w hw 147) (own_w hw 148) (own_w hw 74) (own_w hw 149) (by decide) e0 (hM := own_ce2 l Z a0 hw [] ch h0 n0 Z0 hc) (W := 0) (pc := 1) (Ls := #[rv t, iv ch, iv j, iv nn]) (argsL := [(.int ch)]) (rest := []) (st0 := [(.int ch)]) (by rw [hml]; rfl) (lenOf own_pd14 rfl) rfl (Nat.le_of_eq rfl) (hb hby own_d26_1) (by decide) (by decide) (by decide) (by decide) ?_
  intro v1 T1 L1 s X1 hZ hown hI1 hvm1 hhp1 hWw1 hQ1
  obtain ⟨rfl, Nq1, hh1⟩ := hQ1
  have N1 := Fr.app N0 Nq1
  show own_Ends p e below s _ _ _ (own_F T1 m 4 #[rv t, iv ch, iv j, iv nn] [(.int 1)])
  refine own_g (own_F T1 m 9 #[rv t, iv ch, iv j, iv nn] []) (fun _ z_ => XS.ifYes X1.here hx rfl (pc0 := 4) (pc' := 9) rfl (hb hby own_d26_4) rfl ((if0 _ _).trans (feq (by decide : ¬ ((1 : Int32) = (0 : Int32)))).2) (by decide) (by decide) z_) ?_
  refine own_g (own_F T1 m 10 #[rv t, iv ch, iv j, iv nn] [(.int j)]) (fun _ z_ => XS.iloadN X1.here hx rfl (hb hby own_d26_9) rfl z_) ?_
  refine own_g (own_F T1 m 11 #[rv t, iv ch, iv j, iv nn] [(.int 0), (.int j)]) (fun _ z_ => XS.iconst X1.here hx rfl (hb hby own_d26_10) z_) ?_
  refine own_callS (y := (⟨"java/lang/Math", "max", "(II)I"⟩ : MethodName)) X1 hx hZ hown (own_w hw 150) (own_w hw 151) (own_w hw 152) (own_w hw 153) (by decide) hh1 (hM := own_mx0 l Z a0 hw [] j h0 n0 Z0 (own_n0 hj)) (W := 0) (pc := 11) (Ls := #[rv t, iv ch, iv j, iv nn]) (argsL := [(.int j), (.int 0)]) (rest := []) (st0 := [(.int 0), (.int j)]) (by rw [hml]; rfl) (lenOf own_pd15 rfl) rfl (Nat.le_of_eq rfl) (hb hby own_d26_11) (by decide) (by decide) (by decide) (by decide) ?_
  intro v2 T2 L2 s X2 hZ hown hI2 hvm2 hhp2 hWw2 hQ2
  obtain ⟨rfl, Nq2, hh2⟩ := hQ2
  have N2 := Fr.app N1 Nq2
  show own_Ends p e below s _ _ _ (own_F T2 m 14 #[rv t, iv ch, iv j, iv nn] [(.int j)])
  refine own_g (own_F T2 m 15 #[rv t, iv ch, iv j, iv nn] []) (fun _ z_ => XS.istoreN X2.here hx rfl (hb hby own_d26_14) rfl (l' := #[rv t, iv ch, iv j, iv nn]) rfl z_) ?_
  refine own_g (own_F T2 m 16 #[rv t, iv ch, iv j, iv nn] [(.int nn)]) (fun _ z_ => XS.iloadN X2.here hx rfl (hb hby own_d26_15) rfl z_) ?_
  refine own_g (own_F T2 m 17 #[rv t, iv ch, iv j, iv nn] [(.ref t), (.int nn)]) (fun _ z_ => XS.aloadN X2.here hx rfl (hb hby own_d26_16) rfl rfl z_) ?_
  refine own_alen X2 hx hZ hh2 At (hb hby own_d26_17) ?_
  rw [own_n32 hn]
  show own_Ends p e below s _ _ _ (own_F T2 m 18 #[rv t, iv ch, iv j, iv nn] [(.int nn), (.int nn)])
  refine own_callS (y := (⟨"java/lang/Math", "min", "(II)I"⟩ : MethodName)) X2 hx hZ hown (own_w hw 154) (own_w hw 155) (own_w hw 152) (own_w hw 156) (by decide) hh2 (hM := own_mnn l Z a0 hw [] nn h0 n0 Z0) (W := 0) (pc := 18) (Ls := #[rv t, iv ch, iv j, iv nn]) (argsL := [(.int nn), (.int nn)]) (rest := []) (st0 := [(.int nn), (.int nn)]) (by rw [hml]; rfl) (lenOf own_pd15 rfl) rfl (Nat.le_of_eq rfl) (hb hby own_d26_18) (by decide) (by decide) (by decide) (by decide) ?_
  intro v3 T3 L3 s X3 hZ hown hI3 hvm3 hhp3 hWw3 hQ3
  obtain ⟨rfl, Nq3, hh3⟩ := hQ3
  have N3 := Fr.app N2 Nq3
  show own_Ends p e below s _ _ _ (own_F T3 m 21 #[rv t, iv ch, iv j, iv nn] [(.int nn)])
  refine own_g (own_F T3 m 22 #[rv t, iv ch, iv j, iv nn] []) (fun _ z_ => XS.istoreN X3.here hx rfl (hb hby own_d26_21) rfl (l' := #[rv t, iv ch, iv j, iv nn]) rfl z_) ?_
  refine own_g (own_F T3 m 23 #[rv t, iv ch, iv j, iv nn] [(.int j)]) (fun _ z_ => XS.iloadN X3.here hx rfl (hb hby own_d26_22) rfl z_) ?_
  refine own_g (own_F T3 m 24 #[rv t, iv ch, iv j, iv nn] [(.int nn), (.int j)]) (fun _ z_ => XS.iloadN X3.here hx rfl (hb hby own_d26_23) rfl z_) ?_
  refine own_g (own_F T3 m 29 #[rv t, iv ch, iv j, iv nn] []) (fun _ z_ => XS.icmpYes X3.here hx rfl (pc0 := 24) (pc' := 29) rfl (hb hby own_d26_24) rfl (tlt (own_jlt hj hn (by omega))).1 (by decide) (by decide) z_) ?_
  refine own_g (own_F T3 m 30 #[rv t, iv ch, iv j, iv nn] [(.ref t)]) (fun _ z_ => XS.aloadN X3.here hx rfl (hb hby own_d26_29) rfl rfl z_) ?_
  refine own_g (own_F T3 m 31 #[rv t, iv ch, iv j, iv nn] [(.int ch), (.ref t)]) (fun _ z_ => XS.iloadN X3.here hx rfl (hb hby own_d26_30) rfl z_) ?_
  refine own_g (own_F T3 m 32 #[rv t, iv ch, iv j, iv nn] [(.int j), (.int ch), (.ref t)]) (fun _ z_ => XS.iloadN X3.here hx rfl (hb hby own_d26_31) rfl z_) ?_
  refine own_g (own_F T3 m 33 #[rv t, iv ch, iv j, iv nn] [(.int nn), (.int j), (.int ch), (.ref t)]) (fun _ z_ => XS.iloadN X3.here hx rfl (hb hby own_d26_32) rfl z_) ?_
  refine own_callS (y := (⟨"java/lang/StringLatin1", "indexOfChar", "([BIII)I"⟩ : MethodName)) X3 hx hZ hown (own_w hw 157) (own_w hw 158) (own_w hw 74) (own_w hw 159) (by decide) hh3 (hM := own_lic l Z a0 hw [] t n k ch j nn f h0 n0 Z0 hj hk hn hc hne heq At hl) (W := 0) (pc := 33) (Ls := #[rv t, iv ch, iv j, iv nn]) (argsL := [(.ref t), (.int ch), (.int j), (.int nn)]) (rest := []) (st0 := [(.int nn), (.int j), (.int ch), (.ref t)]) (by rw [hml]; rfl) (lenOf own_pd16 rfl) rfl (Nat.le_of_eq rfl) (hb hby own_d26_33) (by decide) (by decide) (by decide) (by decide) ?_
  intro v4 T4 L4 s X4 hZ hown hI4 hvm4 hhp4 hWw4 hQ4
  obtain ⟨rfl, Nq4, hh4⟩ := hQ4
  have N4 := Fr.app N3 Nq4
  show own_Ends p e below s _ _ _ (own_F T4 m 36 #[rv t, iv ch, iv j, iv nn] [(.int (j + (1 : Int32)))])
  refine own_ret (t := .int) X4 hx hlk hrt rfl (Or.inl ⟨rfl, by simp, _, rfl⟩) (hb hby own_d26_36) (by decide) (by decide) ?_
  exact ⟨rfl, N4, hh4⟩
set_option maxRecDepth 65536 in
set_option maxHeartbeats 40000000 in
theorem own_uiu (l : Launch) (Z : State) (a0 : Array Value) (hw : ∀ d ∈ tables_1, d.before a0 Z = true) (ws : List Jvm.Cond) (t : Addr) (n k : Nat) (ch j nn : Int32) (f : Nat → Int32) (sv : Value) (hsv : sv.isRef = true) (h0 : Heap) (n0 : Nat) (Z0 : n0 ≤ h0.size) (hj : j.toInt = (k : Int)) (hk : k + 1 < n) (hn : nn.toInt = (n : Int)) (hc : 0 ≤ ch.toInt ∧ ch.toInt ≤ 255) (hne : ¬ f k = ch) (heq : f (k + 1) = ch) (At : own_A Z h0 t .byte (2 * n) (fun i => .int (own_ub f i))) (hf : ∀ i, i < n → 0 ≤ (f i).toInt ∧ (f i).toInt ≤ 65535) (S_sf : Sta Z h0 "jdk/internal/util/Preconditions" "SIOOBE_FORMATTER" "Ljava/util/function/BiFunction;" sv) (S_ad : Sta Z h0 "java/lang/StringUTF16" "$assertionsDisabled" "Z" (.int (1 : Int32))) (S_hi : Sta Z h0 "java/lang/StringUTF16" "HI_BYTE_SHIFT" "I" (.int (0 : Int32))) (S_lo : Sta Z h0 "java/lang/StringUTF16" "LO_BYTE_SHIFT" "I" (.int (8 : Int32))) :
    own_Met l Z (⟨"java/lang/StringUTF16", "indexOfCharUnsafe", "([BIII)I"⟩ : MethodName) jdk_52_method_48_code 5 (some .int) ws ({ frames := 1, cells := 0, slots := 0, locals := 13 } : Room) #[(.ref t), (.int ch), (.int j), (.int nn)] h0 (fun v h L => v = some (.int (j + (1 : Int32))) ∧ Fr n0 L ∧ h = h0) := by
  refine own_body own_pn25 (fun m => mkF m 0 #[rv t, iv ch, iv j, iv nn, .unset] []) (fun m => own_ef_own_uiu m t ch j nn) ?_
  intro p e s m below meth c T0 hx hby hml hlk hrt hZ hown hnm X0 e0
  have hown : s.vm.findClass "java/lang/StringUTF16" = some m.cls := hown
  have N0 := Fr.nil n0
  have hbA := At.1
  refine own_g (own_F T0 m 1 #[rv t, iv ch, iv j, iv nn, .unset] [(.int j)]) (fun _ z_ => XS.iloadN X0.here hx rfl (hb hby own_d44_0) rfl z_) ?_
  refine own_g (own_F T0 m 3 #[rv t, iv ch, iv j, iv nn, iv j] []) (fun _ z_ => XS.istore X0.here hx rfl (hb hby own_d44_1) rfl (l' := #[rv t, iv ch, iv j, iv nn, iv j]) rfl z_) ?_
  refine own_g (own_F T0 m 5 #[rv t, iv ch, iv j, iv nn, iv j] [(.int j)]) (fun _ z_ => XS.iload X0.here hx rfl (hb hby own_d44_3) rfl z_) ?_
  refine own_g (own_F T0 m 6 #[rv t, iv ch, iv j, iv nn, iv j] [(.int nn), (.int j)]) (fun _ z_ => XS.iloadN X0.here hx rfl (hb hby own_d44_5) rfl z_) ?_
  refine own_g (own_F T0 m 9 #[rv t, iv ch, iv j, iv nn, iv j] []) (fun _ z_ => XS.icmpNo X0.here hx rfl (hb hby own_d44_6) rfl (tlt (own_jlt hj hn (by omega))).2.1 z_) ?_
  refine own_g (own_F T0 m 10 #[rv t, iv ch, iv j, iv nn, iv j] [(.ref t)]) (fun _ z_ => XS.aloadN X0.here hx rfl (hb hby own_d44_9) rfl rfl z_) ?_
  refine own_g (own_F T0 m 12 #[rv t, iv ch, iv j, iv nn, iv j] [(.int j), (.ref t)]) (fun _ z_ => XS.iload X0.here hx rfl (hb hby own_d44_10) rfl z_) ?_
  refine own_callS (y := (⟨"java/lang/StringUTF16", "getChar", "([BI)C"⟩ : MethodName)) X0 hx hZ hown (own_w hw 179) (own_w hw 180) (own_w hw 41) (own_w hw 181) (by decide) e0 (hM := own_getc l Z a0 hw [] t n k j f h0 n0 Z0 hj (by omega) hbA (hf _ (by omega)) At S_ad S_hi S_lo) (W := 0) (pc := 12) (Ls := #[rv t, iv ch, iv j, iv nn, iv j]) (argsL := [(.ref t), (.int j)]) (rest := []) (st0 := [(.int j), (.ref t)]) (by rw [hml]; rfl) (lenOf own_pd5 rfl) rfl (Nat.le_of_eq rfl) (hb hby own_d44_12) (by decide) (by decide) (by decide) (by decide) ?_
  intro v1 T1 L1 s X1 hZ hown hI1 hvm1 hhp1 hWw1 hQ1
  obtain ⟨rfl, Nq1, hh1⟩ := hQ1
  have N1 := Fr.app N0 Nq1
  show own_Ends p e below s _ _ _ (own_F T1 m 15 #[rv t, iv ch, iv j, iv nn, iv j] [(.int (f k))])
  refine own_g (own_F T1 m 16 #[rv t, iv ch, iv j, iv nn, iv j] [(.int ch), (.int (f k))]) (fun _ z_ => XS.iloadN X1.here hx rfl (hb hby own_d44_15) rfl z_) ?_
  refine own_g (own_F T1 m 22 #[rv t, iv ch, iv j, iv nn, iv j] []) (fun _ z_ => XS.icmpYes X1.here hx rfl (pc0 := 16) (pc' := 22) rfl (hb hby own_d44_16) rfl (feq hne).2 (by decide) (by decide) z_) ?_
  refine own_g (own_F T1 m 25 #[rv t, iv ch, iv j, iv nn, iv (j + (1 : Int32))] []) (fun _ z_ => XS.iinc X1.here hx rfl (hb hby own_d44_22) rfl (l' := #[rv t, iv ch, iv j, iv nn, iv (j + (1 : Int32))]) rfl z_) ?_
  refine own_g (own_F T1 m 3 #[rv t, iv ch, iv j, iv nn, iv (j + (1 : Int32))] []) (fun _ z_ => XS.goto X1.here hx rfl (pc0 := 25) (pc' := 3) rfl (hb hby own_d44_25) (by decide) (by decide) z_) ?_
  refine own_g (own_F T1 m 5 #[rv t, iv ch, iv j, iv nn, iv (j + (1 : Int32))] [(.int (j + (1 : Int32)))]) (fun _ z_ => XS.iload X1.here hx rfl (hb hby own_d44_3) rfl z_) ?_
  refine own_g (own_F T1 m 6 #[rv t, iv ch, iv j, iv nn, iv (j + (1 : Int32))] [(.int nn), (.int (j + (1 : Int32)))]) (fun _ z_ => XS.iloadN X1.here hx rfl (hb hby own_d44_5) rfl z_) ?_
  refine own_g (own_F T1 m 9 #[rv t, iv ch, iv j, iv nn, iv (j + (1 : Int32))] []) (fun _ z_ => XS.icmpNo X1.here hx rfl (hb hby own_d44_6) rfl (tlt (own_jlt (own_add1 hj (by omega)) hn hk)).2.1 z_) ?_
  refine own_g (own_F T1 m 10 #[rv t, iv ch, iv j, iv nn, iv (j + (1 : Int32))] [(.ref t)]) (fun _ z_ => XS.aloadN X1.here hx rfl (hb hby own_d44_9) rfl rfl z_) ?_
  refine own_g (own_F T1 m 12 #[rv t, iv ch, iv j, iv nn, iv (j + (1 : Int32))] [(.int (j + (1 : Int32))), (.ref t)]) (fun _ z_ => XS.iload X1.here hx rfl (hb hby own_d44_10) rfl z_) ?_
  refine own_callS (y := (⟨"java/lang/StringUTF16", "getChar", "([BI)C"⟩ : MethodName)) X1 hx hZ hown (own_w hw 179) (own_w hw 180) (own_w hw 41) (own_w hw 181) (by decide) hh1 (hM := own_getc l Z a0 hw [] t n (k + 1) (j + (1 : Int32)) f h0 n0 Z0 (own_add1 hj (by omega)) hk hbA (hf _ hk) At S_ad S_hi S_lo) (W := 0) (pc := 12) (Ls := #[rv t, iv ch, iv j, iv nn, iv (j + (1 : Int32))]) (argsL := [(.ref t), (.int (j + (1 : Int32)))]) (rest := []) (st0 := [(.int (j + (1 : Int32))), (.ref t)]) (by rw [hml]; rfl) (lenOf own_pd5 rfl) rfl (Nat.le_of_eq rfl) (hb hby own_d44_12) (by decide) (by decide) (by decide) (by decide) ?_
  intro v2 T2 L2 s X2 hZ hown hI2 hvm2 hhp2 hWw2 hQ2
  obtain ⟨rfl, Nq2, hh2⟩ := hQ2
  have N2 := Fr.app N1 Nq2
  show own_Ends p e below s _ _ _ (own_F T2 m 15 #[rv t, iv ch, iv j, iv nn, iv (j + (1 : Int32))] [(.int (f (k + 1)))])
  refine own_g (own_F T2 m 16 #[rv t, iv ch, iv j, iv nn, iv (j + (1 : Int32))] [(.int ch), (.int (f (k + 1)))]) (fun _ z_ => XS.iloadN X2.here hx rfl (hb hby own_d44_15) rfl z_) ?_
  refine own_g (own_F T2 m 19 #[rv t, iv ch, iv j, iv nn, iv (j + (1 : Int32))] []) (fun _ z_ => XS.icmpNo X2.here hx rfl (hb hby own_d44_16) rfl (teq heq).2 z_) ?_
  refine own_g (own_F T2 m 21 #[rv t, iv ch, iv j, iv nn, iv (j + (1 : Int32))] [(.int (j + (1 : Int32)))]) (fun _ z_ => XS.iload X2.here hx rfl (hb hby own_d44_19) rfl z_) ?_
  refine own_ret (t := .int) X2 hx hlk hrt rfl (Or.inl ⟨rfl, by simp, _, rfl⟩) (hb hby own_d44_21) (by decide) (by decide) ?_
  exact ⟨rfl, N2, hh2⟩
set_option maxRecDepth 65536 in
set_option maxHeartbeats 40000000 in
theorem own_pft (l : Launch) (Z : State) (a0 : Array Value) (hw : ∀ d ∈ tables_1, d.before a0 Z = true) (ws : List Jvm.Cond) (j nn : Int32) (k n : Nat) (sv : Value) (hsv : sv.isRef = true) (h0 : Heap) (n0 : Nat) (Z0 : n0 ≤ h0.size) (hj : j.toInt = (k : Int)) (hn : nn.toInt = (n : Int)) (hk : k ≤ n) :
    own_Met l Z (⟨"jdk/internal/util/Preconditions", "checkFromToIndex", "(IIILjava/util/function/BiFunction;)I"⟩ : MethodName) jdk_41_method_12_code 4 (some .int) ws ({ frames := 0, cells := 0, slots := 0, locals := 0 } : Room) #[(.int j), (.int nn), (.int nn), sv] h0 (fun v h L => v = some (.int j) ∧ Fr n0 L ∧ h = h0) := by
  refine own_body own_pn26 (fun m => mkF m 0 #[iv j, iv nn, iv nn, .val sv] []) (fun m => own_ef_own_pft m j nn nn sv hsv) ?_
  intro p e s m below meth c T0 hx hby hml hlk hrt hZ hown hnm X0 e0
  have hown : s.vm.findClass "jdk/internal/util/Preconditions" = some m.cls := hown
  have N0 := Fr.nil n0
  refine own_g (own_F T0 m 1 #[iv j, iv nn, iv nn, .val sv] [(.int j)]) (fun _ z_ => XS.iloadN X0.here hx rfl (hb hby own_d43_0) rfl z_) ?_
  refine own_g (own_F T0 m 4 #[iv j, iv nn, iv nn, .val sv] []) (fun _ z_ => XS.ifNo X0.here hx rfl (hb hby own_d43_1) rfl ((if0 _ _).trans (flt (own_n0 hj)).1) z_) ?_
  refine own_g (own_F T0 m 5 #[iv j, iv nn, iv nn, .val sv] [(.int j)]) (fun _ z_ => XS.iloadN X0.here hx rfl (hb hby own_d43_4) rfl z_) ?_
  refine own_g (own_F T0 m 6 #[iv j, iv nn, iv nn, .val sv] [(.int nn), (.int j)]) (fun _ z_ => XS.iloadN X0.here hx rfl (hb hby own_d43_5) rfl z_) ?_
  refine own_g (own_F T0 m 9 #[iv j, iv nn, iv nn, .val sv] []) (fun _ z_ => XS.icmpNo X0.here hx rfl (hb hby own_d43_6) rfl (flt (own_jge hn hj hk)).2.2.1 z_) ?_
  refine own_g (own_F T0 m 10 #[iv j, iv nn, iv nn, .val sv] [(.int nn)]) (fun _ z_ => XS.iloadN X0.here hx rfl (hb hby own_d43_9) rfl z_) ?_
  refine own_g (own_F T0 m 11 #[iv j, iv nn, iv nn, .val sv] [(.int nn), (.int nn)]) (fun _ z_ => XS.iloadN X0.here hx rfl (hb hby own_d43_10) rfl z_) ?_
  refine own_g (own_F T0 m 22 #[iv j, iv nn, iv nn, .val sv] []) (fun _ z_ => XS.icmpYes X0.here hx rfl (pc0 := 11) (pc' := 22) rfl (hb hby own_d43_11) rfl (flt (fun z_ => Int32.lt_irrefl z_)).2.2.2 (by decide) (by decide) z_) ?_
  refine own_g (own_F T0 m 23 #[iv j, iv nn, iv nn, .val sv] [(.int j)]) (fun _ z_ => XS.iloadN X0.here hx rfl (hb hby own_d43_22) rfl z_) ?_
  refine own_ret (t := .int) X0 hx hlk hrt rfl (Or.inl ⟨rfl, by simp, _, rfl⟩) (hb hby own_d43_23) (by decide) (by decide) ?_
  exact ⟨rfl, N0, e0⟩
set_option maxRecDepth 65536 in
set_option maxHeartbeats 40000000 in
theorem own_scb (l : Launch) (Z : State) (a0 : Array Value) (hw : ∀ d ∈ tables_1, d.before a0 Z = true) (ws : List Jvm.Cond) (j nn : Int32) (k n : Nat) (sv : Value) (hsv : sv.isRef = true) (h0 : Heap) (n0 : Nat) (Z0 : n0 ≤ h0.size) (hj : j.toInt = (k : Int)) (hn : nn.toInt = (n : Int)) (hk : k ≤ n) (S_sf : Sta Z h0 "jdk/internal/util/Preconditions" "SIOOBE_FORMATTER" "Ljava/util/function/BiFunction;" sv) :
    own_Met l Z (⟨"java/lang/String", "checkBoundsBeginEnd", "(III)V"⟩ : MethodName) jdk_42_method_158_code 3 none ws ({ frames := 1, cells := 0, slots := 0, locals := 15 } : Room) #[(.int j), (.int nn), (.int nn)] h0 (fun v h L => v = none ∧ Fr n0 L ∧ h = h0) := by
  refine own_body own_pn27 (fun m => mkF m 0 #[iv j, iv nn, iv nn] []) (fun m => own_ef_own_scb m j nn nn) ?_
  intro p e s m below meth c T0 hx hby hml hlk hrt hZ hown hnm X0 e0
  have hown : s.vm.findClass "java/lang/String" = some m.cls := hown
  have N0 := Fr.nil n0
  refine own_g (own_F T0 m 1 #[iv j, iv nn, iv nn] [(.int j)]) (fun _ z_ => XS.iloadN X0.here hx rfl (hb hby own_d42_0) rfl z_) ?_
  refine own_g (own_F T0 m 2 #[iv j, iv nn, iv nn] [(.int nn), (.int j)]) (fun _ z_ => XS.iloadN X0.here hx rfl (hb hby own_d42_1) rfl z_) ?_
  refine own_g (own_F T0 m 3 #[iv j, iv nn, iv nn] [(.int nn), (.int nn), (.int j)]) (fun _ z_ => XS.iloadN X0.here hx rfl (hb hby own_d42_2) rfl z_) ?_
  obtain ⟨T1, X1, e1, st1⟩ := getS2 X0 hx hZ hown (host := "") (Or.inl (own_w hw 79)) Via.refl e0 S_sf (g := (mkF m 3 #[iv j, iv nn, iv nn] [(.int nn), (.int nn), (.int j)])) rfl (hb hby own_d42_3)
  refine own_pre (S' := (own_F T1 m 6 #[iv j, iv nn, iv nn] [sv, (.int nn), (.int nn), (.int j)])) st1 ?_
  refine own_callS (y := (⟨"jdk/internal/util/Preconditions", "checkFromToIndex", "(IIILjava/util/function/BiFunction;)I"⟩ : MethodName)) X1 hx hZ hown (own_w hw 207) (own_w hw 208) (own_w hw 80) (own_w hw 209) (by decide) e1 (hM := own_pft l Z a0 hw [] j nn k n sv hsv h0 n0 Z0 hj hn hk) (W := 0) (pc := 6) (Ls := #[iv j, iv nn, iv nn]) (argsL := [(.int j), (.int nn), (.int nn), sv]) (rest := []) (st0 := [sv, (.int nn), (.int nn), (.int j)]) (by rw [hml]; rfl) (lenOf own_pd17 rfl) rfl (Nat.le_of_eq rfl) (hb hby own_d42_6) (by decide) (by decide) (by decide) (by decide) ?_
  intro v2 T2 L2 s X2 hZ hown hI2 hvm2 hhp2 hWw2 hQ2
  obtain ⟨rfl, Nq2, hh2⟩ := hQ2
  have N2 := Fr.app N0 Nq2
  show own_Ends p e below s _ _ _ (own_F T2 m 9 #[iv j, iv nn, iv nn] [(.int j)])
  refine own_g (own_F T2 m 10 #[iv j, iv nn, iv nn] []) (fun _ z_ => XS.pop X2.here hx rfl (hb hby own_d42_9) rfl rfl z_) ?_
  refine own_retV X2 hx hlk hrt (hb hby own_d42_10) (by decide) (by decide) ?_
  exact ⟨rfl, N2, hh2⟩
set_option maxRecDepth 65536 in
set_option maxHeartbeats 40000000 in
theorem own_ucb (l : Launch) (Z : State) (a0 : Array Value) (hw : ∀ d ∈ tables_1, d.before a0 Z = true) (ws : List Jvm.Cond) (t : Addr) (j nn : Int32) (k n : Nat) (f : Nat → Int32) (sv : Value) (hsv : sv.isRef = true) (h0 : Heap) (n0 : Nat) (Z0 : n0 ≤ h0.size) (hj : j.toInt = (k : Int)) (hn : nn.toInt = (n : Int)) (hk : k ≤ n) (At : own_A Z h0 t .byte (2 * n) (fun i => .int (own_ub f i))) (S_sf : Sta Z h0 "jdk/internal/util/Preconditions" "SIOOBE_FORMATTER" "Ljava/util/function/BiFunction;" sv) :
    own_Met l Z (⟨"java/lang/StringUTF16", "checkBoundsBeginEnd", "(II[B)V"⟩ : MethodName) jdk_52_method_93_code 3 none ws ({ frames := 2, cells := 0, slots := 0, locals := 29 } : Room) #[(.int j), (.int nn), (.ref t)] h0 (fun v h L => v = none ∧ Fr n0 L ∧ h = h0) := by
  refine own_body own_pn28 (fun m => mkF m 0 #[iv j, iv nn, rv t] []) (fun m => own_ef_own_ucb m j nn t) ?_
  intro p e s m below meth c T0 hx hby hml hlk hrt hZ hown hnm X0 e0
  have hown : s.vm.findClass "java/lang/StringUTF16" = some m.cls := hown
  have N0 := Fr.nil n0
  refine own_g (own_F T0 m 1 #[iv j, iv nn, rv t] [(.int j)]) (fun _ z_ => XS.iloadN X0.here hx rfl (hb hby own_d41_0) rfl z_) ?_
  refine own_g (own_F T0 m 2 #[iv j, iv nn, rv t] [(.int nn), (.int j)]) (fun _ z_ => XS.iloadN X0.here hx rfl (hb hby own_d41_1) rfl z_) ?_
  refine own_g (own_F T0 m 3 #[iv j, iv nn, rv t] [(.ref t), (.int nn), (.int j)]) (fun _ z_ => XS.aloadN X0.here hx rfl (hb hby own_d41_2) rfl rfl z_) ?_
  refine own_callS (y := (⟨"java/lang/StringUTF16", "length", "([B)I"⟩ : MethodName)) X0 hx hZ hown (own_w hw 188) (own_w hw 189) (own_w hw 41) (own_w hw 190) (by decide) e0 (hM := own_ulen l Z a0 hw [] t n f h0 n0 Z0 At) (W := 2) (pc := 3) (Ls := #[iv j, iv nn, rv t]) (argsL := [(.ref t)]) (rest := [(.int nn), (.int j)]) (st0 := [(.ref t), (.int nn), (.int j)]) (by rw [hml]; rfl) (lenOf own_pd10 rfl) rfl (Nat.le_of_eq rfl) (hb hby own_d41_3) (by decide) (by decide) (by decide) (by decide) ?_
  intro v1 T1 L1 s X1 hZ hown hI1 hvm1 hhp1 hWw1 hQ1
  obtain ⟨rfl, Nq1, hh1⟩ := hQ1
  have N1 := Fr.app N0 Nq1
  show own_Ends p e below s _ _ _ (own_F T1 m 6 #[iv j, iv nn, rv t] [(.int (Nat.toInt32 n)), (.int nn), (.int j)])
  rw [own_n32 hn]
  show own_Ends p e below s _ _ _ (own_F T1 m 6 #[iv j, iv nn, rv t] [(.int nn), (.int nn), (.int j)])
  refine own_callS (y := (⟨"java/lang/String", "checkBoundsBeginEnd", "(III)V"⟩ : MethodName)) X1 hx hZ hown (own_w hw 204) (own_w hw 205) (own_w hw 18) (own_w hw 206) (by decide) hh1 (hM := own_scb l Z a0 hw [] j nn k n sv hsv h0 n0 Z0 hj hn hk S_sf) (W := 0) (pc := 6) (Ls := #[iv j, iv nn, rv t]) (argsL := [(.int j), (.int nn), (.int nn)]) (rest := []) (st0 := [(.int nn), (.int nn), (.int j)]) (by rw [hml]; rfl) (lenOf own_pd18 rfl) rfl (Nat.le_of_eq rfl) (hb hby own_d41_6) (by decide) (by decide) (by decide) (by decide) ?_
  intro v2 T2 L2 s X2 hZ hown hI2 hvm2 hhp2 hWw2 hQ2
  obtain ⟨rfl, Nq2, hh2⟩ := hQ2
  have N2 := Fr.app N1 Nq2
  show own_Ends p e below s _ _ _ (own_F T2 m 9 #[iv j, iv nn, rv t] [])
  refine own_retV X2 hx hlk hrt (hb hby own_d41_9) (by decide) (by decide) ?_
  exact ⟨rfl, N2, hh2⟩
set_option maxRecDepth 65536 in
set_option maxHeartbeats 40000000 in
theorem own_uic (l : Launch) (Z : State) (a0 : Array Value) (hw : ∀ d ∈ tables_1, d.before a0 Z = true) (ws : List Jvm.Cond) (t : Addr) (n k : Nat) (ch j nn : Int32) (f : Nat → Int32) (sv : Value) (hsv : sv.isRef = true) (h0 : Heap) (n0 : Nat) (Z0 : n0 ≤ h0.size) (hj : j.toInt = (k : Int)) (hk : k + 1 < n) (hn : nn.toInt = (n : Int)) (hc : 0 ≤ ch.toInt ∧ ch.toInt ≤ 255) (hne : ¬ f k = ch) (heq : f (k + 1) = ch) (At : own_A Z h0 t .byte (2 * n) (fun i => .int (own_ub f i))) (hf : ∀ i, i < n → 0 ≤ (f i).toInt ∧ (f i).toInt ≤ 65535) (S_sf : Sta Z h0 "jdk/internal/util/Preconditions" "SIOOBE_FORMATTER" "Ljava/util/function/BiFunction;" sv) (S_ad : Sta Z h0 "java/lang/StringUTF16" "$assertionsDisabled" "Z" (.int (1 : Int32))) (S_hi : Sta Z h0 "java/lang/StringUTF16" "HI_BYTE_SHIFT" "I" (.int (0 : Int32))) (S_lo : Sta Z h0 "java/lang/StringUTF16" "LO_BYTE_SHIFT" "I" (.int (8 : Int32))) :
    own_Met l Z (⟨"java/lang/StringUTF16", "indexOfChar", "([BIII)I"⟩ : MethodName) jdk_52_method_47_code 4 (some .int) ws ({ frames := 3, cells := 0, slots := 0, locals := 43 } : Room) #[(.ref t), (.int ch), (.int j), (.int nn)] h0 (fun v h L => v = some (.int (j + (1 : Int32))) ∧ Fr n0 L ∧ h = h0) := by
  refine own_body own_pn29 (fun m => mkF m 0 #[rv t, iv ch, iv j, iv nn] []) (fun m => own_ef_own_uic m t ch j nn) ?_
  intro p e s m below meth c T0 hx hby hml hlk hrt hZ hown hnm X0 e0
  have hown : s.vm.findClass "java/lang/StringUTF16" = some m.cls := hown
  have N0 := Fr.nil n0
  refine own_g (own_F T0 m 1 #[rv t, iv ch, iv j, iv nn] [(.int j)]) (fun _ z_ => XS.iloadN X0.here hx rfl (hb hby own_d40_0) rfl z_) ?_
  refine own_g (own_F T0 m 2 #[rv t, iv ch, iv j, iv nn] [(.int nn), (.int j)]) (fun _ z_ => XS.iloadN X0.here hx rfl (hb hby own_d40_1) rfl z_) ?_
  refine own_g (own_F T0 m 3 #[rv t, iv ch, iv j, iv nn] [(.ref t), (.int nn), (.int j)]) (fun _ z_ => XS.aloadN X0.here hx rfl (hb hby own_d40_2) rfl rfl z_) ?_
  refine own_callS (y := (⟨"java/lang/StringUTF16", "checkBoundsBeginEnd", "(II[B)V"⟩ : MethodName)) X0 hx hZ hown (own_w hw 201) (own_w hw 202) (own_w hw 41) (own_w hw 203) (by decide) e0 (hM := own_ucb l Z a0 hw [] t j nn k n f sv hsv h0 n0 Z0 hj hn (by omega) At S_sf) (W := 0) (pc := 3) (Ls := #[rv t, iv ch, iv j, iv nn]) (argsL := [(.int j), (.int nn), (.ref t)]) (rest := []) (st0 := [(.ref t), (.int nn), (.int j)]) (by rw [hml]; rfl) (lenOf own_pd19 rfl) rfl (Nat.le_of_eq rfl) (hb hby own_d40_3) (by decide) (by decide) (by decide) (by decide) ?_
  intro v1 T1 L1 s X1 hZ hown hI1 hvm1 hhp1 hWw1 hQ1
  obtain ⟨rfl, Nq1, hh1⟩ := hQ1
  have N1 := Fr.app N0 Nq1
  show own_Ends p e below s _ _ _ (own_F T1 m 6 #[rv t, iv ch, iv j, iv nn] [])
  refine own_g (own_F T1 m 7 #[rv t, iv ch, iv j, iv nn] [(.ref t)]) (fun _ z_ => XS.aloadN X1.here hx rfl (hb hby own_d40_6) rfl rfl z_) ?_
  refine own_g (own_F T1 m 8 #[rv t, iv ch, iv j, iv nn] [(.int ch), (.ref t)]) (fun _ z_ => XS.iloadN X1.here hx rfl (hb hby own_d40_7) rfl z_) ?_
  refine own_g (own_F T1 m 9 #[rv t, iv ch, iv j, iv nn] [(.int j), (.int ch), (.ref t)]) (fun _ z_ => XS.iloadN X1.here hx rfl (hb hby own_d40_8) rfl z_) ?_
  refine own_g (own_F T1 m 10 #[rv t, iv ch, iv j, iv nn] [(.int nn), (.int j), (.int ch), (.ref t)]) (fun _ z_ => XS.iloadN X1.here hx rfl (hb hby own_d40_9) rfl z_) ?_
  refine own_callS (y := (⟨"java/lang/StringUTF16", "indexOfCharUnsafe", "([BIII)I"⟩ : MethodName)) X1 hx hZ hown (own_w hw 210) (own_w hw 211) (own_w hw 41) (own_w hw 212) (by decide) hh1 (hM := own_uiu l Z a0 hw [] t n k ch j nn f sv hsv h0 n0 Z0 hj hk hn hc hne heq At hf S_sf S_ad S_hi S_lo) (W := 0) (pc := 10) (Ls := #[rv t, iv ch, iv j, iv nn]) (argsL := [(.ref t), (.int ch), (.int j), (.int nn)]) (rest := []) (st0 := [(.int nn), (.int j), (.int ch), (.ref t)]) (by rw [hml]; rfl) (lenOf own_pd16 rfl) rfl (Nat.le_of_eq rfl) (hb hby own_d40_10) (by decide) (by decide) (by decide) (by decide) ?_
  intro v2 T2 L2 s X2 hZ hown hI2 hvm2 hhp2 hWw2 hQ2
  obtain ⟨rfl, Nq2, hh2⟩ := hQ2
  have N2 := Fr.app N1 Nq2
  show own_Ends p e below s _ _ _ (own_F T2 m 13 #[rv t, iv ch, iv j, iv nn] [(.int (j + (1 : Int32)))])
  refine own_ret (t := .int) X2 hx hlk hrt rfl (Or.inl ⟨rfl, by simp, _, rfl⟩) (hb hby own_d40_13) (by decide) (by decide) ?_
  exact ⟨rfl, N2, hh2⟩
set_option maxRecDepth 65536 in
set_option maxHeartbeats 40000000 in
theorem own_uio (l : Launch) (Z : State) (a0 : Array Value) (hw : ∀ d ∈ tables_1, d.before a0 Z = true) (ws : List Jvm.Cond) (t : Addr) (n k : Nat) (ch j nn : Int32) (f : Nat → Int32) (sv : Value) (hsv : sv.isRef = true) (h0 : Heap) (n0 : Nat) (Z0 : n0 ≤ h0.size) (hj : j.toInt = (k : Int)) (hk : k + 1 < n) (hn : nn.toInt = (n : Int)) (hc : 0 ≤ ch.toInt ∧ ch.toInt ≤ 255) (hne : ¬ f k = ch) (heq : f (k + 1) = ch) (At : own_A Z h0 t .byte (2 * n) (fun i => .int (own_ub f i))) (hf : ∀ i, i < n → 0 ≤ (f i).toInt ∧ (f i).toInt ≤ 65535) (S_sf : Sta Z h0 "jdk/internal/util/Preconditions" "SIOOBE_FORMATTER" "Ljava/util/function/BiFunction;" sv) (S_ad : Sta Z h0 "java/lang/StringUTF16" "$assertionsDisabled" "Z" (.int (1 : Int32))) (S_hi : Sta Z h0 "java/lang/StringUTF16" "HI_BYTE_SHIFT" "I" (.int (0 : Int32))) (S_lo : Sta Z h0 "java/lang/StringUTF16" "LO_BYTE_SHIFT" "I" (.int (8 : Int32))) :
    own_Met l Z (⟨"java/lang/StringUTF16", "indexOf", "([BIII)I"⟩ : MethodName) jdk_52_method_40_code 4 (some .int) ws ({ frames := 4, cells := 0, slots := 0, locals := 58 } : Room) #[(.ref t), (.int ch), (.int j), (.int nn)] h0 (fun v h L => v = some (.int (j + (1 : Int32))) ∧ Fr n0 L ∧ h = h0) := by
  refine own_body own_pn30 (fun m => mkF m 0 #[rv t, iv ch, iv j, iv nn] []) (fun m => own_ef_own_uio m t ch j nn) ?_
  intro p e s m below meth c T0 hx hby hml hlk hrt hZ hown hnm X0 e0
  have hown : s.vm.findClass "java/lang/StringUTF16" = some m.cls := hown
  have N0 := Fr.nil n0
  refine own_g (own_F T0 m 1 #[rv t, iv ch, iv j, iv nn] [(.int j)]) (fun _ z_ => XS.iloadN X0.here hx rfl (hb hby own_d39_0) rfl z_) ?_
  refine own_g (own_F T0 m 2 #[rv t, iv ch, iv j, iv nn] [(.int 0), (.int j)]) (fun _ z_ => XS.iconst X0.here hx rfl (hb hby own_d39_1) z_) ?_
  refine own_callS (y := (⟨"java/lang/Math", "max", "(II)I"⟩ : MethodName)) X0 hx hZ hown (own_w hw 195) (own_w hw 151) (own_w hw 152) (own_w hw 153) (by decide) e0 (hM := own_mx0 l Z a0 hw [] j h0 n0 Z0 (own_n0 hj)) (W := 0) (pc := 2) (Ls := #[rv t, iv ch, iv j, iv nn]) (argsL := [(.int j), (.int 0)]) (rest := []) (st0 := [(.int 0), (.int j)]) (by rw [hml]; rfl) (lenOf own_pd15 rfl) rfl (Nat.le_of_eq rfl) (hb hby own_d39_2) (by decide) (by decide) (by decide) (by decide) ?_
  intro v1 T1 L1 s X1 hZ hown hI1 hvm1 hhp1 hWw1 hQ1
  obtain ⟨rfl, Nq1, hh1⟩ := hQ1
  have N1 := Fr.app N0 Nq1
  show own_Ends p e below s _ _ _ (own_F T1 m 5 #[rv t, iv ch, iv j, iv nn] [(.int j)])
  refine own_g (own_F T1 m 6 #[rv t, iv ch, iv j, iv nn] []) (fun _ z_ => XS.istoreN X1.here hx rfl (hb hby own_d39_5) rfl (l' := #[rv t, iv ch, iv j, iv nn]) rfl z_) ?_
  refine own_g (own_F T1 m 7 #[rv t, iv ch, iv j, iv nn] [(.int nn)]) (fun _ z_ => XS.iloadN X1.here hx rfl (hb hby own_d39_6) rfl z_) ?_
  refine own_g (own_F T1 m 8 #[rv t, iv ch, iv j, iv nn] [(.ref t), (.int nn)]) (fun _ z_ => XS.aloadN X1.here hx rfl (hb hby own_d39_7) rfl rfl z_) ?_
  refine own_alen X1 hx hZ hh1 At (hb hby own_d39_8) ?_
  show own_Ends p e below s _ _ _ (own_F T1 m 9 #[rv t, iv ch, iv j, iv nn] [(.int (Nat.toInt32 (2 * n))), (.int nn)])
  refine own_g (own_F T1 m 10 #[rv t, iv ch, iv j, iv nn] [(.int 1), (.int (Nat.toInt32 (2 * n))), (.int nn)]) (fun _ z_ => XS.iconst X1.here hx rfl (hb hby own_d39_9) z_) ?_
  refine own_g (own_F T1 m 11 #[rv t, iv ch, iv j, iv nn] [(.int ((Nat.toInt32 (2 * n)) >>> ((1 : Int32) &&& 31))), (.int nn)]) (fun _ z_ => XS.ishr X1.here hx rfl (hb hby own_d39_10) rfl z_) ?_
  rw [own_half hn At.1]
  show own_Ends p e below s _ _ _ (own_F T1 m 11 #[rv t, iv ch, iv j, iv nn] [(.int nn), (.int nn)])
  refine own_callS (y := (⟨"java/lang/Math", "min", "(II)I"⟩ : MethodName)) X1 hx hZ hown (own_w hw 196) (own_w hw 155) (own_w hw 152) (own_w hw 156) (by decide) hh1 (hM := own_mnn l Z a0 hw [] nn h0 n0 Z0) (W := 0) (pc := 11) (Ls := #[rv t, iv ch, iv j, iv nn]) (argsL := [(.int nn), (.int nn)]) (rest := []) (st0 := [(.int nn), (.int nn)]) (by rw [hml]; rfl) (lenOf own_pd15 rfl) rfl (Nat.le_of_eq rfl) (hb hby own_d39_11) (by decide) (by decide) (by decide) (by decide) ?_
  intro v2 T2 L2 s X2 hZ hown hI2 hvm2 hhp2 hWw2 hQ2
  obtain ⟨rfl, Nq2, hh2⟩ := hQ2
  have N2 := Fr.app N1 Nq2
  show own_Ends p e below s _ _ _ (own_F T2 m 14 #[rv t, iv ch, iv j, iv nn] [(.int nn)])
  refine own_g (own_F T2 m 15 #[rv t, iv ch, iv j, iv nn] []) (fun _ z_ => XS.istoreN X2.here hx rfl (hb hby own_d39_14) rfl (l' := #[rv t, iv ch, iv j, iv nn]) rfl z_) ?_
  refine own_g (own_F T2 m 16 #[rv t, iv ch, iv j, iv nn] [(.int j)]) (fun _ z_ => XS.iloadN X2.here hx rfl (hb hby own_d39_15) rfl z_) ?_
  refine own_g (own_F T2 m 17 #[rv t, iv ch, iv j, iv nn] [(.int nn), (.int j)]) (fun _ z_ => XS.iloadN X2.here hx rfl (hb hby own_d39_16) rfl z_) ?_
  refine own_g (own_F T2 m 22 #[rv t, iv ch, iv j, iv nn] []) (fun _ z_ => XS.icmpYes X2.here hx rfl (pc0 := 17) (pc' := 22) rfl (hb hby own_d39_17) rfl (tlt (own_jlt hj hn (by omega))).1 (by decide) (by decide) z_) ?_
  refine own_g (own_F T2 m 23 #[rv t, iv ch, iv j, iv nn] [(.int ch)]) (fun _ z_ => XS.iloadN X2.here hx rfl (hb hby own_d39_22) rfl z_) ?_
  refine own_pre (S' := (own_F T2 m 25 #[rv t, iv ch, iv j, iv nn] [(.int 65536), (.int ch)])) (X2.ldcInt hx hown (mvT hZ (own_w hw 197)) (g := (mkF m 23 #[rv t, iv ch, iv j, iv nn] [(.int ch)])) rfl (hb hby own_d39_23)) ?_
  refine own_g (own_F T2 m 28 #[rv t, iv ch, iv j, iv nn] []) (fun _ z_ => XS.icmpNo X2.here hx rfl (hb hby own_d39_25) rfl (tlt (by rw [Int32.lt_iff_toInt_lt]; simp only [Int32.reduceToInt]; omega)).2.1 z_) ?_
  refine own_g (own_F T2 m 29 #[rv t, iv ch, iv j, iv nn] [(.ref t)]) (fun _ z_ => XS.aloadN X2.here hx rfl (hb hby own_d39_28) rfl rfl z_) ?_
  refine own_g (own_F T2 m 30 #[rv t, iv ch, iv j, iv nn] [(.int ch), (.ref t)]) (fun _ z_ => XS.iloadN X2.here hx rfl (hb hby own_d39_29) rfl z_) ?_
  refine own_g (own_F T2 m 31 #[rv t, iv ch, iv j, iv nn] [(.int j), (.int ch), (.ref t)]) (fun _ z_ => XS.iloadN X2.here hx rfl (hb hby own_d39_30) rfl z_) ?_
  refine own_g (own_F T2 m 32 #[rv t, iv ch, iv j, iv nn] [(.int nn), (.int j), (.int ch), (.ref t)]) (fun _ z_ => XS.iloadN X2.here hx rfl (hb hby own_d39_31) rfl z_) ?_
  refine own_callS (y := (⟨"java/lang/StringUTF16", "indexOfChar", "([BIII)I"⟩ : MethodName)) X2 hx hZ hown (own_w hw 198) (own_w hw 199) (own_w hw 41) (own_w hw 200) (by decide) hh2 (hM := own_uic l Z a0 hw [] t n k ch j nn f sv hsv h0 n0 Z0 hj hk hn hc hne heq At hf S_sf S_ad S_hi S_lo) (W := 0) (pc := 32) (Ls := #[rv t, iv ch, iv j, iv nn]) (argsL := [(.ref t), (.int ch), (.int j), (.int nn)]) (rest := []) (st0 := [(.int nn), (.int j), (.int ch), (.ref t)]) (by rw [hml]; rfl) (lenOf own_pd16 rfl) rfl (Nat.le_of_eq rfl) (hb hby own_d39_32) (by decide) (by decide) (by decide) (by decide) ?_
  intro v3 T3 L3 s X3 hZ hown hI3 hvm3 hhp3 hWw3 hQ3
  obtain ⟨rfl, Nq3, hh3⟩ := hQ3
  have N3 := Fr.app N2 Nq3
  show own_Ends p e below s _ _ _ (own_F T3 m 35 #[rv t, iv ch, iv j, iv nn] [(.int (j + (1 : Int32)))])
  refine own_ret (t := .int) X3 hx hlk hrt rfl (Or.inl ⟨rfl, by simp, _, rfl⟩) (hb hby own_d39_35) (by decide) (by decide) ?_
  exact ⟨rfl, N3, hh3⟩
set_option maxRecDepth 65536 in
set_option maxHeartbeats 40000000 in
theorem own_io (l : Launch) (Z : State) (a0 : Array Value) (hw : ∀ d ∈ tables_1, d.before a0 Z = true) (ws : List Jvm.Cond) (x : Addr) (n k : Nat) (ch j nn zc : Int32) (f : Nat → Int32) (sv : Value) (hsv : sv.isRef = true) (h0 : Heap) (n0 : Nat) (Z0 : n0 ≤ h0.size) (hj : j.toInt = (k : Int)) (hk : k + 1 < n) (hn : nn.toInt = (n : Int)) (hc : 0 ≤ ch.toInt ∧ ch.toInt ≤ 255) (hne : ¬ f k = ch) (heq : f (k + 1) = ch) (hzc : ¬ zc = (0 : Int32)) (hS : own_Str Z h0 x n f) (S_cs : Sta Z h0 "java/lang/String" "COMPACT_STRINGS" "Z" (.int zc)) (S_sf : Sta Z h0 "jdk/internal/util/Preconditions" "SIOOBE_FORMATTER" "Ljava/util/function/BiFunction;" sv) (S_ad : Sta Z h0 "java/lang/StringUTF16" "$assertionsDisabled" "Z" (.int (1 : Int32))) (S_hi : Sta Z h0 "java/lang/StringUTF16" "HI_BYTE_SHIFT" "I" (.int (0 : Int32))) (S_lo : Sta Z h0 "java/lang/StringUTF16" "LO_BYTE_SHIFT" "I" (.int (8 : Int32))) :
    own_Met l Z (⟨"java/lang/String", "indexOf", "(II)I"⟩ : MethodName) jdk_42_method_80_code 3 (some .int) ws ({ frames := 5, cells := 0, slots := 0, locals := 73 } : Room) #[(.ref x), (.int ch), (.int j)] h0 (fun v h L => v = some (.int (j + (1 : Int32))) ∧ Fr n0 L ∧ h = h0) := by
  refine own_body own_pn31 (fun m => mkF m 0 #[rv x, iv ch, iv j] []) (fun m => own_ef_own_io m x ch j) ?_
  intro p e s m below meth c T0 hx hby hml hlk hrt hZ hown hnm X0 e0
  have hown : s.vm.findClass "java/lang/String" = some m.cls := hown
  have N0 := Fr.nil n0
  have hS' := hS
  obtain ⟨t, E_x, F_v, hf, CC⟩ := hS
  rcases CC with ⟨F_c, At, hl⟩ | ⟨F_c, At⟩
  ·
   refine own_g (own_F T0 m 1 #[rv x, iv ch, iv j] [(.ref x)]) (fun _ z_ => XS.aloadN X0.here hx rfl (hb hby own_d25_0) rfl rfl z_) ?_
   refine own_callV (C := "java/lang/String") (y := (⟨"java/lang/String", "isLatin1", "()Z"⟩ : MethodName)) (b := x) X0 hx hZ hown (own_w hw 67) (own_w hw 68) (own_w hw 70) (own_w hw 69) (own_w hw 71) (own_w hw 18) (by decide) e0 E_x (hM := own_isl l Z a0 hw [] x (0 : Int32) zc (1 : Int32) h0 n0 Z0 (by decide) hzc F_c S_cs) (W := 0) (pc := 1) (Ls := #[rv x, iv ch, iv j]) (argsL := []) (rest := []) (st0 := [(.ref x)]) (by rw [hml]; rfl) (lenOf own_pd12 rfl) rfl (Nat.le_of_eq rfl) (hb hby own_d25_1) (by decide) (by decide) (by decide) (by decide) ?_
   intro v1 T1 L1 s X1 hZ hown hI1 hvm1 hhp1 hWw1 hQ1
   obtain ⟨rfl, Nq1, hh1⟩ := hQ1
   have N1 := Fr.app N0 Nq1
   show own_Ends p e below s _ _ _ (own_F T1 m 4 #[rv x, iv ch, iv j] [(.int 1)])
   refine own_g (own_F T1 m 7 #[rv x, iv ch, iv j] []) (fun _ z_ => XS.ifNo X1.here hx rfl (hb hby own_d25_4) rfl ((if0 _ _).trans (feq (by decide : ¬ ((1 : Int32) = (0 : Int32)))).1) z_) ?_
   refine own_g (own_F T1 m 8 #[rv x, iv ch, iv j] [(.ref x)]) (fun _ z_ => XS.aloadN X1.here hx rfl (hb hby own_d25_7) rfl rfl z_) ?_
   obtain ⟨T2, X2, e2, st2⟩ := getF X1 hx hZ hown (host := "") (Or.inl (own_w hw 50)) Via.refl hh1 F_v (g := (mkF m 8 #[rv x, iv ch, iv j] [(.ref x)])) rfl rfl (hb hby own_d25_8)
   refine own_pre (S' := (own_F T2 m 11 #[rv x, iv ch, iv j] [(.ref t)])) st2 ?_
   refine own_g (own_F T2 m 12 #[rv x, iv ch, iv j] [(.int ch), (.ref t)]) (fun _ z_ => XS.iloadN X2.here hx rfl (hb hby own_d25_11) rfl z_) ?_
   refine own_g (own_F T2 m 13 #[rv x, iv ch, iv j] [(.int j), (.int ch), (.ref t)]) (fun _ z_ => XS.iloadN X2.here hx rfl (hb hby own_d25_12) rfl z_) ?_
   refine own_g (own_F T2 m 14 #[rv x, iv ch, iv j] [(.ref x), (.int j), (.int ch), (.ref t)]) (fun _ z_ => XS.aloadN X2.here hx rfl (hb hby own_d25_13) rfl rfl z_) ?_
   refine own_callV (C := "java/lang/String") (y := (⟨"java/lang/String", "length", "()I"⟩ : MethodName)) (b := x) X2 hx hZ hown (own_w hw 143) (own_w hw 109) (own_w hw 111) (own_w hw 110) (own_w hw 112) (own_w hw 18) (by decide) e2 E_x (hM := own_slen l Z a0 hw [] x n nn zc f h0 n0 Z0 hn hzc hS' S_cs) (W := 3) (pc := 14) (Ls := #[rv x, iv ch, iv j]) (argsL := []) (rest := [(.int j), (.int ch), (.ref t)]) (st0 := [(.ref x), (.int j), (.int ch), (.ref t)]) (by rw [hml]; rfl) (lenOf own_pd20 rfl) rfl (Nat.le_of_eq rfl) (hb hby own_d25_14) (by decide) (by decide) (by decide) (by decide) ?_
   intro v3 T3 L3 s X3 hZ hown hI3 hvm3 hhp3 hWw3 hQ3
   obtain ⟨rfl, Nq3, hh3⟩ := hQ3
   have N3 := Fr.app N1 Nq3
   show own_Ends p e below s _ _ _ (own_F T3 m 17 #[rv x, iv ch, iv j] [(.int nn), (.int j), (.int ch), (.ref t)])
   refine own_callS (y := (⟨"java/lang/StringLatin1", "indexOf", "([BIII)I"⟩ : MethodName)) X3 hx hZ hown (own_w hw 144) (own_w hw 145) (own_w hw 74) (own_w hw 146) (by decide) hh3 (hM := own_lio l Z a0 hw [] t n k ch j nn f h0 n0 Z0 hj hk hn hc hne heq At hl) (W := 0) (pc := 17) (Ls := #[rv x, iv ch, iv j]) (argsL := [(.ref t), (.int ch), (.int j), (.int nn)]) (rest := []) (st0 := [(.int nn), (.int j), (.int ch), (.ref t)]) (by rw [hml]; rfl) (lenOf own_pd16 rfl) rfl (Nat.le_of_eq rfl) (hb hby own_d25_17) (by decide) (by decide) (by decide) (by decide) ?_
   intro v4 T4 L4 s X4 hZ hown hI4 hvm4 hhp4 hWw4 hQ4
   obtain ⟨rfl, Nq4, hh4⟩ := hQ4
   have N4 := Fr.app N3 Nq4
   show own_Ends p e below s _ _ _ (own_F T4 m 20 #[rv x, iv ch, iv j] [(.int (j + (1 : Int32)))])
   refine own_g (own_F T4 m 36 #[rv x, iv ch, iv j] [(.int (j + (1 : Int32)))]) (fun _ z_ => XS.goto X4.here hx rfl (pc0 := 20) (pc' := 36) rfl (hb hby own_d25_20) (by decide) (by decide) z_) ?_
   refine own_ret (t := .int) X4 hx hlk hrt rfl (Or.inl ⟨rfl, by simp, _, rfl⟩) (hb hby own_d25_36) (by decide) (by decide) ?_
   exact ⟨rfl, N4, hh4⟩
  ·
   refine own_g (own_F T0 m 1 #[rv x, iv ch, iv j] [(.ref x)]) (fun _ z_ => XS.aloadN X0.here hx rfl (hb hby own_d25_0) rfl rfl z_) ?_
   refine own_callV (C := "java/lang/String") (y := (⟨"java/lang/String", "isLatin1", "()Z"⟩ : MethodName)) (b := x) X0 hx hZ hown (own_w hw 67) (own_w hw 68) (own_w hw 70) (own_w hw 69) (own_w hw 71) (own_w hw 18) (by decide) e0 E_x (hM := own_isl l Z a0 hw [] x (1 : Int32) zc (0 : Int32) h0 n0 Z0 (by decide) hzc F_c S_cs) (W := 0) (pc := 1) (Ls := #[rv x, iv ch, iv j]) (argsL := []) (rest := []) (st0 := [(.ref x)]) (by rw [hml]; rfl) (lenOf own_pd12 rfl) rfl (Nat.le_of_eq rfl) (hb hby own_d25_1) (by decide) (by decide) (by decide) (by decide) ?_
   intro v5 T5 L5 s X5 hZ hown hI5 hvm5 hhp5 hWw5 hQ5
   obtain ⟨rfl, Nq5, hh5⟩ := hQ5
   have N5 := Fr.app N0 Nq5
   show own_Ends p e below s _ _ _ (own_F T5 m 4 #[rv x, iv ch, iv j] [(.int 0)])
   refine own_g (own_F T5 m 23 #[rv x, iv ch, iv j] []) (fun _ z_ => XS.ifYes X5.here hx rfl (pc0 := 4) (pc' := 23) rfl (hb hby own_d25_4) rfl ((if0 _ _).trans (teq (by decide : ((0 : Int32) = (0 : Int32)))).1) (by decide) (by decide) z_) ?_
   refine own_g (own_F T5 m 24 #[rv x, iv ch, iv j] [(.ref x)]) (fun _ z_ => XS.aloadN X5.here hx rfl (hb hby own_d25_23) rfl rfl z_) ?_
   obtain ⟨T6, X6, e6, st6⟩ := getF X5 hx hZ hown (host := "") (Or.inl (own_w hw 50)) Via.refl hh5 F_v (g := (mkF m 24 #[rv x, iv ch, iv j] [(.ref x)])) rfl rfl (hb hby own_d25_24)
   refine own_pre (S' := (own_F T6 m 27 #[rv x, iv ch, iv j] [(.ref t)])) st6 ?_
   refine own_g (own_F T6 m 28 #[rv x, iv ch, iv j] [(.int ch), (.ref t)]) (fun _ z_ => XS.iloadN X6.here hx rfl (hb hby own_d25_27) rfl z_) ?_
   refine own_g (own_F T6 m 29 #[rv x, iv ch, iv j] [(.int j), (.int ch), (.ref t)]) (fun _ z_ => XS.iloadN X6.here hx rfl (hb hby own_d25_28) rfl z_) ?_
   refine own_g (own_F T6 m 30 #[rv x, iv ch, iv j] [(.ref x), (.int j), (.int ch), (.ref t)]) (fun _ z_ => XS.aloadN X6.here hx rfl (hb hby own_d25_29) rfl rfl z_) ?_
   refine own_callV (C := "java/lang/String") (y := (⟨"java/lang/String", "length", "()I"⟩ : MethodName)) (b := x) X6 hx hZ hown (own_w hw 143) (own_w hw 109) (own_w hw 111) (own_w hw 110) (own_w hw 112) (own_w hw 18) (by decide) e6 E_x (hM := own_slen l Z a0 hw [] x n nn zc f h0 n0 Z0 hn hzc hS' S_cs) (W := 3) (pc := 30) (Ls := #[rv x, iv ch, iv j]) (argsL := []) (rest := [(.int j), (.int ch), (.ref t)]) (st0 := [(.ref x), (.int j), (.int ch), (.ref t)]) (by rw [hml]; rfl) (lenOf own_pd20 rfl) rfl (Nat.le_of_eq rfl) (hb hby own_d25_30) (by decide) (by decide) (by decide) (by decide) ?_
   intro v7 T7 L7 s X7 hZ hown hI7 hvm7 hhp7 hWw7 hQ7
   obtain ⟨rfl, Nq7, hh7⟩ := hQ7
   have N7 := Fr.app N5 Nq7
   show own_Ends p e below s _ _ _ (own_F T7 m 33 #[rv x, iv ch, iv j] [(.int nn), (.int j), (.int ch), (.ref t)])
   refine own_callS (y := (⟨"java/lang/StringUTF16", "indexOf", "([BIII)I"⟩ : MethodName)) X7 hx hZ hown (own_w hw 192) (own_w hw 193) (own_w hw 41) (own_w hw 194) (by decide) hh7 (hM := own_uio l Z a0 hw [] t n k ch j nn f sv hsv h0 n0 Z0 hj hk hn hc hne heq At hf S_sf S_ad S_hi S_lo) (W := 0) (pc := 33) (Ls := #[rv x, iv ch, iv j]) (argsL := [(.ref t), (.int ch), (.int j), (.int nn)]) (rest := []) (st0 := [(.int nn), (.int j), (.int ch), (.ref t)]) (by rw [hml]; rfl) (lenOf own_pd16 rfl) rfl (Nat.le_of_eq rfl) (hb hby own_d25_33) (by decide) (by decide) (by decide) (by decide) ?_
   intro v8 T8 L8 s X8 hZ hown hI8 hvm8 hhp8 hWw8 hQ8
   obtain ⟨rfl, Nq8, hh8⟩ := hQ8
   have N8 := Fr.app N7 Nq8
   show own_Ends p e below s _ _ _ (own_F T8 m 36 #[rv x, iv ch, iv j] [(.int (j + (1 : Int32)))])
   refine own_ret (t := .int) X8 hx hlk hrt rfl (Or.inl ⟨rfl, by simp, _, rfl⟩) (hb hby own_d25_36) (by decide) (by decide) ?_
   exact ⟨rfl, N8, hh8⟩
set_option maxRecDepth 65536 in
set_option maxHeartbeats 40000000 in
theorem own_after (l : Launch) (Z : State) (a0 : Array Value) (hw : ∀ d ∈ tables_1, d.before a0 Z = true) (ws : List Jvm.Cond) (x : Addr) (n k : Nat) (ch j nn zc : Int32) (f : Nat → Int32) (sv : Value) (hsv : sv.isRef = true) (h0 : Heap) (n0 : Nat) (Z0 : n0 ≤ h0.size) (hj : j.toInt = (k : Int)) (hk : k + 1 < n) (hn : nn.toInt = (n : Int)) (hc : 0 ≤ ch.toInt ∧ ch.toInt ≤ 255) (hne : ¬ f k = ch) (heq : f (k + 1) = ch) (hzc : ¬ zc = (0 : Int32)) (hS : own_Str Z h0 x n f) (S_cs : Sta Z h0 "java/lang/String" "COMPACT_STRINGS" "Z" (.int zc)) (S_sf : Sta Z h0 "jdk/internal/util/Preconditions" "SIOOBE_FORMATTER" "Ljava/util/function/BiFunction;" sv) (S_ad : Sta Z h0 "java/lang/StringUTF16" "$assertionsDisabled" "Z" (.int (1 : Int32))) (S_hi : Sta Z h0 "java/lang/StringUTF16" "HI_BYTE_SHIFT" "I" (.int (0 : Int32))) (S_lo : Sta Z h0 "java/lang/StringUTF16" "LO_BYTE_SHIFT" "I" (.int (8 : Int32))) :
    own_Met l Z (⟨"com/example/cadmus/cadmus/Markup", "after", "(Ljava/lang/String;CI)I"⟩ : MethodName) prog_6_method_16_code 4 (some .int) ws ({ frames := 6, cells := 0, slots := 0, locals := 87 } : Room) #[(.ref x), (.int ch), (.int j)] h0 (fun v h L => v = some (.int ((j + (1 : Int32)) + (1 : Int32))) ∧ Fr n0 L ∧ h = h0) := by
  refine own_body own_pn32 (fun m => mkF m 0 #[rv x, iv ch, iv j, .unset] []) (fun m => own_ef_own_after m x ch j) ?_
  intro p e s m below meth c T0 hx hby hml hlk hrt hZ hown hnm X0 e0
  have hown : s.vm.findClass "com/example/cadmus/cadmus/Markup" = some m.cls := hown
  have N0 := Fr.nil n0
  have hn31 := own_Str31 hS
  refine own_g (own_F T0 m 1 #[rv x, iv ch, iv j, .unset] [(.ref x)]) (fun _ z_ => XS.aloadN X0.here hx rfl (hb hby own_d24_0) rfl rfl z_) ?_
  refine own_g (own_F T0 m 2 #[rv x, iv ch, iv j, .unset] [(.int ch), (.ref x)]) (fun _ z_ => XS.iloadN X0.here hx rfl (hb hby own_d24_1) rfl z_) ?_
  refine own_g (own_F T0 m 3 #[rv x, iv ch, iv j, .unset] [(.int j), (.int ch), (.ref x)]) (fun _ z_ => XS.iloadN X0.here hx rfl (hb hby own_d24_2) rfl z_) ?_
  refine own_callV (C := "java/lang/String") (y := (⟨"java/lang/String", "indexOf", "(II)I"⟩ : MethodName)) (b := x) X0 hx hZ hown (own_w hw 138) (own_w hw 139) (own_w hw 141) (own_w hw 140) (own_w hw 142) (own_w hw 18) (by decide) e0 (own_StrE hS) (hM := own_io l Z a0 hw [] x n k ch j nn zc f sv hsv h0 n0 Z0 hj hk hn hc hne heq hzc hS S_cs S_sf S_ad S_hi S_lo) (W := 0) (pc := 3) (Ls := #[rv x, iv ch, iv j, .unset]) (argsL := [(.int ch), (.int j)]) (rest := []) (st0 := [(.int j), (.int ch), (.ref x)]) (by rw [hml]; rfl) (lenOf own_pd15 rfl) rfl (Nat.le_of_eq rfl) (hb hby own_d24_3) (by decide) (by decide) (by decide) (by decide) ?_
  intro v1 T1 L1 s X1 hZ hown hI1 hvm1 hhp1 hWw1 hQ1
  obtain ⟨rfl, Nq1, hh1⟩ := hQ1
  have N1 := Fr.app N0 Nq1
  show own_Ends p e below s _ _ _ (own_F T1 m 6 #[rv x, iv ch, iv j, .unset] [(.int (j + (1 : Int32)))])
  refine own_g (own_F T1 m 7 #[rv x, iv ch, iv j, iv (j + (1 : Int32))] []) (fun _ z_ => XS.istoreN X1.here hx rfl (hb hby own_d24_6) rfl (l' := #[rv x, iv ch, iv j, iv (j + (1 : Int32))]) rfl z_) ?_
  refine own_g (own_F T1 m 8 #[rv x, iv ch, iv j, iv (j + (1 : Int32))] [(.int (j + (1 : Int32)))]) (fun _ z_ => XS.iloadN X1.here hx rfl (hb hby own_d24_7) rfl z_) ?_
  refine own_g (own_F T1 m 20 #[rv x, iv ch, iv j, iv (j + (1 : Int32))] []) (fun _ z_ => XS.ifYes X1.here hx rfl (pc0 := 8) (pc' := 20) rfl (hb hby own_d24_8) rfl ((if0 _ _).trans (flt (own_n0 (own_add1 hj (by omega)))).2.1) (by decide) (by decide) z_) ?_
  refine own_g (own_F T1 m 21 #[rv x, iv ch, iv j, iv (j + (1 : Int32))] [(.int (j + (1 : Int32)))]) (fun _ z_ => XS.iloadN X1.here hx rfl (hb hby own_d24_20) rfl z_) ?_
  refine own_g (own_F T1 m 22 #[rv x, iv ch, iv j, iv (j + (1 : Int32))] [(.int 1), (.int (j + (1 : Int32)))]) (fun _ z_ => XS.iconst X1.here hx rfl (hb hby own_d24_21) z_) ?_
  refine own_g (own_F T1 m 23 #[rv x, iv ch, iv j, iv (j + (1 : Int32))] [(.int ((j + (1 : Int32)) + (1 : Int32)))]) (fun _ z_ => XS.iadd X1.here hx rfl (hb hby own_d24_22) rfl z_) ?_
  refine own_ret (t := .int) X1 hx hlk hrt rfl (Or.inl ⟨rfl, by simp, _, rfl⟩) (hb hby own_d24_23) (by decide) (by decide) ?_
  exact ⟨rfl, N1, hh1⟩
set_option maxRecDepth 65536 in
set_option maxHeartbeats 40000000 in
theorem own_isC (l : Launch) (Z : State) (a0 : Array Value) (hw : ∀ d ∈ tables_1, d.before a0 Z = true) (ws : List Jvm.Cond) (a a11 : Addr) (cc ro : Int32) (V : Prop) (h0 : Heap) (n0 : Nat) (Z0 : n0 ≤ h0.size) (hV : V ↔ a = a11) (S_11 : Sta Z h0 "com/example/cadmus/cadmus/XmlVersion" "XML_1_1" "Lcom/example/cadmus/cadmus/XmlVersion;" (.ref a11)) (hr : (ro = 1 ∧ own_isp V cc) ∨ (ro = 0 ∧ ¬ own_isp V cc)) :
    own_Met l Z (⟨"com/example/cadmus/cadmus/XmlVersion", "isSpace", "(C)Z"⟩ : MethodName) prog_31_method_5_code 2 (some .boolean) ws ({ frames := 0, cells := 0, slots := 0, locals := 0 } : Room) #[(.ref a), (.int cc)] h0 (fun v h L => v = some (.int ro) ∧ Fr n0 L ∧ h = h0) := by
  refine own_body own_pn33 (fun m => mkF m 0 #[rv a, iv cc] []) (fun m => own_ef_own_isC m a cc) ?_
  intro p e s m below meth c T0 hx hby hml hlk hrt hZ hown hnm X0 e0
  have hown : s.vm.findClass "com/example/cadmus/cadmus/XmlVersion" = some m.cls := hown
  have N0 := Fr.nil n0
  refine own_g (own_F T0 m 1 #[rv a, iv cc] [(.int cc)]) (fun _ z_ => XS.iloadN X0.here hx rfl (hb hby own_d16_0) rfl z_) ?_
  refine own_g (own_F T0 m 3 #[rv a, iv cc] [(.int 32), (.int cc)]) (fun _ z_ => XS.bipush X0.here hx rfl (hb hby own_d16_1) z_) ?_
  by_cases c3 : (32 : Int32) < cc
  · -- pc 3: (32 : Int32) < cc
   refine own_g (own_F T0 m 6 #[rv a, iv cc] []) (fun _ z_ => XS.icmpNo X0.here hx rfl (hb hby own_d16_3) rfl (tlt c3).2.2.2 z_) ?_
   refine own_g (own_F T0 m 7 #[rv a, iv cc] [(.ref a)]) (fun _ z_ => XS.aloadN X0.here hx rfl (hb hby own_d16_6) rfl rfl z_) ?_
   obtain ⟨T1, X1, e1, st1⟩ := getS2 X0 hx hZ hown (host := "") (Or.inl (own_w hw 89)) Via.refl e0 S_11 (g := (mkF m 7 #[rv a, iv cc] [(.ref a)])) rfl (hb hby own_d16_7)
   refine own_pre (S' := (own_F T1 m 10 #[rv a, iv cc] [(.ref a11), (.ref a)])) st1 ?_
   by_cases c10 : a = a11
   · -- pc 10
    refine own_g (own_F T1 m 13 #[rv a, iv cc] []) (fun _ z_ => Jvm.RoadKit.acmp (g := (mkF m 10 #[rv a, iv cc] [(.ref a11), (.ref a)])) X1 hx rfl rfl rfl (pc0 := 10) (pc' := 13) (same := true) rfl (hb hby own_d16_10) rfl (decide_eq_true (congrArg Value.ref c10)) (by decide) (by decide) z_) ?_
    refine own_g (own_F T1 m 14 #[rv a, iv cc] [(.int cc)]) (fun _ z_ => XS.iloadN X1.here hx rfl (hb hby own_d16_13) rfl z_) ?_
    refine own_g (own_F T1 m 17 #[rv a, iv cc] [(.int 133), (.int cc)]) (fun _ z_ => XS.sipush X1.here hx rfl (hb hby own_d16_14) z_) ?_
    by_cases c17 : cc = (133 : Int32)
    · -- pc 17: cc = (133 : Int32)
     refine own_g (own_F T1 m 27 #[rv a, iv cc] []) (fun _ z_ => XS.icmpYes X1.here hx rfl (pc0 := 17) (pc' := 27) rfl (hb hby own_d16_17) rfl (teq c17).1 (by decide) (by decide) z_) ?_
     refine own_g (own_F T1 m 28 #[rv a, iv cc] [(.int 1)]) (fun _ z_ => XS.iconst X1.here hx rfl (hb hby own_d16_27) z_) ?_
     refine own_g (own_F T1 m 32 #[rv a, iv cc] [(.int 1)]) (fun _ z_ => XS.goto X1.here hx rfl (pc0 := 28) (pc' := 32) rfl (hb hby own_d16_28) (by decide) (by decide) z_) ?_
     refine own_ret (t := .boolean) X1 hx hlk hrt rfl (Or.inl ⟨rfl, by simp, _, rfl⟩) (hb hby own_d16_32) (by decide) (by decide) ?_
     refine ⟨congrArg (fun z => some (Value.int z)) ?_, N0, e1⟩
     have hv := hV.mpr c10
     simp only [Int32.lt_iff_toInt_lt, ← Int32.toInt_inj, Int32.reduceToInt] at c3 c17
     rcases hr with ⟨rfl, q⟩ | ⟨rfl, q⟩ <;> first | rfl | (exfalso; simp only [own_isp, hv, true_and, false_and, or_false, ← Int32.toInt_inj, Int32.reduceToInt] at q; omega)
    · -- pc 17: not cc = (133 : Int32)
     refine own_g (own_F T1 m 20 #[rv a, iv cc] []) (fun _ z_ => XS.icmpNo X1.here hx rfl (hb hby own_d16_17) rfl (feq c17).1 z_) ?_
     refine own_g (own_F T1 m 21 #[rv a, iv cc] [(.int cc)]) (fun _ z_ => XS.iloadN X1.here hx rfl (hb hby own_d16_20) rfl z_) ?_
     refine own_g (own_F T1 m 24 #[rv a, iv cc] [(.int 8232), (.int cc)]) (fun _ z_ => XS.sipush X1.here hx rfl (hb hby own_d16_21) z_) ?_
     by_cases c24 : cc = (8232 : Int32)
     · -- pc 24: cc = (8232 : Int32)
      refine own_g (own_F T1 m 27 #[rv a, iv cc] []) (fun _ z_ => XS.icmpNo X1.here hx rfl (hb hby own_d16_24) rfl (teq c24).2 z_) ?_
      refine own_g (own_F T1 m 28 #[rv a, iv cc] [(.int 1)]) (fun _ z_ => XS.iconst X1.here hx rfl (hb hby own_d16_27) z_) ?_
      refine own_g (own_F T1 m 32 #[rv a, iv cc] [(.int 1)]) (fun _ z_ => XS.goto X1.here hx rfl (pc0 := 28) (pc' := 32) rfl (hb hby own_d16_28) (by decide) (by decide) z_) ?_
      refine own_ret (t := .boolean) X1 hx hlk hrt rfl (Or.inl ⟨rfl, by simp, _, rfl⟩) (hb hby own_d16_32) (by decide) (by decide) ?_
      refine ⟨congrArg (fun z => some (Value.int z)) ?_, N0, e1⟩
      have hv := hV.mpr c10
      simp only [Int32.lt_iff_toInt_lt, ← Int32.toInt_inj, Int32.reduceToInt] at c3 c17 c24
      rcases hr with ⟨rfl, q⟩ | ⟨rfl, q⟩ <;> first | rfl | (exfalso; simp only [own_isp, hv, true_and, false_and, or_false, ← Int32.toInt_inj, Int32.reduceToInt] at q; omega)
     · -- pc 24: not cc = (8232 : Int32)
      refine own_g (own_F T1 m 31 #[rv a, iv cc] []) (fun _ z_ => XS.icmpYes X1.here hx rfl (pc0 := 24) (pc' := 31) rfl (hb hby own_d16_24) rfl (feq c24).2 (by decide) (by decide) z_) ?_
      refine own_g (own_F T1 m 32 #[rv a, iv cc] [(.int 0)]) (fun _ z_ => XS.iconst X1.here hx rfl (hb hby own_d16_31) z_) ?_
      refine own_ret (t := .boolean) X1 hx hlk hrt rfl (Or.inl ⟨rfl, by simp, _, rfl⟩) (hb hby own_d16_32) (by decide) (by decide) ?_
      refine ⟨congrArg (fun z => some (Value.int z)) ?_, N0, e1⟩
      have hv := hV.mpr c10
      simp only [Int32.lt_iff_toInt_lt, ← Int32.toInt_inj, Int32.reduceToInt] at c3 c17 c24
      rcases hr with ⟨rfl, q⟩ | ⟨rfl, q⟩ <;> first | rfl | (exfalso; simp only [own_isp, hv, true_and, false_and, or_false, ← Int32.toInt_inj, Int32.reduceToInt] at q; omega)
   · -- pc 10
    refine own_g (own_F T1 m 31 #[rv a, iv cc] []) (fun _ z_ => Jvm.RoadKit.acmp (g := (mkF m 10 #[rv a, iv cc] [(.ref a11), (.ref a)])) X1 hx rfl rfl rfl (pc0 := 10) (pc' := 31) (same := false) rfl (hb hby own_d16_10) rfl (decide_eq_false fun q => c10 (Value.ref.inj q)) (by decide) (by decide) z_) ?_
    refine own_g (own_F T1 m 32 #[rv a, iv cc] [(.int 0)]) (fun _ z_ => XS.iconst X1.here hx rfl (hb hby own_d16_31) z_) ?_
    refine own_ret (t := .boolean) X1 hx hlk hrt rfl (Or.inl ⟨rfl, by simp, _, rfl⟩) (hb hby own_d16_32) (by decide) (by decide) ?_
    refine ⟨congrArg (fun z => some (Value.int z)) ?_, N0, e1⟩
    have hv : ¬ V := fun q => c10 (hV.mp q)
    simp only [Int32.lt_iff_toInt_lt, ← Int32.toInt_inj, Int32.reduceToInt] at c3
    rcases hr with ⟨rfl, q⟩ | ⟨rfl, q⟩ <;> first | rfl | (exfalso; simp only [own_isp, hv, true_and, false_and, or_false, ← Int32.toInt_inj, Int32.reduceToInt] at q; omega)
  · -- pc 3: not (32 : Int32) < cc
   refine own_g (own_F T0 m 33 #[rv a, iv cc] []) (fun _ z_ => XS.icmpYes X0.here hx rfl (pc0 := 3) (pc' := 33) rfl (hb hby own_d16_3) rfl (flt c3).2.2.2 (by decide) (by decide) z_) ?_
   refine own_g (own_F T0 m 34 #[rv a, iv cc] [(.int cc)]) (fun _ z_ => XS.iloadN X0.here hx rfl (hb hby own_d16_33) rfl z_) ?_
   refine own_g (own_F T0 m 36 #[rv a, iv cc] [(.int 32), (.int cc)]) (fun _ z_ => XS.bipush X0.here hx rfl (hb hby own_d16_34) z_) ?_
   by_cases c36 : cc = (32 : Int32)
   · -- pc 36: cc = (32 : Int32)
    refine own_g (own_F T0 m 57 #[rv a, iv cc] []) (fun _ z_ => XS.icmpYes X0.here hx rfl (pc0 := 36) (pc' := 57) rfl (hb hby own_d16_36) rfl (teq c36).1 (by decide) (by decide) z_) ?_
    refine own_g (own_F T0 m 58 #[rv a, iv cc] [(.int 1)]) (fun _ z_ => XS.iconst X0.here hx rfl (hb hby own_d16_57) z_) ?_
    refine own_g (own_F T0 m 62 #[rv a, iv cc] [(.int 1)]) (fun _ z_ => XS.goto X0.here hx rfl (pc0 := 58) (pc' := 62) rfl (hb hby own_d16_58) (by decide) (by decide) z_) ?_
    refine own_ret (t := .boolean) X0 hx hlk hrt rfl (Or.inl ⟨rfl, by simp, _, rfl⟩) (hb hby own_d16_62) (by decide) (by decide) ?_
    refine ⟨congrArg (fun z => some (Value.int z)) ?_, N0, e0⟩
    simp only [Int32.lt_iff_toInt_lt, ← Int32.toInt_inj, Int32.reduceToInt] at c3 c36
    rcases hr with ⟨rfl, q⟩ | ⟨rfl, q⟩ <;> first | rfl | (exfalso; simp only [own_isp, ← Int32.toInt_inj, Int32.reduceToInt] at q; omega)
   · -- pc 36: not cc = (32 : Int32)
    refine own_g (own_F T0 m 39 #[rv a, iv cc] []) (fun _ z_ => XS.icmpNo X0.here hx rfl (hb hby own_d16_36) rfl (feq c36).1 z_) ?_
    refine own_g (own_F T0 m 40 #[rv a, iv cc] [(.int cc)]) (fun _ z_ => XS.iloadN X0.here hx rfl (hb hby own_d16_39) rfl z_) ?_
    refine own_g (own_F T0 m 42 #[rv a, iv cc] [(.int 9), (.int cc)]) (fun _ z_ => XS.bipush X0.here hx rfl (hb hby own_d16_40) z_) ?_
    by_cases c42 : cc = (9 : Int32)
    · -- pc 42: cc = (9 : Int32)
     refine own_g (own_F T0 m 57 #[rv a, iv cc] []) (fun _ z_ => XS.icmpYes X0.here hx rfl (pc0 := 42) (pc' := 57) rfl (hb hby own_d16_42) rfl (teq c42).1 (by decide) (by decide) z_) ?_
     refine own_g (own_F T0 m 58 #[rv a, iv cc] [(.int 1)]) (fun _ z_ => XS.iconst X0.here hx rfl (hb hby own_d16_57) z_) ?_
     refine own_g (own_F T0 m 62 #[rv a, iv cc] [(.int 1)]) (fun _ z_ => XS.goto X0.here hx rfl (pc0 := 58) (pc' := 62) rfl (hb hby own_d16_58) (by decide) (by decide) z_) ?_
     refine own_ret (t := .boolean) X0 hx hlk hrt rfl (Or.inl ⟨rfl, by simp, _, rfl⟩) (hb hby own_d16_62) (by decide) (by decide) ?_
     refine ⟨congrArg (fun z => some (Value.int z)) ?_, N0, e0⟩
     simp only [Int32.lt_iff_toInt_lt, ← Int32.toInt_inj, Int32.reduceToInt] at c3 c36 c42
     rcases hr with ⟨rfl, q⟩ | ⟨rfl, q⟩ <;> first | rfl | (exfalso; simp only [own_isp, ← Int32.toInt_inj, Int32.reduceToInt] at q; omega)
    · -- pc 42: not cc = (9 : Int32)
     refine own_g (own_F T0 m 45 #[rv a, iv cc] []) (fun _ z_ => XS.icmpNo X0.here hx rfl (hb hby own_d16_42) rfl (feq c42).1 z_) ?_
     refine own_g (own_F T0 m 46 #[rv a, iv cc] [(.int cc)]) (fun _ z_ => XS.iloadN X0.here hx rfl (hb hby own_d16_45) rfl z_) ?_
     refine own_g (own_F T0 m 48 #[rv a, iv cc] [(.int 10), (.int cc)]) (fun _ z_ => XS.bipush X0.here hx rfl (hb hby own_d16_46) z_) ?_
     by_cases c48 : cc = (10 : Int32)
     · -- pc 48: cc = (10 : Int32)
      refine own_g (own_F T0 m 57 #[rv a, iv cc] []) (fun _ z_ => XS.icmpYes X0.here hx rfl (pc0 := 48) (pc' := 57) rfl (hb hby own_d16_48) rfl (teq c48).1 (by decide) (by decide) z_) ?_
      refine own_g (own_F T0 m 58 #[rv a, iv cc] [(.int 1)]) (fun _ z_ => XS.iconst X0.here hx rfl (hb hby own_d16_57) z_) ?_
      refine own_g (own_F T0 m 62 #[rv a, iv cc] [(.int 1)]) (fun _ z_ => XS.goto X0.here hx rfl (pc0 := 58) (pc' := 62) rfl (hb hby own_d16_58) (by decide) (by decide) z_) ?_
      refine own_ret (t := .boolean) X0 hx hlk hrt rfl (Or.inl ⟨rfl, by simp, _, rfl⟩) (hb hby own_d16_62) (by decide) (by decide) ?_
      refine ⟨congrArg (fun z => some (Value.int z)) ?_, N0, e0⟩
      simp only [Int32.lt_iff_toInt_lt, ← Int32.toInt_inj, Int32.reduceToInt] at c3 c36 c42 c48
      rcases hr with ⟨rfl, q⟩ | ⟨rfl, q⟩ <;> first | rfl | (exfalso; simp only [own_isp, ← Int32.toInt_inj, Int32.reduceToInt] at q; omega)
     · -- pc 48: not cc = (10 : Int32)
      refine own_g (own_F T0 m 51 #[rv a, iv cc] []) (fun _ z_ => XS.icmpNo X0.here hx rfl (hb hby own_d16_48) rfl (feq c48).1 z_) ?_
      refine own_g (own_F T0 m 52 #[rv a, iv cc] [(.int cc)]) (fun _ z_ => XS.iloadN X0.here hx rfl (hb hby own_d16_51) rfl z_) ?_
      refine own_g (own_F T0 m 54 #[rv a, iv cc] [(.int 13), (.int cc)]) (fun _ z_ => XS.bipush X0.here hx rfl (hb hby own_d16_52) z_) ?_
      by_cases c54 : cc = (13 : Int32)
      · -- pc 54: cc = (13 : Int32)
       refine own_g (own_F T0 m 57 #[rv a, iv cc] []) (fun _ z_ => XS.icmpNo X0.here hx rfl (hb hby own_d16_54) rfl (teq c54).2 z_) ?_
       refine own_g (own_F T0 m 58 #[rv a, iv cc] [(.int 1)]) (fun _ z_ => XS.iconst X0.here hx rfl (hb hby own_d16_57) z_) ?_
       refine own_g (own_F T0 m 62 #[rv a, iv cc] [(.int 1)]) (fun _ z_ => XS.goto X0.here hx rfl (pc0 := 58) (pc' := 62) rfl (hb hby own_d16_58) (by decide) (by decide) z_) ?_
       refine own_ret (t := .boolean) X0 hx hlk hrt rfl (Or.inl ⟨rfl, by simp, _, rfl⟩) (hb hby own_d16_62) (by decide) (by decide) ?_
       refine ⟨congrArg (fun z => some (Value.int z)) ?_, N0, e0⟩
       simp only [Int32.lt_iff_toInt_lt, ← Int32.toInt_inj, Int32.reduceToInt] at c3 c36 c42 c48 c54
       rcases hr with ⟨rfl, q⟩ | ⟨rfl, q⟩ <;> first | rfl | (exfalso; simp only [own_isp, ← Int32.toInt_inj, Int32.reduceToInt] at q; omega)
      · -- pc 54: not cc = (13 : Int32)
       refine own_g (own_F T0 m 61 #[rv a, iv cc] []) (fun _ z_ => XS.icmpYes X0.here hx rfl (pc0 := 54) (pc' := 61) rfl (hb hby own_d16_54) rfl (feq c54).2 (by decide) (by decide) z_) ?_
       refine own_g (own_F T0 m 62 #[rv a, iv cc] [(.int 0)]) (fun _ z_ => XS.iconst X0.here hx rfl (hb hby own_d16_61) z_) ?_
       refine own_ret (t := .boolean) X0 hx hlk hrt rfl (Or.inl ⟨rfl, by simp, _, rfl⟩) (hb hby own_d16_62) (by decide) (by decide) ?_
       refine ⟨congrArg (fun z => some (Value.int z)) ?_, N0, e0⟩
       simp only [Int32.lt_iff_toInt_lt, ← Int32.toInt_inj, Int32.reduceToInt] at c3 c36 c42 c48 c54
       rcases hr with ⟨rfl, q⟩ | ⟨rfl, q⟩ <;> first | rfl | (exfalso; simp only [own_isp, ← Int32.toInt_inj, Int32.reduceToInt] at q; omega)
set_option maxRecDepth 65536 in
set_option maxHeartbeats 40000000 in
theorem own_nend (l : Launch) (Z : State) (a0 : Array Value) (hw : ∀ d ∈ tables_1, d.before a0 Z = true) (ws : List Jvm.Cond) (x a a11 : Addr) (n k : Nat) (j nn zc : Int32) (f : Nat → Int32) (V : Prop) (sv : Value) (hsv : sv.isRef = true) (h0 : Heap) (n0 : Nat) (Z0 : n0 ≤ h0.size) (hk : k + 1 < n) (hd0 : ¬ own_dl V (f k)) (hd1 : own_dl V (f (k + 1))) (hj : j.toInt = (k : Int)) (hn : nn.toInt = (n : Int)) (hzc : ¬ zc = (0 : Int32)) (hV : V ↔ a = a11) (hS : own_Str Z h0 x n f) (E_a : Exa Z h0 a "com/example/cadmus/cadmus/XmlVersion") (S_11 : Sta Z h0 "com/example/cadmus/cadmus/XmlVersion" "XML_1_1" "Lcom/example/cadmus/cadmus/XmlVersion;" (.ref a11)) (S_cs : Sta Z h0 "java/lang/String" "COMPACT_STRINGS" "Z" (.int zc)) (S_sf : Sta Z h0 "jdk/internal/util/Preconditions" "SIOOBE_FORMATTER" "Ljava/util/function/BiFunction;" sv) (S_ad : Sta Z h0 "java/lang/StringUTF16" "$assertionsDisabled" "Z" (.int (1 : Int32))) (S_hi : Sta Z h0 "java/lang/StringUTF16" "HI_BYTE_SHIFT" "I" (.int (0 : Int32))) (S_lo : Sta Z h0 "java/lang/StringUTF16" "LO_BYTE_SHIFT" "I" (.int (8 : Int32))) :
    own_Met l Z (⟨"com/example/cadmus/cadmus/Markup", "nameEnd", "(Ljava/lang/String;ILcom/example/cadmus/cadmus/XmlVersion;)I"⟩ : MethodName) prog_6_method_24_code 5 (some .int) ws ({ frames := 5, cells := 0, slots := 0, locals := 66 } : Room) #[(.ref x), (.int j), (.ref a)] h0 (fun v h L => ∃ r : Int32, v = some (.int r) ∧ r.toInt = ((k + 1 : Nat) : Int) ∧ Fr n0 L ∧ h = h0) := by
  refine own_body own_pn34 (fun m => mkF m 0 #[rv x, iv j, rv a, .unset, .unset] []) (fun m => own_ef_own_nend m x j a) ?_
  intro p e s m below meth c T0 hx hby hml hlk hrt hZ hown hnm X0 e0
  have hown : s.vm.findClass "com/example/cadmus/cadmus/Markup" = some m.cls := hown
  have N0 := Fr.nil n0
  have hn31 := own_Str31 hS
  have hk0 : k < n := by omega
  obtain ⟨r1, hr1⟩ := own_dec (own_isp V (f (k + 1)))
  refine own_g (own_F T0 m 1 #[rv x, iv j, rv a, .unset, .unset] [(.int j)]) (fun _ z_ => XS.iloadN X0.here hx rfl (hb hby own_d10_0) rfl z_) ?_
  refine own_g (own_F T0 m 2 #[rv x, iv j, rv a, iv j, .unset] []) (fun _ z_ => XS.istoreN X0.here hx rfl (hb hby own_d10_1) rfl (l' := #[rv x, iv j, rv a, iv j, .unset]) rfl z_) ?_
  refine own_g (own_F T0 m 3 #[rv x, iv j, rv a, iv j, .unset] [(.ref x)]) (fun _ z_ => XS.aloadN X0.here hx rfl (hb hby own_d10_2) rfl rfl z_) ?_
  refine own_g (own_F T0 m 4 #[rv x, iv j, rv a, iv j, .unset] [(.int j), (.ref x)]) (fun _ z_ => XS.iloadN X0.here hx rfl (hb hby own_d10_3) rfl z_) ?_
  refine own_callV (C := "java/lang/String") (y := (⟨"java/lang/String", "charAt", "(I)C"⟩ : MethodName)) (b := x) X0 hx hZ hown (own_w hw 62) (own_w hw 63) (own_w hw 65) (own_w hw 64) (own_w hw 66) (own_w hw 18) (by decide) e0 (own_StrE hS) (hM := own_charAt l Z a0 hw [] x j zc k n f sv hsv h0 n0 Z0 hj hk0 hzc hS S_cs S_sf S_ad S_hi S_lo) (W := 0) (pc := 4) (Ls := #[rv x, iv j, rv a, iv j, .unset]) (argsL := [(.int j)]) (rest := []) (st0 := [(.int j), (.ref x)]) (by rw [hml]; rfl) (lenOf own_pd21 rfl) rfl (Nat.le_of_eq rfl) (hb hby own_d10_4) (by decide) (by decide) (by decide) (by decide) ?_
  intro v1 T1 L1 s X1 hZ hown hI1 hvm1 hhp1 hWw1 hQ1
  obtain ⟨rfl, Nq1, hh1⟩ := hQ1
  have N1 := Fr.app N0 Nq1
  show own_Ends p e below s _ _ _ (own_F T1 m 7 #[rv x, iv j, rv a, iv j, .unset] [(.int (f k))])
  refine own_g (own_F T1 m 9 #[rv x, iv j, rv a, iv j, iv (f k)] []) (fun _ z_ => XS.istore X1.here hx rfl (hb hby own_d10_7) rfl (l' := #[rv x, iv j, rv a, iv j, iv (f k)]) rfl z_) ?_
  refine own_g (own_F T1 m 10 #[rv x, iv j, rv a, iv j, iv (f k)] [(.ref a)]) (fun _ z_ => XS.aloadN X1.here hx rfl (hb hby own_d10_9) rfl rfl z_) ?_
  refine own_g (own_F T1 m 12 #[rv x, iv j, rv a, iv j, iv (f k)] [(.int (f k)), (.ref a)]) (fun _ z_ => XS.iload X1.here hx rfl (hb hby own_d10_10) rfl z_) ?_
  refine own_callV (C := "com/example/cadmus/cadmus/XmlVersion") (y := (⟨"com/example/cadmus/cadmus/XmlVersion", "isSpace", "(C)Z"⟩ : MethodName)) (b := a) X1 hx hZ hown (own_w hw 84) (own_w hw 85) (own_w hw 87) (own_w hw 86) (own_w hw 88) (own_w hw 6) (by decide) hh1 E_a (hM := own_isC l Z a0 hw [] a a11 (f k) (0 : Int32) V h0 n0 Z0 hV S_11 (Or.inr ⟨rfl, fun q => hd0 (Or.inl q)⟩)) (W := 0) (pc := 12) (Ls := #[rv x, iv j, rv a, iv j, iv (f k)]) (argsL := [(.int (f k))]) (rest := []) (st0 := [(.int (f k)), (.ref a)]) (by rw [hml]; rfl) (lenOf own_pd22 rfl) rfl (Nat.le_of_eq rfl) (hb hby own_d10_12) (by decide) (by decide) (by decide) (by decide) ?_
  intro v2 T2 L2 s X2 hZ hown hI2 hvm2 hhp2 hWw2 hQ2
  obtain ⟨rfl, Nq2, hh2⟩ := hQ2
  have N2 := Fr.app N1 Nq2
  show own_Ends p e below s _ _ _ (own_F T2 m 15 #[rv x, iv j, rv a, iv j, iv (f k)] [(.int 0)])
  refine own_g (own_F T2 m 18 #[rv x, iv j, rv a, iv j, iv (f k)] []) (fun _ z_ => XS.ifNo X2.here hx rfl (hb hby own_d10_15) rfl ((if0 _ _).trans (teq (by decide : ((0 : Int32) = (0 : Int32)))).2) z_) ?_
  refine own_g (own_F T2 m 20 #[rv x, iv j, rv a, iv j, iv (f k)] [(.int (f k))]) (fun _ z_ => XS.iload X2.here hx rfl (hb hby own_d10_18) rfl z_) ?_
  refine own_g (own_F T2 m 22 #[rv x, iv j, rv a, iv j, iv (f k)] [(.int 62), (.int (f k))]) (fun _ z_ => XS.bipush X2.here hx rfl (hb hby own_d10_20) z_) ?_
  refine own_g (own_F T2 m 25 #[rv x, iv j, rv a, iv j, iv (f k)] []) (fun _ z_ => XS.icmpNo X2.here hx rfl (hb hby own_d10_22) rfl (feq (fun q => hd0 (Or.inr (Or.inl q)))).1 z_) ?_
  refine own_g (own_F T2 m 27 #[rv x, iv j, rv a, iv j, iv (f k)] [(.int (f k))]) (fun _ z_ => XS.iload X2.here hx rfl (hb hby own_d10_25) rfl z_) ?_
  refine own_g (own_F T2 m 29 #[rv x, iv j, rv a, iv j, iv (f k)] [(.int 47), (.int (f k))]) (fun _ z_ => XS.bipush X2.here hx rfl (hb hby own_d10_27) z_) ?_
  refine own_g (own_F T2 m 32 #[rv x, iv j, rv a, iv j, iv (f k)] []) (fun _ z_ => XS.icmpNo X2.here hx rfl (hb hby own_d10_29) rfl (feq (fun q => hd0 (Or.inr (Or.inr (Or.inl q))))).1 z_) ?_
  refine own_g (own_F T2 m 34 #[rv x, iv j, rv a, iv j, iv (f k)] [(.int (f k))]) (fun _ z_ => XS.iload X2.here hx rfl (hb hby own_d10_32) rfl z_) ?_
  refine own_g (own_F T2 m 36 #[rv x, iv j, rv a, iv j, iv (f k)] [(.int 61), (.int (f k))]) (fun _ z_ => XS.bipush X2.here hx rfl (hb hby own_d10_34) z_) ?_
  refine own_g (own_F T2 m 41 #[rv x, iv j, rv a, iv j, iv (f k)] []) (fun _ z_ => XS.icmpYes X2.here hx rfl (pc0 := 36) (pc' := 41) rfl (hb hby own_d10_36) rfl (feq (fun q => hd0 (Or.inr (Or.inr (Or.inr q))))).2 (by decide) (by decide) z_) ?_
  refine own_g (own_F T2 m 44 #[rv x, iv j, rv a, iv (j + (1 : Int32)), iv (f k)] []) (fun _ z_ => XS.iinc X2.here hx rfl (hb hby own_d10_41) rfl (l' := #[rv x, iv j, rv a, iv (j + (1 : Int32)), iv (f k)]) rfl z_) ?_
  refine own_g (own_F T2 m 2 #[rv x, iv j, rv a, iv (j + (1 : Int32)), iv (f k)] []) (fun _ z_ => XS.goto X2.here hx rfl (pc0 := 44) (pc' := 2) rfl (hb hby own_d10_44) (by decide) (by decide) z_) ?_
  refine own_g (own_F T2 m 3 #[rv x, iv j, rv a, iv (j + (1 : Int32)), iv (f k)] [(.ref x)]) (fun _ z_ => XS.aloadN X2.here hx rfl (hb hby own_d10_2) rfl rfl z_) ?_
  refine own_g (own_F T2 m 4 #[rv x, iv j, rv a, iv (j + (1 : Int32)), iv (f k)] [(.int (j + (1 : Int32))), (.ref x)]) (fun _ z_ => XS.iloadN X2.here hx rfl (hb hby own_d10_3) rfl z_) ?_
  refine own_callV (C := "java/lang/String") (y := (⟨"java/lang/String", "charAt", "(I)C"⟩ : MethodName)) (b := x) X2 hx hZ hown (own_w hw 62) (own_w hw 63) (own_w hw 65) (own_w hw 64) (own_w hw 66) (own_w hw 18) (by decide) hh2 (own_StrE hS) (hM := own_charAt l Z a0 hw [] x (j + (1 : Int32)) zc (k + 1) n f sv hsv h0 n0 Z0 (own_add1 hj (by omega)) hk hzc hS S_cs S_sf S_ad S_hi S_lo) (W := 0) (pc := 4) (Ls := #[rv x, iv j, rv a, iv (j + (1 : Int32)), iv (f k)]) (argsL := [(.int (j + (1 : Int32)))]) (rest := []) (st0 := [(.int (j + (1 : Int32))), (.ref x)]) (by rw [hml]; rfl) (lenOf own_pd21 rfl) rfl (Nat.le_of_eq rfl) (hb hby own_d10_4) (by decide) (by decide) (by decide) (by decide) ?_
  intro v3 T3 L3 s X3 hZ hown hI3 hvm3 hhp3 hWw3 hQ3
  obtain ⟨rfl, Nq3, hh3⟩ := hQ3
  have N3 := Fr.app N2 Nq3
  show own_Ends p e below s _ _ _ (own_F T3 m 7 #[rv x, iv j, rv a, iv (j + (1 : Int32)), iv (f k)] [(.int (f (k + 1)))])
  refine own_g (own_F T3 m 9 #[rv x, iv j, rv a, iv (j + (1 : Int32)), iv (f (k + 1))] []) (fun _ z_ => XS.istore X3.here hx rfl (hb hby own_d10_7) rfl (l' := #[rv x, iv j, rv a, iv (j + (1 : Int32)), iv (f (k + 1))]) rfl z_) ?_
  refine own_g (own_F T3 m 10 #[rv x, iv j, rv a, iv (j + (1 : Int32)), iv (f (k + 1))] [(.ref a)]) (fun _ z_ => XS.aloadN X3.here hx rfl (hb hby own_d10_9) rfl rfl z_) ?_
  refine own_g (own_F T3 m 12 #[rv x, iv j, rv a, iv (j + (1 : Int32)), iv (f (k + 1))] [(.int (f (k + 1))), (.ref a)]) (fun _ z_ => XS.iload X3.here hx rfl (hb hby own_d10_10) rfl z_) ?_
  refine own_callV (C := "com/example/cadmus/cadmus/XmlVersion") (y := (⟨"com/example/cadmus/cadmus/XmlVersion", "isSpace", "(C)Z"⟩ : MethodName)) (b := a) X3 hx hZ hown (own_w hw 84) (own_w hw 85) (own_w hw 87) (own_w hw 86) (own_w hw 88) (own_w hw 6) (by decide) hh3 E_a (hM := own_isC l Z a0 hw [] a a11 (f (k + 1)) r1 V h0 n0 Z0 hV S_11 hr1) (W := 0) (pc := 12) (Ls := #[rv x, iv j, rv a, iv (j + (1 : Int32)), iv (f (k + 1))]) (argsL := [(.int (f (k + 1)))]) (rest := []) (st0 := [(.int (f (k + 1))), (.ref a)]) (by rw [hml]; rfl) (lenOf own_pd22 rfl) rfl (Nat.le_of_eq rfl) (hb hby own_d10_12) (by decide) (by decide) (by decide) (by decide) ?_
  intro v4 T4 L4 s X4 hZ hown hI4 hvm4 hhp4 hWw4 hQ4
  obtain ⟨rfl, Nq4, hh4⟩ := hQ4
  have N4 := Fr.app N3 Nq4
  show own_Ends p e below s _ _ _ (own_F T4 m 15 #[rv x, iv j, rv a, iv (j + (1 : Int32)), iv (f (k + 1))] [(.int r1)])
  by_cases c15 : r1 = (0 : Int32)
  · -- pc 15: r1 = (0 : Int32)
   refine own_g (own_F T4 m 18 #[rv x, iv j, rv a, iv (j + (1 : Int32)), iv (f (k + 1))] []) (fun _ z_ => XS.ifNo X4.here hx rfl (hb hby own_d10_15) rfl ((if0 _ _).trans (teq c15).2) z_) ?_
   refine own_g (own_F T4 m 20 #[rv x, iv j, rv a, iv (j + (1 : Int32)), iv (f (k + 1))] [(.int (f (k + 1)))]) (fun _ z_ => XS.iload X4.here hx rfl (hb hby own_d10_18) rfl z_) ?_
   refine own_g (own_F T4 m 22 #[rv x, iv j, rv a, iv (j + (1 : Int32)), iv (f (k + 1))] [(.int 62), (.int (f (k + 1)))]) (fun _ z_ => XS.bipush X4.here hx rfl (hb hby own_d10_20) z_) ?_
   by_cases c22 : (f (k + 1)) = (62 : Int32)
   · -- pc 22: (f (k + 1)) = (62 : Int32)
    refine own_g (own_F T4 m 39 #[rv x, iv j, rv a, iv (j + (1 : Int32)), iv (f (k + 1))] []) (fun _ z_ => XS.icmpYes X4.here hx rfl (pc0 := 22) (pc' := 39) rfl (hb hby own_d10_22) rfl (teq c22).1 (by decide) (by decide) z_) ?_
    refine own_g (own_F T4 m 40 #[rv x, iv j, rv a, iv (j + (1 : Int32)), iv (f (k + 1))] [(.int (j + (1 : Int32)))]) (fun _ z_ => XS.iloadN X4.here hx rfl (hb hby own_d10_39) rfl z_) ?_
    refine own_ret (t := .int) X4 hx hlk hrt rfl (Or.inl ⟨rfl, by simp, _, rfl⟩) (hb hby own_d10_40) (by decide) (by decide) ?_
    exact ⟨_, rfl, own_add1 hj (by omega), N4, hh4⟩
   · -- pc 22: not (f (k + 1)) = (62 : Int32)
    refine own_g (own_F T4 m 25 #[rv x, iv j, rv a, iv (j + (1 : Int32)), iv (f (k + 1))] []) (fun _ z_ => XS.icmpNo X4.here hx rfl (hb hby own_d10_22) rfl (feq c22).1 z_) ?_
    refine own_g (own_F T4 m 27 #[rv x, iv j, rv a, iv (j + (1 : Int32)), iv (f (k + 1))] [(.int (f (k + 1)))]) (fun _ z_ => XS.iload X4.here hx rfl (hb hby own_d10_25) rfl z_) ?_
    refine own_g (own_F T4 m 29 #[rv x, iv j, rv a, iv (j + (1 : Int32)), iv (f (k + 1))] [(.int 47), (.int (f (k + 1)))]) (fun _ z_ => XS.bipush X4.here hx rfl (hb hby own_d10_27) z_) ?_
    by_cases c29 : (f (k + 1)) = (47 : Int32)
    · -- pc 29: (f (k + 1)) = (47 : Int32)
     refine own_g (own_F T4 m 39 #[rv x, iv j, rv a, iv (j + (1 : Int32)), iv (f (k + 1))] []) (fun _ z_ => XS.icmpYes X4.here hx rfl (pc0 := 29) (pc' := 39) rfl (hb hby own_d10_29) rfl (teq c29).1 (by decide) (by decide) z_) ?_
     refine own_g (own_F T4 m 40 #[rv x, iv j, rv a, iv (j + (1 : Int32)), iv (f (k + 1))] [(.int (j + (1 : Int32)))]) (fun _ z_ => XS.iloadN X4.here hx rfl (hb hby own_d10_39) rfl z_) ?_
     refine own_ret (t := .int) X4 hx hlk hrt rfl (Or.inl ⟨rfl, by simp, _, rfl⟩) (hb hby own_d10_40) (by decide) (by decide) ?_
     exact ⟨_, rfl, own_add1 hj (by omega), N4, hh4⟩
    · -- pc 29: not (f (k + 1)) = (47 : Int32)
     refine own_g (own_F T4 m 32 #[rv x, iv j, rv a, iv (j + (1 : Int32)), iv (f (k + 1))] []) (fun _ z_ => XS.icmpNo X4.here hx rfl (hb hby own_d10_29) rfl (feq c29).1 z_) ?_
     refine own_g (own_F T4 m 34 #[rv x, iv j, rv a, iv (j + (1 : Int32)), iv (f (k + 1))] [(.int (f (k + 1)))]) (fun _ z_ => XS.iload X4.here hx rfl (hb hby own_d10_32) rfl z_) ?_
     refine own_g (own_F T4 m 36 #[rv x, iv j, rv a, iv (j + (1 : Int32)), iv (f (k + 1))] [(.int 61), (.int (f (k + 1)))]) (fun _ z_ => XS.bipush X4.here hx rfl (hb hby own_d10_34) z_) ?_
     by_cases c36 : (f (k + 1)) = (61 : Int32)
     · -- pc 36: (f (k + 1)) = (61 : Int32)
      refine own_g (own_F T4 m 39 #[rv x, iv j, rv a, iv (j + (1 : Int32)), iv (f (k + 1))] []) (fun _ z_ => XS.icmpNo X4.here hx rfl (hb hby own_d10_36) rfl (teq c36).2 z_) ?_
      refine own_g (own_F T4 m 40 #[rv x, iv j, rv a, iv (j + (1 : Int32)), iv (f (k + 1))] [(.int (j + (1 : Int32)))]) (fun _ z_ => XS.iloadN X4.here hx rfl (hb hby own_d10_39) rfl z_) ?_
      refine own_ret (t := .int) X4 hx hlk hrt rfl (Or.inl ⟨rfl, by simp, _, rfl⟩) (hb hby own_d10_40) (by decide) (by decide) ?_
      exact ⟨_, rfl, own_add1 hj (by omega), N4, hh4⟩
     · -- pc 36: not (f (k + 1)) = (61 : Int32)
      refine own_g (own_F T4 m 41 #[rv x, iv j, rv a, iv (j + (1 : Int32)), iv (f (k + 1))] []) (fun _ z_ => XS.icmpYes X4.here hx rfl (pc0 := 36) (pc' := 41) rfl (hb hby own_d10_36) rfl (feq c36).2 (by decide) (by decide) z_) ?_
      rcases hd1 with q | q | q | q
      · exact absurd q (own_r0' hr1 c15)
      · exact absurd q c22
      · exact absurd q c29
      · exact absurd q c36
  · -- pc 15: not r1 = (0 : Int32)
   refine own_g (own_F T4 m 39 #[rv x, iv j, rv a, iv (j + (1 : Int32)), iv (f (k + 1))] []) (fun _ z_ => XS.ifYes X4.here hx rfl (pc0 := 15) (pc' := 39) rfl (hb hby own_d10_15) rfl ((if0 _ _).trans (feq c15).2) (by decide) (by decide) z_) ?_
   refine own_g (own_F T4 m 40 #[rv x, iv j, rv a, iv (j + (1 : Int32)), iv (f (k + 1))] [(.int (j + (1 : Int32)))]) (fun _ z_ => XS.iloadN X4.here hx rfl (hb hby own_d10_39) rfl z_) ?_
   refine own_ret (t := .int) X4 hx hlk hrt rfl (Or.inl ⟨rfl, by simp, _, rfl⟩) (hb hby own_d10_40) (by decide) (by decide) ?_
   exact ⟨_, rfl, own_add1 hj (by omega), N4, hh4⟩
set_option maxRecDepth 65536 in
set_option maxHeartbeats 40000000 in
theorem own_send (l : Launch) (Z : State) (a0 : Array Value) (hw : ∀ d ∈ tables_1, d.before a0 Z = true) (ws : List Jvm.Cond) (x a a11 : Addr) (n k : Nat) (j nn zc : Int32) (f : Nat → Int32) (V : Prop) (sv : Value) (hsv : sv.isRef = true) (k' : Nat) (h0 : Heap) (n0 : Nat) (Z0 : n0 ≤ h0.size) (hk' : k' < n) (hsk : own_skip V f k k') (hj : j.toInt = (k : Int)) (hn : nn.toInt = (n : Int)) (hzc : ¬ zc = (0 : Int32)) (hV : V ↔ a = a11) (hS : own_Str Z h0 x n f) (E_a : Exa Z h0 a "com/example/cadmus/cadmus/XmlVersion") (S_11 : Sta Z h0 "com/example/cadmus/cadmus/XmlVersion" "XML_1_1" "Lcom/example/cadmus/cadmus/XmlVersion;" (.ref a11)) (S_cs : Sta Z h0 "java/lang/String" "COMPACT_STRINGS" "Z" (.int zc)) (S_sf : Sta Z h0 "jdk/internal/util/Preconditions" "SIOOBE_FORMATTER" "Ljava/util/function/BiFunction;" sv) (S_ad : Sta Z h0 "java/lang/StringUTF16" "$assertionsDisabled" "Z" (.int (1 : Int32))) (S_hi : Sta Z h0 "java/lang/StringUTF16" "HI_BYTE_SHIFT" "I" (.int (0 : Int32))) (S_lo : Sta Z h0 "java/lang/StringUTF16" "LO_BYTE_SHIFT" "I" (.int (8 : Int32))) :
    own_Met l Z (⟨"com/example/cadmus/cadmus/Markup", "spaceEnd", "(Ljava/lang/String;ILcom/example/cadmus/cadmus/XmlVersion;)I"⟩ : MethodName) prog_6_method_23_code 4 (some .int) ws ({ frames := 5, cells := 0, slots := 0, locals := 67 } : Room) #[(.ref x), (.int j), (.ref a)] h0 (fun v h L => ∃ r : Int32, v = some (.int r) ∧ r.toInt = ((k' : Nat) : Int) ∧ Fr n0 L ∧ h = h0) := by
  refine own_body own_pn35 (fun m => mkF m 0 #[rv x, iv j, rv a, .unset] []) (fun m => own_ef_own_send m x j a) ?_
  intro p e s m below meth c T0 hx hby hml hlk hrt hZ hown hnm X0 e0
  have hown : s.vm.findClass "com/example/cadmus/cadmus/Markup" = some m.cls := hown
  have N0 := Fr.nil n0
  have hn31 := own_Str31 hS
  rcases hsk with ⟨hk1, hs0⟩ | ⟨hk1, hs0, hs1⟩
  ·
   have hk0 : k < n := by omega
   refine own_g (own_F T0 m 1 #[rv x, iv j, rv a, .unset] [(.int j)]) (fun _ z_ => XS.iloadN X0.here hx rfl (hb hby own_d19_0) rfl z_) ?_
   refine own_g (own_F T0 m 2 #[rv x, iv j, rv a, iv j] []) (fun _ z_ => XS.istoreN X0.here hx rfl (hb hby own_d19_1) rfl (l' := #[rv x, iv j, rv a, iv j]) rfl z_) ?_
   refine own_g (own_F T0 m 3 #[rv x, iv j, rv a, iv j] [(.int j)]) (fun _ z_ => XS.iloadN X0.here hx rfl (hb hby own_d19_2) rfl z_) ?_
   refine own_g (own_F T0 m 4 #[rv x, iv j, rv a, iv j] [(.ref x), (.int j)]) (fun _ z_ => XS.aloadN X0.here hx rfl (hb hby own_d19_3) rfl rfl z_) ?_
   refine own_callV (C := "java/lang/String") (y := (⟨"java/lang/String", "length", "()I"⟩ : MethodName)) (b := x) X0 hx hZ hown (own_w hw 108) (own_w hw 109) (own_w hw 111) (own_w hw 110) (own_w hw 112) (own_w hw 18) (by decide) e0 (own_StrE hS) (hM := own_slen l Z a0 hw [] x n nn zc f h0 n0 Z0 hn hzc hS S_cs) (W := 1) (pc := 4) (Ls := #[rv x, iv j, rv a, iv j]) (argsL := []) (rest := [(.int j)]) (st0 := [(.ref x), (.int j)]) (by rw [hml]; rfl) (lenOf own_pd20 rfl) rfl (Nat.le_of_eq rfl) (hb hby own_d19_4) (by decide) (by decide) (by decide) (by decide) ?_
   intro v1 T1 L1 s X1 hZ hown hI1 hvm1 hhp1 hWw1 hQ1
   obtain ⟨rfl, Nq1, hh1⟩ := hQ1
   have N1 := Fr.app N0 Nq1
   show own_Ends p e below s _ _ _ (own_F T1 m 7 #[rv x, iv j, rv a, iv j] [(.int nn), (.int j)])
   refine own_g (own_F T1 m 10 #[rv x, iv j, rv a, iv j] []) (fun _ z_ => XS.icmpNo X1.here hx rfl (hb hby own_d19_7) rfl (tlt (own_jlt hj hn hk0)).2.1 z_) ?_
   refine own_g (own_F T1 m 11 #[rv x, iv j, rv a, iv j] [(.ref a)]) (fun _ z_ => XS.aloadN X1.here hx rfl (hb hby own_d19_10) rfl rfl z_) ?_
   refine own_g (own_F T1 m 12 #[rv x, iv j, rv a, iv j] [(.ref x), (.ref a)]) (fun _ z_ => XS.aloadN X1.here hx rfl (hb hby own_d19_11) rfl rfl z_) ?_
   refine own_g (own_F T1 m 13 #[rv x, iv j, rv a, iv j] [(.int j), (.ref x), (.ref a)]) (fun _ z_ => XS.iloadN X1.here hx rfl (hb hby own_d19_12) rfl z_) ?_
   refine own_callV (C := "java/lang/String") (y := (⟨"java/lang/String", "charAt", "(I)C"⟩ : MethodName)) (b := x) X1 hx hZ hown (own_w hw 62) (own_w hw 63) (own_w hw 65) (own_w hw 64) (own_w hw 66) (own_w hw 18) (by decide) hh1 (own_StrE hS) (hM := own_charAt l Z a0 hw [] x j zc k n f sv hsv h0 n0 Z0 hj hk0 hzc hS S_cs S_sf S_ad S_hi S_lo) (W := 1) (pc := 13) (Ls := #[rv x, iv j, rv a, iv j]) (argsL := [(.int j)]) (rest := [(.ref a)]) (st0 := [(.int j), (.ref x), (.ref a)]) (by rw [hml]; rfl) (lenOf own_pd21 rfl) rfl (Nat.le_of_eq rfl) (hb hby own_d19_13) (by decide) (by decide) (by decide) (by decide) ?_
   intro v2 T2 L2 s X2 hZ hown hI2 hvm2 hhp2 hWw2 hQ2
   obtain ⟨rfl, Nq2, hh2⟩ := hQ2
   have N2 := Fr.app N1 Nq2
   show own_Ends p e below s _ _ _ (own_F T2 m 16 #[rv x, iv j, rv a, iv j] [(.int (f k)), (.ref a)])
   refine own_callV (C := "com/example/cadmus/cadmus/XmlVersion") (y := (⟨"com/example/cadmus/cadmus/XmlVersion", "isSpace", "(C)Z"⟩ : MethodName)) (b := a) X2 hx hZ hown (own_w hw 84) (own_w hw 85) (own_w hw 87) (own_w hw 86) (own_w hw 88) (own_w hw 6) (by decide) hh2 E_a (hM := own_isC l Z a0 hw [] a a11 (f k) (0 : Int32) V h0 n0 Z0 hV S_11 (Or.inr ⟨rfl, hs0⟩)) (W := 0) (pc := 16) (Ls := #[rv x, iv j, rv a, iv j]) (argsL := [(.int (f k))]) (rest := []) (st0 := [(.int (f k)), (.ref a)]) (by rw [hml]; rfl) (lenOf own_pd22 rfl) rfl (Nat.le_of_eq rfl) (hb hby own_d19_16) (by decide) (by decide) (by decide) (by decide) ?_
   intro v3 T3 L3 s X3 hZ hown hI3 hvm3 hhp3 hWw3 hQ3
   obtain ⟨rfl, Nq3, hh3⟩ := hQ3
   have N3 := Fr.app N2 Nq3
   show own_Ends p e below s _ _ _ (own_F T3 m 19 #[rv x, iv j, rv a, iv j] [(.int 0)])
   refine own_g (own_F T3 m 28 #[rv x, iv j, rv a, iv j] []) (fun _ z_ => XS.ifYes X3.here hx rfl (pc0 := 19) (pc' := 28) rfl (hb hby own_d19_19) rfl ((if0 _ _).trans (teq (by decide : ((0 : Int32) = (0 : Int32)))).1) (by decide) (by decide) z_) ?_
   refine own_g (own_F T3 m 29 #[rv x, iv j, rv a, iv j] [(.int j)]) (fun _ z_ => XS.iloadN X3.here hx rfl (hb hby own_d19_28) rfl z_) ?_
   refine own_ret (t := .int) X3 hx hlk hrt rfl (Or.inl ⟨rfl, by simp, _, rfl⟩) (hb hby own_d19_29) (by decide) (by decide) ?_
   exact ⟨_, rfl, (by rw [hk1]; exact hj), N3, hh3⟩
  ·
   have hk0 : k < n := by omega
   have hk : k + 1 < n := by omega
   refine own_g (own_F T0 m 1 #[rv x, iv j, rv a, .unset] [(.int j)]) (fun _ z_ => XS.iloadN X0.here hx rfl (hb hby own_d19_0) rfl z_) ?_
   refine own_g (own_F T0 m 2 #[rv x, iv j, rv a, iv j] []) (fun _ z_ => XS.istoreN X0.here hx rfl (hb hby own_d19_1) rfl (l' := #[rv x, iv j, rv a, iv j]) rfl z_) ?_
   refine own_g (own_F T0 m 3 #[rv x, iv j, rv a, iv j] [(.int j)]) (fun _ z_ => XS.iloadN X0.here hx rfl (hb hby own_d19_2) rfl z_) ?_
   refine own_g (own_F T0 m 4 #[rv x, iv j, rv a, iv j] [(.ref x), (.int j)]) (fun _ z_ => XS.aloadN X0.here hx rfl (hb hby own_d19_3) rfl rfl z_) ?_
   refine own_callV (C := "java/lang/String") (y := (⟨"java/lang/String", "length", "()I"⟩ : MethodName)) (b := x) X0 hx hZ hown (own_w hw 108) (own_w hw 109) (own_w hw 111) (own_w hw 110) (own_w hw 112) (own_w hw 18) (by decide) e0 (own_StrE hS) (hM := own_slen l Z a0 hw [] x n nn zc f h0 n0 Z0 hn hzc hS S_cs) (W := 1) (pc := 4) (Ls := #[rv x, iv j, rv a, iv j]) (argsL := []) (rest := [(.int j)]) (st0 := [(.ref x), (.int j)]) (by rw [hml]; rfl) (lenOf own_pd20 rfl) rfl (Nat.le_of_eq rfl) (hb hby own_d19_4) (by decide) (by decide) (by decide) (by decide) ?_
   intro v4 T4 L4 s X4 hZ hown hI4 hvm4 hhp4 hWw4 hQ4
   obtain ⟨rfl, Nq4, hh4⟩ := hQ4
   have N4 := Fr.app N0 Nq4
   show own_Ends p e below s _ _ _ (own_F T4 m 7 #[rv x, iv j, rv a, iv j] [(.int nn), (.int j)])
   refine own_g (own_F T4 m 10 #[rv x, iv j, rv a, iv j] []) (fun _ z_ => XS.icmpNo X4.here hx rfl (hb hby own_d19_7) rfl (tlt (own_jlt hj hn hk0)).2.1 z_) ?_
   refine own_g (own_F T4 m 11 #[rv x, iv j, rv a, iv j] [(.ref a)]) (fun _ z_ => XS.aloadN X4.here hx rfl (hb hby own_d19_10) rfl rfl z_) ?_
   refine own_g (own_F T4 m 12 #[rv x, iv j, rv a, iv j] [(.ref x), (.ref a)]) (fun _ z_ => XS.aloadN X4.here hx rfl (hb hby own_d19_11) rfl rfl z_) ?_
   refine own_g (own_F T4 m 13 #[rv x, iv j, rv a, iv j] [(.int j), (.ref x), (.ref a)]) (fun _ z_ => XS.iloadN X4.here hx rfl (hb hby own_d19_12) rfl z_) ?_
   refine own_callV (C := "java/lang/String") (y := (⟨"java/lang/String", "charAt", "(I)C"⟩ : MethodName)) (b := x) X4 hx hZ hown (own_w hw 62) (own_w hw 63) (own_w hw 65) (own_w hw 64) (own_w hw 66) (own_w hw 18) (by decide) hh4 (own_StrE hS) (hM := own_charAt l Z a0 hw [] x j zc k n f sv hsv h0 n0 Z0 hj hk0 hzc hS S_cs S_sf S_ad S_hi S_lo) (W := 1) (pc := 13) (Ls := #[rv x, iv j, rv a, iv j]) (argsL := [(.int j)]) (rest := [(.ref a)]) (st0 := [(.int j), (.ref x), (.ref a)]) (by rw [hml]; rfl) (lenOf own_pd21 rfl) rfl (Nat.le_of_eq rfl) (hb hby own_d19_13) (by decide) (by decide) (by decide) (by decide) ?_
   intro v5 T5 L5 s X5 hZ hown hI5 hvm5 hhp5 hWw5 hQ5
   obtain ⟨rfl, Nq5, hh5⟩ := hQ5
   have N5 := Fr.app N4 Nq5
   show own_Ends p e below s _ _ _ (own_F T5 m 16 #[rv x, iv j, rv a, iv j] [(.int (f k)), (.ref a)])
   refine own_callV (C := "com/example/cadmus/cadmus/XmlVersion") (y := (⟨"com/example/cadmus/cadmus/XmlVersion", "isSpace", "(C)Z"⟩ : MethodName)) (b := a) X5 hx hZ hown (own_w hw 84) (own_w hw 85) (own_w hw 87) (own_w hw 86) (own_w hw 88) (own_w hw 6) (by decide) hh5 E_a (hM := own_isC l Z a0 hw [] a a11 (f k) (1 : Int32) V h0 n0 Z0 hV S_11 (Or.inl ⟨rfl, hs0⟩)) (W := 0) (pc := 16) (Ls := #[rv x, iv j, rv a, iv j]) (argsL := [(.int (f k))]) (rest := []) (st0 := [(.int (f k)), (.ref a)]) (by rw [hml]; rfl) (lenOf own_pd22 rfl) rfl (Nat.le_of_eq rfl) (hb hby own_d19_16) (by decide) (by decide) (by decide) (by decide) ?_
   intro v6 T6 L6 s X6 hZ hown hI6 hvm6 hhp6 hWw6 hQ6
   obtain ⟨rfl, Nq6, hh6⟩ := hQ6
   have N6 := Fr.app N5 Nq6
   show own_Ends p e below s _ _ _ (own_F T6 m 19 #[rv x, iv j, rv a, iv j] [(.int 1)])
   refine own_g (own_F T6 m 22 #[rv x, iv j, rv a, iv j] []) (fun _ z_ => XS.ifNo X6.here hx rfl (hb hby own_d19_19) rfl ((if0 _ _).trans (feq (by decide : ¬ ((1 : Int32) = (0 : Int32)))).1) z_) ?_
   refine own_g (own_F T6 m 25 #[rv x, iv j, rv a, iv (j + (1 : Int32))] []) (fun _ z_ => XS.iinc X6.here hx rfl (hb hby own_d19_22) rfl (l' := #[rv x, iv j, rv a, iv (j + (1 : Int32))]) rfl z_) ?_
   refine own_g (own_F T6 m 2 #[rv x, iv j, rv a, iv (j + (1 : Int32))] []) (fun _ z_ => XS.goto X6.here hx rfl (pc0 := 25) (pc' := 2) rfl (hb hby own_d19_25) (by decide) (by decide) z_) ?_
   refine own_g (own_F T6 m 3 #[rv x, iv j, rv a, iv (j + (1 : Int32))] [(.int (j + (1 : Int32)))]) (fun _ z_ => XS.iloadN X6.here hx rfl (hb hby own_d19_2) rfl z_) ?_
   refine own_g (own_F T6 m 4 #[rv x, iv j, rv a, iv (j + (1 : Int32))] [(.ref x), (.int (j + (1 : Int32)))]) (fun _ z_ => XS.aloadN X6.here hx rfl (hb hby own_d19_3) rfl rfl z_) ?_
   refine own_callV (C := "java/lang/String") (y := (⟨"java/lang/String", "length", "()I"⟩ : MethodName)) (b := x) X6 hx hZ hown (own_w hw 108) (own_w hw 109) (own_w hw 111) (own_w hw 110) (own_w hw 112) (own_w hw 18) (by decide) hh6 (own_StrE hS) (hM := own_slen l Z a0 hw [] x n nn zc f h0 n0 Z0 hn hzc hS S_cs) (W := 1) (pc := 4) (Ls := #[rv x, iv j, rv a, iv (j + (1 : Int32))]) (argsL := []) (rest := [(.int (j + (1 : Int32)))]) (st0 := [(.ref x), (.int (j + (1 : Int32)))]) (by rw [hml]; rfl) (lenOf own_pd20 rfl) rfl (Nat.le_of_eq rfl) (hb hby own_d19_4) (by decide) (by decide) (by decide) (by decide) ?_
   intro v7 T7 L7 s X7 hZ hown hI7 hvm7 hhp7 hWw7 hQ7
   obtain ⟨rfl, Nq7, hh7⟩ := hQ7
   have N7 := Fr.app N6 Nq7
   show own_Ends p e below s _ _ _ (own_F T7 m 7 #[rv x, iv j, rv a, iv (j + (1 : Int32))] [(.int nn), (.int (j + (1 : Int32)))])
   refine own_g (own_F T7 m 10 #[rv x, iv j, rv a, iv (j + (1 : Int32))] []) (fun _ z_ => XS.icmpNo X7.here hx rfl (hb hby own_d19_7) rfl (tlt (own_jlt (own_add1 hj (by omega)) hn hk)).2.1 z_) ?_
   refine own_g (own_F T7 m 11 #[rv x, iv j, rv a, iv (j + (1 : Int32))] [(.ref a)]) (fun _ z_ => XS.aloadN X7.here hx rfl (hb hby own_d19_10) rfl rfl z_) ?_
   refine own_g (own_F T7 m 12 #[rv x, iv j, rv a, iv (j + (1 : Int32))] [(.ref x), (.ref a)]) (fun _ z_ => XS.aloadN X7.here hx rfl (hb hby own_d19_11) rfl rfl z_) ?_
   refine own_g (own_F T7 m 13 #[rv x, iv j, rv a, iv (j + (1 : Int32))] [(.int (j + (1 : Int32))), (.ref x), (.ref a)]) (fun _ z_ => XS.iloadN X7.here hx rfl (hb hby own_d19_12) rfl z_) ?_
   refine own_callV (C := "java/lang/String") (y := (⟨"java/lang/String", "charAt", "(I)C"⟩ : MethodName)) (b := x) X7 hx hZ hown (own_w hw 62) (own_w hw 63) (own_w hw 65) (own_w hw 64) (own_w hw 66) (own_w hw 18) (by decide) hh7 (own_StrE hS) (hM := own_charAt l Z a0 hw [] x (j + (1 : Int32)) zc (k + 1) n f sv hsv h0 n0 Z0 (own_add1 hj (by omega)) hk hzc hS S_cs S_sf S_ad S_hi S_lo) (W := 1) (pc := 13) (Ls := #[rv x, iv j, rv a, iv (j + (1 : Int32))]) (argsL := [(.int (j + (1 : Int32)))]) (rest := [(.ref a)]) (st0 := [(.int (j + (1 : Int32))), (.ref x), (.ref a)]) (by rw [hml]; rfl) (lenOf own_pd21 rfl) rfl (Nat.le_of_eq rfl) (hb hby own_d19_13) (by decide) (by decide) (by decide) (by decide) ?_
   intro v8 T8 L8 s X8 hZ hown hI8 hvm8 hhp8 hWw8 hQ8
   obtain ⟨rfl, Nq8, hh8⟩ := hQ8
   have N8 := Fr.app N7 Nq8
   show own_Ends p e below s _ _ _ (own_F T8 m 16 #[rv x, iv j, rv a, iv (j + (1 : Int32))] [(.int (f (k + 1))), (.ref a)])
   refine own_callV (C := "com/example/cadmus/cadmus/XmlVersion") (y := (⟨"com/example/cadmus/cadmus/XmlVersion", "isSpace", "(C)Z"⟩ : MethodName)) (b := a) X8 hx hZ hown (own_w hw 84) (own_w hw 85) (own_w hw 87) (own_w hw 86) (own_w hw 88) (own_w hw 6) (by decide) hh8 E_a (hM := own_isC l Z a0 hw [] a a11 (f (k + 1)) (0 : Int32) V h0 n0 Z0 hV S_11 (Or.inr ⟨rfl, hs1⟩)) (W := 0) (pc := 16) (Ls := #[rv x, iv j, rv a, iv (j + (1 : Int32))]) (argsL := [(.int (f (k + 1)))]) (rest := []) (st0 := [(.int (f (k + 1))), (.ref a)]) (by rw [hml]; rfl) (lenOf own_pd22 rfl) rfl (Nat.le_of_eq rfl) (hb hby own_d19_16) (by decide) (by decide) (by decide) (by decide) ?_
   intro v9 T9 L9 s X9 hZ hown hI9 hvm9 hhp9 hWw9 hQ9
   obtain ⟨rfl, Nq9, hh9⟩ := hQ9
   have N9 := Fr.app N8 Nq9
   show own_Ends p e below s _ _ _ (own_F T9 m 19 #[rv x, iv j, rv a, iv (j + (1 : Int32))] [(.int 0)])
   refine own_g (own_F T9 m 28 #[rv x, iv j, rv a, iv (j + (1 : Int32))] []) (fun _ z_ => XS.ifYes X9.here hx rfl (pc0 := 19) (pc' := 28) rfl (hb hby own_d19_19) rfl ((if0 _ _).trans (teq (by decide : ((0 : Int32) = (0 : Int32)))).1) (by decide) (by decide) z_) ?_
   refine own_g (own_F T9 m 29 #[rv x, iv j, rv a, iv (j + (1 : Int32))] [(.int (j + (1 : Int32)))]) (fun _ z_ => XS.iloadN X9.here hx rfl (hb hby own_d19_28) rfl z_) ?_
   refine own_ret (t := .int) X9 hx hlk hrt rfl (Or.inl ⟨rfl, by simp, _, rfl⟩) (hb hby own_d19_29) (by decide) (by decide) ?_
   exact ⟨_, rfl, (by rw [hk1]; exact own_add1 hj (by omega)), N9, hh9⟩
set_option maxRecDepth 65536 in
set_option maxHeartbeats 40000000 in
theorem own_na0 (l : Launch) (Z : State) (a0 : Array Value) (hw : ∀ d ∈ tables_1, d.before a0 Z = true) (ws : List Jvm.Cond) (o x a a11 : Addr) (n k : Nat) (j nn zc : Int32) (f : Nat → Int32) (V : Prop) (sv : Value) (hsv : sv.isRef = true) (k1 : Nat) (h0 : Heap) (n0 : Nat) (Z0 : n0 ≤ h0.size) (hj : j.toInt = (k : Int)) (hn : nn.toInt = (n : Int)) (hzc : ¬ zc = (0 : Int32)) (hV : V ↔ a = a11) (hS : own_Str Z h0 x n f) (E_a : Exa Z h0 a "com/example/cadmus/cadmus/XmlVersion") (S_11 : Sta Z h0 "com/example/cadmus/cadmus/XmlVersion" "XML_1_1" "Lcom/example/cadmus/cadmus/XmlVersion;" (.ref a11)) (S_cs : Sta Z h0 "java/lang/String" "COMPACT_STRINGS" "Z" (.int zc)) (S_sf : Sta Z h0 "jdk/internal/util/Preconditions" "SIOOBE_FORMATTER" "Ljava/util/function/BiFunction;" sv) (S_ad : Sta Z h0 "java/lang/StringUTF16" "$assertionsDisabled" "Z" (.int (1 : Int32))) (S_hi : Sta Z h0 "java/lang/StringUTF16" "HI_BYTE_SHIFT" "I" (.int (0 : Int32))) (S_lo : Sta Z h0 "java/lang/StringUTF16" "LO_BYTE_SHIFT" "I" (.int (8 : Int32))) (E_o : Exa Z h0 o "com/example/cadmus/cadmus/Markup$StartTag") (F_t : Fld Z h0 o "com/example/cadmus/cadmus/Markup$StartTag" "text" "Ljava/lang/String;" (.ref x)) (F_at : Fld Z h0 o "com/example/cadmus/cadmus/Markup$StartTag" "at" "I" (.int j)) (F_ver : Fld Z h0 o "com/example/cadmus/cadmus/Markup$StartTag" "version" "Lcom/example/cadmus/cadmus/XmlVersion;" (.ref a)) (hk1 : k1 < n) (hsk : own_skip V f k k1) (hc1 : f k1 = (62 : Int32) ∨ f k1 = (47 : Int32)) (g_o : n0 ≤ o) :
    own_Met l Z (⟨"com/example/cadmus/cadmus/Markup$StartTag", "nextAttribute", "()Z"⟩ : MethodName) prog_11_method_4_code 2 (some .boolean) ws ({ frames := 6, cells := 0, slots := 0, locals := 83 } : Room) #[(.ref o)] h0 (fun v h L => ∃ r : Int32, v = some (.int (0 : Int32)) ∧ r.toInt = ((k1 : Nat) : Int) ∧ Fr n0 L ∧ Keep h0 h [o] ∧ Fld Z h o "com/example/cadmus/cadmus/Markup$StartTag" "text" "Ljava/lang/String;" (.ref x) ∧ Fld Z h o "com/example/cadmus/cadmus/Markup$StartTag" "at" "I" (.int r) ∧ Fld Z h o "com/example/cadmus/cadmus/Markup$StartTag" "version" "Lcom/example/cadmus/cadmus/XmlVersion;" (.ref a)) := by
  refine own_body own_pn36 (fun m => mkF m 0 #[rv o, .unset] []) (fun m => own_ef_own_na0 m o) ?_
  intro p e s m below meth c T0 hx hby hml hlk hrt hZ hown hnm X0 e0
  have hown : s.vm.findClass "com/example/cadmus/cadmus/Markup$StartTag" = some m.cls := hown
  have N0 := Fr.nil n0
  have hn31 := own_Str31 hS
  refine own_g (own_F T0 m 1 #[rv o, .unset] [(.ref o)]) (fun _ z_ => XS.aloadN X0.here hx rfl (hb hby own_d18_0) rfl rfl z_) ?_
  refine own_g (own_F T0 m 2 #[rv o, .unset] [(.ref o), (.ref o)]) (fun _ z_ => XS.aloadN X0.here hx rfl (hb hby own_d18_1) rfl rfl z_) ?_
  obtain ⟨T1, X1, e1, st1⟩ := getF X0 hx hZ hown (host := "") (Or.inl (own_w hw 56)) Via.refl e0 F_t (g := (mkF m 2 #[rv o, .unset] [(.ref o), (.ref o)])) rfl rfl (hb hby own_d18_2)
  refine own_pre (S' := (own_F T1 m 5 #[rv o, .unset] [(.ref x), (.ref o)])) st1 ?_
  refine own_g (own_F T1 m 6 #[rv o, .unset] [(.ref o), (.ref x), (.ref o)]) (fun _ z_ => XS.aloadN X1.here hx rfl (hb hby own_d18_5) rfl rfl z_) ?_
  obtain ⟨T2, X2, e2, st2⟩ := getF X1 hx hZ hown (host := "") (Or.inl (own_w hw 91)) Via.refl e1 F_at (g := (mkF m 6 #[rv o, .unset] [(.ref o), (.ref x), (.ref o)])) rfl rfl (hb hby own_d18_6)
  refine own_pre (S' := (own_F T2 m 9 #[rv o, .unset] [(.int j), (.ref x), (.ref o)])) st2 ?_
  refine own_g (own_F T2 m 10 #[rv o, .unset] [(.ref o), (.int j), (.ref x), (.ref o)]) (fun _ z_ => XS.aloadN X2.here hx rfl (hb hby own_d18_9) rfl rfl z_) ?_
  obtain ⟨T3, X3, e3, st3⟩ := getF X2 hx hZ hown (host := "") (Or.inl (own_w hw 27)) Via.refl e2 F_ver (g := (mkF m 10 #[rv o, .unset] [(.ref o), (.int j), (.ref x), (.ref o)])) rfl rfl (hb hby own_d18_10)
  refine own_pre (S' := (own_F T3 m 13 #[rv o, .unset] [(.ref a), (.int j), (.ref x), (.ref o)])) st3 ?_
  refine own_callN (y := (⟨"com/example/cadmus/cadmus/Markup", "spaceEnd", "(Ljava/lang/String;ILcom/example/cadmus/cadmus/XmlVersion;)I"⟩ : MethodName)) X3 hx hZ hown (own_w hw 105) (own_w hw 106) (own_w hw 60) (own_w hw 107) (by decide) e3 (hM := own_send l Z a0 hw [] x a a11 n k j nn zc f V sv hsv k1 h0 n0 Z0 hk1 hsk hj hn hzc hV hS E_a S_11 S_cs S_sf S_ad S_hi S_lo) (W := 1) (pc := 13) (Ls := #[rv o, .unset]) (argsL := [(.ref x), (.int j), (.ref a)]) (rest := [(.ref o)]) (st0 := [(.ref a), (.int j), (.ref x), (.ref o)]) (by rw [hml]; rfl) (lenOf own_pd23 rfl) rfl (Nat.le_of_eq rfl) (hb hby own_d18_13) (by decide) (by decide) (by decide) (by decide) ?_
  intro v4 T4 L4 s X4 hZ hown hI4 hvm4 hhp4 hWw4 hQ4
  obtain ⟨r1, rfl, hp_r1, Nq4, hh4⟩ := hQ4
  have N4 := Fr.app N0 Nq4
  show own_Ends p e below s _ _ _ (own_F T4 m 16 #[rv o, .unset] [(.int r1), (.ref o)])
  obtain ⟨T5, h5, X5, e5, W5, st5⟩ := putF X4 hx hZ hown (host := "") (Or.inl (own_w hw 91)) Via.refl hh4 F_at E_o (Or.inl (own_w hw 92)) (own_w hw 9) (ty := .int) (by decide) rfl rfl (g := (mkF m 16 #[rv o, .unset] [(.int r1), (.ref o)])) rfl rfl (hb hby own_d18_16)
  have N5 := Fr.snoc X5 N4 g_o
  have Fw5 := F_at.same W5
  refine own_pre (S' := (own_F T5 m 19 #[rv o, .unset] [])) st5 ?_
  refine own_g (own_F T5 m 20 #[rv o, .unset] [(.ref o)]) (fun _ z_ => XS.aloadN X5.here hx rfl (hb hby own_d18_19) rfl rfl z_) ?_
  obtain ⟨T6, X6, e6, st6⟩ := getF X5 hx hZ hown (host := "") (Or.inl (own_w hw 56)) Via.refl e5 (F_t.other W5 (Or.inr (slot_ne (C := "com/example/cadmus/cadmus/Markup$StartTag") (Or.inl (own_w hw 57)) (Or.inl (own_w hw 92)) (by decide) (t := (.object "java/lang/String")) (t' := .int) (by decide) (by decide)))) (g := (mkF m 20 #[rv o, .unset] [(.ref o)])) rfl rfl (hb hby own_d18_20)
  refine own_pre (S' := (own_F T6 m 23 #[rv o, .unset] [(.ref x)])) st6 ?_
  refine own_g (own_F T6 m 24 #[rv o, .unset] [(.ref o), (.ref x)]) (fun _ z_ => XS.aloadN X6.here hx rfl (hb hby own_d18_23) rfl rfl z_) ?_
  obtain ⟨T7, X7, e7, st7⟩ := getF X6 hx hZ hown (host := "") (Or.inl (own_w hw 91)) Via.refl e6 Fw5 (g := (mkF m 24 #[rv o, .unset] [(.ref o), (.ref x)])) rfl rfl (hb hby own_d18_24)
  refine own_pre (S' := (own_F T7 m 27 #[rv o, .unset] [(.int r1), (.ref x)])) st7 ?_
  refine own_callV (C := "java/lang/String") (y := (⟨"java/lang/String", "charAt", "(I)C"⟩ : MethodName)) (b := x) X7 hx hZ hown (own_w hw 118) (own_w hw 63) (own_w hw 65) (own_w hw 64) (own_w hw 66) (own_w hw 18) (by decide) e7 ((own_StrE hS).wr W5) (hM := own_charAt l Z a0 hw [] x r1 zc k1 n f sv hsv h5 n0 (Nat.le_trans Z0 (Nat.le_of_eq W5.size.symm)) hp_r1 (by omega) hzc (own_Str.keepO hS (Keep.of_wr W5) E_o (by decide) (own_w hw 9)) (S_cs.wr W5) (S_sf.wr W5) (S_ad.wr W5) (S_hi.wr W5) (S_lo.wr W5)) (W := 0) (pc := 27) (Ls := #[rv o, .unset]) (argsL := [(.int r1)]) (rest := []) (st0 := [(.int r1), (.ref x)]) (by rw [hml]; rfl) (lenOf own_pd21 rfl) rfl (Nat.le_of_eq rfl) (hb hby own_d18_27) (by decide) (by decide) (by decide) (by decide) ?_
  intro v8 T8 L8 s X8 hZ hown hI8 hvm8 hhp8 hWw8 hQ8
  obtain ⟨rfl, Nq8, hh8⟩ := hQ8
  have N8 := Fr.app N5 Nq8
  show own_Ends p e below s _ _ _ (own_F T8 m 30 #[rv o, .unset] [(.int (f k1))])
  refine own_g (own_F T8 m 31 #[rv o, iv (f k1)] []) (fun _ z_ => XS.istoreN X8.here hx rfl (hb hby own_d18_30) rfl (l' := #[rv o, iv (f k1)]) rfl z_) ?_
  refine own_g (own_F T8 m 32 #[rv o, iv (f k1)] [(.int (f k1))]) (fun _ z_ => XS.iloadN X8.here hx rfl (hb hby own_d18_31) rfl z_) ?_
  refine own_g (own_F T8 m 34 #[rv o, iv (f k1)] [(.int 62), (.int (f k1))]) (fun _ z_ => XS.bipush X8.here hx rfl (hb hby own_d18_32) z_) ?_
  by_cases c34 : (f k1) = (62 : Int32)
  · -- pc 34: (f k1) = (62 : Int32)
   refine own_g (own_F T8 m 43 #[rv o, iv (f k1)] []) (fun _ z_ => XS.icmpYes X8.here hx rfl (pc0 := 34) (pc' := 43) rfl (hb hby own_d18_34) rfl (teq c34).1 (by decide) (by decide) z_) ?_
   refine own_g (own_F T8 m 44 #[rv o, iv (f k1)] [(.int 0)]) (fun _ z_ => XS.iconst X8.here hx rfl (hb hby own_d18_43) z_) ?_
   refine own_ret (t := .boolean) X8 hx hlk hrt rfl (Or.inl ⟨rfl, by simp, _, rfl⟩) (hb hby own_d18_44) (by decide) (by decide) ?_
   show ∃ r : Int32, _ ∧ _ ∧ Fr n0 _ ∧ Keep h0 T8.heap [o] ∧ _
   rw [hh8]
   exact ⟨r1, rfl, hp_r1, N8, ((Keep.refl _ _).wr W5 (Or.inl (List.mem_of_getElem? (i := 0) rfl))), (F_t.other W5 (Or.inr (slot_ne (C := "com/example/cadmus/cadmus/Markup$StartTag") (Or.inl (own_w hw 57)) (Or.inl (own_w hw 92)) (by decide) (t := (.object "java/lang/String")) (t' := .int) (by decide) (by decide)))), Fw5, (F_ver.other W5 (Or.inr (slot_ne (C := "com/example/cadmus/cadmus/Markup$StartTag") (Or.inr (own_w hw 28)) (Or.inl (own_w hw 92)) (by decide) (t := (.object "com/example/cadmus/cadmus/XmlVersion")) (t' := .int) (by decide) (by decide))))⟩
  · -- pc 34: not (f k1) = (62 : Int32)
   refine own_g (own_F T8 m 37 #[rv o, iv (f k1)] []) (fun _ z_ => XS.icmpNo X8.here hx rfl (hb hby own_d18_34) rfl (feq c34).1 z_) ?_
   refine own_g (own_F T8 m 38 #[rv o, iv (f k1)] [(.int (f k1))]) (fun _ z_ => XS.iloadN X8.here hx rfl (hb hby own_d18_37) rfl z_) ?_
   refine own_g (own_F T8 m 40 #[rv o, iv (f k1)] [(.int 47), (.int (f k1))]) (fun _ z_ => XS.bipush X8.here hx rfl (hb hby own_d18_38) z_) ?_
   by_cases c40 : (f k1) = (47 : Int32)
   · -- pc 40: (f k1) = (47 : Int32)
    refine own_g (own_F T8 m 43 #[rv o, iv (f k1)] []) (fun _ z_ => XS.icmpNo X8.here hx rfl (hb hby own_d18_40) rfl (teq c40).2 z_) ?_
    refine own_g (own_F T8 m 44 #[rv o, iv (f k1)] [(.int 0)]) (fun _ z_ => XS.iconst X8.here hx rfl (hb hby own_d18_43) z_) ?_
    refine own_ret (t := .boolean) X8 hx hlk hrt rfl (Or.inl ⟨rfl, by simp, _, rfl⟩) (hb hby own_d18_44) (by decide) (by decide) ?_
    show ∃ r : Int32, _ ∧ _ ∧ Fr n0 _ ∧ Keep h0 T8.heap [o] ∧ _
    rw [hh8]
    exact ⟨r1, rfl, hp_r1, N8, ((Keep.refl _ _).wr W5 (Or.inl (List.mem_of_getElem? (i := 0) rfl))), (F_t.other W5 (Or.inr (slot_ne (C := "com/example/cadmus/cadmus/Markup$StartTag") (Or.inl (own_w hw 57)) (Or.inl (own_w hw 92)) (by decide) (t := (.object "java/lang/String")) (t' := .int) (by decide) (by decide)))), Fw5, (F_ver.other W5 (Or.inr (slot_ne (C := "com/example/cadmus/cadmus/Markup$StartTag") (Or.inr (own_w hw 28)) (Or.inl (own_w hw 92)) (by decide) (t := (.object "com/example/cadmus/cadmus/XmlVersion")) (t' := .int) (by decide) (by decide))))⟩
   · -- pc 40: not (f k1) = (47 : Int32)
    refine own_g (own_F T8 m 45 #[rv o, iv (f k1)] []) (fun _ z_ => XS.icmpYes X8.here hx rfl (pc0 := 40) (pc' := 45) rfl (hb hby own_d18_40) rfl (feq c40).2 (by decide) (by decide) z_) ?_
    exact absurd hc1 (fun q => by rcases q with q | q; exact c34 q; exact c40 q)
set_option maxRecDepth 65536 in
set_option maxHeartbeats 40000000 in
theorem own_na1 (l : Launch) (Z : State) (a0 : Array Value) (hw : ∀ d ∈ tables_1, d.before a0 Z = true) (ws : List Jvm.Cond) (o x a a11 : Addr) (n k : Nat) (j nn zc : Int32) (f : Nat → Int32) (V : Prop) (sv : Value) (hsv : sv.isRef = true) (k1 k3 k4 : Nat) (v_nameStart v_nameEnd v_valueStart v_valueEnd v_attributesEnd : Int32) (h0 : Heap) (n0 : Nat) (Z0 : n0 ≤ h0.size) (hj : j.toInt = (k : Int)) (hn : nn.toInt = (n : Int)) (hzc : ¬ zc = (0 : Int32)) (hV : V ↔ a = a11) (hS : own_Str Z h0 x n f) (E_a : Exa Z h0 a "com/example/cadmus/cadmus/XmlVersion") (S_11 : Sta Z h0 "com/example/cadmus/cadmus/XmlVersion" "XML_1_1" "Lcom/example/cadmus/cadmus/XmlVersion;" (.ref a11)) (S_cs : Sta Z h0 "java/lang/String" "COMPACT_STRINGS" "Z" (.int zc)) (S_sf : Sta Z h0 "jdk/internal/util/Preconditions" "SIOOBE_FORMATTER" "Ljava/util/function/BiFunction;" sv) (S_ad : Sta Z h0 "java/lang/StringUTF16" "$assertionsDisabled" "Z" (.int (1 : Int32))) (S_hi : Sta Z h0 "java/lang/StringUTF16" "HI_BYTE_SHIFT" "I" (.int (0 : Int32))) (S_lo : Sta Z h0 "java/lang/StringUTF16" "LO_BYTE_SHIFT" "I" (.int (8 : Int32))) (E_o : Exa Z h0 o "com/example/cadmus/cadmus/Markup$StartTag") (F_t : Fld Z h0 o "com/example/cadmus/cadmus/Markup$StartTag" "text" "Ljava/lang/String;" (.ref x)) (F_at : Fld Z h0 o "com/example/cadmus/cadmus/Markup$StartTag" "at" "I" (.int j)) (F_ver : Fld Z h0 o "com/example/cadmus/cadmus/Markup$StartTag" "version" "Lcom/example/cadmus/cadmus/XmlVersion;" (.ref a)) (F_nameStart : Fld Z h0 o "com/example/cadmus/cadmus/Markup$StartTag" "nameStart" "I" (.int v_nameStart)) (F_nameEnd : Fld Z h0 o "com/example/cadmus/cadmus/Markup$StartTag" "nameEnd" "I" (.int v_nameEnd)) (F_valueStart : Fld Z h0 o "com/example/cadmus/cadmus/Markup$StartTag" "valueStart" "I" (.int v_valueStart)) (F_valueEnd : Fld Z h0 o "com/example/cadmus/cadmus/Markup$StartTag" "valueEnd" "I" (.int v_valueEnd)) (F_attributesEnd : Fld Z h0 o "com/example/cadmus/cadmus/Markup$StartTag" "attributesEnd" "I" (.int v_attributesEnd)) (hk4 : k4 + 2 < n) (h34 : k3 + 1 ≤ k4) (h23 : k1 + 1 ≤ k3) (hsk : own_skip V f k k1) (hd0 : ¬ own_dl V (f k1)) (hd1 : own_dl V (f (k1 + 1))) (hsk3 : own_skip V f (k1 + 1) k3) (hsk4 : own_skip V f (k3 + 1) k4) (hc : 0 ≤ (f k4).toInt ∧ (f k4).toInt ≤ 255) (hne : ¬ f (k4 + 1) = f k4) (heq : f (k4 + 1 + 1) = f k4) (g_o : n0 ≤ o) :
    own_Met l Z (⟨"com/example/cadmus/cadmus/Markup$StartTag", "nextAttribute", "()Z"⟩ : MethodName) prog_11_method_4_code 2 (some .boolean) ws ({ frames := 7, cells := 0, slots := 0, locals := 103 } : Room) #[(.ref o)] h0 (fun v h L => ∃ r : Int32, v = some (.int (1 : Int32)) ∧ r.toInt = ((k4 + 1 + 1 + 1 : Nat) : Int) ∧ Fr n0 L ∧ Keep h0 h [o] ∧ Fld Z h o "com/example/cadmus/cadmus/Markup$StartTag" "text" "Ljava/lang/String;" (.ref x) ∧ Fld Z h o "com/example/cadmus/cadmus/Markup$StartTag" "at" "I" (.int r) ∧ Fld Z h o "com/example/cadmus/cadmus/Markup$StartTag" "version" "Lcom/example/cadmus/cadmus/XmlVersion;" (.ref a)) := by
  refine own_body own_pn36 (fun m => mkF m 0 #[rv o, .unset] []) (fun m => own_ef_own_na1 m o) ?_
  intro p e s m below meth c T0 hx hby hml hlk hrt hZ hown hnm X0 e0
  have hown : s.vm.findClass "com/example/cadmus/cadmus/Markup$StartTag" = some m.cls := hown
  have N0 := Fr.nil n0
  have hn31 := own_Str31 hS
  refine own_g (own_F T0 m 1 #[rv o, .unset] [(.ref o)]) (fun _ z_ => XS.aloadN X0.here hx rfl (hb hby own_d18_0) rfl rfl z_) ?_
  refine own_g (own_F T0 m 2 #[rv o, .unset] [(.ref o), (.ref o)]) (fun _ z_ => XS.aloadN X0.here hx rfl (hb hby own_d18_1) rfl rfl z_) ?_
  obtain ⟨T1, X1, e1, st1⟩ := getF X0 hx hZ hown (host := "") (Or.inl (own_w hw 56)) Via.refl e0 F_t (g := (mkF m 2 #[rv o, .unset] [(.ref o), (.ref o)])) rfl rfl (hb hby own_d18_2)
  refine own_pre (S' := (own_F T1 m 5 #[rv o, .unset] [(.ref x), (.ref o)])) st1 ?_
  refine own_g (own_F T1 m 6 #[rv o, .unset] [(.ref o), (.ref x), (.ref o)]) (fun _ z_ => XS.aloadN X1.here hx rfl (hb hby own_d18_5) rfl rfl z_) ?_
  obtain ⟨T2, X2, e2, st2⟩ := getF X1 hx hZ hown (host := "") (Or.inl (own_w hw 91)) Via.refl e1 F_at (g := (mkF m 6 #[rv o, .unset] [(.ref o), (.ref x), (.ref o)])) rfl rfl (hb hby own_d18_6)
  refine own_pre (S' := (own_F T2 m 9 #[rv o, .unset] [(.int j), (.ref x), (.ref o)])) st2 ?_
  refine own_g (own_F T2 m 10 #[rv o, .unset] [(.ref o), (.int j), (.ref x), (.ref o)]) (fun _ z_ => XS.aloadN X2.here hx rfl (hb hby own_d18_9) rfl rfl z_) ?_
  obtain ⟨T3, X3, e3, st3⟩ := getF X2 hx hZ hown (host := "") (Or.inl (own_w hw 27)) Via.refl e2 F_ver (g := (mkF m 10 #[rv o, .unset] [(.ref o), (.int j), (.ref x), (.ref o)])) rfl rfl (hb hby own_d18_10)
  refine own_pre (S' := (own_F T3 m 13 #[rv o, .unset] [(.ref a), (.int j), (.ref x), (.ref o)])) st3 ?_
  refine own_callN (y := (⟨"com/example/cadmus/cadmus/Markup", "spaceEnd", "(Ljava/lang/String;ILcom/example/cadmus/cadmus/XmlVersion;)I"⟩ : MethodName)) X3 hx hZ hown (own_w hw 105) (own_w hw 106) (own_w hw 60) (own_w hw 107) (by decide) e3 (hM := own_send l Z a0 hw [] x a a11 n k j nn zc f V sv hsv k1 h0 n0 Z0 (by omega) hsk hj hn hzc hV hS E_a S_11 S_cs S_sf S_ad S_hi S_lo) (W := 1) (pc := 13) (Ls := #[rv o, .unset]) (argsL := [(.ref x), (.int j), (.ref a)]) (rest := [(.ref o)]) (st0 := [(.ref a), (.int j), (.ref x), (.ref o)]) (by rw [hml]; rfl) (lenOf own_pd23 rfl) rfl (Nat.le_of_eq rfl) (hb hby own_d18_13) (by decide) (by decide) (by decide) (by decide) ?_
  intro v4 T4 L4 s X4 hZ hown hI4 hvm4 hhp4 hWw4 hQ4
  obtain ⟨r1, rfl, hp_r1, Nq4, hh4⟩ := hQ4
  have N4 := Fr.app N0 Nq4
  show own_Ends p e below s _ _ _ (own_F T4 m 16 #[rv o, .unset] [(.int r1), (.ref o)])
  obtain ⟨T5, h5, X5, e5, W5, st5⟩ := putF X4 hx hZ hown (host := "") (Or.inl (own_w hw 91)) Via.refl hh4 F_at E_o (Or.inl (own_w hw 92)) (own_w hw 9) (ty := .int) (by decide) rfl rfl (g := (mkF m 16 #[rv o, .unset] [(.int r1), (.ref o)])) rfl rfl (hb hby own_d18_16)
  have N5 := Fr.snoc X5 N4 g_o
  have Fw5 := F_at.same W5
  refine own_pre (S' := (own_F T5 m 19 #[rv o, .unset] [])) st5 ?_
  refine own_g (own_F T5 m 20 #[rv o, .unset] [(.ref o)]) (fun _ z_ => XS.aloadN X5.here hx rfl (hb hby own_d18_19) rfl rfl z_) ?_
  obtain ⟨T6, X6, e6, st6⟩ := getF X5 hx hZ hown (host := "") (Or.inl (own_w hw 56)) Via.refl e5 (F_t.other W5 (Or.inr (slot_ne (C := "com/example/cadmus/cadmus/Markup$StartTag") (Or.inl (own_w hw 57)) (Or.inl (own_w hw 92)) (by decide) (t := (.object "java/lang/String")) (t' := .int) (by decide) (by decide)))) (g := (mkF m 20 #[rv o, .unset] [(.ref o)])) rfl rfl (hb hby own_d18_20)
  refine own_pre (S' := (own_F T6 m 23 #[rv o, .unset] [(.ref x)])) st6 ?_
  refine own_g (own_F T6 m 24 #[rv o, .unset] [(.ref o), (.ref x)]) (fun _ z_ => XS.aloadN X6.here hx rfl (hb hby own_d18_23) rfl rfl z_) ?_
  obtain ⟨T7, X7, e7, st7⟩ := getF X6 hx hZ hown (host := "") (Or.inl (own_w hw 91)) Via.refl e6 Fw5 (g := (mkF m 24 #[rv o, .unset] [(.ref o), (.ref x)])) rfl rfl (hb hby own_d18_24)
  refine own_pre (S' := (own_F T7 m 27 #[rv o, .unset] [(.int r1), (.ref x)])) st7 ?_
  refine own_callV (C := "java/lang/String") (y := (⟨"java/lang/String", "charAt", "(I)C"⟩ : MethodName)) (b := x) X7 hx hZ hown (own_w hw 118) (own_w hw 63) (own_w hw 65) (own_w hw 64) (own_w hw 66) (own_w hw 18) (by decide) e7 ((own_StrE hS).wr W5) (hM := own_charAt l Z a0 hw [] x r1 zc k1 n f sv hsv h5 n0 (Nat.le_trans Z0 (Nat.le_of_eq W5.size.symm)) hp_r1 (by omega) hzc (own_Str.keepO hS (Keep.of_wr W5) E_o (by decide) (own_w hw 9)) (S_cs.wr W5) (S_sf.wr W5) (S_ad.wr W5) (S_hi.wr W5) (S_lo.wr W5)) (W := 0) (pc := 27) (Ls := #[rv o, .unset]) (argsL := [(.int r1)]) (rest := []) (st0 := [(.int r1), (.ref x)]) (by rw [hml]; rfl) (lenOf own_pd21 rfl) rfl (Nat.le_of_eq rfl) (hb hby own_d18_27) (by decide) (by decide) (by decide) (by decide) ?_
  intro v8 T8 L8 s X8 hZ hown hI8 hvm8 hhp8 hWw8 hQ8
  obtain ⟨rfl, Nq8, hh8⟩ := hQ8
  have N8 := Fr.app N5 Nq8
  show own_Ends p e below s _ _ _ (own_F T8 m 30 #[rv o, .unset] [(.int (f k1))])
  refine own_g (own_F T8 m 31 #[rv o, iv (f k1)] []) (fun _ z_ => XS.istoreN X8.here hx rfl (hb hby own_d18_30) rfl (l' := #[rv o, iv (f k1)]) rfl z_) ?_
  refine own_g (own_F T8 m 32 #[rv o, iv (f k1)] [(.int (f k1))]) (fun _ z_ => XS.iloadN X8.here hx rfl (hb hby own_d18_31) rfl z_) ?_
  refine own_g (own_F T8 m 34 #[rv o, iv (f k1)] [(.int 62), (.int (f k1))]) (fun _ z_ => XS.bipush X8.here hx rfl (hb hby own_d18_32) z_) ?_
  refine own_g (own_F T8 m 37 #[rv o, iv (f k1)] []) (fun _ z_ => XS.icmpNo X8.here hx rfl (hb hby own_d18_34) rfl (feq (fun q => hd0 (Or.inr (Or.inl q)))).1 z_) ?_
  refine own_g (own_F T8 m 38 #[rv o, iv (f k1)] [(.int (f k1))]) (fun _ z_ => XS.iloadN X8.here hx rfl (hb hby own_d18_37) rfl z_) ?_
  refine own_g (own_F T8 m 40 #[rv o, iv (f k1)] [(.int 47), (.int (f k1))]) (fun _ z_ => XS.bipush X8.here hx rfl (hb hby own_d18_38) z_) ?_
  refine own_g (own_F T8 m 45 #[rv o, iv (f k1)] []) (fun _ z_ => XS.icmpYes X8.here hx rfl (pc0 := 40) (pc' := 45) rfl (hb hby own_d18_40) rfl (feq (fun q => hd0 (Or.inr (Or.inr (Or.inl q))))).2 (by decide) (by decide) z_) ?_
  refine own_g (own_F T8 m 46 #[rv o, iv (f k1)] [(.ref o)]) (fun _ z_ => XS.aloadN X8.here hx rfl (hb hby own_d18_45) rfl rfl z_) ?_
  refine own_g (own_F T8 m 47 #[rv o, iv (f k1)] [(.ref o), (.ref o)]) (fun _ z_ => XS.aloadN X8.here hx rfl (hb hby own_d18_46) rfl rfl z_) ?_
  obtain ⟨T9, X9, e9, st9⟩ := getF X8 hx hZ hown (host := "") (Or.inl (own_w hw 91)) Via.refl hh8 Fw5 (g := (mkF m 47 #[rv o, iv (f k1)] [(.ref o), (.ref o)])) rfl rfl (hb hby own_d18_47)
  refine own_pre (S' := (own_F T9 m 50 #[rv o, iv (f k1)] [(.int r1), (.ref o)])) st9 ?_
  obtain ⟨T10, h10, X10, e10, W10, st10⟩ := putF X9 hx hZ hown (host := "") (Or.inl (own_w hw 129)) Via.refl e9 (F_nameStart.other W5 (Or.inr (slot_ne (C := "com/example/cadmus/cadmus/Markup$StartTag") (Or.inl (own_w hw 130)) (Or.inl (own_w hw 92)) (by decide) (t := .int) (t' := .int) (by decide) (by decide)))) (E_o.wr W5) (Or.inl (own_w hw 130)) (own_w hw 9) (ty := .int) (by decide) rfl rfl (g := (mkF m 50 #[rv o, iv (f k1)] [(.int r1), (.ref o)])) rfl rfl (hb hby own_d18_50)
  have N10 := Fr.snoc X10 N8 g_o
  have Fw10 := (F_nameStart.other W5 (Or.inr (slot_ne (C := "com/example/cadmus/cadmus/Markup$StartTag") (Or.inl (own_w hw 130)) (Or.inl (own_w hw 92)) (by decide) (t := .int) (t' := .int) (by decide) (by decide)))).same W10
  refine own_pre (S' := (own_F T10 m 53 #[rv o, iv (f k1)] [])) st10 ?_
  refine own_g (own_F T10 m 54 #[rv o, iv (f k1)] [(.ref o)]) (fun _ z_ => XS.aloadN X10.here hx rfl (hb hby own_d18_53) rfl rfl z_) ?_
  refine own_g (own_F T10 m 55 #[rv o, iv (f k1)] [(.ref o), (.ref o)]) (fun _ z_ => XS.aloadN X10.here hx rfl (hb hby own_d18_54) rfl rfl z_) ?_
  obtain ⟨T11, X11, e11, st11⟩ := getF X10 hx hZ hown (host := "") (Or.inl (own_w hw 56)) Via.refl e10 ((F_t.other W5 (Or.inr (slot_ne (C := "com/example/cadmus/cadmus/Markup$StartTag") (Or.inl (own_w hw 57)) (Or.inl (own_w hw 92)) (by decide) (t := (.object "java/lang/String")) (t' := .int) (by decide) (by decide)))).other W10 (Or.inr (slot_ne (C := "com/example/cadmus/cadmus/Markup$StartTag") (Or.inl (own_w hw 57)) (Or.inl (own_w hw 130)) (by decide) (t := (.object "java/lang/String")) (t' := .int) (by decide) (by decide)))) (g := (mkF m 55 #[rv o, iv (f k1)] [(.ref o), (.ref o)])) rfl rfl (hb hby own_d18_55)
  refine own_pre (S' := (own_F T11 m 58 #[rv o, iv (f k1)] [(.ref x), (.ref o)])) st11 ?_
  refine own_g (own_F T11 m 59 #[rv o, iv (f k1)] [(.ref o), (.ref x), (.ref o)]) (fun _ z_ => XS.aloadN X11.here hx rfl (hb hby own_d18_58) rfl rfl z_) ?_
  obtain ⟨T12, X12, e12, st12⟩ := getF X11 hx hZ hown (host := "") (Or.inl (own_w hw 91)) Via.refl e11 (Fw5.other W10 (Or.inr (slot_ne (C := "com/example/cadmus/cadmus/Markup$StartTag") (Or.inl (own_w hw 92)) (Or.inl (own_w hw 130)) (by decide) (t := .int) (t' := .int) (by decide) (by decide)))) (g := (mkF m 59 #[rv o, iv (f k1)] [(.ref o), (.ref x), (.ref o)])) rfl rfl (hb hby own_d18_59)
  refine own_pre (S' := (own_F T12 m 62 #[rv o, iv (f k1)] [(.int r1), (.ref x), (.ref o)])) st12 ?_
  refine own_g (own_F T12 m 63 #[rv o, iv (f k1)] [(.ref o), (.int r1), (.ref x), (.ref o)]) (fun _ z_ => XS.aloadN X12.here hx rfl (hb hby own_d18_62) rfl rfl z_) ?_
  obtain ⟨T13, X13, e13, st13⟩ := getF X12 hx hZ hown (host := "") (Or.inl (own_w hw 27)) Via.refl e12 ((F_ver.other W5 (Or.inr (slot_ne (C := "com/example/cadmus/cadmus/Markup$StartTag") (Or.inr (own_w hw 28)) (Or.inl (own_w hw 92)) (by decide) (t := (.object "com/example/cadmus/cadmus/XmlVersion")) (t' := .int) (by decide) (by decide)))).other W10 (Or.inr (slot_ne (C := "com/example/cadmus/cadmus/Markup$StartTag") (Or.inr (own_w hw 28)) (Or.inl (own_w hw 130)) (by decide) (t := (.object "com/example/cadmus/cadmus/XmlVersion")) (t' := .int) (by decide) (by decide)))) (g := (mkF m 63 #[rv o, iv (f k1)] [(.ref o), (.int r1), (.ref x), (.ref o)])) rfl rfl (hb hby own_d18_63)
  refine own_pre (S' := (own_F T13 m 66 #[rv o, iv (f k1)] [(.ref a), (.int r1), (.ref x), (.ref o)])) st13 ?_
  refine own_callN (y := (⟨"com/example/cadmus/cadmus/Markup", "nameEnd", "(Ljava/lang/String;ILcom/example/cadmus/cadmus/XmlVersion;)I"⟩ : MethodName)) X13 hx hZ hown (own_w hw 58) (own_w hw 59) (own_w hw 60) (own_w hw 61) (by decide) e13 (hM := own_nend l Z a0 hw [] x a a11 n k1 r1 nn zc f V sv hsv h10 n0 (Nat.le_trans (Nat.le_trans Z0 (Nat.le_of_eq W5.size.symm)) (Nat.le_of_eq W10.size.symm)) (by omega) hd0 hd1 hp_r1 hn hzc hV (own_Str.keepO (own_Str.keepO hS (Keep.of_wr W5) E_o (by decide) (own_w hw 9)) (Keep.of_wr W10) (E_o.wr W5) (by decide) (own_w hw 9)) ((E_a.wr W5).wr W10) ((S_11.wr W5).wr W10) ((S_cs.wr W5).wr W10) ((S_sf.wr W5).wr W10) ((S_ad.wr W5).wr W10) ((S_hi.wr W5).wr W10) ((S_lo.wr W5).wr W10)) (W := 1) (pc := 66) (Ls := #[rv o, iv (f k1)]) (argsL := [(.ref x), (.int r1), (.ref a)]) (rest := [(.ref o)]) (st0 := [(.ref a), (.int r1), (.ref x), (.ref o)]) (by rw [hml]; rfl) (lenOf own_pd23 rfl) rfl (Nat.le_of_eq rfl) (hb hby own_d18_66) (by decide) (by decide) (by decide) (by decide) ?_
  intro v14 T14 L14 s X14 hZ hown hI14 hvm14 hhp14 hWw14 hQ14
  obtain ⟨r2, rfl, hp_r2, Nq14, hh14⟩ := hQ14
  have N14 := Fr.app N10 Nq14
  show own_Ends p e below s _ _ _ (own_F T14 m 69 #[rv o, iv (f k1)] [(.int r2), (.ref o)])
  obtain ⟨T15, h15, X15, e15, W15, st15⟩ := putF X14 hx hZ hown (host := "") (Or.inl (own_w hw 131)) Via.refl hh14 ((F_nameEnd.other W5 (Or.inr (slot_ne (C := "com/example/cadmus/cadmus/Markup$StartTag") (Or.inl (own_w hw 132)) (Or.inl (own_w hw 92)) (by decide) (t := .int) (t' := .int) (by decide) (by decide)))).other W10 (Or.inr (slot_ne (C := "com/example/cadmus/cadmus/Markup$StartTag") (Or.inl (own_w hw 132)) (Or.inl (own_w hw 130)) (by decide) (t := .int) (t' := .int) (by decide) (by decide)))) ((E_o.wr W5).wr W10) (Or.inl (own_w hw 132)) (own_w hw 9) (ty := .int) (by decide) rfl rfl (g := (mkF m 69 #[rv o, iv (f k1)] [(.int r2), (.ref o)])) rfl rfl (hb hby own_d18_69)
  have N15 := Fr.snoc X15 N14 g_o
  have Fw15 := ((F_nameEnd.other W5 (Or.inr (slot_ne (C := "com/example/cadmus/cadmus/Markup$StartTag") (Or.inl (own_w hw 132)) (Or.inl (own_w hw 92)) (by decide) (t := .int) (t' := .int) (by decide) (by decide)))).other W10 (Or.inr (slot_ne (C := "com/example/cadmus/cadmus/Markup$StartTag") (Or.inl (own_w hw 132)) (Or.inl (own_w hw 130)) (by decide) (t := .int) (t' := .int) (by decide) (by decide)))).same W15
  refine own_pre (S' := (own_F T15 m 72 #[rv o, iv (f k1)] [])) st15 ?_
  refine own_g (own_F T15 m 73 #[rv o, iv (f k1)] [(.ref o)]) (fun _ z_ => XS.aloadN X15.here hx rfl (hb hby own_d18_72) rfl rfl z_) ?_
  refine own_g (own_F T15 m 74 #[rv o, iv (f k1)] [(.ref o), (.ref o)]) (fun _ z_ => XS.aloadN X15.here hx rfl (hb hby own_d18_73) rfl rfl z_) ?_
  obtain ⟨T16, X16, e16, st16⟩ := getF X15 hx hZ hown (host := "") (Or.inl (own_w hw 56)) Via.refl e15 (((F_t.other W5 (Or.inr (slot_ne (C := "com/example/cadmus/cadmus/Markup$StartTag") (Or.inl (own_w hw 57)) (Or.inl (own_w hw 92)) (by decide) (t := (.object "java/lang/String")) (t' := .int) (by decide) (by decide)))).other W10 (Or.inr (slot_ne (C := "com/example/cadmus/cadmus/Markup$StartTag") (Or.inl (own_w hw 57)) (Or.inl (own_w hw 130)) (by decide) (t := (.object "java/lang/String")) (t' := .int) (by decide) (by decide)))).other W15 (Or.inr (slot_ne (C := "com/example/cadmus/cadmus/Markup$StartTag") (Or.inl (own_w hw 57)) (Or.inl (own_w hw 132)) (by decide) (t := (.object "java/lang/String")) (t' := .int) (by decide) (by decide)))) (g := (mkF m 74 #[rv o, iv (f k1)] [(.ref o), (.ref o)])) rfl rfl (hb hby own_d18_74)
  refine own_pre (S' := (own_F T16 m 77 #[rv o, iv (f k1)] [(.ref x), (.ref o)])) st16 ?_
  refine own_g (own_F T16 m 78 #[rv o, iv (f k1)] [(.ref o), (.ref x), (.ref o)]) (fun _ z_ => XS.aloadN X16.here hx rfl (hb hby own_d18_77) rfl rfl z_) ?_
  obtain ⟨T17, X17, e17, st17⟩ := getF X16 hx hZ hown (host := "") (Or.inl (own_w hw 56)) Via.refl e16 (((F_t.other W5 (Or.inr (slot_ne (C := "com/example/cadmus/cadmus/Markup$StartTag") (Or.inl (own_w hw 57)) (Or.inl (own_w hw 92)) (by decide) (t := (.object "java/lang/String")) (t' := .int) (by decide) (by decide)))).other W10 (Or.inr (slot_ne (C := "com/example/cadmus/cadmus/Markup$StartTag") (Or.inl (own_w hw 57)) (Or.inl (own_w hw 130)) (by decide) (t := (.object "java/lang/String")) (t' := .int) (by decide) (by decide)))).other W15 (Or.inr (slot_ne (C := "com/example/cadmus/cadmus/Markup$StartTag") (Or.inl (own_w hw 57)) (Or.inl (own_w hw 132)) (by decide) (t := (.object "java/lang/String")) (t' := .int) (by decide) (by decide)))) (g := (mkF m 78 #[rv o, iv (f k1)] [(.ref o), (.ref x), (.ref o)])) rfl rfl (hb hby own_d18_78)
  refine own_pre (S' := (own_F T17 m 81 #[rv o, iv (f k1)] [(.ref x), (.ref x), (.ref o)])) st17 ?_
  refine own_g (own_F T17 m 82 #[rv o, iv (f k1)] [(.ref o), (.ref x), (.ref x), (.ref o)]) (fun _ z_ => XS.aloadN X17.here hx rfl (hb hby own_d18_81) rfl rfl z_) ?_
  obtain ⟨T18, X18, e18, st18⟩ := getF X17 hx hZ hown (host := "") (Or.inl (own_w hw 131)) Via.refl e17 Fw15 (g := (mkF m 82 #[rv o, iv (f k1)] [(.ref o), (.ref x), (.ref x), (.ref o)])) rfl rfl (hb hby own_d18_82)
  refine own_pre (S' := (own_F T18 m 85 #[rv o, iv (f k1)] [(.int r2), (.ref x), (.ref x), (.ref o)])) st18 ?_
  refine own_g (own_F T18 m 86 #[rv o, iv (f k1)] [(.ref o), (.int r2), (.ref x), (.ref x), (.ref o)]) (fun _ z_ => XS.aloadN X18.here hx rfl (hb hby own_d18_85) rfl rfl z_) ?_
  obtain ⟨T19, X19, e19, st19⟩ := getF X18 hx hZ hown (host := "") (Or.inl (own_w hw 27)) Via.refl e18 (((F_ver.other W5 (Or.inr (slot_ne (C := "com/example/cadmus/cadmus/Markup$StartTag") (Or.inr (own_w hw 28)) (Or.inl (own_w hw 92)) (by decide) (t := (.object "com/example/cadmus/cadmus/XmlVersion")) (t' := .int) (by decide) (by decide)))).other W10 (Or.inr (slot_ne (C := "com/example/cadmus/cadmus/Markup$StartTag") (Or.inr (own_w hw 28)) (Or.inl (own_w hw 130)) (by decide) (t := (.object "com/example/cadmus/cadmus/XmlVersion")) (t' := .int) (by decide) (by decide)))).other W15 (Or.inr (slot_ne (C := "com/example/cadmus/cadmus/Markup$StartTag") (Or.inr (own_w hw 28)) (Or.inl (own_w hw 132)) (by decide) (t := (.object "com/example/cadmus/cadmus/XmlVersion")) (t' := .int) (by decide) (by decide)))) (g := (mkF m 86 #[rv o, iv (f k1)] [(.ref o), (.int r2), (.ref x), (.ref x), (.ref o)])) rfl rfl (hb hby own_d18_86)
  refine own_pre (S' := (own_F T19 m 89 #[rv o, iv (f k1)] [(.ref a), (.int r2), (.ref x), (.ref x), (.ref o)])) st19 ?_
  refine own_callN (y := (⟨"com/example/cadmus/cadmus/Markup", "spaceEnd", "(Ljava/lang/String;ILcom/example/cadmus/cadmus/XmlVersion;)I"⟩ : MethodName)) X19 hx hZ hown (own_w hw 105) (own_w hw 106) (own_w hw 60) (own_w hw 107) (by decide) e19 (hM := own_send l Z a0 hw [] x a a11 n (k1 + 1) r2 nn zc f V sv hsv k3 h15 n0 (Nat.le_trans (Nat.le_trans (Nat.le_trans Z0 (Nat.le_of_eq W5.size.symm)) (Nat.le_of_eq W10.size.symm)) (Nat.le_of_eq W15.size.symm)) (by omega) hsk3 hp_r2 hn hzc hV (own_Str.keepO (own_Str.keepO (own_Str.keepO hS (Keep.of_wr W5) E_o (by decide) (own_w hw 9)) (Keep.of_wr W10) (E_o.wr W5) (by decide) (own_w hw 9)) (Keep.of_wr W15) ((E_o.wr W5).wr W10) (by decide) (own_w hw 9)) (((E_a.wr W5).wr W10).wr W15) (((S_11.wr W5).wr W10).wr W15) (((S_cs.wr W5).wr W10).wr W15) (((S_sf.wr W5).wr W10).wr W15) (((S_ad.wr W5).wr W10).wr W15) (((S_hi.wr W5).wr W10).wr W15) (((S_lo.wr W5).wr W10).wr W15)) (W := 2) (pc := 89) (Ls := #[rv o, iv (f k1)]) (argsL := [(.ref x), (.int r2), (.ref a)]) (rest := [(.ref x), (.ref o)]) (st0 := [(.ref a), (.int r2), (.ref x), (.ref x), (.ref o)]) (by rw [hml]; rfl) (lenOf own_pd23 rfl) rfl (Nat.le_of_eq rfl) (hb hby own_d18_89) (by decide) (by decide) (by decide) (by decide) ?_
  intro v20 T20 L20 s X20 hZ hown hI20 hvm20 hhp20 hWw20 hQ20
  obtain ⟨r3, rfl, hp_r3, Nq20, hh20⟩ := hQ20
  have N20 := Fr.app N15 Nq20
  show own_Ends p e below s _ _ _ (own_F T20 m 92 #[rv o, iv (f k1)] [(.int r3), (.ref x), (.ref o)])
  refine own_g (own_F T20 m 93 #[rv o, iv (f k1)] [(.int 1), (.int r3), (.ref x), (.ref o)]) (fun _ z_ => XS.iconst X20.here hx rfl (hb hby own_d18_92) z_) ?_
  refine own_g (own_F T20 m 94 #[rv o, iv (f k1)] [(.int (r3 + (1 : Int32))), (.ref x), (.ref o)]) (fun _ z_ => XS.iadd X20.here hx rfl (hb hby own_d18_93) rfl z_) ?_
  have hp_r3' := own_add1 hp_r3 (by omega)
  refine own_g (own_F T20 m 95 #[rv o, iv (f k1)] [(.ref o), (.int (r3 + (1 : Int32))), (.ref x), (.ref o)]) (fun _ z_ => XS.aloadN X20.here hx rfl (hb hby own_d18_94) rfl rfl z_) ?_
  obtain ⟨T21, X21, e21, st21⟩ := getF X20 hx hZ hown (host := "") (Or.inl (own_w hw 27)) Via.refl hh20 (((F_ver.other W5 (Or.inr (slot_ne (C := "com/example/cadmus/cadmus/Markup$StartTag") (Or.inr (own_w hw 28)) (Or.inl (own_w hw 92)) (by decide) (t := (.object "com/example/cadmus/cadmus/XmlVersion")) (t' := .int) (by decide) (by decide)))).other W10 (Or.inr (slot_ne (C := "com/example/cadmus/cadmus/Markup$StartTag") (Or.inr (own_w hw 28)) (Or.inl (own_w hw 130)) (by decide) (t := (.object "com/example/cadmus/cadmus/XmlVersion")) (t' := .int) (by decide) (by decide)))).other W15 (Or.inr (slot_ne (C := "com/example/cadmus/cadmus/Markup$StartTag") (Or.inr (own_w hw 28)) (Or.inl (own_w hw 132)) (by decide) (t := (.object "com/example/cadmus/cadmus/XmlVersion")) (t' := .int) (by decide) (by decide)))) (g := (mkF m 95 #[rv o, iv (f k1)] [(.ref o), (.int (r3 + (1 : Int32))), (.ref x), (.ref o)])) rfl rfl (hb hby own_d18_95)
  refine own_pre (S' := (own_F T21 m 98 #[rv o, iv (f k1)] [(.ref a), (.int (r3 + (1 : Int32))), (.ref x), (.ref o)])) st21 ?_
  refine own_callN (y := (⟨"com/example/cadmus/cadmus/Markup", "spaceEnd", "(Ljava/lang/String;ILcom/example/cadmus/cadmus/XmlVersion;)I"⟩ : MethodName)) X21 hx hZ hown (own_w hw 105) (own_w hw 106) (own_w hw 60) (own_w hw 107) (by decide) e21 (hM := own_send l Z a0 hw [] x a a11 n (k3 + 1) (r3 + (1 : Int32)) nn zc f V sv hsv k4 h15 n0 (Nat.le_trans (Nat.le_trans (Nat.le_trans Z0 (Nat.le_of_eq W5.size.symm)) (Nat.le_of_eq W10.size.symm)) (Nat.le_of_eq W15.size.symm)) (by omega) hsk4 hp_r3' hn hzc hV (own_Str.keepO (own_Str.keepO (own_Str.keepO hS (Keep.of_wr W5) E_o (by decide) (own_w hw 9)) (Keep.of_wr W10) (E_o.wr W5) (by decide) (own_w hw 9)) (Keep.of_wr W15) ((E_o.wr W5).wr W10) (by decide) (own_w hw 9)) (((E_a.wr W5).wr W10).wr W15) (((S_11.wr W5).wr W10).wr W15) (((S_cs.wr W5).wr W10).wr W15) (((S_sf.wr W5).wr W10).wr W15) (((S_ad.wr W5).wr W10).wr W15) (((S_hi.wr W5).wr W10).wr W15) (((S_lo.wr W5).wr W10).wr W15)) (W := 1) (pc := 98) (Ls := #[rv o, iv (f k1)]) (argsL := [(.ref x), (.int (r3 + (1 : Int32))), (.ref a)]) (rest := [(.ref o)]) (st0 := [(.ref a), (.int (r3 + (1 : Int32))), (.ref x), (.ref o)]) (by rw [hml]; rfl) (lenOf own_pd23 rfl) rfl (Nat.le_of_eq rfl) (hb hby own_d18_98) (by decide) (by decide) (by decide) (by decide) ?_
  intro v22 T22 L22 s X22 hZ hown hI22 hvm22 hhp22 hWw22 hQ22
  obtain ⟨r4, rfl, hp_r4, Nq22, hh22⟩ := hQ22
  have N22 := Fr.app N20 Nq22
  show own_Ends p e below s _ _ _ (own_F T22 m 101 #[rv o, iv (f k1)] [(.int r4), (.ref o)])
  obtain ⟨T23, h23, X23, e23, W23, st23⟩ := putF X22 hx hZ hown (host := "") (Or.inl (own_w hw 91)) Via.refl hh22 ((Fw5.other W10 (Or.inr (slot_ne (C := "com/example/cadmus/cadmus/Markup$StartTag") (Or.inl (own_w hw 92)) (Or.inl (own_w hw 130)) (by decide) (t := .int) (t' := .int) (by decide) (by decide)))).other W15 (Or.inr (slot_ne (C := "com/example/cadmus/cadmus/Markup$StartTag") (Or.inl (own_w hw 92)) (Or.inl (own_w hw 132)) (by decide) (t := .int) (t' := .int) (by decide) (by decide)))) (((E_o.wr W5).wr W10).wr W15) (Or.inl (own_w hw 92)) (own_w hw 9) (ty := .int) (by decide) rfl rfl (g := (mkF m 101 #[rv o, iv (f k1)] [(.int r4), (.ref o)])) rfl rfl (hb hby own_d18_101)
  have N23 := Fr.snoc X23 N22 g_o
  have Fw23 := ((Fw5.other W10 (Or.inr (slot_ne (C := "com/example/cadmus/cadmus/Markup$StartTag") (Or.inl (own_w hw 92)) (Or.inl (own_w hw 130)) (by decide) (t := .int) (t' := .int) (by decide) (by decide)))).other W15 (Or.inr (slot_ne (C := "com/example/cadmus/cadmus/Markup$StartTag") (Or.inl (own_w hw 92)) (Or.inl (own_w hw 132)) (by decide) (t := .int) (t' := .int) (by decide) (by decide)))).same W23
  refine own_pre (S' := (own_F T23 m 104 #[rv o, iv (f k1)] [])) st23 ?_
  refine own_g (own_F T23 m 105 #[rv o, iv (f k1)] [(.ref o)]) (fun _ z_ => XS.aloadN X23.here hx rfl (hb hby own_d18_104) rfl rfl z_) ?_
  refine own_g (own_F T23 m 106 #[rv o, iv (f k1)] [(.ref o), (.ref o)]) (fun _ z_ => XS.aloadN X23.here hx rfl (hb hby own_d18_105) rfl rfl z_) ?_
  obtain ⟨T24, X24, e24, st24⟩ := getF X23 hx hZ hown (host := "") (Or.inl (own_w hw 91)) Via.refl e23 Fw23 (g := (mkF m 106 #[rv o, iv (f k1)] [(.ref o), (.ref o)])) rfl rfl (hb hby own_d18_106)
  refine own_pre (S' := (own_F T24 m 109 #[rv o, iv (f k1)] [(.int r4), (.ref o)])) st24 ?_
  refine own_g (own_F T24 m 110 #[rv o, iv (f k1)] [(.int 1), (.int r4), (.ref o)]) (fun _ z_ => XS.iconst X24.here hx rfl (hb hby own_d18_109) z_) ?_
  refine own_g (own_F T24 m 111 #[rv o, iv (f k1)] [(.int (r4 + (1 : Int32))), (.ref o)]) (fun _ z_ => XS.iadd X24.here hx rfl (hb hby own_d18_110) rfl z_) ?_
  obtain ⟨T25, h25, X25, e25, W25, st25⟩ := putF X24 hx hZ hown (host := "") (Or.inl (own_w hw 133)) Via.refl e24 ((((F_valueStart.other W5 (Or.inr (slot_ne (C := "com/example/cadmus/cadmus/Markup$StartTag") (Or.inl (own_w hw 134)) (Or.inl (own_w hw 92)) (by decide) (t := .int) (t' := .int) (by decide) (by decide)))).other W10 (Or.inr (slot_ne (C := "com/example/cadmus/cadmus/Markup$StartTag") (Or.inl (own_w hw 134)) (Or.inl (own_w hw 130)) (by decide) (t := .int) (t' := .int) (by decide) (by decide)))).other W15 (Or.inr (slot_ne (C := "com/example/cadmus/cadmus/Markup$StartTag") (Or.inl (own_w hw 134)) (Or.inl (own_w hw 132)) (by decide) (t := .int) (t' := .int) (by decide) (by decide)))).other W23 (Or.inr (slot_ne (C := "com/example/cadmus/cadmus/Markup$StartTag") (Or.inl (own_w hw 134)) (Or.inl (own_w hw 92)) (by decide) (t := .int) (t' := .int) (by decide) (by decide)))) ((((E_o.wr W5).wr W10).wr W15).wr W23) (Or.inl (own_w hw 134)) (own_w hw 9) (ty := .int) (by decide) rfl rfl (g := (mkF m 111 #[rv o, iv (f k1)] [(.int (r4 + (1 : Int32))), (.ref o)])) rfl rfl (hb hby own_d18_111)
  have N25 := Fr.snoc X25 N23 g_o
  have Fw25 := ((((F_valueStart.other W5 (Or.inr (slot_ne (C := "com/example/cadmus/cadmus/Markup$StartTag") (Or.inl (own_w hw 134)) (Or.inl (own_w hw 92)) (by decide) (t := .int) (t' := .int) (by decide) (by decide)))).other W10 (Or.inr (slot_ne (C := "com/example/cadmus/cadmus/Markup$StartTag") (Or.inl (own_w hw 134)) (Or.inl (own_w hw 130)) (by decide) (t := .int) (t' := .int) (by decide) (by decide)))).other W15 (Or.inr (slot_ne (C := "com/example/cadmus/cadmus/Markup$StartTag") (Or.inl (own_w hw 134)) (Or.inl (own_w hw 132)) (by decide) (t := .int) (t' := .int) (by decide) (by decide)))).other W23 (Or.inr (slot_ne (C := "com/example/cadmus/cadmus/Markup$StartTag") (Or.inl (own_w hw 134)) (Or.inl (own_w hw 92)) (by decide) (t := .int) (t' := .int) (by decide) (by decide)))).same W25
  refine own_pre (S' := (own_F T25 m 114 #[rv o, iv (f k1)] [])) st25 ?_
  refine own_g (own_F T25 m 115 #[rv o, iv (f k1)] [(.ref o)]) (fun _ z_ => XS.aloadN X25.here hx rfl (hb hby own_d18_114) rfl rfl z_) ?_
  refine own_g (own_F T25 m 116 #[rv o, iv (f k1)] [(.ref o), (.ref o)]) (fun _ z_ => XS.aloadN X25.here hx rfl (hb hby own_d18_115) rfl rfl z_) ?_
  obtain ⟨T26, X26, e26, st26⟩ := getF X25 hx hZ hown (host := "") (Or.inl (own_w hw 56)) Via.refl e25 (((((F_t.other W5 (Or.inr (slot_ne (C := "com/example/cadmus/cadmus/Markup$StartTag") (Or.inl (own_w hw 57)) (Or.inl (own_w hw 92)) (by decide) (t := (.object "java/lang/String")) (t' := .int) (by decide) (by decide)))).other W10 (Or.inr (slot_ne (C := "com/example/cadmus/cadmus/Markup$StartTag") (Or.inl (own_w hw 57)) (Or.inl (own_w hw 130)) (by decide) (t := (.object "java/lang/String")) (t' := .int) (by decide) (by decide)))).other W15 (Or.inr (slot_ne (C := "com/example/cadmus/cadmus/Markup$StartTag") (Or.inl (own_w hw 57)) (Or.inl (own_w hw 132)) (by decide) (t := (.object "java/lang/String")) (t' := .int) (by decide) (by decide)))).other W23 (Or.inr (slot_ne (C := "com/example/cadmus/cadmus/Markup$StartTag") (Or.inl (own_w hw 57)) (Or.inl (own_w hw 92)) (by decide) (t := (.object "java/lang/String")) (t' := .int) (by decide) (by decide)))).other W25 (Or.inr (slot_ne (C := "com/example/cadmus/cadmus/Markup$StartTag") (Or.inl (own_w hw 57)) (Or.inl (own_w hw 134)) (by decide) (t := (.object "java/lang/String")) (t' := .int) (by decide) (by decide)))) (g := (mkF m 116 #[rv o, iv (f k1)] [(.ref o), (.ref o)])) rfl rfl (hb hby own_d18_116)
  refine own_pre (S' := (own_F T26 m 119 #[rv o, iv (f k1)] [(.ref x), (.ref o)])) st26 ?_
  refine own_g (own_F T26 m 120 #[rv o, iv (f k1)] [(.ref o), (.ref x), (.ref o)]) (fun _ z_ => XS.aloadN X26.here hx rfl (hb hby own_d18_119) rfl rfl z_) ?_
  obtain ⟨T27, X27, e27, st27⟩ := getF X26 hx hZ hown (host := "") (Or.inl (own_w hw 56)) Via.refl e26 (((((F_t.other W5 (Or.inr (slot_ne (C := "com/example/cadmus/cadmus/Markup$StartTag") (Or.inl (own_w hw 57)) (Or.inl (own_w hw 92)) (by decide) (t := (.object "java/lang/String")) (t' := .int) (by decide) (by decide)))).other W10 (Or.inr (slot_ne (C := "com/example/cadmus/cadmus/Markup$StartTag") (Or.inl (own_w hw 57)) (Or.inl (own_w hw 130)) (by decide) (t := (.object "java/lang/String")) (t' := .int) (by decide) (by decide)))).other W15 (Or.inr (slot_ne (C := "com/example/cadmus/cadmus/Markup$StartTag") (Or.inl (own_w hw 57)) (Or.inl (own_w hw 132)) (by decide) (t := (.object "java/lang/String")) (t' := .int) (by decide) (by decide)))).other W23 (Or.inr (slot_ne (C := "com/example/cadmus/cadmus/Markup$StartTag") (Or.inl (own_w hw 57)) (Or.inl (own_w hw 92)) (by decide) (t := (.object "java/lang/String")) (t' := .int) (by decide) (by decide)))).other W25 (Or.inr (slot_ne (C := "com/example/cadmus/cadmus/Markup$StartTag") (Or.inl (own_w hw 57)) (Or.inl (own_w hw 134)) (by decide) (t := (.object "java/lang/String")) (t' := .int) (by decide) (by decide)))) (g := (mkF m 120 #[rv o, iv (f k1)] [(.ref o), (.ref x), (.ref o)])) rfl rfl (hb hby own_d18_120)
  refine own_pre (S' := (own_F T27 m 123 #[rv o, iv (f k1)] [(.ref x), (.ref x), (.ref o)])) st27 ?_
  refine own_g (own_F T27 m 124 #[rv o, iv (f k1)] [(.ref o), (.ref x), (.ref x), (.ref o)]) (fun _ z_ => XS.aloadN X27.here hx rfl (hb hby own_d18_123) rfl rfl z_) ?_
  obtain ⟨T28, X28, e28, st28⟩ := getF X27 hx hZ hown (host := "") (Or.inl (own_w hw 91)) Via.refl e27 (Fw23.other W25 (Or.inr (slot_ne (C := "com/example/cadmus/cadmus/Markup$StartTag") (Or.inl (own_w hw 92)) (Or.inl (own_w hw 134)) (by decide) (t := .int) (t' := .int) (by decide) (by decide)))) (g := (mkF m 124 #[rv o, iv (f k1)] [(.ref o), (.ref x), (.ref x), (.ref o)])) rfl rfl (hb hby own_d18_124)
  refine own_pre (S' := (own_F T28 m 127 #[rv o, iv (f k1)] [(.int r4), (.ref x), (.ref x), (.ref o)])) st28 ?_
  refine own_callV (C := "java/lang/String") (y := (⟨"java/lang/String", "charAt", "(I)C"⟩ : MethodName)) (b := x) X28 hx hZ hown (own_w hw 118) (own_w hw 63) (own_w hw 65) (own_w hw 64) (own_w hw 66) (own_w hw 18) (by decide) e28 ((((((own_StrE hS).wr W5).wr W10).wr W15).wr W23).wr W25) (hM := own_charAt l Z a0 hw [] x r4 zc k4 n f sv hsv h25 n0 (Nat.le_trans (Nat.le_trans (Nat.le_trans (Nat.le_trans (Nat.le_trans Z0 (Nat.le_of_eq W5.size.symm)) (Nat.le_of_eq W10.size.symm)) (Nat.le_of_eq W15.size.symm)) (Nat.le_of_eq W23.size.symm)) (Nat.le_of_eq W25.size.symm)) hp_r4 (by omega) hzc (own_Str.keepO (own_Str.keepO (own_Str.keepO (own_Str.keepO (own_Str.keepO hS (Keep.of_wr W5) E_o (by decide) (own_w hw 9)) (Keep.of_wr W10) (E_o.wr W5) (by decide) (own_w hw 9)) (Keep.of_wr W15) ((E_o.wr W5).wr W10) (by decide) (own_w hw 9)) (Keep.of_wr W23) (((E_o.wr W5).wr W10).wr W15) (by decide) (own_w hw 9)) (Keep.of_wr W25) ((((E_o.wr W5).wr W10).wr W15).wr W23) (by decide) (own_w hw 9)) (((((S_cs.wr W5).wr W10).wr W15).wr W23).wr W25) (((((S_sf.wr W5).wr W10).wr W15).wr W23).wr W25) (((((S_ad.wr W5).wr W10).wr W15).wr W23).wr W25) (((((S_hi.wr W5).wr W10).wr W15).wr W23).wr W25) (((((S_lo.wr W5).wr W10).wr W15).wr W23).wr W25)) (W := 2) (pc := 127) (Ls := #[rv o, iv (f k1)]) (argsL := [(.int r4)]) (rest := [(.ref x), (.ref o)]) (st0 := [(.int r4), (.ref x), (.ref x), (.ref o)]) (by rw [hml]; rfl) (lenOf own_pd21 rfl) rfl (Nat.le_of_eq rfl) (hb hby own_d18_127) (by decide) (by decide) (by decide) (by decide) ?_
  intro v29 T29 L29 s X29 hZ hown hI29 hvm29 hhp29 hWw29 hQ29
  obtain ⟨rfl, Nq29, hh29⟩ := hQ29
  have N29 := Fr.app N25 Nq29
  show own_Ends p e below s _ _ _ (own_F T29 m 130 #[rv o, iv (f k1)] [(.int (f k4)), (.ref x), (.ref o)])
  refine own_g (own_F T29 m 131 #[rv o, iv (f k1)] [(.ref o), (.int (f k4)), (.ref x), (.ref o)]) (fun _ z_ => XS.aloadN X29.here hx rfl (hb hby own_d18_130) rfl rfl z_) ?_
  obtain ⟨T30, X30, e30, st30⟩ := getF X29 hx hZ hown (host := "") (Or.inl (own_w hw 133)) Via.refl hh29 Fw25 (g := (mkF m 131 #[rv o, iv (f k1)] [(.ref o), (.int (f k4)), (.ref x), (.ref o)])) rfl rfl (hb hby own_d18_131)
  refine own_pre (S' := (own_F T30 m 134 #[rv o, iv (f k1)] [(.int (r4 + (1 : Int32))), (.int (f k4)), (.ref x), (.ref o)])) st30 ?_
  have hp_r4' := own_add1 hp_r4 (by omega)
  refine own_callS (y := (⟨"com/example/cadmus/cadmus/Markup", "after", "(Ljava/lang/String;CI)I"⟩ : MethodName)) X30 hx hZ hown (own_w hw 135) (own_w hw 136) (own_w hw 60) (own_w hw 137) (by decide) e30 (hM := own_after l Z a0 hw [] x n (k4 + 1) (f k4) (r4 + (1 : Int32)) nn zc f sv hsv h25 n0 (Nat.le_trans (Nat.le_trans (Nat.le_trans (Nat.le_trans (Nat.le_trans Z0 (Nat.le_of_eq W5.size.symm)) (Nat.le_of_eq W10.size.symm)) (Nat.le_of_eq W15.size.symm)) (Nat.le_of_eq W23.size.symm)) (Nat.le_of_eq W25.size.symm)) hp_r4' (by omega) hn hc hne heq hzc (own_Str.keepO (own_Str.keepO (own_Str.keepO (own_Str.keepO (own_Str.keepO hS (Keep.of_wr W5) E_o (by decide) (own_w hw 9)) (Keep.of_wr W10) (E_o.wr W5) (by decide) (own_w hw 9)) (Keep.of_wr W15) ((E_o.wr W5).wr W10) (by decide) (own_w hw 9)) (Keep.of_wr W23) (((E_o.wr W5).wr W10).wr W15) (by decide) (own_w hw 9)) (Keep.of_wr W25) ((((E_o.wr W5).wr W10).wr W15).wr W23) (by decide) (own_w hw 9)) (((((S_cs.wr W5).wr W10).wr W15).wr W23).wr W25) (((((S_sf.wr W5).wr W10).wr W15).wr W23).wr W25) (((((S_ad.wr W5).wr W10).wr W15).wr W23).wr W25) (((((S_hi.wr W5).wr W10).wr W15).wr W23).wr W25) (((((S_lo.wr W5).wr W10).wr W15).wr W23).wr W25)) (W := 1) (pc := 134) (Ls := #[rv o, iv (f k1)]) (argsL := [(.ref x), (.int (f k4)), (.int (r4 + (1 : Int32)))]) (rest := [(.ref o)]) (st0 := [(.int (r4 + (1 : Int32))), (.int (f k4)), (.ref x), (.ref o)]) (by rw [hml]; rfl) (lenOf own_pd24 rfl) rfl (Nat.le_of_eq rfl) (hb hby own_d18_134) (by decide) (by decide) (by decide) (by decide) ?_
  intro v31 T31 L31 s X31 hZ hown hI31 hvm31 hhp31 hWw31 hQ31
  obtain ⟨rfl, Nq31, hh31⟩ := hQ31
  have N31 := Fr.app N29 Nq31
  show own_Ends p e below s _ _ _ (own_F T31 m 137 #[rv o, iv (f k1)] [(.int (((r4 + (1 : Int32)) + (1 : Int32)) + (1 : Int32))), (.ref o)])
  obtain ⟨T32, h32, X32, e32, W32, st32⟩ := putF X31 hx hZ hown (host := "") (Or.inl (own_w hw 91)) Via.refl hh31 (Fw23.other W25 (Or.inr (slot_ne (C := "com/example/cadmus/cadmus/Markup$StartTag") (Or.inl (own_w hw 92)) (Or.inl (own_w hw 134)) (by decide) (t := .int) (t' := .int) (by decide) (by decide)))) (((((E_o.wr W5).wr W10).wr W15).wr W23).wr W25) (Or.inl (own_w hw 92)) (own_w hw 9) (ty := .int) (by decide) rfl rfl (g := (mkF m 137 #[rv o, iv (f k1)] [(.int (((r4 + (1 : Int32)) + (1 : Int32)) + (1 : Int32))), (.ref o)])) rfl rfl (hb hby own_d18_137)
  have N32 := Fr.snoc X32 N31 g_o
  have Fw32 := (Fw23.other W25 (Or.inr (slot_ne (C := "com/example/cadmus/cadmus/Markup$StartTag") (Or.inl (own_w hw 92)) (Or.inl (own_w hw 134)) (by decide) (t := .int) (t' := .int) (by decide) (by decide)))).same W32
  refine own_pre (S' := (own_F T32 m 140 #[rv o, iv (f k1)] [])) st32 ?_
  refine own_g (own_F T32 m 141 #[rv o, iv (f k1)] [(.ref o)]) (fun _ z_ => XS.aloadN X32.here hx rfl (hb hby own_d18_140) rfl rfl z_) ?_
  refine own_g (own_F T32 m 142 #[rv o, iv (f k1)] [(.ref o), (.ref o)]) (fun _ z_ => XS.aloadN X32.here hx rfl (hb hby own_d18_141) rfl rfl z_) ?_
  obtain ⟨T33, X33, e33, st33⟩ := getF X32 hx hZ hown (host := "") (Or.inl (own_w hw 91)) Via.refl e32 Fw32 (g := (mkF m 142 #[rv o, iv (f k1)] [(.ref o), (.ref o)])) rfl rfl (hb hby own_d18_142)
  refine own_pre (S' := (own_F T33 m 145 #[rv o, iv (f k1)] [(.int (((r4 + (1 : Int32)) + (1 : Int32)) + (1 : Int32))), (.ref o)])) st33 ?_
  refine own_g (own_F T33 m 146 #[rv o, iv (f k1)] [(.int 1), (.int (((r4 + (1 : Int32)) + (1 : Int32)) + (1 : Int32))), (.ref o)]) (fun _ z_ => XS.iconst X33.here hx rfl (hb hby own_d18_145) z_) ?_
  refine own_g (own_F T33 m 147 #[rv o, iv (f k1)] [(.int ((((r4 + (1 : Int32)) + (1 : Int32)) + (1 : Int32)) - (1 : Int32))), (.ref o)]) (fun _ z_ => XS.isub X33.here hx rfl (hb hby own_d18_146) rfl z_) ?_
  obtain ⟨T34, h34, X34, e34, W34, st34⟩ := putF X33 hx hZ hown (host := "") (Or.inl (own_w hw 160)) Via.refl e33 ((((((F_valueEnd.other W5 (Or.inr (slot_ne (C := "com/example/cadmus/cadmus/Markup$StartTag") (Or.inl (own_w hw 161)) (Or.inl (own_w hw 92)) (by decide) (t := .int) (t' := .int) (by decide) (by decide)))).other W10 (Or.inr (slot_ne (C := "com/example/cadmus/cadmus/Markup$StartTag") (Or.inl (own_w hw 161)) (Or.inl (own_w hw 130)) (by decide) (t := .int) (t' := .int) (by decide) (by decide)))).other W15 (Or.inr (slot_ne (C := "com/example/cadmus/cadmus/Markup$StartTag") (Or.inl (own_w hw 161)) (Or.inl (own_w hw 132)) (by decide) (t := .int) (t' := .int) (by decide) (by decide)))).other W23 (Or.inr (slot_ne (C := "com/example/cadmus/cadmus/Markup$StartTag") (Or.inl (own_w hw 161)) (Or.inl (own_w hw 92)) (by decide) (t := .int) (t' := .int) (by decide) (by decide)))).other W25 (Or.inr (slot_ne (C := "com/example/cadmus/cadmus/Markup$StartTag") (Or.inl (own_w hw 161)) (Or.inl (own_w hw 134)) (by decide) (t := .int) (t' := .int) (by decide) (by decide)))).other W32 (Or.inr (slot_ne (C := "com/example/cadmus/cadmus/Markup$StartTag") (Or.inl (own_w hw 161)) (Or.inl (own_w hw 92)) (by decide) (t := .int) (t' := .int) (by decide) (by decide)))) ((((((E_o.wr W5).wr W10).wr W15).wr W23).wr W25).wr W32) (Or.inl (own_w hw 161)) (own_w hw 9) (ty := .int) (by decide) rfl rfl (g := (mkF m 147 #[rv o, iv (f k1)] [(.int ((((r4 + (1 : Int32)) + (1 : Int32)) + (1 : Int32)) - (1 : Int32))), (.ref o)])) rfl rfl (hb hby own_d18_147)
  have N34 := Fr.snoc X34 N32 g_o
  have Fw34 := ((((((F_valueEnd.other W5 (Or.inr (slot_ne (C := "com/example/cadmus/cadmus/Markup$StartTag") (Or.inl (own_w hw 161)) (Or.inl (own_w hw 92)) (by decide) (t := .int) (t' := .int) (by decide) (by decide)))).other W10 (Or.inr (slot_ne (C := "com/example/cadmus/cadmus/Markup$StartTag") (Or.inl (own_w hw 161)) (Or.inl (own_w hw 130)) (by decide) (t := .int) (t' := .int) (by decide) (by decide)))).other W15 (Or.inr (slot_ne (C := "com/example/cadmus/cadmus/Markup$StartTag") (Or.inl (own_w hw 161)) (Or.inl (own_w hw 132)) (by decide) (t := .int) (t' := .int) (by decide) (by decide)))).other W23 (Or.inr (slot_ne (C := "com/example/cadmus/cadmus/Markup$StartTag") (Or.inl (own_w hw 161)) (Or.inl (own_w hw 92)) (by decide) (t := .int) (t' := .int) (by decide) (by decide)))).other W25 (Or.inr (slot_ne (C := "com/example/cadmus/cadmus/Markup$StartTag") (Or.inl (own_w hw 161)) (Or.inl (own_w hw 134)) (by decide) (t := .int) (t' := .int) (by decide) (by decide)))).other W32 (Or.inr (slot_ne (C := "com/example/cadmus/cadmus/Markup$StartTag") (Or.inl (own_w hw 161)) (Or.inl (own_w hw 92)) (by decide) (t := .int) (t' := .int) (by decide) (by decide)))).same W34
  refine own_pre (S' := (own_F T34 m 150 #[rv o, iv (f k1)] [])) st34 ?_
  refine own_g (own_F T34 m 151 #[rv o, iv (f k1)] [(.ref o)]) (fun _ z_ => XS.aloadN X34.here hx rfl (hb hby own_d18_150) rfl rfl z_) ?_
  refine own_g (own_F T34 m 152 #[rv o, iv (f k1)] [(.ref o), (.ref o)]) (fun _ z_ => XS.aloadN X34.here hx rfl (hb hby own_d18_151) rfl rfl z_) ?_
  obtain ⟨T35, X35, e35, st35⟩ := getF X34 hx hZ hown (host := "") (Or.inl (own_w hw 91)) Via.refl e34 (Fw32.other W34 (Or.inr (slot_ne (C := "com/example/cadmus/cadmus/Markup$StartTag") (Or.inl (own_w hw 92)) (Or.inl (own_w hw 161)) (by decide) (t := .int) (t' := .int) (by decide) (by decide)))) (g := (mkF m 152 #[rv o, iv (f k1)] [(.ref o), (.ref o)])) rfl rfl (hb hby own_d18_152)
  refine own_pre (S' := (own_F T35 m 155 #[rv o, iv (f k1)] [(.int (((r4 + (1 : Int32)) + (1 : Int32)) + (1 : Int32))), (.ref o)])) st35 ?_
  obtain ⟨T36, h36, X36, e36, W36, st36⟩ := putF X35 hx hZ hown (host := "") (Or.inl (own_w hw 93)) Via.refl e35 (((((((F_attributesEnd.other W5 (Or.inr (slot_ne (C := "com/example/cadmus/cadmus/Markup$StartTag") (Or.inl (own_w hw 94)) (Or.inl (own_w hw 92)) (by decide) (t := .int) (t' := .int) (by decide) (by decide)))).other W10 (Or.inr (slot_ne (C := "com/example/cadmus/cadmus/Markup$StartTag") (Or.inl (own_w hw 94)) (Or.inl (own_w hw 130)) (by decide) (t := .int) (t' := .int) (by decide) (by decide)))).other W15 (Or.inr (slot_ne (C := "com/example/cadmus/cadmus/Markup$StartTag") (Or.inl (own_w hw 94)) (Or.inl (own_w hw 132)) (by decide) (t := .int) (t' := .int) (by decide) (by decide)))).other W23 (Or.inr (slot_ne (C := "com/example/cadmus/cadmus/Markup$StartTag") (Or.inl (own_w hw 94)) (Or.inl (own_w hw 92)) (by decide) (t := .int) (t' := .int) (by decide) (by decide)))).other W25 (Or.inr (slot_ne (C := "com/example/cadmus/cadmus/Markup$StartTag") (Or.inl (own_w hw 94)) (Or.inl (own_w hw 134)) (by decide) (t := .int) (t' := .int) (by decide) (by decide)))).other W32 (Or.inr (slot_ne (C := "com/example/cadmus/cadmus/Markup$StartTag") (Or.inl (own_w hw 94)) (Or.inl (own_w hw 92)) (by decide) (t := .int) (t' := .int) (by decide) (by decide)))).other W34 (Or.inr (slot_ne (C := "com/example/cadmus/cadmus/Markup$StartTag") (Or.inl (own_w hw 94)) (Or.inl (own_w hw 161)) (by decide) (t := .int) (t' := .int) (by decide) (by decide)))) (((((((E_o.wr W5).wr W10).wr W15).wr W23).wr W25).wr W32).wr W34) (Or.inl (own_w hw 94)) (own_w hw 9) (ty := .int) (by decide) rfl rfl (g := (mkF m 155 #[rv o, iv (f k1)] [(.int (((r4 + (1 : Int32)) + (1 : Int32)) + (1 : Int32))), (.ref o)])) rfl rfl (hb hby own_d18_155)
  have N36 := Fr.snoc X36 N34 g_o
  have Fw36 := (((((((F_attributesEnd.other W5 (Or.inr (slot_ne (C := "com/example/cadmus/cadmus/Markup$StartTag") (Or.inl (own_w hw 94)) (Or.inl (own_w hw 92)) (by decide) (t := .int) (t' := .int) (by decide) (by decide)))).other W10 (Or.inr (slot_ne (C := "com/example/cadmus/cadmus/Markup$StartTag") (Or.inl (own_w hw 94)) (Or.inl (own_w hw 130)) (by decide) (t := .int) (t' := .int) (by decide) (by decide)))).other W15 (Or.inr (slot_ne (C := "com/example/cadmus/cadmus/Markup$StartTag") (Or.inl (own_w hw 94)) (Or.inl (own_w hw 132)) (by decide) (t := .int) (t' := .int) (by decide) (by decide)))).other W23 (Or.inr (slot_ne (C := "com/example/cadmus/cadmus/Markup$StartTag") (Or.inl (own_w hw 94)) (Or.inl (own_w hw 92)) (by decide) (t := .int) (t' := .int) (by decide) (by decide)))).other W25 (Or.inr (slot_ne (C := "com/example/cadmus/cadmus/Markup$StartTag") (Or.inl (own_w hw 94)) (Or.inl (own_w hw 134)) (by decide) (t := .int) (t' := .int) (by decide) (by decide)))).other W32 (Or.inr (slot_ne (C := "com/example/cadmus/cadmus/Markup$StartTag") (Or.inl (own_w hw 94)) (Or.inl (own_w hw 92)) (by decide) (t := .int) (t' := .int) (by decide) (by decide)))).other W34 (Or.inr (slot_ne (C := "com/example/cadmus/cadmus/Markup$StartTag") (Or.inl (own_w hw 94)) (Or.inl (own_w hw 161)) (by decide) (t := .int) (t' := .int) (by decide) (by decide)))).same W36
  refine own_pre (S' := (own_F T36 m 158 #[rv o, iv (f k1)] [])) st36 ?_
  refine own_g (own_F T36 m 159 #[rv o, iv (f k1)] [(.int 1)]) (fun _ z_ => XS.iconst X36.here hx rfl (hb hby own_d18_158) z_) ?_
  refine own_ret (t := .boolean) X36 hx hlk hrt rfl (Or.inl ⟨rfl, by simp, _, rfl⟩) (hb hby own_d18_159) (by decide) (by decide) ?_
  show ∃ r : Int32, _ ∧ _ ∧ Fr n0 _ ∧ Keep h0 T36.heap [o] ∧ _
  rw [e36]
  exact ⟨_, rfl, own_add1 (own_add1 hp_r4' (by omega)) (by omega), N36, (((((((((Keep.refl _ _).wr W5 (Or.inl (List.mem_of_getElem? (i := 0) rfl))).wr W10 (Or.inl (List.mem_of_getElem? (i := 0) rfl))).wr W15 (Or.inl (List.mem_of_getElem? (i := 0) rfl))).wr W23 (Or.inl (List.mem_of_getElem? (i := 0) rfl))).wr W25 (Or.inl (List.mem_of_getElem? (i := 0) rfl))).wr W32 (Or.inl (List.mem_of_getElem? (i := 0) rfl))).wr W34 (Or.inl (List.mem_of_getElem? (i := 0) rfl))).wr W36 (Or.inl (List.mem_of_getElem? (i := 0) rfl))), ((((((((F_t.other W5 (Or.inr (slot_ne (C := "com/example/cadmus/cadmus/Markup$StartTag") (Or.inl (own_w hw 57)) (Or.inl (own_w hw 92)) (by decide) (t := (.object "java/lang/String")) (t' := .int) (by decide) (by decide)))).other W10 (Or.inr (slot_ne (C := "com/example/cadmus/cadmus/Markup$StartTag") (Or.inl (own_w hw 57)) (Or.inl (own_w hw 130)) (by decide) (t := (.object "java/lang/String")) (t' := .int) (by decide) (by decide)))).other W15 (Or.inr (slot_ne (C := "com/example/cadmus/cadmus/Markup$StartTag") (Or.inl (own_w hw 57)) (Or.inl (own_w hw 132)) (by decide) (t := (.object "java/lang/String")) (t' := .int) (by decide) (by decide)))).other W23 (Or.inr (slot_ne (C := "com/example/cadmus/cadmus/Markup$StartTag") (Or.inl (own_w hw 57)) (Or.inl (own_w hw 92)) (by decide) (t := (.object "java/lang/String")) (t' := .int) (by decide) (by decide)))).other W25 (Or.inr (slot_ne (C := "com/example/cadmus/cadmus/Markup$StartTag") (Or.inl (own_w hw 57)) (Or.inl (own_w hw 134)) (by decide) (t := (.object "java/lang/String")) (t' := .int) (by decide) (by decide)))).other W32 (Or.inr (slot_ne (C := "com/example/cadmus/cadmus/Markup$StartTag") (Or.inl (own_w hw 57)) (Or.inl (own_w hw 92)) (by decide) (t := (.object "java/lang/String")) (t' := .int) (by decide) (by decide)))).other W34 (Or.inr (slot_ne (C := "com/example/cadmus/cadmus/Markup$StartTag") (Or.inl (own_w hw 57)) (Or.inl (own_w hw 161)) (by decide) (t := (.object "java/lang/String")) (t' := .int) (by decide) (by decide)))).other W36 (Or.inr (slot_ne (C := "com/example/cadmus/cadmus/Markup$StartTag") (Or.inl (own_w hw 57)) (Or.inl (own_w hw 94)) (by decide) (t := (.object "java/lang/String")) (t' := .int) (by decide) (by decide)))), ((Fw32.other W34 (Or.inr (slot_ne (C := "com/example/cadmus/cadmus/Markup$StartTag") (Or.inl (own_w hw 92)) (Or.inl (own_w hw 161)) (by decide) (t := .int) (t' := .int) (by decide) (by decide)))).other W36 (Or.inr (slot_ne (C := "com/example/cadmus/cadmus/Markup$StartTag") (Or.inl (own_w hw 92)) (Or.inl (own_w hw 94)) (by decide) (t := .int) (t' := .int) (by decide) (by decide)))), ((((((((F_ver.other W5 (Or.inr (slot_ne (C := "com/example/cadmus/cadmus/Markup$StartTag") (Or.inr (own_w hw 28)) (Or.inl (own_w hw 92)) (by decide) (t := (.object "com/example/cadmus/cadmus/XmlVersion")) (t' := .int) (by decide) (by decide)))).other W10 (Or.inr (slot_ne (C := "com/example/cadmus/cadmus/Markup$StartTag") (Or.inr (own_w hw 28)) (Or.inl (own_w hw 130)) (by decide) (t := (.object "com/example/cadmus/cadmus/XmlVersion")) (t' := .int) (by decide) (by decide)))).other W15 (Or.inr (slot_ne (C := "com/example/cadmus/cadmus/Markup$StartTag") (Or.inr (own_w hw 28)) (Or.inl (own_w hw 132)) (by decide) (t := (.object "com/example/cadmus/cadmus/XmlVersion")) (t' := .int) (by decide) (by decide)))).other W23 (Or.inr (slot_ne (C := "com/example/cadmus/cadmus/Markup$StartTag") (Or.inr (own_w hw 28)) (Or.inl (own_w hw 92)) (by decide) (t := (.object "com/example/cadmus/cadmus/XmlVersion")) (t' := .int) (by decide) (by decide)))).other W25 (Or.inr (slot_ne (C := "com/example/cadmus/cadmus/Markup$StartTag") (Or.inr (own_w hw 28)) (Or.inl (own_w hw 134)) (by decide) (t := (.object "com/example/cadmus/cadmus/XmlVersion")) (t' := .int) (by decide) (by decide)))).other W32 (Or.inr (slot_ne (C := "com/example/cadmus/cadmus/Markup$StartTag") (Or.inr (own_w hw 28)) (Or.inl (own_w hw 92)) (by decide) (t := (.object "com/example/cadmus/cadmus/XmlVersion")) (t' := .int) (by decide) (by decide)))).other W34 (Or.inr (slot_ne (C := "com/example/cadmus/cadmus/Markup$StartTag") (Or.inr (own_w hw 28)) (Or.inl (own_w hw 161)) (by decide) (t := (.object "com/example/cadmus/cadmus/XmlVersion")) (t' := .int) (by decide) (by decide)))).other W36 (Or.inr (slot_ne (C := "com/example/cadmus/cadmus/Markup$StartTag") (Or.inr (own_w hw 28)) (Or.inl (own_w hw 94)) (by decide) (t := (.object "com/example/cadmus/cadmus/XmlVersion")) (t' := .int) (by decide) (by decide))))⟩
set_option maxRecDepth 65536 in
set_option maxHeartbeats 40000000 in
theorem own_emp (l : Launch) (Z : State) (a0 : Array Value) (hw : ∀ d ∈ tables_1, d.before a0 Z = true) (ws : List Jvm.Cond) (o x a a11 : Addr) (n k : Nat) (j nn zc : Int32) (f : Nat → Int32) (V : Prop) (sv : Value) (hsv : sv.isRef = true) (ro : Int32) (h0 : Heap) (n0 : Nat) (Z0 : n0 ≤ h0.size) (hj : j.toInt = (k : Int)) (hn : nn.toInt = (n : Int)) (hzc : ¬ zc = (0 : Int32)) (hV : V ↔ a = a11) (hS : own_Str Z h0 x n f) (E_a : Exa Z h0 a "com/example/cadmus/cadmus/XmlVersion") (S_11 : Sta Z h0 "com/example/cadmus/cadmus/XmlVersion" "XML_1_1" "Lcom/example/cadmus/cadmus/XmlVersion;" (.ref a11)) (S_cs : Sta Z h0 "java/lang/String" "COMPACT_STRINGS" "Z" (.int zc)) (S_sf : Sta Z h0 "jdk/internal/util/Preconditions" "SIOOBE_FORMATTER" "Ljava/util/function/BiFunction;" sv) (S_ad : Sta Z h0 "java/lang/StringUTF16" "$assertionsDisabled" "Z" (.int (1 : Int32))) (S_hi : Sta Z h0 "java/lang/StringUTF16" "HI_BYTE_SHIFT" "I" (.int (0 : Int32))) (S_lo : Sta Z h0 "java/lang/StringUTF16" "LO_BYTE_SHIFT" "I" (.int (8 : Int32))) (E_o : Exa Z h0 o "com/example/cadmus/cadmus/Markup$StartTag") (F_t : Fld Z h0 o "com/example/cadmus/cadmus/Markup$StartTag" "text" "Ljava/lang/String;" (.ref x)) (F_at : Fld Z h0 o "com/example/cadmus/cadmus/Markup$StartTag" "at" "I" (.int j)) (F_ver : Fld Z h0 o "com/example/cadmus/cadmus/Markup$StartTag" "version" "Lcom/example/cadmus/cadmus/XmlVersion;" (.ref a)) (hk : k < n) (g_o : n0 ≤ o) (hr : (ro = 1 ∧ f k = (47 : Int32)) ∨ (ro = 0 ∧ ¬ f k = (47 : Int32))) :
    own_Met l Z (⟨"com/example/cadmus/cadmus/Markup$StartTag", "empty", "()Z"⟩ : MethodName) prog_11_method_9_code 1 (some .boolean) ws ({ frames := 5, cells := 0, slots := 0, locals := 66 } : Room) #[(.ref o)] h0 (fun v h L => v = some (.int ro) ∧ Fr n0 L ∧ h = h0) := by
  refine own_body own_pn37 (fun m => mkF m 0 #[rv o] []) (fun m => own_ef_own_emp m o) ?_
  intro p e s m below meth c T0 hx hby hml hlk hrt hZ hown hnm X0 e0
  have hown : s.vm.findClass "com/example/cadmus/cadmus/Markup$StartTag" = some m.cls := hown
  have N0 := Fr.nil n0
  have hn31 := own_Str31 hS
  refine own_g (own_F T0 m 1 #[rv o] [(.ref o)]) (fun _ z_ => XS.aloadN X0.here hx rfl (hb hby own_d22_0) rfl rfl z_) ?_
  obtain ⟨T1, X1, e1, st1⟩ := getF X0 hx hZ hown (host := "") (Or.inl (own_w hw 56)) Via.refl e0 F_t (g := (mkF m 1 #[rv o] [(.ref o)])) rfl rfl (hb hby own_d22_1)
  refine own_pre (S' := (own_F T1 m 4 #[rv o] [(.ref x)])) st1 ?_
  refine own_g (own_F T1 m 5 #[rv o] [(.ref o), (.ref x)]) (fun _ z_ => XS.aloadN X1.here hx rfl (hb hby own_d22_4) rfl rfl z_) ?_
  obtain ⟨T2, X2, e2, st2⟩ := getF X1 hx hZ hown (host := "") (Or.inl (own_w hw 91)) Via.refl e1 F_at (g := (mkF m 5 #[rv o] [(.ref o), (.ref x)])) rfl rfl (hb hby own_d22_5)
  refine own_pre (S' := (own_F T2 m 8 #[rv o] [(.int j), (.ref x)])) st2 ?_
  refine own_callV (C := "java/lang/String") (y := (⟨"java/lang/String", "charAt", "(I)C"⟩ : MethodName)) (b := x) X2 hx hZ hown (own_w hw 118) (own_w hw 63) (own_w hw 65) (own_w hw 64) (own_w hw 66) (own_w hw 18) (by decide) e2 (own_StrE hS) (hM := own_charAt l Z a0 hw [] x j zc k n f sv hsv h0 n0 Z0 hj (by omega) hzc hS S_cs S_sf S_ad S_hi S_lo) (W := 0) (pc := 8) (Ls := #[rv o]) (argsL := [(.int j)]) (rest := []) (st0 := [(.int j), (.ref x)]) (by rw [hml]; rfl) (lenOf own_pd21 rfl) rfl (Nat.le_of_eq rfl) (hb hby own_d22_8) (by decide) (by decide) (by decide) (by decide) ?_
  intro v3 T3 L3 s X3 hZ hown hI3 hvm3 hhp3 hWw3 hQ3
  obtain ⟨rfl, Nq3, hh3⟩ := hQ3
  have N3 := Fr.app N0 Nq3
  show own_Ends p e below s _ _ _ (own_F T3 m 11 #[rv o] [(.int (f k))])
  refine own_g (own_F T3 m 13 #[rv o] [(.int 47), (.int (f k))]) (fun _ z_ => XS.bipush X3.here hx rfl (hb hby own_d22_11) z_) ?_
  by_cases c13 : (f k) = (47 : Int32)
  · -- pc 13: (f k) = (47 : Int32)
   refine own_g (own_F T3 m 16 #[rv o] []) (fun _ z_ => XS.icmpNo X3.here hx rfl (hb hby own_d22_13) rfl (teq c13).2 z_) ?_
   refine own_g (own_F T3 m 17 #[rv o] [(.int 1)]) (fun _ z_ => XS.iconst X3.here hx rfl (hb hby own_d22_16) z_) ?_
   refine own_g (own_F T3 m 21 #[rv o] [(.int 1)]) (fun _ z_ => XS.goto X3.here hx rfl (pc0 := 17) (pc' := 21) rfl (hb hby own_d22_17) (by decide) (by decide) z_) ?_
   refine own_ret (t := .boolean) X3 hx hlk hrt rfl (Or.inl ⟨rfl, by simp, _, rfl⟩) (hb hby own_d22_21) (by decide) (by decide) ?_
   refine ⟨congrArg (fun z => some (Value.int z)) ?_, N3, hh3⟩
   rcases hr with ⟨rfl, q⟩ | ⟨rfl, q⟩ <;> first | rfl | exact absurd c13 q | exact absurd q c13
  · -- pc 13: not (f k) = (47 : Int32)
   refine own_g (own_F T3 m 20 #[rv o] []) (fun _ z_ => XS.icmpYes X3.here hx rfl (pc0 := 13) (pc' := 20) rfl (hb hby own_d22_13) rfl (feq c13).2 (by decide) (by decide) z_) ?_
   refine own_g (own_F T3 m 21 #[rv o] [(.int 0)]) (fun _ z_ => XS.iconst X3.here hx rfl (hb hby own_d22_20) z_) ?_
   refine own_ret (t := .boolean) X3 hx hlk hrt rfl (Or.inl ⟨rfl, by simp, _, rfl⟩) (hb hby own_d22_21) (by decide) (by decide) ?_
   refine ⟨congrArg (fun z => some (Value.int z)) ?_, N3, hh3⟩
   rcases hr with ⟨rfl, q⟩ | ⟨rfl, q⟩ <;> first | rfl | exact absurd c13 q | exact absurd q c13
set_option maxRecDepth 65536 in
set_option maxHeartbeats 40000000 in
theorem own_end0 (l : Launch) (Z : State) (a0 : Array Value) (hw : ∀ d ∈ tables_1, d.before a0 Z = true) (ws : List Jvm.Cond) (o x a a11 : Addr) (n k : Nat) (j nn zc : Int32) (f : Nat → Int32) (V : Prop) (sv : Value) (hsv : sv.isRef = true) (ke : Nat) (ro : Int32) (h0 : Heap) (n0 : Nat) (Z0 : n0 ≤ h0.size) (hj : j.toInt = (k : Int)) (hn : nn.toInt = (n : Int)) (hzc : ¬ zc = (0 : Int32)) (hV : V ↔ a = a11) (hS : own_Str Z h0 x n f) (E_a : Exa Z h0 a "com/example/cadmus/cadmus/XmlVersion") (S_11 : Sta Z h0 "com/example/cadmus/cadmus/XmlVersion" "XML_1_1" "Lcom/example/cadmus/cadmus/XmlVersion;" (.ref a11)) (S_cs : Sta Z h0 "java/lang/String" "COMPACT_STRINGS" "Z" (.int zc)) (S_sf : Sta Z h0 "jdk/internal/util/Preconditions" "SIOOBE_FORMATTER" "Ljava/util/function/BiFunction;" sv) (S_ad : Sta Z h0 "java/lang/StringUTF16" "$assertionsDisabled" "Z" (.int (1 : Int32))) (S_hi : Sta Z h0 "java/lang/StringUTF16" "HI_BYTE_SHIFT" "I" (.int (0 : Int32))) (S_lo : Sta Z h0 "java/lang/StringUTF16" "LO_BYTE_SHIFT" "I" (.int (8 : Int32))) (E_o : Exa Z h0 o "com/example/cadmus/cadmus/Markup$StartTag") (F_t : Fld Z h0 o "com/example/cadmus/cadmus/Markup$StartTag" "text" "Ljava/lang/String;" (.ref x)) (F_at : Fld Z h0 o "com/example/cadmus/cadmus/Markup$StartTag" "at" "I" (.int j)) (F_ver : Fld Z h0 o "com/example/cadmus/cadmus/Markup$StartTag" "version" "Lcom/example/cadmus/cadmus/XmlVersion;" (.ref a)) (g_o : n0 ≤ o) (hke : ke < n) (hske : own_skip V f k ke) (hce : f ke = (62 : Int32) ∨ f ke = (47 : Int32)) (hr : (ro = 1 ∧ f ke = (47 : Int32)) ∨ (ro = 0 ∧ ¬ f ke = (47 : Int32))) (hnb : n ≤ 1000) :
    own_Met l Z (⟨"com/example/cadmus/cadmus/Markup$StartTag", "end", "()I"⟩ : MethodName) prog_11_method_8_code 1 (some .int) ws ({ frames := 7, cells := 0, slots := 0, locals := 96 } : Room) #[(.ref o)] h0 (fun v h L => ∃ r : Int32, (∃ w : Int32, v = some (.int w) ∧ ((ro = 1 ∧ w.toInt = ((ke + 2 : Nat) : Int)) ∨ (ro = 0 ∧ w.toInt = ((ke + 1 : Nat) : Int)))) ∧ r.toInt = ((ke : Nat) : Int) ∧ Fr n0 L ∧ Keep h0 h [o] ∧ Fld Z h o "com/example/cadmus/cadmus/Markup$StartTag" "text" "Ljava/lang/String;" (.ref x) ∧ Fld Z h o "com/example/cadmus/cadmus/Markup$StartTag" "at" "I" (.int r) ∧ Fld Z h o "com/example/cadmus/cadmus/Markup$StartTag" "version" "Lcom/example/cadmus/cadmus/XmlVersion;" (.ref a)) := by
  refine own_body own_pn38 (fun m => mkF m 0 #[rv o] []) (fun m => own_ef_own_end0 m o) ?_
  intro p e s m below meth c T0 hx hby hml hlk hrt hZ hown hnm X0 e0
  have hown : s.vm.findClass "com/example/cadmus/cadmus/Markup$StartTag" = some m.cls := hown
  have N0 := Fr.nil n0
  have hn31 := own_Str31 hS
  refine own_g (own_F T0 m 1 #[rv o] [(.ref o)]) (fun _ z_ => XS.aloadN X0.here hx rfl (hb hby own_d17_0) rfl rfl z_) ?_
  refine own_callV (C := "com/example/cadmus/cadmus/Markup$StartTag") (y := (⟨"com/example/cadmus/cadmus/Markup$StartTag", "nextAttribute", "()Z"⟩ : MethodName)) (b := o) X0 hx hZ hown (own_w hw 100) (own_w hw 101) (own_w hw 103) (own_w hw 102) (own_w hw 104) (own_w hw 10) (by decide) e0 E_o (hM := own_na0 l Z a0 hw [] o x a a11 n k j nn zc f V sv hsv ke h0 n0 Z0 hj hn hzc hV hS E_a S_11 S_cs S_sf S_ad S_hi S_lo E_o F_t F_at F_ver hke hske hce g_o) (W := 0) (pc := 1) (Ls := #[rv o]) (argsL := []) (rest := []) (st0 := [(.ref o)]) (by rw [hml]; rfl) (lenOf own_pd12 rfl) rfl (Nat.le_of_eq rfl) (hb hby own_d17_1) (by decide) (by decide) (by decide) (by decide) ?_
  intro v1 T1 L1 s X1 hZ hown hI1 hvm1 hhp1 hWw1 hQ1
  obtain ⟨rB, rfl, hpB, Nq1, K1, GB_0, GB_1, GB_2⟩ := hQ1
  have N1 := Fr.app N0 Nq1
  show own_Ends p e below s _ _ _ (own_F T1 m 4 #[rv o] [(.int 0)])
  refine own_g (own_F T1 m 10 #[rv o] []) (fun _ z_ => XS.ifYes X1.here hx rfl (pc0 := 4) (pc' := 10) rfl (hb hby own_d17_4) rfl ((if0 _ _).trans (teq (by decide : ((0 : Int32) = (0 : Int32)))).1) (by decide) (by decide) z_) ?_
  refine own_g (own_F T1 m 11 #[rv o] [(.ref o)]) (fun _ z_ => XS.aloadN X1.here hx rfl (hb hby own_d17_10) rfl rfl z_) ?_
  refine own_callV (C := "com/example/cadmus/cadmus/Markup$StartTag") (y := (⟨"com/example/cadmus/cadmus/Markup$StartTag", "empty", "()Z"⟩ : MethodName)) (b := o) X1 hx hZ hown (own_w hw 119) (own_w hw 120) (own_w hw 122) (own_w hw 121) (own_w hw 123) (own_w hw 10) (by decide) (rfl : T1.heap = T1.heap) (E_o.keep K1) (hM := own_emp l Z a0 hw [] o x a a11 n ke rB nn zc f V sv hsv ro T1.heap n0 (Nat.le_trans Z0 K1.1) hpB hn hzc hV (own_Str.keepO hS K1 E_o (by decide) (own_w hw 9)) (E_a.keep K1) (own_sta_keep S_11 K1 (allS (own_plainE E_o) all0)) (own_sta_keep S_cs K1 (allS (own_plainE E_o) all0)) (own_sta_keep S_sf K1 (allS (own_plainE E_o) all0)) (own_sta_keep S_ad K1 (allS (own_plainE E_o) all0)) (own_sta_keep S_hi K1 (allS (own_plainE E_o) all0)) (own_sta_keep S_lo K1 (allS (own_plainE E_o) all0)) (E_o.keep K1) GB_0 GB_1 GB_2 hke g_o hr) (W := 0) (pc := 11) (Ls := #[rv o]) (argsL := []) (rest := []) (st0 := [(.ref o)]) (by rw [hml]; rfl) (lenOf own_pd12 rfl) rfl (Nat.le_of_eq rfl) (hb hby own_d17_11) (by decide) (by decide) (by decide) (by decide) ?_
  intro v2 T2 L2 s X2 hZ hown hI2 hvm2 hhp2 hWw2 hQ2
  obtain ⟨rfl, Nq2, hh2⟩ := hQ2
  have N2 := Fr.app N1 Nq2
  show own_Ends p e below s _ _ _ (own_F T2 m 14 #[rv o] [(.int ro)])
  by_cases c14 : ro = (0 : Int32)
  · -- pc 14: ro = (0 : Int32)
   refine own_g (own_F T2 m 26 #[rv o] []) (fun _ z_ => XS.ifYes X2.here hx rfl (pc0 := 14) (pc' := 26) rfl (hb hby own_d17_14) rfl ((if0 _ _).trans (teq c14).1) (by decide) (by decide) z_) ?_
   refine own_g (own_F T2 m 27 #[rv o] [(.ref o)]) (fun _ z_ => XS.aloadN X2.here hx rfl (hb hby own_d17_26) rfl rfl z_) ?_
   obtain ⟨T3, X3, e3, st3⟩ := getF X2 hx hZ hown (host := "") (Or.inl (own_w hw 91)) Via.refl hh2 GB_1 (g := (mkF m 27 #[rv o] [(.ref o)])) rfl rfl (hb hby own_d17_27)
   refine own_pre (S' := (own_F T3 m 30 #[rv o] [(.int rB)])) st3 ?_
   refine own_g (own_F T3 m 31 #[rv o] [(.int 1), (.int rB)]) (fun _ z_ => XS.iconst X3.here hx rfl (hb hby own_d17_30) z_) ?_
   refine own_g (own_F T3 m 32 #[rv o] [(.int (rB + (1 : Int32)))]) (fun _ z_ => XS.iadd X3.here hx rfl (hb hby own_d17_31) rfl z_) ?_
   refine own_ret (t := .int) X3 hx hlk hrt rfl (Or.inl ⟨rfl, by simp, _, rfl⟩) (hb hby own_d17_32) (by decide) (by decide) ?_
   show ∃ r : Int32, _ ∧ _ ∧ Fr n0 _ ∧ Keep h0 T3.heap [o] ∧ _
   rw [e3]
   exact ⟨rB, ⟨_, rfl, Or.inr ⟨c14, own_add1 hpB (by omega)⟩⟩, hpB, N2, ((Keep.refl _ _).trans K1 (allS (Or.inl (List.mem_of_getElem? (i := 0) rfl)) all0)), GB_0, GB_1, GB_2⟩
  · -- pc 14: not ro = (0 : Int32)
   refine own_g (own_F T2 m 17 #[rv o] []) (fun _ z_ => XS.ifNo X2.here hx rfl (hb hby own_d17_14) rfl ((if0 _ _).trans (feq c14).1) z_) ?_
   refine own_g (own_F T2 m 18 #[rv o] [(.ref o)]) (fun _ z_ => XS.aloadN X2.here hx rfl (hb hby own_d17_17) rfl rfl z_) ?_
   obtain ⟨T4, X4, e4, st4⟩ := getF X2 hx hZ hown (host := "") (Or.inl (own_w hw 91)) Via.refl hh2 GB_1 (g := (mkF m 18 #[rv o] [(.ref o)])) rfl rfl (hb hby own_d17_18)
   refine own_pre (S' := (own_F T4 m 21 #[rv o] [(.int rB)])) st4 ?_
   refine own_g (own_F T4 m 22 #[rv o] [(.int 2), (.int rB)]) (fun _ z_ => XS.iconst X4.here hx rfl (hb hby own_d17_21) z_) ?_
   refine own_g (own_F T4 m 23 #[rv o] [(.int (rB + (2 : Int32)))]) (fun _ z_ => XS.iadd X4.here hx rfl (hb hby own_d17_22) rfl z_) ?_
   refine own_g (own_F T4 m 32 #[rv o] [(.int (rB + (2 : Int32)))]) (fun _ z_ => XS.goto X4.here hx rfl (pc0 := 23) (pc' := 32) rfl (hb hby own_d17_23) (by decide) (by decide) z_) ?_
   refine own_ret (t := .int) X4 hx hlk hrt rfl (Or.inl ⟨rfl, by simp, _, rfl⟩) (hb hby own_d17_32) (by decide) (by decide) ?_
   show ∃ r : Int32, _ ∧ _ ∧ Fr n0 _ ∧ Keep h0 T4.heap [o] ∧ _
   rw [e4]
   exact ⟨rB, ⟨_, rfl, Or.inl ⟨own_ro1 hr c14, own_add2 hpB (by omega)⟩⟩, hpB, N2, ((Keep.refl _ _).trans K1 (allS (Or.inl (List.mem_of_getElem? (i := 0) rfl)) all0)), GB_0, GB_1, GB_2⟩
set_option maxRecDepth 65536 in
set_option maxHeartbeats 40000000 in
theorem own_end1 (l : Launch) (Z : State) (a0 : Array Value) (hw : ∀ d ∈ tables_1, d.before a0 Z = true) (ws : List Jvm.Cond) (o x a a11 : Addr) (n k : Nat) (j nn zc : Int32) (f : Nat → Int32) (V : Prop) (sv : Value) (hsv : sv.isRef = true) (ke : Nat) (ro : Int32) (k1 k3 k4 : Nat) (v_nameStart v_nameEnd v_valueStart v_valueEnd v_attributesEnd : Int32) (h0 : Heap) (n0 : Nat) (Z0 : n0 ≤ h0.size) (hj : j.toInt = (k : Int)) (hn : nn.toInt = (n : Int)) (hzc : ¬ zc = (0 : Int32)) (hV : V ↔ a = a11) (hS : own_Str Z h0 x n f) (E_a : Exa Z h0 a "com/example/cadmus/cadmus/XmlVersion") (S_11 : Sta Z h0 "com/example/cadmus/cadmus/XmlVersion" "XML_1_1" "Lcom/example/cadmus/cadmus/XmlVersion;" (.ref a11)) (S_cs : Sta Z h0 "java/lang/String" "COMPACT_STRINGS" "Z" (.int zc)) (S_sf : Sta Z h0 "jdk/internal/util/Preconditions" "SIOOBE_FORMATTER" "Ljava/util/function/BiFunction;" sv) (S_ad : Sta Z h0 "java/lang/StringUTF16" "$assertionsDisabled" "Z" (.int (1 : Int32))) (S_hi : Sta Z h0 "java/lang/StringUTF16" "HI_BYTE_SHIFT" "I" (.int (0 : Int32))) (S_lo : Sta Z h0 "java/lang/StringUTF16" "LO_BYTE_SHIFT" "I" (.int (8 : Int32))) (E_o : Exa Z h0 o "com/example/cadmus/cadmus/Markup$StartTag") (F_t : Fld Z h0 o "com/example/cadmus/cadmus/Markup$StartTag" "text" "Ljava/lang/String;" (.ref x)) (F_at : Fld Z h0 o "com/example/cadmus/cadmus/Markup$StartTag" "at" "I" (.int j)) (F_ver : Fld Z h0 o "com/example/cadmus/cadmus/Markup$StartTag" "version" "Lcom/example/cadmus/cadmus/XmlVersion;" (.ref a)) (F_nameStart : Fld Z h0 o "com/example/cadmus/cadmus/Markup$StartTag" "nameStart" "I" (.int v_nameStart)) (F_nameEnd : Fld Z h0 o "com/example/cadmus/cadmus/Markup$StartTag" "nameEnd" "I" (.int v_nameEnd)) (F_valueStart : Fld Z h0 o "com/example/cadmus/cadmus/Markup$StartTag" "valueStart" "I" (.int v_valueStart)) (F_valueEnd : Fld Z h0 o "com/example/cadmus/cadmus/Markup$StartTag" "valueEnd" "I" (.int v_valueEnd)) (F_attributesEnd : Fld Z h0 o "com/example/cadmus/cadmus/Markup$StartTag" "attributesEnd" "I" (.int v_attributesEnd)) (hk4 : k4 + 2 < n) (h34 : k3 + 1 ≤ k4) (h23 : k1 + 1 ≤ k3) (hsk : own_skip V f k k1) (hd0 : ¬ own_dl V (f k1)) (hd1 : own_dl V (f (k1 + 1))) (hsk3 : own_skip V f (k1 + 1) k3) (hsk4 : own_skip V f (k3 + 1) k4) (hc : 0 ≤ (f k4).toInt ∧ (f k4).toInt ≤ 255) (hne : ¬ f (k4 + 1) = f k4) (heq : f (k4 + 1 + 1) = f k4) (g_o : n0 ≤ o) (hke : ke < n) (hske : own_skip V f (k4 + 1 + 1 + 1) ke) (hce : f ke = (62 : Int32) ∨ f ke = (47 : Int32)) (hr : (ro = 1 ∧ f ke = (47 : Int32)) ∨ (ro = 0 ∧ ¬ f ke = (47 : Int32))) (hnb : n ≤ 1000) :
    own_Met l Z (⟨"com/example/cadmus/cadmus/Markup$StartTag", "end", "()I"⟩ : MethodName) prog_11_method_8_code 1 (some .int) ws ({ frames := 8, cells := 0, slots := 0, locals := 116 } : Room) #[(.ref o)] h0 (fun v h L => ∃ r : Int32, (∃ w : Int32, v = some (.int w) ∧ ((ro = 1 ∧ w.toInt = ((ke + 2 : Nat) : Int)) ∨ (ro = 0 ∧ w.toInt = ((ke + 1 : Nat) : Int)))) ∧ r.toInt = ((ke : Nat) : Int) ∧ Fr n0 L ∧ Keep h0 h [o] ∧ Fld Z h o "com/example/cadmus/cadmus/Markup$StartTag" "text" "Ljava/lang/String;" (.ref x) ∧ Fld Z h o "com/example/cadmus/cadmus/Markup$StartTag" "at" "I" (.int r) ∧ Fld Z h o "com/example/cadmus/cadmus/Markup$StartTag" "version" "Lcom/example/cadmus/cadmus/XmlVersion;" (.ref a)) := by
  refine own_body own_pn38 (fun m => mkF m 0 #[rv o] []) (fun m => own_ef_own_end1 m o) ?_
  intro p e s m below meth c T0 hx hby hml hlk hrt hZ hown hnm X0 e0
  have hown : s.vm.findClass "com/example/cadmus/cadmus/Markup$StartTag" = some m.cls := hown
  have N0 := Fr.nil n0
  have hn31 := own_Str31 hS
  refine own_g (own_F T0 m 1 #[rv o] [(.ref o)]) (fun _ z_ => XS.aloadN X0.here hx rfl (hb hby own_d17_0) rfl rfl z_) ?_
  refine own_callV (C := "com/example/cadmus/cadmus/Markup$StartTag") (y := (⟨"com/example/cadmus/cadmus/Markup$StartTag", "nextAttribute", "()Z"⟩ : MethodName)) (b := o) X0 hx hZ hown (own_w hw 100) (own_w hw 101) (own_w hw 103) (own_w hw 102) (own_w hw 104) (own_w hw 10) (by decide) e0 E_o (hM := own_na1 l Z a0 hw [] o x a a11 n k j nn zc f V sv hsv k1 k3 k4 v_nameStart v_nameEnd v_valueStart v_valueEnd v_attributesEnd h0 n0 Z0 hj hn hzc hV hS E_a S_11 S_cs S_sf S_ad S_hi S_lo E_o F_t F_at F_ver F_nameStart F_nameEnd F_valueStart F_valueEnd F_attributesEnd hk4 h34 h23 hsk hd0 hd1 hsk3 hsk4 hc hne heq g_o) (W := 0) (pc := 1) (Ls := #[rv o]) (argsL := []) (rest := []) (st0 := [(.ref o)]) (by rw [hml]; rfl) (lenOf own_pd12 rfl) rfl (Nat.le_of_eq rfl) (hb hby own_d17_1) (by decide) (by decide) (by decide) (by decide) ?_
  intro v1 T1 L1 s X1 hZ hown hI1 hvm1 hhp1 hWw1 hQ1
  obtain ⟨rA, rfl, hpA, Nq1, K1, GA_0, GA_1, GA_2⟩ := hQ1
  have N1 := Fr.app N0 Nq1
  show own_Ends p e below s _ _ _ (own_F T1 m 4 #[rv o] [(.int 1)])
  refine own_g (own_F T1 m 7 #[rv o] []) (fun _ z_ => XS.ifNo X1.here hx rfl (hb hby own_d17_4) rfl ((if0 _ _).trans (feq (by decide : ¬ ((1 : Int32) = (0 : Int32)))).1) z_) ?_
  refine own_g (own_F T1 m 0 #[rv o] []) (fun _ z_ => XS.goto X1.here hx rfl (pc0 := 7) (pc' := 0) rfl (hb hby own_d17_7) (by decide) (by decide) z_) ?_
  refine own_g (own_F T1 m 1 #[rv o] [(.ref o)]) (fun _ z_ => XS.aloadN X1.here hx rfl (hb hby own_d17_0) rfl rfl z_) ?_
  refine own_callV (C := "com/example/cadmus/cadmus/Markup$StartTag") (y := (⟨"com/example/cadmus/cadmus/Markup$StartTag", "nextAttribute", "()Z"⟩ : MethodName)) (b := o) X1 hx hZ hown (own_w hw 100) (own_w hw 101) (own_w hw 103) (own_w hw 102) (own_w hw 104) (own_w hw 10) (by decide) (rfl : T1.heap = T1.heap) (E_o.keep K1) (hM := own_na0 l Z a0 hw [] o x a a11 n (k4 + 1 + 1 + 1) rA nn zc f V sv hsv ke T1.heap n0 (Nat.le_trans Z0 K1.1) hpA hn hzc hV (own_Str.keepO hS K1 E_o (by decide) (own_w hw 9)) (E_a.keep K1) (own_sta_keep S_11 K1 (allS (own_plainE E_o) all0)) (own_sta_keep S_cs K1 (allS (own_plainE E_o) all0)) (own_sta_keep S_sf K1 (allS (own_plainE E_o) all0)) (own_sta_keep S_ad K1 (allS (own_plainE E_o) all0)) (own_sta_keep S_hi K1 (allS (own_plainE E_o) all0)) (own_sta_keep S_lo K1 (allS (own_plainE E_o) all0)) (E_o.keep K1) GA_0 GA_1 GA_2 hke hske hce g_o) (W := 0) (pc := 1) (Ls := #[rv o]) (argsL := []) (rest := []) (st0 := [(.ref o)]) (by rw [hml]; rfl) (lenOf own_pd12 rfl) rfl (Nat.le_of_eq rfl) (hb hby own_d17_1) (by decide) (by decide) (by decide) (by decide) ?_
  intro v2 T2 L2 s X2 hZ hown hI2 hvm2 hhp2 hWw2 hQ2
  obtain ⟨rB, rfl, hpB, Nq2, K2, GB_0, GB_1, GB_2⟩ := hQ2
  have N2 := Fr.app N1 Nq2
  show own_Ends p e below s _ _ _ (own_F T2 m 4 #[rv o] [(.int 0)])
  refine own_g (own_F T2 m 10 #[rv o] []) (fun _ z_ => XS.ifYes X2.here hx rfl (pc0 := 4) (pc' := 10) rfl (hb hby own_d17_4) rfl ((if0 _ _).trans (teq (by decide : ((0 : Int32) = (0 : Int32)))).1) (by decide) (by decide) z_) ?_
  refine own_g (own_F T2 m 11 #[rv o] [(.ref o)]) (fun _ z_ => XS.aloadN X2.here hx rfl (hb hby own_d17_10) rfl rfl z_) ?_
  refine own_callV (C := "com/example/cadmus/cadmus/Markup$StartTag") (y := (⟨"com/example/cadmus/cadmus/Markup$StartTag", "empty", "()Z"⟩ : MethodName)) (b := o) X2 hx hZ hown (own_w hw 119) (own_w hw 120) (own_w hw 122) (own_w hw 121) (own_w hw 123) (own_w hw 10) (by decide) (rfl : T2.heap = T2.heap) ((E_o.keep K1).keep K2) (hM := own_emp l Z a0 hw [] o x a a11 n ke rB nn zc f V sv hsv ro T2.heap n0 (Nat.le_trans (Nat.le_trans Z0 K1.1) K2.1) hpB hn hzc hV (own_Str.keepO (own_Str.keepO hS K1 E_o (by decide) (own_w hw 9)) K2 (E_o.keep K1) (by decide) (own_w hw 9)) ((E_a.keep K1).keep K2) (own_sta_keep (own_sta_keep S_11 K1 (allS (own_plainE E_o) all0)) K2 (allS (own_plainE (E_o.keep K1)) all0)) (own_sta_keep (own_sta_keep S_cs K1 (allS (own_plainE E_o) all0)) K2 (allS (own_plainE (E_o.keep K1)) all0)) (own_sta_keep (own_sta_keep S_sf K1 (allS (own_plainE E_o) all0)) K2 (allS (own_plainE (E_o.keep K1)) all0)) (own_sta_keep (own_sta_keep S_ad K1 (allS (own_plainE E_o) all0)) K2 (allS (own_plainE (E_o.keep K1)) all0)) (own_sta_keep (own_sta_keep S_hi K1 (allS (own_plainE E_o) all0)) K2 (allS (own_plainE (E_o.keep K1)) all0)) (own_sta_keep (own_sta_keep S_lo K1 (allS (own_plainE E_o) all0)) K2 (allS (own_plainE (E_o.keep K1)) all0)) ((E_o.keep K1).keep K2) GB_0 GB_1 GB_2 hke g_o hr) (W := 0) (pc := 11) (Ls := #[rv o]) (argsL := []) (rest := []) (st0 := [(.ref o)]) (by rw [hml]; rfl) (lenOf own_pd12 rfl) rfl (Nat.le_of_eq rfl) (hb hby own_d17_11) (by decide) (by decide) (by decide) (by decide) ?_
  intro v3 T3 L3 s X3 hZ hown hI3 hvm3 hhp3 hWw3 hQ3
  obtain ⟨rfl, Nq3, hh3⟩ := hQ3
  have N3 := Fr.app N2 Nq3
  show own_Ends p e below s _ _ _ (own_F T3 m 14 #[rv o] [(.int ro)])
  by_cases c14 : ro = (0 : Int32)
  · -- pc 14: ro = (0 : Int32)
   refine own_g (own_F T3 m 26 #[rv o] []) (fun _ z_ => XS.ifYes X3.here hx rfl (pc0 := 14) (pc' := 26) rfl (hb hby own_d17_14) rfl ((if0 _ _).trans (teq c14).1) (by decide) (by decide) z_) ?_
   refine own_g (own_F T3 m 27 #[rv o] [(.ref o)]) (fun _ z_ => XS.aloadN X3.here hx rfl (hb hby own_d17_26) rfl rfl z_) ?_
   obtain ⟨T4, X4, e4, st4⟩ := getF X3 hx hZ hown (host := "") (Or.inl (own_w hw 91)) Via.refl hh3 GB_1 (g := (mkF m 27 #[rv o] [(.ref o)])) rfl rfl (hb hby own_d17_27)
   refine own_pre (S' := (own_F T4 m 30 #[rv o] [(.int rB)])) st4 ?_
   refine own_g (own_F T4 m 31 #[rv o] [(.int 1), (.int rB)]) (fun _ z_ => XS.iconst X4.here hx rfl (hb hby own_d17_30) z_) ?_
   refine own_g (own_F T4 m 32 #[rv o] [(.int (rB + (1 : Int32)))]) (fun _ z_ => XS.iadd X4.here hx rfl (hb hby own_d17_31) rfl z_) ?_
   refine own_ret (t := .int) X4 hx hlk hrt rfl (Or.inl ⟨rfl, by simp, _, rfl⟩) (hb hby own_d17_32) (by decide) (by decide) ?_
   show ∃ r : Int32, _ ∧ _ ∧ Fr n0 _ ∧ Keep h0 T4.heap [o] ∧ _
   rw [e4]
   exact ⟨rB, ⟨_, rfl, Or.inr ⟨c14, own_add1 hpB (by omega)⟩⟩, hpB, N3, (((Keep.refl _ _).trans K1 (allS (Or.inl (List.mem_of_getElem? (i := 0) rfl)) all0)).trans K2 (allS (Or.inl (List.mem_of_getElem? (i := 0) rfl)) all0)), GB_0, GB_1, GB_2⟩
  · -- pc 14: not ro = (0 : Int32)
   refine own_g (own_F T3 m 17 #[rv o] []) (fun _ z_ => XS.ifNo X3.here hx rfl (hb hby own_d17_14) rfl ((if0 _ _).trans (feq c14).1) z_) ?_
   refine own_g (own_F T3 m 18 #[rv o] [(.ref o)]) (fun _ z_ => XS.aloadN X3.here hx rfl (hb hby own_d17_17) rfl rfl z_) ?_
   obtain ⟨T5, X5, e5, st5⟩ := getF X3 hx hZ hown (host := "") (Or.inl (own_w hw 91)) Via.refl hh3 GB_1 (g := (mkF m 18 #[rv o] [(.ref o)])) rfl rfl (hb hby own_d17_18)
   refine own_pre (S' := (own_F T5 m 21 #[rv o] [(.int rB)])) st5 ?_
   refine own_g (own_F T5 m 22 #[rv o] [(.int 2), (.int rB)]) (fun _ z_ => XS.iconst X5.here hx rfl (hb hby own_d17_21) z_) ?_
   refine own_g (own_F T5 m 23 #[rv o] [(.int (rB + (2 : Int32)))]) (fun _ z_ => XS.iadd X5.here hx rfl (hb hby own_d17_22) rfl z_) ?_
   refine own_g (own_F T5 m 32 #[rv o] [(.int (rB + (2 : Int32)))]) (fun _ z_ => XS.goto X5.here hx rfl (pc0 := 23) (pc' := 32) rfl (hb hby own_d17_23) (by decide) (by decide) z_) ?_
   refine own_ret (t := .int) X5 hx hlk hrt rfl (Or.inl ⟨rfl, by simp, _, rfl⟩) (hb hby own_d17_32) (by decide) (by decide) ?_
   show ∃ r : Int32, _ ∧ _ ∧ Fr n0 _ ∧ Keep h0 T5.heap [o] ∧ _
   rw [e5]
   exact ⟨rB, ⟨_, rfl, Or.inl ⟨own_ro1 hr c14, own_add2 hpB (by omega)⟩⟩, hpB, N3, (((Keep.refl _ _).trans K1 (allS (Or.inl (List.mem_of_getElem? (i := 0) rfl)) all0)).trans K2 (allS (Or.inl (List.mem_of_getElem? (i := 0) rfl)) all0)), GB_0, GB_1, GB_2⟩
set_option maxRecDepth 65536 in
set_option maxHeartbeats 40000000 in
theorem own_read (l : Launch) (Z : State) (a0 : Array Value) (hw : ∀ d ∈ tables_1, d.before a0 Z = true) (ws : List Jvm.Cond) (o x a a11 : Addr) (n : Nat) (nn zc : Int32) (f : Nat → Int32) (V : Prop) (sv : Value) (hsv : sv.isRef = true) (h0 : Heap) (n0 : Nat) (Z0 : n0 ≤ h0.size) (hk : 2 + 1 < n) (hd0 : ¬ own_dl V (f 2)) (hd1 : own_dl V (f (2 + 1))) (hn : nn.toInt = (n : Int)) (hzc : ¬ zc = (0 : Int32)) (hV : V ↔ a = a11) (hS : own_Str Z h0 x n f) (E_a : Exa Z h0 a "com/example/cadmus/cadmus/XmlVersion") (S_11 : Sta Z h0 "com/example/cadmus/cadmus/XmlVersion" "XML_1_1" "Lcom/example/cadmus/cadmus/XmlVersion;" (.ref a11)) (S_cs : Sta Z h0 "java/lang/String" "COMPACT_STRINGS" "Z" (.int zc)) (S_sf : Sta Z h0 "jdk/internal/util/Preconditions" "SIOOBE_FORMATTER" "Ljava/util/function/BiFunction;" sv) (S_ad : Sta Z h0 "java/lang/StringUTF16" "$assertionsDisabled" "Z" (.int (1 : Int32))) (S_hi : Sta Z h0 "java/lang/StringUTF16" "HI_BYTE_SHIFT" "I" (.int (0 : Int32))) (S_lo : Sta Z h0 "java/lang/StringUTF16" "LO_BYTE_SHIFT" "I" (.int (8 : Int32))) (E_o : Exa Z h0 o "com/example/cadmus/cadmus/Markup$StartTag") (g_o : n0 ≤ o) (F_t : Fld Z h0 o "com/example/cadmus/cadmus/Markup$StartTag" "text" "Ljava/lang/String;" .null) (F_at : Fld Z h0 o "com/example/cadmus/cadmus/Markup$StartTag" "at" "I" (.int (0 : Int32))) (F_ver : Fld Z h0 o "com/example/cadmus/cadmus/Markup$StartTag" "version" "Lcom/example/cadmus/cadmus/XmlVersion;" (.ref a)) (F_ae : Fld Z h0 o "com/example/cadmus/cadmus/Markup$StartTag" "attributesEnd" "I" (.int (0 : Int32))) (F_nameStart : Fld Z h0 o "com/example/cadmus/cadmus/Markup$StartTag" "nameStart" "I" (.int (0 : Int32))) (F_nameEnd : Fld Z h0 o "com/example/cadmus/cadmus/Markup$StartTag" "nameEnd" "I" (.int (0 : Int32))) (F_valueStart : Fld Z h0 o "com/example/cadmus/cadmus/Markup$StartTag" "valueStart" "I" (.int (0 : Int32))) (F_valueEnd : Fld Z h0 o "com/example/cadmus/cadmus/Markup$StartTag" "valueEnd" "I" (.int (0 : Int32))) :
    own_Met l Z (⟨"com/example/cadmus/cadmus/Markup$StartTag", "read", "(Ljava/lang/String;I)Lcom/example/cadmus/cadmus/Markup$StartTag;"⟩ : MethodName) prog_11_method_3_code 3 (some (.object "com/example/cadmus/cadmus/Markup$StartTag")) ws ({ frames := 6, cells := 0, slots := 0, locals := 83 } : Room) #[(.ref o), (.ref x), (.int 1)] h0 (fun v h L => ∃ r : Int32, v = some (.ref o) ∧ r.toInt = ((2 + 1 : Nat) : Int) ∧ Fr n0 L ∧ Keep h0 h [o] ∧ Fld Z h o "com/example/cadmus/cadmus/Markup$StartTag" "text" "Ljava/lang/String;" (.ref x) ∧ Fld Z h o "com/example/cadmus/cadmus/Markup$StartTag" "at" "I" (.int r) ∧ Fld Z h o "com/example/cadmus/cadmus/Markup$StartTag" "version" "Lcom/example/cadmus/cadmus/XmlVersion;" (.ref a) ∧ Fld Z h o "com/example/cadmus/cadmus/Markup$StartTag" "attributesEnd" "I" (.int r) ∧ Fld Z h o "com/example/cadmus/cadmus/Markup$StartTag" "nameStart" "I" (.int (0 : Int32)) ∧ Fld Z h o "com/example/cadmus/cadmus/Markup$StartTag" "nameEnd" "I" (.int (0 : Int32)) ∧ Fld Z h o "com/example/cadmus/cadmus/Markup$StartTag" "valueStart" "I" (.int (0 : Int32)) ∧ Fld Z h o "com/example/cadmus/cadmus/Markup$StartTag" "valueEnd" "I" (.int (0 : Int32))) := by
  refine own_body own_pn39 (fun m => mkF m 0 #[rv o, rv x, iv 1] []) (fun m => own_ef_own_read m o x (1 : Int32)) ?_
  intro p e s m below meth c T0 hx hby hml hlk hrt hZ hown hnm X0 e0
  have hown : s.vm.findClass "com/example/cadmus/cadmus/Markup$StartTag" = some m.cls := hown
  have N0 := Fr.nil n0
  refine own_g (own_F T0 m 1 #[rv o, rv x, iv 1] [(.ref o)]) (fun _ z_ => XS.aloadN X0.here hx rfl (hb hby own_d9_0) rfl rfl z_) ?_
  refine own_g (own_F T0 m 2 #[rv o, rv x, iv 1] [(.ref x), (.ref o)]) (fun _ z_ => XS.aloadN X0.here hx rfl (hb hby own_d9_1) rfl rfl z_) ?_
  obtain ⟨T1, h1, X1, e1, W1, st1⟩ := putF X0 hx hZ hown (host := "") (Or.inl (own_w hw 56)) Via.refl e0 F_t E_o (Or.inl (own_w hw 57)) (own_w hw 9) (ty := (.object "java/lang/String")) (by decide) rfl rfl (g := (mkF m 2 #[rv o, rv x, iv 1] [(.ref x), (.ref o)])) rfl rfl (hb hby own_d9_2)
  have N1 := Fr.snoc X1 N0 g_o
  have Fw1 := F_t.same W1
  refine own_pre (S' := (own_F T1 m 5 #[rv o, rv x, iv 1] [])) st1 ?_
  refine own_g (own_F T1 m 6 #[rv o, rv x, iv 1] [(.ref o)]) (fun _ z_ => XS.aloadN X1.here hx rfl (hb hby own_d9_5) rfl rfl z_) ?_
  refine own_g (own_F T1 m 7 #[rv o, rv x, iv 1] [(.ref x), (.ref o)]) (fun _ z_ => XS.aloadN X1.here hx rfl (hb hby own_d9_6) rfl rfl z_) ?_
  refine own_g (own_F T1 m 8 #[rv o, rv x, iv 1] [(.int 1), (.ref x), (.ref o)]) (fun _ z_ => XS.iloadN X1.here hx rfl (hb hby own_d9_7) rfl z_) ?_
  refine own_g (own_F T1 m 9 #[rv o, rv x, iv 1] [(.int 1), (.int 1), (.ref x), (.ref o)]) (fun _ z_ => XS.iconst X1.here hx rfl (hb hby own_d9_8) z_) ?_
  refine own_g (own_F T1 m 10 #[rv o, rv x, iv 1] [(.int 2), (.ref x), (.ref o)]) (fun _ z_ => XS.iadd X1.here hx rfl (hb hby own_d9_9) rfl z_) ?_
  refine own_g (own_F T1 m 11 #[rv o, rv x, iv 1] [(.ref o), (.int 2), (.ref x), (.ref o)]) (fun _ z_ => XS.aloadN X1.here hx rfl (hb hby own_d9_10) rfl rfl z_) ?_
  obtain ⟨T2, X2, e2, st2⟩ := getF X1 hx hZ hown (host := "") (Or.inl (own_w hw 27)) Via.refl e1 (F_ver.other W1 (Or.inr (slot_ne (C := "com/example/cadmus/cadmus/Markup$StartTag") (Or.inr (own_w hw 28)) (Or.inl (own_w hw 57)) (by decide) (t := (.object "com/example/cadmus/cadmus/XmlVersion")) (t' := (.object "java/lang/String")) (by decide) (by decide)))) (g := (mkF m 11 #[rv o, rv x, iv 1] [(.ref o), (.int 2), (.ref x), (.ref o)])) rfl rfl (hb hby own_d9_11)
  refine own_pre (S' := (own_F T2 m 14 #[rv o, rv x, iv 1] [(.ref a), (.int 2), (.ref x), (.ref o)])) st2 ?_
  refine own_callN (y := (⟨"com/example/cadmus/cadmus/Markup", "nameEnd", "(Ljava/lang/String;ILcom/example/cadmus/cadmus/XmlVersion;)I"⟩ : MethodName)) X2 hx hZ hown (own_w hw 58) (own_w hw 59) (own_w hw 60) (own_w hw 61) (by decide) e2 (hM := own_nend l Z a0 hw [] x a a11 n 2 (2 : Int32) nn zc f V sv hsv h1 n0 (Nat.le_trans Z0 (Nat.le_of_eq W1.size.symm)) hk hd0 hd1 rfl hn hzc hV (own_Str.keepO hS (Keep.of_wr W1) E_o (by decide) (own_w hw 9)) (E_a.wr W1) (S_11.wr W1) (S_cs.wr W1) (S_sf.wr W1) (S_ad.wr W1) (S_hi.wr W1) (S_lo.wr W1)) (W := 1) (pc := 14) (Ls := #[rv o, rv x, iv 1]) (argsL := [(.ref x), (.int 2), (.ref a)]) (rest := [(.ref o)]) (st0 := [(.ref a), (.int 2), (.ref x), (.ref o)]) (by rw [hml]; rfl) (lenOf own_pd23 rfl) rfl (Nat.le_of_eq rfl) (hb hby own_d9_14) (by decide) (by decide) (by decide) (by decide) ?_
  intro v3 T3 L3 s X3 hZ hown hI3 hvm3 hhp3 hWw3 hQ3
  obtain ⟨r2, rfl, hp_r2, Nq3, hh3⟩ := hQ3
  have N3 := Fr.app N1 Nq3
  show own_Ends p e below s _ _ _ (own_F T3 m 17 #[rv o, rv x, iv 1] [(.int r2), (.ref o)])
  obtain ⟨T4, h4, X4, e4, W4, st4⟩ := putF X3 hx hZ hown (host := "") (Or.inl (own_w hw 91)) Via.refl hh3 (F_at.other W1 (Or.inr (slot_ne (C := "com/example/cadmus/cadmus/Markup$StartTag") (Or.inl (own_w hw 92)) (Or.inl (own_w hw 57)) (by decide) (t := .int) (t' := (.object "java/lang/String")) (by decide) (by decide)))) (E_o.wr W1) (Or.inl (own_w hw 92)) (own_w hw 9) (ty := .int) (by decide) rfl rfl (g := (mkF m 17 #[rv o, rv x, iv 1] [(.int r2), (.ref o)])) rfl rfl (hb hby own_d9_17)
  have N4 := Fr.snoc X4 N3 g_o
  have Fw4 := (F_at.other W1 (Or.inr (slot_ne (C := "com/example/cadmus/cadmus/Markup$StartTag") (Or.inl (own_w hw 92)) (Or.inl (own_w hw 57)) (by decide) (t := .int) (t' := (.object "java/lang/String")) (by decide) (by decide)))).same W4
  refine own_pre (S' := (own_F T4 m 20 #[rv o, rv x, iv 1] [])) st4 ?_
  refine own_g (own_F T4 m 21 #[rv o, rv x, iv 1] [(.ref o)]) (fun _ z_ => XS.aloadN X4.here hx rfl (hb hby own_d9_20) rfl rfl z_) ?_
  refine own_g (own_F T4 m 22 #[rv o, rv x, iv 1] [(.ref o), (.ref o)]) (fun _ z_ => XS.aloadN X4.here hx rfl (hb hby own_d9_21) rfl rfl z_) ?_
  obtain ⟨T5, X5, e5, st5⟩ := getF X4 hx hZ hown (host := "") (Or.inl (own_w hw 91)) Via.refl e4 Fw4 (g := (mkF m 22 #[rv o, rv x, iv 1] [(.ref o), (.ref o)])) rfl rfl (hb hby own_d9_22)
  refine own_pre (S' := (own_F T5 m 25 #[rv o, rv x, iv 1] [(.int r2), (.ref o)])) st5 ?_
  obtain ⟨T6, h6, X6, e6, W6, st6⟩ := putF X5 hx hZ hown (host := "") (Or.inl (own_w hw 93)) Via.refl e5 ((F_ae.other W1 (Or.inr (slot_ne (C := "com/example/cadmus/cadmus/Markup$StartTag") (Or.inl (own_w hw 94)) (Or.inl (own_w hw 57)) (by decide) (t := .int) (t' := (.object "java/lang/String")) (by decide) (by decide)))).other W4 (Or.inr (slot_ne (C := "com/example/cadmus/cadmus/Markup$StartTag") (Or.inl (own_w hw 94)) (Or.inl (own_w hw 92)) (by decide) (t := .int) (t' := .int) (by decide) (by decide)))) ((E_o.wr W1).wr W4) (Or.inl (own_w hw 94)) (own_w hw 9) (ty := .int) (by decide) rfl rfl (g := (mkF m 25 #[rv o, rv x, iv 1] [(.int r2), (.ref o)])) rfl rfl (hb hby own_d9_25)
  have N6 := Fr.snoc X6 N4 g_o
  have Fw6 := ((F_ae.other W1 (Or.inr (slot_ne (C := "com/example/cadmus/cadmus/Markup$StartTag") (Or.inl (own_w hw 94)) (Or.inl (own_w hw 57)) (by decide) (t := .int) (t' := (.object "java/lang/String")) (by decide) (by decide)))).other W4 (Or.inr (slot_ne (C := "com/example/cadmus/cadmus/Markup$StartTag") (Or.inl (own_w hw 94)) (Or.inl (own_w hw 92)) (by decide) (t := .int) (t' := .int) (by decide) (by decide)))).same W6
  refine own_pre (S' := (own_F T6 m 28 #[rv o, rv x, iv 1] [])) st6 ?_
  refine own_g (own_F T6 m 29 #[rv o, rv x, iv 1] [(.ref o)]) (fun _ z_ => XS.aloadN X6.here hx rfl (hb hby own_d9_28) rfl rfl z_) ?_
  refine own_ret (t := (.object "com/example/cadmus/cadmus/Markup$StartTag")) X6 hx hlk hrt rfl (Or.inr (Or.inr (Or.inr (Or.inr ⟨rfl, rfl, rfl⟩)))) (hb hby own_d9_29) (by decide) (by decide) ?_
  show ∃ r : Int32, _ ∧ _ ∧ Fr n0 _ ∧ Keep h0 T6.heap [o] ∧ _
  rw [e6]
  exact ⟨r2, rfl, hp_r2, N6, ((((Keep.refl _ _).wr W1 (Or.inl (List.mem_of_getElem? (i := 0) rfl))).wr W4 (Or.inl (List.mem_of_getElem? (i := 0) rfl))).wr W6 (Or.inl (List.mem_of_getElem? (i := 0) rfl))), ((Fw1.other W4 (Or.inr (slot_ne (C := "com/example/cadmus/cadmus/Markup$StartTag") (Or.inl (own_w hw 57)) (Or.inl (own_w hw 92)) (by decide) (t := (.object "java/lang/String")) (t' := .int) (by decide) (by decide)))).other W6 (Or.inr (slot_ne (C := "com/example/cadmus/cadmus/Markup$StartTag") (Or.inl (own_w hw 57)) (Or.inl (own_w hw 94)) (by decide) (t := (.object "java/lang/String")) (t' := .int) (by decide) (by decide)))), (Fw4.other W6 (Or.inr (slot_ne (C := "com/example/cadmus/cadmus/Markup$StartTag") (Or.inl (own_w hw 92)) (Or.inl (own_w hw 94)) (by decide) (t := .int) (t' := .int) (by decide) (by decide)))), (((F_ver.other W1 (Or.inr (slot_ne (C := "com/example/cadmus/cadmus/Markup$StartTag") (Or.inr (own_w hw 28)) (Or.inl (own_w hw 57)) (by decide) (t := (.object "com/example/cadmus/cadmus/XmlVersion")) (t' := (.object "java/lang/String")) (by decide) (by decide)))).other W4 (Or.inr (slot_ne (C := "com/example/cadmus/cadmus/Markup$StartTag") (Or.inr (own_w hw 28)) (Or.inl (own_w hw 92)) (by decide) (t := (.object "com/example/cadmus/cadmus/XmlVersion")) (t' := .int) (by decide) (by decide)))).other W6 (Or.inr (slot_ne (C := "com/example/cadmus/cadmus/Markup$StartTag") (Or.inr (own_w hw 28)) (Or.inl (own_w hw 94)) (by decide) (t := (.object "com/example/cadmus/cadmus/XmlVersion")) (t' := .int) (by decide) (by decide)))), Fw6, (((F_nameStart.other W1 (Or.inr (slot_ne (C := "com/example/cadmus/cadmus/Markup$StartTag") (Or.inl (own_w hw 130)) (Or.inl (own_w hw 57)) (by decide) (t := .int) (t' := (.object "java/lang/String")) (by decide) (by decide)))).other W4 (Or.inr (slot_ne (C := "com/example/cadmus/cadmus/Markup$StartTag") (Or.inl (own_w hw 130)) (Or.inl (own_w hw 92)) (by decide) (t := .int) (t' := .int) (by decide) (by decide)))).other W6 (Or.inr (slot_ne (C := "com/example/cadmus/cadmus/Markup$StartTag") (Or.inl (own_w hw 130)) (Or.inl (own_w hw 94)) (by decide) (t := .int) (t' := .int) (by decide) (by decide)))), (((F_nameEnd.other W1 (Or.inr (slot_ne (C := "com/example/cadmus/cadmus/Markup$StartTag") (Or.inl (own_w hw 132)) (Or.inl (own_w hw 57)) (by decide) (t := .int) (t' := (.object "java/lang/String")) (by decide) (by decide)))).other W4 (Or.inr (slot_ne (C := "com/example/cadmus/cadmus/Markup$StartTag") (Or.inl (own_w hw 132)) (Or.inl (own_w hw 92)) (by decide) (t := .int) (t' := .int) (by decide) (by decide)))).other W6 (Or.inr (slot_ne (C := "com/example/cadmus/cadmus/Markup$StartTag") (Or.inl (own_w hw 132)) (Or.inl (own_w hw 94)) (by decide) (t := .int) (t' := .int) (by decide) (by decide)))), (((F_valueStart.other W1 (Or.inr (slot_ne (C := "com/example/cadmus/cadmus/Markup$StartTag") (Or.inl (own_w hw 134)) (Or.inl (own_w hw 57)) (by decide) (t := .int) (t' := (.object "java/lang/String")) (by decide) (by decide)))).other W4 (Or.inr (slot_ne (C := "com/example/cadmus/cadmus/Markup$StartTag") (Or.inl (own_w hw 134)) (Or.inl (own_w hw 92)) (by decide) (t := .int) (t' := .int) (by decide) (by decide)))).other W6 (Or.inr (slot_ne (C := "com/example/cadmus/cadmus/Markup$StartTag") (Or.inl (own_w hw 134)) (Or.inl (own_w hw 94)) (by decide) (t := .int) (t' := .int) (by decide) (by decide)))), (((F_valueEnd.other W1 (Or.inr (slot_ne (C := "com/example/cadmus/cadmus/Markup$StartTag") (Or.inl (own_w hw 161)) (Or.inl (own_w hw 57)) (by decide) (t := .int) (t' := (.object "java/lang/String")) (by decide) (by decide)))).other W4 (Or.inr (slot_ne (C := "com/example/cadmus/cadmus/Markup$StartTag") (Or.inl (own_w hw 161)) (Or.inl (own_w hw 92)) (by decide) (t := .int) (t' := .int) (by decide) (by decide)))).other W6 (Or.inr (slot_ne (C := "com/example/cadmus/cadmus/Markup$StartTag") (Or.inl (own_w hw 161)) (Or.inl (own_w hw 94)) (by decide) (t := .int) (t' := .int) (by decide) (by decide))))⟩
set_option maxRecDepth 65536 in
set_option maxHeartbeats 40000000 in
theorem own_ti (l : Launch) (Z : State) (a0 : Array Value) (hw : ∀ d ∈ tables_1, d.before a0 Z = true) (ws : List Jvm.Cond) (o a : Addr) (h0 : Heap) (n0 : Nat) (Z0 : n0 ≤ h0.size) (E_o : Exa Z h0 o "com/example/cadmus/cadmus/Markup$StartTag") (g_o : n0 ≤ o) (F_ln : Fld Z h0 o "com/example/cadmus/cadmus/Markup$StartTag" "lastName" "Ljava/lang/String;" .null) (F_ver : Fld Z h0 o "com/example/cadmus/cadmus/Markup$StartTag" "version" "Lcom/example/cadmus/cadmus/XmlVersion;" .null) (F_t : Fld Z h0 o "com/example/cadmus/cadmus/Markup$StartTag" "text" "Ljava/lang/String;" .null) (F_at : Fld Z h0 o "com/example/cadmus/cadmus/Markup$StartTag" "at" "I" (.int (0 : Int32))) (F_nameStart : Fld Z h0 o "com/example/cadmus/cadmus/Markup$StartTag" "nameStart" "I" (.int (0 : Int32))) (F_nameEnd : Fld Z h0 o "com/example/cadmus/cadmus/Markup$StartTag" "nameEnd" "I" (.int (0 : Int32))) (F_valueStart : Fld Z h0 o "com/example/cadmus/cadmus/Markup$StartTag" "valueStart" "I" (.int (0 : Int32))) (F_valueEnd : Fld Z h0 o "com/example/cadmus/cadmus/Markup$StartTag" "valueEnd" "I" (.int (0 : Int32))) (F_attributesEnd : Fld Z h0 o "com/example/cadmus/cadmus/Markup$StartTag" "attributesEnd" "I" (.int (0 : Int32))) :
    own_Met l Z (⟨"com/example/cadmus/cadmus/Markup$StartTag", "<init>", "(Lcom/example/cadmus/cadmus/XmlVersion;)V"⟩ : MethodName) prog_11_method_2_code 2 none ws ({ frames := 1, cells := 2, slots := 4, locals := 12 } : Room) #[(.ref o), (.ref a)] h0 (fun v h L => v = none ∧ Fr n0 L ∧ Keep h0 h [o] ∧ Fld Z h o "com/example/cadmus/cadmus/Markup$StartTag" "text" "Ljava/lang/String;" .null ∧ Fld Z h o "com/example/cadmus/cadmus/Markup$StartTag" "version" "Lcom/example/cadmus/cadmus/XmlVersion;" (.ref a) ∧ Fld Z h o "com/example/cadmus/cadmus/Markup$StartTag" "at" "I" (.int (0 : Int32)) ∧ Fld Z h o "com/example/cadmus/cadmus/Markup$StartTag" "nameStart" "I" (.int (0 : Int32)) ∧ Fld Z h o "com/example/cadmus/cadmus/Markup$StartTag" "nameEnd" "I" (.int (0 : Int32)) ∧ Fld Z h o "com/example/cadmus/cadmus/Markup$StartTag" "valueStart" "I" (.int (0 : Int32)) ∧ Fld Z h o "com/example/cadmus/cadmus/Markup$StartTag" "valueEnd" "I" (.int (0 : Int32)) ∧ Fld Z h o "com/example/cadmus/cadmus/Markup$StartTag" "attributesEnd" "I" (.int (0 : Int32))) := by
  refine own_body own_pn40 (fun m => mkF m 0 #[rv o, rv a] []) (fun m => own_ef_own_ti m o a) ?_
  intro p e s m below meth c T0 hx hby hml hlk hrt hZ hown hnm X0 e0
  have hown : s.vm.findClass "com/example/cadmus/cadmus/Markup$StartTag" = some m.cls := hown
  have N0 := Fr.nil n0
  refine own_g (own_F T0 m 1 #[rv o, rv a] [(.ref o)]) (fun _ z_ => XS.aloadN X0.here hx rfl (hb hby own_d2_0) rfl rfl z_) ?_
  obtain ⟨T1, X1, e1, st1⟩ := initO X0 hx hZ hown (own_w hw 14) (own_w hw 15) (own_w hw 16) e0 (g := (mkF m 1 #[rv o, rv a] [(.ref o)])) rfl (by rw [hml]; rfl) rfl (hb hby own_d2_1) (by decide) (W := 0) (by show 2 * 0 + _ ≤ _; exact Nat.le_of_eq rfl) (by decide)
  refine own_pre (S' := (own_F T1 m 4 #[rv o, rv a] [])) st1 ?_
  refine own_g (own_F T1 m 5 #[rv o, rv a] [(.ref o)]) (fun _ z_ => XS.aloadN X1.here hx rfl (hb hby own_d2_4) rfl rfl z_) ?_
  refine own_ldcX X1 hx hZ hown (own_w hw 17) (own_wS hw) e1 (hb hby own_d2_5) (n := 0) (by decide) (by decide) (by decide) (by decide) ?_
  intro a2 T2 h2 s X2 hZ hown e2 E2 hp2
  show own_Ends p e below s _ _ _ (own_F T2 m 7 #[rv o, rv a] [(.ref a2), (.ref o)])
  obtain ⟨T3, h3, X3, e3, W3, st3⟩ := putF X2 hx hZ hown (host := "") (Or.inl (own_w hw 25)) Via.refl e2 (F_ln.ext E2) (E_o.ext E2) (Or.inl (own_w hw 26)) (own_w hw 9) (ty := (.object "java/lang/String")) (by decide) rfl rfl (g := (mkF m 7 #[rv o, rv a] [(.ref a2), (.ref o)])) rfl rfl (hb hby own_d2_7)
  have N3 := Fr.snoc X3 N0 g_o
  have Fw3 := (F_ln.ext E2).same W3
  refine own_pre (S' := (own_F T3 m 10 #[rv o, rv a] [])) st3 ?_
  refine own_g (own_F T3 m 11 #[rv o, rv a] [(.ref o)]) (fun _ z_ => XS.aloadN X3.here hx rfl (hb hby own_d2_10) rfl rfl z_) ?_
  refine own_g (own_F T3 m 12 #[rv o, rv a] [(.ref a), (.ref o)]) (fun _ z_ => XS.aloadN X3.here hx rfl (hb hby own_d2_11) rfl rfl z_) ?_
  obtain ⟨T4, h4, X4, e4, W4, st4⟩ := putF X3 hx hZ hown (host := "") (Or.inl (own_w hw 27)) Via.refl e3 ((F_ver.ext E2).other W3 (Or.inr (slot_ne (C := "com/example/cadmus/cadmus/Markup$StartTag") (Or.inr (own_w hw 28)) (Or.inl (own_w hw 26)) (by decide) (t := (.object "com/example/cadmus/cadmus/XmlVersion")) (t' := (.object "java/lang/String")) (by decide) (by decide)))) ((E_o.ext E2).wr W3) (Or.inr ⟨(own_w hw 28), rfl, hnm⟩) (own_w hw 9) (ty := (.object "com/example/cadmus/cadmus/XmlVersion")) (by decide) rfl rfl (g := (mkF m 12 #[rv o, rv a] [(.ref a), (.ref o)])) rfl rfl (hb hby own_d2_12)
  have N4 := Fr.snoc X4 N3 g_o
  have Fw4 := ((F_ver.ext E2).other W3 (Or.inr (slot_ne (C := "com/example/cadmus/cadmus/Markup$StartTag") (Or.inr (own_w hw 28)) (Or.inl (own_w hw 26)) (by decide) (t := (.object "com/example/cadmus/cadmus/XmlVersion")) (t' := (.object "java/lang/String")) (by decide) (by decide)))).same W4
  refine own_pre (S' := (own_F T4 m 15 #[rv o, rv a] [])) st4 ?_
  refine own_retV X4 hx hlk hrt (hb hby own_d2_15) (by decide) (by decide) ?_
  show _ ∧ Fr n0 _ ∧ Keep h0 T4.heap [o] ∧ _
  rw [e4]
  exact ⟨rfl, N4, ((((Keep.refl _ _).ext E2).wr W3 (Or.inl (List.mem_of_getElem? (i := 0) rfl))).wr W4 (Or.inl (List.mem_of_getElem? (i := 0) rfl))), (((F_t.ext E2).other W3 (Or.inr (slot_ne (C := "com/example/cadmus/cadmus/Markup$StartTag") (Or.inl (own_w hw 57)) (Or.inl (own_w hw 26)) (by decide) (t := (.object "java/lang/String")) (t' := (.object "java/lang/String")) (by decide) (by decide)))).other W4 (Or.inr (slot_ne (C := "com/example/cadmus/cadmus/Markup$StartTag") (Or.inl (own_w hw 57)) (Or.inr (own_w hw 28)) (by decide) (t := (.object "java/lang/String")) (t' := (.object "com/example/cadmus/cadmus/XmlVersion")) (by decide) (by decide)))), Fw4, (((F_at.ext E2).other W3 (Or.inr (slot_ne (C := "com/example/cadmus/cadmus/Markup$StartTag") (Or.inl (own_w hw 92)) (Or.inl (own_w hw 26)) (by decide) (t := .int) (t' := (.object "java/lang/String")) (by decide) (by decide)))).other W4 (Or.inr (slot_ne (C := "com/example/cadmus/cadmus/Markup$StartTag") (Or.inl (own_w hw 92)) (Or.inr (own_w hw 28)) (by decide) (t := .int) (t' := (.object "com/example/cadmus/cadmus/XmlVersion")) (by decide) (by decide)))), (((F_nameStart.ext E2).other W3 (Or.inr (slot_ne (C := "com/example/cadmus/cadmus/Markup$StartTag") (Or.inl (own_w hw 130)) (Or.inl (own_w hw 26)) (by decide) (t := .int) (t' := (.object "java/lang/String")) (by decide) (by decide)))).other W4 (Or.inr (slot_ne (C := "com/example/cadmus/cadmus/Markup$StartTag") (Or.inl (own_w hw 130)) (Or.inr (own_w hw 28)) (by decide) (t := .int) (t' := (.object "com/example/cadmus/cadmus/XmlVersion")) (by decide) (by decide)))), (((F_nameEnd.ext E2).other W3 (Or.inr (slot_ne (C := "com/example/cadmus/cadmus/Markup$StartTag") (Or.inl (own_w hw 132)) (Or.inl (own_w hw 26)) (by decide) (t := .int) (t' := (.object "java/lang/String")) (by decide) (by decide)))).other W4 (Or.inr (slot_ne (C := "com/example/cadmus/cadmus/Markup$StartTag") (Or.inl (own_w hw 132)) (Or.inr (own_w hw 28)) (by decide) (t := .int) (t' := (.object "com/example/cadmus/cadmus/XmlVersion")) (by decide) (by decide)))), (((F_valueStart.ext E2).other W3 (Or.inr (slot_ne (C := "com/example/cadmus/cadmus/Markup$StartTag") (Or.inl (own_w hw 134)) (Or.inl (own_w hw 26)) (by decide) (t := .int) (t' := (.object "java/lang/String")) (by decide) (by decide)))).other W4 (Or.inr (slot_ne (C := "com/example/cadmus/cadmus/Markup$StartTag") (Or.inl (own_w hw 134)) (Or.inr (own_w hw 28)) (by decide) (t := .int) (t' := (.object "com/example/cadmus/cadmus/XmlVersion")) (by decide) (by decide)))), (((F_valueEnd.ext E2).other W3 (Or.inr (slot_ne (C := "com/example/cadmus/cadmus/Markup$StartTag") (Or.inl (own_w hw 161)) (Or.inl (own_w hw 26)) (by decide) (t := .int) (t' := (.object "java/lang/String")) (by decide) (by decide)))).other W4 (Or.inr (slot_ne (C := "com/example/cadmus/cadmus/Markup$StartTag") (Or.inl (own_w hw 161)) (Or.inr (own_w hw 28)) (by decide) (t := .int) (t' := (.object "com/example/cadmus/cadmus/XmlVersion")) (by decide) (by decide)))), (((F_attributesEnd.ext E2).other W3 (Or.inr (slot_ne (C := "com/example/cadmus/cadmus/Markup$StartTag") (Or.inl (own_w hw 94)) (Or.inl (own_w hw 26)) (by decide) (t := .int) (t' := (.object "java/lang/String")) (by decide) (by decide)))).other W4 (Or.inr (slot_ne (C := "com/example/cadmus/cadmus/Markup$StartTag") (Or.inl (own_w hw 94)) (Or.inr (own_w hw 28)) (by decide) (t := .int) (t' := (.object "com/example/cadmus/cadmus/XmlVersion")) (by decide) (by decide))))⟩
set_option maxRecDepth 65536 in
set_option maxHeartbeats 40000000 in
theorem own_space (l : Launch) (Z : State) (a0 : Array Value) (hw : ∀ d ∈ tables_1, d.before a0 Z = true) (ws : List Jvm.Cond) (z v1 : Int32) (h0 : Heap) (n0 : Nat) (Z0 : n0 ≤ h0.size)  :
    own_Met l Z (⟨"com/example/cadmus/cadmus/StartTagEmptyPinLaw", "space", "(IZ)C"⟩ : MethodName) method_2_code 3 (some .char) ws ({ frames := 0, cells := 0, slots := 0, locals := 0 } : Room) #[(.int z), (.int v1)] h0 (fun v h L => ∃ c : Int32, v = some (.int c) ∧ own_isp (¬ v1 = (0 : Int32)) c ∧ (0 ≤ c.toInt ∧ c.toInt ≤ 65535) ∧ Fr n0 L ∧ h = h0) := by
  refine own_body own_pn41 (fun m => mkF m 0 #[iv z, iv v1, .unset] []) (fun m => own_ef_own_space m z v1) ?_
  intro p e s m below meth c T0 hx hby hml hlk hrt hZ hown hnm X0 e0
  have hown : s.vm.findClass "com/example/cadmus/cadmus/StartTagEmptyPinLaw" = some m.cls := hown
  have N0 := Fr.nil n0
  refine own_g (own_F T0 m 1 #[iv z, iv v1, .unset] [(.int z)]) (fun _ z_ => XS.iloadN X0.here hx rfl (hb hby own_d23_0) rfl z_) ?_
  refine own_pre (S' := (own_F T0 m 3 #[iv z, iv v1, .unset] [(.int 2147483647), (.int z)])) (X0.ldcInt hx hown (mvT hZ (own_w hw 128)) (g := (mkF m 1 #[iv z, iv v1, .unset] [(.int z)])) rfl (hb hby own_d23_1)) ?_
  refine own_g (own_F T0 m 4 #[iv z, iv v1, .unset] [(.int (z &&& (2147483647 : Int32)))]) (fun _ z_ => XS.iand X0.here hx rfl (hb hby own_d23_3) rfl z_) ?_
  refine own_g (own_F T0 m 5 #[iv z, iv v1, .unset] [(.int v1), (.int (z &&& (2147483647 : Int32)))]) (fun _ z_ => XS.iloadN X0.here hx rfl (hb hby own_d23_4) rfl z_) ?_
  by_cases c5 : v1 = (0 : Int32)
  · -- pc 5: v1 = (0 : Int32)
   refine own_g (own_F T0 m 13 #[iv z, iv v1, .unset] [(.int (z &&& (2147483647 : Int32)))]) (fun _ z_ => XS.ifYes X0.here hx rfl (pc0 := 5) (pc' := 13) rfl (hb hby own_d23_5) rfl ((if0 _ _).trans (teq c5).1) (by decide) (by decide) z_) ?_
   refine own_g (own_F T0 m 14 #[iv z, iv v1, .unset] [(.int 4), (.int (z &&& (2147483647 : Int32)))]) (fun _ z_ => XS.iconst X0.here hx rfl (hb hby own_d23_13) z_) ?_
   refine own_g (own_F T0 m 15 #[iv z, iv v1, .unset] [(.int ((z &&& (2147483647 : Int32)) % (4 : Int32)))]) (fun _ z_ => iremM X0 hx rfl (hb hby own_d23_14) rfl (by decide) z_) ?_
   refine own_g (own_F T0 m 16 #[iv z, iv v1, iv ((z &&& (2147483647 : Int32)) % (4 : Int32))] []) (fun _ z_ => XS.istoreN X0.here hx rfl (hb hby own_d23_15) rfl (l' := #[iv z, iv v1, iv ((z &&& (2147483647 : Int32)) % (4 : Int32))]) rfl z_) ?_
   generalize gk : ((z &&& (2147483647 : Int32)) % (4 : Int32)) = kk
   have hkk : 0 ≤ kk.toInt ∧ kk.toInt < 4 := by rw [← gk]; exact own_rem4 z
   refine own_g (own_F T0 m 17 #[iv z, iv v1, iv kk] [(.int kk)]) (fun _ z_ => XS.iloadN X0.here hx rfl (hb hby own_d23_16) rfl z_) ?_
   by_cases c17 : kk = (0 : Int32)
   · -- pc 17: kk = (0 : Int32)
    refine own_g (own_F T0 m 20 #[iv z, iv v1, iv kk] []) (fun _ z_ => XS.ifNo X0.here hx rfl (hb hby own_d23_17) rfl ((if0 _ _).trans (teq c17).2) z_) ?_
    refine own_g (own_F T0 m 22 #[iv z, iv v1, iv kk] [(.int 32)]) (fun _ z_ => XS.bipush X0.here hx rfl (hb hby own_d23_20) z_) ?_
    refine own_ret (t := .char) X0 hx hlk hrt rfl (Or.inl ⟨rfl, by simp, _, rfl⟩) (hb hby own_d23_22) (by decide) (by decide) ?_
    exact ⟨_, rfl, Or.inl rfl, by decide, N0, e0⟩
   · -- pc 17: not kk = (0 : Int32)
    refine own_g (own_F T0 m 23 #[iv z, iv v1, iv kk] []) (fun _ z_ => XS.ifYes X0.here hx rfl (pc0 := 17) (pc' := 23) rfl (hb hby own_d23_17) rfl ((if0 _ _).trans (feq c17).2) (by decide) (by decide) z_) ?_
    refine own_g (own_F T0 m 24 #[iv z, iv v1, iv kk] [(.int kk)]) (fun _ z_ => XS.iloadN X0.here hx rfl (hb hby own_d23_23) rfl z_) ?_
    refine own_g (own_F T0 m 25 #[iv z, iv v1, iv kk] [(.int 1), (.int kk)]) (fun _ z_ => XS.iconst X0.here hx rfl (hb hby own_d23_24) z_) ?_
    by_cases c25 : kk = (1 : Int32)
    · -- pc 25: kk = (1 : Int32)
     refine own_g (own_F T0 m 28 #[iv z, iv v1, iv kk] []) (fun _ z_ => XS.icmpNo X0.here hx rfl (hb hby own_d23_25) rfl (teq c25).2 z_) ?_
     refine own_g (own_F T0 m 30 #[iv z, iv v1, iv kk] [(.int 9)]) (fun _ z_ => XS.bipush X0.here hx rfl (hb hby own_d23_28) z_) ?_
     refine own_ret (t := .char) X0 hx hlk hrt rfl (Or.inl ⟨rfl, by simp, _, rfl⟩) (hb hby own_d23_30) (by decide) (by decide) ?_
     exact ⟨_, rfl, Or.inr (Or.inl rfl), by decide, N0, e0⟩
    · -- pc 25: not kk = (1 : Int32)
     refine own_g (own_F T0 m 31 #[iv z, iv v1, iv kk] []) (fun _ z_ => XS.icmpYes X0.here hx rfl (pc0 := 25) (pc' := 31) rfl (hb hby own_d23_25) rfl (feq c25).2 (by decide) (by decide) z_) ?_
     refine own_g (own_F T0 m 32 #[iv z, iv v1, iv kk] [(.int kk)]) (fun _ z_ => XS.iloadN X0.here hx rfl (hb hby own_d23_31) rfl z_) ?_
     refine own_g (own_F T0 m 33 #[iv z, iv v1, iv kk] [(.int 2), (.int kk)]) (fun _ z_ => XS.iconst X0.here hx rfl (hb hby own_d23_32) z_) ?_
     by_cases c33 : kk = (2 : Int32)
     · -- pc 33: kk = (2 : Int32)
      refine own_g (own_F T0 m 36 #[iv z, iv v1, iv kk] []) (fun _ z_ => XS.icmpNo X0.here hx rfl (hb hby own_d23_33) rfl (teq c33).2 z_) ?_
      refine own_g (own_F T0 m 38 #[iv z, iv v1, iv kk] [(.int 10)]) (fun _ z_ => XS.bipush X0.here hx rfl (hb hby own_d23_36) z_) ?_
      refine own_ret (t := .char) X0 hx hlk hrt rfl (Or.inl ⟨rfl, by simp, _, rfl⟩) (hb hby own_d23_38) (by decide) (by decide) ?_
      exact ⟨_, rfl, Or.inr (Or.inr (Or.inl rfl)), by decide, N0, e0⟩
     · -- pc 33: not kk = (2 : Int32)
      refine own_g (own_F T0 m 39 #[iv z, iv v1, iv kk] []) (fun _ z_ => XS.icmpYes X0.here hx rfl (pc0 := 33) (pc' := 39) rfl (hb hby own_d23_33) rfl (feq c33).2 (by decide) (by decide) z_) ?_
      refine own_g (own_F T0 m 40 #[iv z, iv v1, iv kk] [(.int kk)]) (fun _ z_ => XS.iloadN X0.here hx rfl (hb hby own_d23_39) rfl z_) ?_
      refine own_g (own_F T0 m 41 #[iv z, iv v1, iv kk] [(.int 3), (.int kk)]) (fun _ z_ => XS.iconst X0.here hx rfl (hb hby own_d23_40) z_) ?_
      by_cases c41 : kk = (3 : Int32)
      · -- pc 41: kk = (3 : Int32)
       refine own_g (own_F T0 m 44 #[iv z, iv v1, iv kk] []) (fun _ z_ => XS.icmpNo X0.here hx rfl (hb hby own_d23_41) rfl (teq c41).2 z_) ?_
       refine own_g (own_F T0 m 46 #[iv z, iv v1, iv kk] [(.int 13)]) (fun _ z_ => XS.bipush X0.here hx rfl (hb hby own_d23_44) z_) ?_
       refine own_ret (t := .char) X0 hx hlk hrt rfl (Or.inl ⟨rfl, by simp, _, rfl⟩) (hb hby own_d23_46) (by decide) (by decide) ?_
       exact ⟨_, rfl, Or.inr (Or.inr (Or.inr (Or.inl rfl))), by decide, N0, e0⟩
      · -- pc 41: not kk = (3 : Int32)
       refine own_g (own_F T0 m 47 #[iv z, iv v1, iv kk] []) (fun _ z_ => XS.icmpYes X0.here hx rfl (pc0 := 41) (pc' := 47) rfl (hb hby own_d23_41) rfl (feq c41).2 (by decide) (by decide) z_) ?_
       refine own_g (own_F T0 m 48 #[iv z, iv v1, iv kk] [(.int kk)]) (fun _ z_ => XS.iloadN X0.here hx rfl (hb hby own_d23_47) rfl z_) ?_
       refine own_g (own_F T0 m 49 #[iv z, iv v1, iv kk] [(.int 4), (.int kk)]) (fun _ z_ => XS.iconst X0.here hx rfl (hb hby own_d23_48) z_) ?_
       by_cases c49 : kk = (4 : Int32)
       · -- pc 49: kk = (4 : Int32)
        refine own_g (own_F T0 m 52 #[iv z, iv v1, iv kk] []) (fun _ z_ => XS.icmpNo X0.here hx rfl (hb hby own_d23_49) rfl (teq c49).2 z_) ?_
        refine own_g (own_F T0 m 55 #[iv z, iv v1, iv kk] [(.int 133)]) (fun _ z_ => XS.sipush X0.here hx rfl (hb hby own_d23_52) z_) ?_
        refine own_ret (t := .char) X0 hx hlk hrt rfl (Or.inl ⟨rfl, by simp, _, rfl⟩) (hb hby own_d23_55) (by decide) (by decide) ?_
        exfalso; simp only [← Int32.toInt_inj, Int32.reduceToInt] at c17 c25 c33 c41 c49; omega
       · -- pc 49: not kk = (4 : Int32)
        refine own_g (own_F T0 m 56 #[iv z, iv v1, iv kk] []) (fun _ z_ => XS.icmpYes X0.here hx rfl (pc0 := 49) (pc' := 56) rfl (hb hby own_d23_49) rfl (feq c49).2 (by decide) (by decide) z_) ?_
        refine own_g (own_F T0 m 59 #[iv z, iv v1, iv kk] [(.int 8232)]) (fun _ z_ => XS.sipush X0.here hx rfl (hb hby own_d23_56) z_) ?_
        refine own_ret (t := .char) X0 hx hlk hrt rfl (Or.inl ⟨rfl, by simp, _, rfl⟩) (hb hby own_d23_59) (by decide) (by decide) ?_
        exfalso; simp only [← Int32.toInt_inj, Int32.reduceToInt] at c17 c25 c33 c41 c49; omega
  · -- pc 5: not v1 = (0 : Int32)
   refine own_g (own_F T0 m 8 #[iv z, iv v1, .unset] [(.int (z &&& (2147483647 : Int32)))]) (fun _ z_ => XS.ifNo X0.here hx rfl (hb hby own_d23_5) rfl ((if0 _ _).trans (feq c5).1) z_) ?_
   refine own_g (own_F T0 m 10 #[iv z, iv v1, .unset] [(.int 6), (.int (z &&& (2147483647 : Int32)))]) (fun _ z_ => XS.bipush X0.here hx rfl (hb hby own_d23_8) z_) ?_
   refine own_g (own_F T0 m 14 #[iv z, iv v1, .unset] [(.int 6), (.int (z &&& (2147483647 : Int32)))]) (fun _ z_ => XS.goto X0.here hx rfl (pc0 := 10) (pc' := 14) rfl (hb hby own_d23_10) (by decide) (by decide) z_) ?_
   refine own_g (own_F T0 m 15 #[iv z, iv v1, .unset] [(.int ((z &&& (2147483647 : Int32)) % (6 : Int32)))]) (fun _ z_ => iremM X0 hx rfl (hb hby own_d23_14) rfl (by decide) z_) ?_
   refine own_g (own_F T0 m 16 #[iv z, iv v1, iv ((z &&& (2147483647 : Int32)) % (6 : Int32))] []) (fun _ z_ => XS.istoreN X0.here hx rfl (hb hby own_d23_15) rfl (l' := #[iv z, iv v1, iv ((z &&& (2147483647 : Int32)) % (6 : Int32))]) rfl z_) ?_
   generalize gk : ((z &&& (2147483647 : Int32)) % (6 : Int32)) = kk
   have hkk : 0 ≤ kk.toInt ∧ kk.toInt < 6 := by rw [← gk]; exact own_rem6 z
   refine own_g (own_F T0 m 17 #[iv z, iv v1, iv kk] [(.int kk)]) (fun _ z_ => XS.iloadN X0.here hx rfl (hb hby own_d23_16) rfl z_) ?_
   by_cases c17 : kk = (0 : Int32)
   · -- pc 17: kk = (0 : Int32)
    refine own_g (own_F T0 m 20 #[iv z, iv v1, iv kk] []) (fun _ z_ => XS.ifNo X0.here hx rfl (hb hby own_d23_17) rfl ((if0 _ _).trans (teq c17).2) z_) ?_
    refine own_g (own_F T0 m 22 #[iv z, iv v1, iv kk] [(.int 32)]) (fun _ z_ => XS.bipush X0.here hx rfl (hb hby own_d23_20) z_) ?_
    refine own_ret (t := .char) X0 hx hlk hrt rfl (Or.inl ⟨rfl, by simp, _, rfl⟩) (hb hby own_d23_22) (by decide) (by decide) ?_
    exact ⟨_, rfl, Or.inl rfl, by decide, N0, e0⟩
   · -- pc 17: not kk = (0 : Int32)
    refine own_g (own_F T0 m 23 #[iv z, iv v1, iv kk] []) (fun _ z_ => XS.ifYes X0.here hx rfl (pc0 := 17) (pc' := 23) rfl (hb hby own_d23_17) rfl ((if0 _ _).trans (feq c17).2) (by decide) (by decide) z_) ?_
    refine own_g (own_F T0 m 24 #[iv z, iv v1, iv kk] [(.int kk)]) (fun _ z_ => XS.iloadN X0.here hx rfl (hb hby own_d23_23) rfl z_) ?_
    refine own_g (own_F T0 m 25 #[iv z, iv v1, iv kk] [(.int 1), (.int kk)]) (fun _ z_ => XS.iconst X0.here hx rfl (hb hby own_d23_24) z_) ?_
    by_cases c25 : kk = (1 : Int32)
    · -- pc 25: kk = (1 : Int32)
     refine own_g (own_F T0 m 28 #[iv z, iv v1, iv kk] []) (fun _ z_ => XS.icmpNo X0.here hx rfl (hb hby own_d23_25) rfl (teq c25).2 z_) ?_
     refine own_g (own_F T0 m 30 #[iv z, iv v1, iv kk] [(.int 9)]) (fun _ z_ => XS.bipush X0.here hx rfl (hb hby own_d23_28) z_) ?_
     refine own_ret (t := .char) X0 hx hlk hrt rfl (Or.inl ⟨rfl, by simp, _, rfl⟩) (hb hby own_d23_30) (by decide) (by decide) ?_
     exact ⟨_, rfl, Or.inr (Or.inl rfl), by decide, N0, e0⟩
    · -- pc 25: not kk = (1 : Int32)
     refine own_g (own_F T0 m 31 #[iv z, iv v1, iv kk] []) (fun _ z_ => XS.icmpYes X0.here hx rfl (pc0 := 25) (pc' := 31) rfl (hb hby own_d23_25) rfl (feq c25).2 (by decide) (by decide) z_) ?_
     refine own_g (own_F T0 m 32 #[iv z, iv v1, iv kk] [(.int kk)]) (fun _ z_ => XS.iloadN X0.here hx rfl (hb hby own_d23_31) rfl z_) ?_
     refine own_g (own_F T0 m 33 #[iv z, iv v1, iv kk] [(.int 2), (.int kk)]) (fun _ z_ => XS.iconst X0.here hx rfl (hb hby own_d23_32) z_) ?_
     by_cases c33 : kk = (2 : Int32)
     · -- pc 33: kk = (2 : Int32)
      refine own_g (own_F T0 m 36 #[iv z, iv v1, iv kk] []) (fun _ z_ => XS.icmpNo X0.here hx rfl (hb hby own_d23_33) rfl (teq c33).2 z_) ?_
      refine own_g (own_F T0 m 38 #[iv z, iv v1, iv kk] [(.int 10)]) (fun _ z_ => XS.bipush X0.here hx rfl (hb hby own_d23_36) z_) ?_
      refine own_ret (t := .char) X0 hx hlk hrt rfl (Or.inl ⟨rfl, by simp, _, rfl⟩) (hb hby own_d23_38) (by decide) (by decide) ?_
      exact ⟨_, rfl, Or.inr (Or.inr (Or.inl rfl)), by decide, N0, e0⟩
     · -- pc 33: not kk = (2 : Int32)
      refine own_g (own_F T0 m 39 #[iv z, iv v1, iv kk] []) (fun _ z_ => XS.icmpYes X0.here hx rfl (pc0 := 33) (pc' := 39) rfl (hb hby own_d23_33) rfl (feq c33).2 (by decide) (by decide) z_) ?_
      refine own_g (own_F T0 m 40 #[iv z, iv v1, iv kk] [(.int kk)]) (fun _ z_ => XS.iloadN X0.here hx rfl (hb hby own_d23_39) rfl z_) ?_
      refine own_g (own_F T0 m 41 #[iv z, iv v1, iv kk] [(.int 3), (.int kk)]) (fun _ z_ => XS.iconst X0.here hx rfl (hb hby own_d23_40) z_) ?_
      by_cases c41 : kk = (3 : Int32)
      · -- pc 41: kk = (3 : Int32)
       refine own_g (own_F T0 m 44 #[iv z, iv v1, iv kk] []) (fun _ z_ => XS.icmpNo X0.here hx rfl (hb hby own_d23_41) rfl (teq c41).2 z_) ?_
       refine own_g (own_F T0 m 46 #[iv z, iv v1, iv kk] [(.int 13)]) (fun _ z_ => XS.bipush X0.here hx rfl (hb hby own_d23_44) z_) ?_
       refine own_ret (t := .char) X0 hx hlk hrt rfl (Or.inl ⟨rfl, by simp, _, rfl⟩) (hb hby own_d23_46) (by decide) (by decide) ?_
       exact ⟨_, rfl, Or.inr (Or.inr (Or.inr (Or.inl rfl))), by decide, N0, e0⟩
      · -- pc 41: not kk = (3 : Int32)
       refine own_g (own_F T0 m 47 #[iv z, iv v1, iv kk] []) (fun _ z_ => XS.icmpYes X0.here hx rfl (pc0 := 41) (pc' := 47) rfl (hb hby own_d23_41) rfl (feq c41).2 (by decide) (by decide) z_) ?_
       refine own_g (own_F T0 m 48 #[iv z, iv v1, iv kk] [(.int kk)]) (fun _ z_ => XS.iloadN X0.here hx rfl (hb hby own_d23_47) rfl z_) ?_
       refine own_g (own_F T0 m 49 #[iv z, iv v1, iv kk] [(.int 4), (.int kk)]) (fun _ z_ => XS.iconst X0.here hx rfl (hb hby own_d23_48) z_) ?_
       by_cases c49 : kk = (4 : Int32)
       · -- pc 49: kk = (4 : Int32)
        refine own_g (own_F T0 m 52 #[iv z, iv v1, iv kk] []) (fun _ z_ => XS.icmpNo X0.here hx rfl (hb hby own_d23_49) rfl (teq c49).2 z_) ?_
        refine own_g (own_F T0 m 55 #[iv z, iv v1, iv kk] [(.int 133)]) (fun _ z_ => XS.sipush X0.here hx rfl (hb hby own_d23_52) z_) ?_
        refine own_ret (t := .char) X0 hx hlk hrt rfl (Or.inl ⟨rfl, by simp, _, rfl⟩) (hb hby own_d23_55) (by decide) (by decide) ?_
        exact ⟨_, rfl, Or.inr (Or.inr (Or.inr (Or.inr ⟨c5, Or.inl rfl⟩))), by decide, N0, e0⟩
       · -- pc 49: not kk = (4 : Int32)
        refine own_g (own_F T0 m 56 #[iv z, iv v1, iv kk] []) (fun _ z_ => XS.icmpYes X0.here hx rfl (pc0 := 49) (pc' := 56) rfl (hb hby own_d23_49) rfl (feq c49).2 (by decide) (by decide) z_) ?_
        refine own_g (own_F T0 m 59 #[iv z, iv v1, iv kk] [(.int 8232)]) (fun _ z_ => XS.sipush X0.here hx rfl (hb hby own_d23_56) z_) ?_
        refine own_ret (t := .char) X0 hx hlk hrt rfl (Or.inl ⟨rfl, by simp, _, rfl⟩) (hb hby own_d23_59) (by decide) (by decide) ?_
        exact ⟨_, rfl, Or.inr (Or.inr (Or.inr (Or.inr ⟨c5, Or.inr rfl⟩))), by decide, N0, e0⟩
set_option maxRecDepth 65536 in
set_option maxHeartbeats 40000000 in
theorem own_nc (l : Launch) (Z : State) (a0 : Array Value) (hw : ∀ d ∈ tables_1, d.before a0 Z = true) (ws : List Jvm.Cond) (z : Int32) (h0 : Heap) (n0 : Nat) (Z0 : n0 ≤ h0.size)  :
    own_Met l Z (⟨"com/example/cadmus/cadmus/StartTagEmptyPinLaw", "nameChar", "(I)C"⟩ : MethodName) method_3_code 2 (some .char) ws ({ frames := 0, cells := 0, slots := 0, locals := 0 } : Room) #[(.int z)] h0 (fun v h L => ∃ c : Int32, v = some (.int c) ∧ (∀ V : Prop, ¬ own_dl V c) ∧ (0 ≤ c.toInt ∧ c.toInt ≤ 65535) ∧ Fr n0 L ∧ h = h0) := by
  refine own_body own_pn42 (fun m => mkF m 0 #[iv z, .unset] []) (fun m => own_ef_own_nc m z) ?_
  intro p e s m below meth c T0 hx hby hml hlk hrt hZ hown hnm X0 e0
  have hown : s.vm.findClass "com/example/cadmus/cadmus/StartTagEmptyPinLaw" = some m.cls := hown
  have N0 := Fr.nil n0
  refine own_g (own_F T0 m 1 #[iv z, .unset] [(.int z)]) (fun _ z_ => XS.iloadN X0.here hx rfl (hb hby own_d1_0) rfl z_) ?_
  refine own_g (own_F T0 m 4 #[iv z, .unset] [(.int 255), (.int z)]) (fun _ z_ => XS.sipush X0.here hx rfl (hb hby own_d1_1) z_) ?_
  refine own_g (own_F T0 m 5 #[iv z, .unset] [(.int (z &&& (255 : Int32)))]) (fun _ z_ => XS.iand X0.here hx rfl (hb hby own_d1_4) rfl z_) ?_
  refine own_g (own_F T0 m 6 #[iv z, .unset] [(.int ((z &&& (255 : Int32)).toUInt32.toUInt16.toUInt32.toInt32))]) (fun _ z_ => XS.i2c X0.here hx rfl (hb hby own_d1_5) rfl z_) ?_
  generalize gk : ((z &&& (255 : Int32)).toUInt32.toUInt16.toUInt32.toInt32) = kk
  have hkk : 0 ≤ kk.toInt ∧ kk.toInt ≤ 255 := by rw [← gk]; exact own_m255c z
  refine own_g (own_F T0 m 7 #[iv z, iv kk] []) (fun _ z_ => XS.istoreN X0.here hx rfl (hb hby own_d1_6) rfl (l' := #[iv z, iv kk]) rfl z_) ?_
  refine own_g (own_F T0 m 8 #[iv z, iv kk] [(.int kk)]) (fun _ z_ => XS.iloadN X0.here hx rfl (hb hby own_d1_7) rfl z_) ?_
  refine own_g (own_F T0 m 10 #[iv z, iv kk] [(.int 32), (.int kk)]) (fun _ z_ => XS.bipush X0.here hx rfl (hb hby own_d1_8) z_) ?_
  by_cases c10 : (32 : Int32) < kk
  · -- pc 10: (32 : Int32) < kk
   refine own_g (own_F T0 m 13 #[iv z, iv kk] []) (fun _ z_ => XS.icmpNo X0.here hx rfl (hb hby own_d1_10) rfl (tlt c10).2.2.2 z_) ?_
   refine own_g (own_F T0 m 14 #[iv z, iv kk] [(.int kk)]) (fun _ z_ => XS.iloadN X0.here hx rfl (hb hby own_d1_13) rfl z_) ?_
   refine own_g (own_F T0 m 16 #[iv z, iv kk] [(.int 47), (.int kk)]) (fun _ z_ => XS.bipush X0.here hx rfl (hb hby own_d1_14) z_) ?_
   by_cases c16 : kk = (47 : Int32)
   · -- pc 16: kk = (47 : Int32)
    refine own_g (own_F T0 m 62 #[iv z, iv kk] []) (fun _ z_ => XS.icmpYes X0.here hx rfl (pc0 := 16) (pc' := 62) rfl (hb hby own_d1_16) rfl (teq c16).1 (by decide) (by decide) z_) ?_
    refine own_g (own_F T0 m 64 #[iv z, iv kk] [(.int 97)]) (fun _ z_ => XS.bipush X0.here hx rfl (hb hby own_d1_62) z_) ?_
    refine own_ret (t := .char) X0 hx hlk hrt rfl (Or.inl ⟨rfl, by simp, _, rfl⟩) (hb hby own_d1_64) (by decide) (by decide) ?_
    exact ⟨_, rfl, fun V q => own_na97 q, by decide, N0, e0⟩
   · -- pc 16: not kk = (47 : Int32)
    refine own_g (own_F T0 m 19 #[iv z, iv kk] []) (fun _ z_ => XS.icmpNo X0.here hx rfl (hb hby own_d1_16) rfl (feq c16).1 z_) ?_
    refine own_g (own_F T0 m 20 #[iv z, iv kk] [(.int kk)]) (fun _ z_ => XS.iloadN X0.here hx rfl (hb hby own_d1_19) rfl z_) ?_
    refine own_g (own_F T0 m 22 #[iv z, iv kk] [(.int 62), (.int kk)]) (fun _ z_ => XS.bipush X0.here hx rfl (hb hby own_d1_20) z_) ?_
    by_cases c22 : kk = (62 : Int32)
    · -- pc 22: kk = (62 : Int32)
     refine own_g (own_F T0 m 62 #[iv z, iv kk] []) (fun _ z_ => XS.icmpYes X0.here hx rfl (pc0 := 22) (pc' := 62) rfl (hb hby own_d1_22) rfl (teq c22).1 (by decide) (by decide) z_) ?_
     refine own_g (own_F T0 m 64 #[iv z, iv kk] [(.int 97)]) (fun _ z_ => XS.bipush X0.here hx rfl (hb hby own_d1_62) z_) ?_
     refine own_ret (t := .char) X0 hx hlk hrt rfl (Or.inl ⟨rfl, by simp, _, rfl⟩) (hb hby own_d1_64) (by decide) (by decide) ?_
     exact ⟨_, rfl, fun V q => own_na97 q, by decide, N0, e0⟩
    · -- pc 22: not kk = (62 : Int32)
     refine own_g (own_F T0 m 25 #[iv z, iv kk] []) (fun _ z_ => XS.icmpNo X0.here hx rfl (hb hby own_d1_22) rfl (feq c22).1 z_) ?_
     refine own_g (own_F T0 m 26 #[iv z, iv kk] [(.int kk)]) (fun _ z_ => XS.iloadN X0.here hx rfl (hb hby own_d1_25) rfl z_) ?_
     refine own_g (own_F T0 m 28 #[iv z, iv kk] [(.int 61), (.int kk)]) (fun _ z_ => XS.bipush X0.here hx rfl (hb hby own_d1_26) z_) ?_
     by_cases c28 : kk = (61 : Int32)
     · -- pc 28: kk = (61 : Int32)
      refine own_g (own_F T0 m 62 #[iv z, iv kk] []) (fun _ z_ => XS.icmpYes X0.here hx rfl (pc0 := 28) (pc' := 62) rfl (hb hby own_d1_28) rfl (teq c28).1 (by decide) (by decide) z_) ?_
      refine own_g (own_F T0 m 64 #[iv z, iv kk] [(.int 97)]) (fun _ z_ => XS.bipush X0.here hx rfl (hb hby own_d1_62) z_) ?_
      refine own_ret (t := .char) X0 hx hlk hrt rfl (Or.inl ⟨rfl, by simp, _, rfl⟩) (hb hby own_d1_64) (by decide) (by decide) ?_
      exact ⟨_, rfl, fun V q => own_na97 q, by decide, N0, e0⟩
     · -- pc 28: not kk = (61 : Int32)
      refine own_g (own_F T0 m 31 #[iv z, iv kk] []) (fun _ z_ => XS.icmpNo X0.here hx rfl (hb hby own_d1_28) rfl (feq c28).1 z_) ?_
      refine own_g (own_F T0 m 32 #[iv z, iv kk] [(.int kk)]) (fun _ z_ => XS.iloadN X0.here hx rfl (hb hby own_d1_31) rfl z_) ?_
      refine own_g (own_F T0 m 35 #[iv z, iv kk] [(.int 133), (.int kk)]) (fun _ z_ => XS.sipush X0.here hx rfl (hb hby own_d1_32) z_) ?_
      by_cases c35 : kk = (133 : Int32)
      · -- pc 35: kk = (133 : Int32)
       refine own_g (own_F T0 m 62 #[iv z, iv kk] []) (fun _ z_ => XS.icmpYes X0.here hx rfl (pc0 := 35) (pc' := 62) rfl (hb hby own_d1_35) rfl (teq c35).1 (by decide) (by decide) z_) ?_
       refine own_g (own_F T0 m 64 #[iv z, iv kk] [(.int 97)]) (fun _ z_ => XS.bipush X0.here hx rfl (hb hby own_d1_62) z_) ?_
       refine own_ret (t := .char) X0 hx hlk hrt rfl (Or.inl ⟨rfl, by simp, _, rfl⟩) (hb hby own_d1_64) (by decide) (by decide) ?_
       exact ⟨_, rfl, fun V q => own_na97 q, by decide, N0, e0⟩
      · -- pc 35: not kk = (133 : Int32)
       refine own_g (own_F T0 m 38 #[iv z, iv kk] []) (fun _ z_ => XS.icmpNo X0.here hx rfl (hb hby own_d1_35) rfl (feq c35).1 z_) ?_
       refine own_g (own_F T0 m 39 #[iv z, iv kk] [(.int kk)]) (fun _ z_ => XS.iloadN X0.here hx rfl (hb hby own_d1_38) rfl z_) ?_
       refine own_g (own_F T0 m 41 #[iv z, iv kk] [(.int 60), (.int kk)]) (fun _ z_ => XS.bipush X0.here hx rfl (hb hby own_d1_39) z_) ?_
       by_cases c41 : kk = (60 : Int32)
       · -- pc 41: kk = (60 : Int32)
        refine own_g (own_F T0 m 62 #[iv z, iv kk] []) (fun _ z_ => XS.icmpYes X0.here hx rfl (pc0 := 41) (pc' := 62) rfl (hb hby own_d1_41) rfl (teq c41).1 (by decide) (by decide) z_) ?_
        refine own_g (own_F T0 m 64 #[iv z, iv kk] [(.int 97)]) (fun _ z_ => XS.bipush X0.here hx rfl (hb hby own_d1_62) z_) ?_
        refine own_ret (t := .char) X0 hx hlk hrt rfl (Or.inl ⟨rfl, by simp, _, rfl⟩) (hb hby own_d1_64) (by decide) (by decide) ?_
        exact ⟨_, rfl, fun V q => own_na97 q, by decide, N0, e0⟩
       · -- pc 41: not kk = (60 : Int32)
        refine own_g (own_F T0 m 44 #[iv z, iv kk] []) (fun _ z_ => XS.icmpNo X0.here hx rfl (hb hby own_d1_41) rfl (feq c41).1 z_) ?_
        refine own_g (own_F T0 m 45 #[iv z, iv kk] [(.int kk)]) (fun _ z_ => XS.iloadN X0.here hx rfl (hb hby own_d1_44) rfl z_) ?_
        refine own_g (own_F T0 m 47 #[iv z, iv kk] [(.int 34), (.int kk)]) (fun _ z_ => XS.bipush X0.here hx rfl (hb hby own_d1_45) z_) ?_
        by_cases c47 : kk = (34 : Int32)
        · -- pc 47: kk = (34 : Int32)
         refine own_g (own_F T0 m 62 #[iv z, iv kk] []) (fun _ z_ => XS.icmpYes X0.here hx rfl (pc0 := 47) (pc' := 62) rfl (hb hby own_d1_47) rfl (teq c47).1 (by decide) (by decide) z_) ?_
         refine own_g (own_F T0 m 64 #[iv z, iv kk] [(.int 97)]) (fun _ z_ => XS.bipush X0.here hx rfl (hb hby own_d1_62) z_) ?_
         refine own_ret (t := .char) X0 hx hlk hrt rfl (Or.inl ⟨rfl, by simp, _, rfl⟩) (hb hby own_d1_64) (by decide) (by decide) ?_
         exact ⟨_, rfl, fun V q => own_na97 q, by decide, N0, e0⟩
        · -- pc 47: not kk = (34 : Int32)
         refine own_g (own_F T0 m 50 #[iv z, iv kk] []) (fun _ z_ => XS.icmpNo X0.here hx rfl (hb hby own_d1_47) rfl (feq c47).1 z_) ?_
         refine own_g (own_F T0 m 51 #[iv z, iv kk] [(.int kk)]) (fun _ z_ => XS.iloadN X0.here hx rfl (hb hby own_d1_50) rfl z_) ?_
         refine own_g (own_F T0 m 53 #[iv z, iv kk] [(.int 39), (.int kk)]) (fun _ z_ => XS.bipush X0.here hx rfl (hb hby own_d1_51) z_) ?_
         by_cases c53 : kk = (39 : Int32)
         · -- pc 53: kk = (39 : Int32)
          refine own_g (own_F T0 m 62 #[iv z, iv kk] []) (fun _ z_ => XS.icmpYes X0.here hx rfl (pc0 := 53) (pc' := 62) rfl (hb hby own_d1_53) rfl (teq c53).1 (by decide) (by decide) z_) ?_
          refine own_g (own_F T0 m 64 #[iv z, iv kk] [(.int 97)]) (fun _ z_ => XS.bipush X0.here hx rfl (hb hby own_d1_62) z_) ?_
          refine own_ret (t := .char) X0 hx hlk hrt rfl (Or.inl ⟨rfl, by simp, _, rfl⟩) (hb hby own_d1_64) (by decide) (by decide) ?_
          exact ⟨_, rfl, fun V q => own_na97 q, by decide, N0, e0⟩
         · -- pc 53: not kk = (39 : Int32)
          refine own_g (own_F T0 m 56 #[iv z, iv kk] []) (fun _ z_ => XS.icmpNo X0.here hx rfl (hb hby own_d1_53) rfl (feq c53).1 z_) ?_
          refine own_g (own_F T0 m 57 #[iv z, iv kk] [(.int kk)]) (fun _ z_ => XS.iloadN X0.here hx rfl (hb hby own_d1_56) rfl z_) ?_
          refine own_g (own_F T0 m 59 #[iv z, iv kk] [(.int 38), (.int kk)]) (fun _ z_ => XS.bipush X0.here hx rfl (hb hby own_d1_57) z_) ?_
          by_cases c59 : kk = (38 : Int32)
          · -- pc 59: kk = (38 : Int32)
           refine own_g (own_F T0 m 62 #[iv z, iv kk] []) (fun _ z_ => XS.icmpNo X0.here hx rfl (hb hby own_d1_59) rfl (teq c59).2 z_) ?_
           refine own_g (own_F T0 m 64 #[iv z, iv kk] [(.int 97)]) (fun _ z_ => XS.bipush X0.here hx rfl (hb hby own_d1_62) z_) ?_
           refine own_ret (t := .char) X0 hx hlk hrt rfl (Or.inl ⟨rfl, by simp, _, rfl⟩) (hb hby own_d1_64) (by decide) (by decide) ?_
           exact ⟨_, rfl, fun V q => own_na97 q, by decide, N0, e0⟩
          · -- pc 59: not kk = (38 : Int32)
           refine own_g (own_F T0 m 65 #[iv z, iv kk] []) (fun _ z_ => XS.icmpYes X0.here hx rfl (pc0 := 59) (pc' := 65) rfl (hb hby own_d1_59) rfl (feq c59).2 (by decide) (by decide) z_) ?_
           refine own_g (own_F T0 m 66 #[iv z, iv kk] [(.int kk)]) (fun _ z_ => XS.iloadN X0.here hx rfl (hb hby own_d1_65) rfl z_) ?_
           refine own_ret (t := .char) X0 hx hlk hrt (own_narR ⟨hkk.1, by omega⟩) (Or.inl ⟨rfl, by simp, _, rfl⟩) (hb hby own_d1_66) (by decide) (by decide) ?_
           refine ⟨kk, rfl, fun V q => ?_, ⟨hkk.1, by omega⟩, N0, e0⟩
           simp only [own_dl, own_isp, Int32.lt_iff_toInt_lt, ← Int32.toInt_inj, Int32.reduceToInt] at c10 c16 c22 c28 c35 q; omega
  · -- pc 10: not (32 : Int32) < kk
   refine own_g (own_F T0 m 62 #[iv z, iv kk] []) (fun _ z_ => XS.icmpYes X0.here hx rfl (pc0 := 10) (pc' := 62) rfl (hb hby own_d1_10) rfl (flt c10).2.2.2 (by decide) (by decide) z_) ?_
   refine own_g (own_F T0 m 64 #[iv z, iv kk] [(.int 97)]) (fun _ z_ => XS.bipush X0.here hx rfl (hb hby own_d1_62) z_) ?_
   refine own_ret (t := .char) X0 hx hlk hrt rfl (Or.inl ⟨rfl, by simp, _, rfl⟩) (hb hby own_d1_64) (by decide) (by decide) ?_
   exact ⟨_, rfl, fun V q => own_na97 q, by decide, N0, e0⟩
set_option maxRecDepth 65536 in
set_option maxHeartbeats 40000000 in
theorem own_law (l : Launch) (Z : State) (a0 : Array Value) (hw : ∀ d ∈ tables_1, d.before a0 Z = true) (ws : List Jvm.Cond) (i0 i1 i2 i3 i4 i5 : Int32) (a_XML_1_0 : Addr) (a_XML_1_1 : Addr) (zc : Int32) (sv : Value) (hsv : sv.isRef = true) (h0 : Heap) (n0 : Nat) (Z0 : n0 ≤ h0.size) (S_XML_1_0 : Sta Z h0 "com/example/cadmus/cadmus/XmlVersion" "XML_1_0" "Lcom/example/cadmus/cadmus/XmlVersion;" (.ref a_XML_1_0)) (E_XML_1_0 : Exa Z h0 a_XML_1_0 "com/example/cadmus/cadmus/XmlVersion") (S_XML_1_1 : Sta Z h0 "com/example/cadmus/cadmus/XmlVersion" "XML_1_1" "Lcom/example/cadmus/cadmus/XmlVersion;" (.ref a_XML_1_1)) (E_XML_1_1 : Exa Z h0 a_XML_1_1 "com/example/cadmus/cadmus/XmlVersion") (ne_XML_1_0_XML_1_1 : a_XML_1_0 ≠ a_XML_1_1) (hzc : ¬ zc = (0 : Int32)) (S_cs : Sta Z h0 "java/lang/String" "COMPACT_STRINGS" "Z" (.int zc)) (S_sf : Sta Z h0 "jdk/internal/util/Preconditions" "SIOOBE_FORMATTER" "Ljava/util/function/BiFunction;" sv) (S_ad : Sta Z h0 "java/lang/StringUTF16" "$assertionsDisabled" "Z" (.int (1 : Int32))) (S_hi : Sta Z h0 "java/lang/StringUTF16" "HI_BYTE_SHIFT" "I" (.int (0 : Int32))) (S_lo : Sta Z h0 "java/lang/StringUTF16" "LO_BYTE_SHIFT" "I" (.int (8 : Int32))) :
    own_Met l Z x code maxLocals ret ws room_1 #[(.int i0), (.int i1), (.int i2), (.int i3), (.int i4), (.int i5)] h0 (fun v h L => v = some (.int 1) ∧ Fr n0 L) := by
  refine own_body own_pn43 (fun m => mkF m 0 #[iv i0, iv i1, iv i2, iv i3, iv i4, iv i5, .unset, .unset, .unset, .unset, .unset, .unset, .unset, .unset, .unset, .unset, .unset, .unset, .unset, .unset, .unset] []) (fun m => own_ef_own_law m i0 i1 i2 i3 i4 i5) ?_
  intro p e s m below meth c T0 hx hby hml hlk hrt hZ hown hnm X0 e0
  have hown : s.vm.findClass "com/example/cadmus/cadmus/StartTagEmptyPinLaw" = some m.cls := hown
  have N0 := Fr.nil n0
  have J426 : ∀ (ca : Addr) (f : Nat → Int32) (kk : Int32) (ke : Nat) (kz : Nat) (kp : Nat) (kq : Nat) (v1 : Int32) (sl : Int32) (qc : Int32) (nc : Int32) (vc : Int32) (tc : Int32) (att : Int32) (sc : Int32) (sb : Int32) (sa : Int32) (T1 : State) (lc1 : List Loc) (hp1 : Heap) (s : State) (hZ : Z.Warmed39 s.vm) (hown : s.vm.findClass "com/example/cadmus/cadmus/StartTagEmptyPinLaw" = some m.cls) (X1 : Stand p l e room_1 s m #[(.int i0), (.int i1), (.int i2), (.int i3), (.int i4), (.int i5)] below meth c T1 lc1 1 16) (e1 : T1.heap = hp1) (N1 : Fr n0 lc1) (zs1 : n0 ≤ hp1.size) (zz1 : h0.size ≤ hp1.size) (K1 : Keep h0 hp1 []) (f1_0 : own_A Z hp1 ca .char 16 (fun i => .int (f i))) (hf : ∀ i, i < 16 → 0 ≤ (f i).toInt ∧ (f i).toInt ≤ 65535) (ga : n0 ≤ ca) (za : h0.size ≤ ca) (hf2 : ∀ V : Prop, ¬ own_dl V (f 2)) (hlay : (ke = 3 ∧ kp = 0) ∨ (¬ kp = 0 ∧ own_isp (¬ v1 = (0 : Int32)) (f 3) ∧ (∀ V : Prop, ¬ own_dl V (f 4)) ∧ (kp = 5 ∧ True ∨ kp = 6 ∧ own_isp (¬ v1 = (0 : Int32)) (f 5)) ∧ f kp = (61 : Int32) ∧ (kq = kp + 1 ∧ True ∨ kq = kp + 1 + 1 ∧ own_isp (¬ v1 = (0 : Int32)) (f (kp + 1))) ∧ (f kq = (34 : Int32) ∨ f kq = (39 : Int32)) ∧ ¬ f (kq + 1) = f kq ∧ f (kq + 1 + 1) = f kq ∧ ke = kq + 1 + 1 + 1)) (hlz : (kz = ke ∧ True ∨ kz = ke + 1 ∧ own_isp (¬ v1 = (0 : Int32)) (f ke)) ∧ kz < 15 ∧ (sl = 1 ∧ f kz = (47 : Int32) ∧ kk.toInt = ((kz + 2 : Nat) : Int) ∨ sl = 0 ∧ f kz = (62 : Int32) ∧ kk.toInt = ((kz + 1 : Nat) : Int))), own_Ends p e below s ((fun v h L _ => v = some (.int 1) ∧ Fr n0 L), []) room_1.cells room_1.slots (own_F T1 m 426 #[iv i0, iv i1, iv i2, iv i3, iv i4, iv i5, iv v1, iv sl, iv att, iv sc, iv sb, iv sa, iv qc, iv nc, iv vc, iv tc, rv ca, iv kk, .unset, .unset, .unset] []) := by
   intro ca f kk ke kz kp kq v1 sl qc nc vc tc att sc sb sa T1 lc1 hp1 s hZ hown X1 e1 N1 zs1 zz1 K1 f1_0 hf ga za hf2 hlay hlz
   have sz_ca := za
   have hd3 : own_dl (¬ v1 = (0 : Int32)) (f (2 + 1)) := own_del3 hlay hlz
   refine own_g (own_F T1 m 428 #[iv i0, iv i1, iv i2, iv i3, iv i4, iv i5, iv v1, iv sl, iv att, iv sc, iv sb, iv sa, iv qc, iv nc, iv vc, iv tc, rv ca, iv kk, .unset, .unset, .unset] [(.int v1)]) (fun _ z_ => XS.iload X1.here hx rfl (hb hby at_426) rfl z_) ?_
   by_cases c428 : v1 = (0 : Int32)
   · -- pc 428: v1 = (0 : Int32)
    refine own_g (own_F T1 m 437 #[iv i0, iv i1, iv i2, iv i3, iv i4, iv i5, iv v1, iv sl, iv att, iv sc, iv sb, iv sa, iv qc, iv nc, iv vc, iv tc, rv ca, iv kk, .unset, .unset, .unset] []) (fun _ z_ => XS.ifYes X1.here hx rfl (pc0 := 428) (pc' := 437) rfl (hb hby at_428) rfl ((if0 _ _).trans (teq c428).1) (by decide) (by decide) z_) ?_
    obtain ⟨T2, X2, e2, st2⟩ := getS2 X1 hx hZ hown (host := "") (Or.inl (own_w hw 5)) Via.refl e1 (own_sta_keep S_XML_1_0 K1 all0) (g := (mkF m 437 #[iv i0, iv i1, iv i2, iv i3, iv i4, iv i5, iv v1, iv sl, iv att, iv sc, iv sb, iv sa, iv qc, iv nc, iv vc, iv tc, rv ca, iv kk, .unset, .unset, .unset] [])) rfl (hb hby at_437)
    refine own_pre (S' := (own_F T2 m 440 #[iv i0, iv i1, iv i2, iv i3, iv i4, iv i5, iv v1, iv sl, iv att, iv sc, iv sb, iv sa, iv qc, iv nc, iv vc, iv tc, rv ca, iv kk, .unset, .unset, .unset] [(.ref a_XML_1_0)])) st2 ?_
    refine own_g (own_F T2 m 442 #[iv i0, iv i1, iv i2, iv i3, iv i4, iv i5, iv v1, iv sl, iv att, iv sc, iv sb, iv sa, iv qc, iv nc, iv vc, iv tc, rv ca, iv kk, rv a_XML_1_0, .unset, .unset] []) (fun _ z_ => XS.astore X2.here hx rfl (hb hby at_440) rfl rfl (l' := #[iv i0, iv i1, iv i2, iv i3, iv i4, iv i5, iv v1, iv sl, iv att, iv sc, iv sb, iv sa, iv qc, iv nc, iv vc, iv tc, rv ca, iv kk, rv a_XML_1_0, .unset, .unset]) rfl z_) ?_
    obtain ⟨T3, h3, X3, e3, E3, A3, D3, -, st3⟩ := newO X2 hx hZ hown (own_w hw 8) (own_w hw 9) (own_w hw 10) e2 (g := (mkF m 442 #[iv i0, iv i1, iv i2, iv i3, iv i4, iv i5, iv v1, iv sl, iv att, iv sc, iv sb, iv sa, iv qc, iv nc, iv vc, iv tc, rv ca, iv kk, rv a_XML_1_0, .unset, .unset] [])) rfl (hb hby at_442) (by decide) (by decide)
    obtain ⟨b3, g3⟩ : ∃ z, z = hp1.size := ⟨_, rfl⟩
    rw [← g3] at A3 D3 st3
    have sz_b3 : h0.size ≤ b3 := Nat.le_trans zz1 (Nat.le_of_eq g3.symm)
    have ge_b3 : n0 ≤ b3 := Nat.le_trans zs1 (Nat.le_of_eq g3.symm)
    have ne_ca_b3 : ca ≠ b3 := Nat.ne_of_lt (Nat.lt_of_lt_of_le f1_0.lt (Nat.le_of_eq g3.symm))
    have ne_a_XML_1_0_b3 : a_XML_1_0 ≠ b3 := Nat.ne_of_lt (Nat.lt_of_lt_of_le (E_XML_1_0.keep K1).lt (Nat.le_of_eq g3.symm))
    have ne_a_XML_1_1_b3 : a_XML_1_1 ≠ b3 := Nat.ne_of_lt (Nat.lt_of_lt_of_le (E_XML_1_1.keep K1).lt (Nat.le_of_eq g3.symm))
    have F3_lastName : Fld Z h3 b3 "com/example/cadmus/cadmus/Markup$StartTag" "lastName" "Ljava/lang/String;" .null := D3 (Or.inl (own_w hw 26)) (ty := (.object "java/lang/String")) (by decide)
    have F3_version : Fld Z h3 b3 "com/example/cadmus/cadmus/Markup$StartTag" "version" "Lcom/example/cadmus/cadmus/XmlVersion;" .null := D3 (Or.inr (own_w hw 28)) (ty := (.object "com/example/cadmus/cadmus/XmlVersion")) (by decide)
    have F3_text : Fld Z h3 b3 "com/example/cadmus/cadmus/Markup$StartTag" "text" "Ljava/lang/String;" .null := D3 (Or.inl (own_w hw 57)) (ty := (.object "java/lang/String")) (by decide)
    have F3_at : Fld Z h3 b3 "com/example/cadmus/cadmus/Markup$StartTag" "at" "I" (.int 0) := D3 (Or.inl (own_w hw 92)) (ty := .int) (by decide)
    have F3_attributesEnd : Fld Z h3 b3 "com/example/cadmus/cadmus/Markup$StartTag" "attributesEnd" "I" (.int 0) := D3 (Or.inl (own_w hw 94)) (ty := .int) (by decide)
    have F3_nameStart : Fld Z h3 b3 "com/example/cadmus/cadmus/Markup$StartTag" "nameStart" "I" (.int 0) := D3 (Or.inl (own_w hw 130)) (ty := .int) (by decide)
    have F3_nameEnd : Fld Z h3 b3 "com/example/cadmus/cadmus/Markup$StartTag" "nameEnd" "I" (.int 0) := D3 (Or.inl (own_w hw 132)) (ty := .int) (by decide)
    have F3_valueStart : Fld Z h3 b3 "com/example/cadmus/cadmus/Markup$StartTag" "valueStart" "I" (.int 0) := D3 (Or.inl (own_w hw 134)) (ty := .int) (by decide)
    have F3_valueEnd : Fld Z h3 b3 "com/example/cadmus/cadmus/Markup$StartTag" "valueEnd" "I" (.int 0) := D3 (Or.inl (own_w hw 161)) (ty := .int) (by decide)
    refine own_pre (S' := (own_F T3 m 445 #[iv i0, iv i1, iv i2, iv i3, iv i4, iv i5, iv v1, iv sl, iv att, iv sc, iv sb, iv sa, iv qc, iv nc, iv vc, iv tc, rv ca, iv kk, rv a_XML_1_0, .unset, .unset] [(.ref b3)])) st3 ?_
    refine own_g (own_F T3 m 446 #[iv i0, iv i1, iv i2, iv i3, iv i4, iv i5, iv v1, iv sl, iv att, iv sc, iv sb, iv sa, iv qc, iv nc, iv vc, iv tc, rv ca, iv kk, rv a_XML_1_0, .unset, .unset] [(.ref b3), (.ref b3)]) (fun _ z_ => XS.dup X3.here hx rfl (hb hby at_445) rfl rfl z_) ?_
    refine own_g (own_F T3 m 448 #[iv i0, iv i1, iv i2, iv i3, iv i4, iv i5, iv v1, iv sl, iv att, iv sc, iv sb, iv sa, iv qc, iv nc, iv vc, iv tc, rv ca, iv kk, rv a_XML_1_0, .unset, .unset] [(.ref a_XML_1_0), (.ref b3), (.ref b3)]) (fun _ z_ => XS.aload X3.here hx rfl (hb hby at_446) rfl rfl z_) ?_
    refine own_callI (y := (⟨"com/example/cadmus/cadmus/Markup$StartTag", "<init>", "(Lcom/example/cadmus/cadmus/XmlVersion;)V"⟩ : MethodName)) (b := b3) X3 hx hZ hown rfl (own_w hw 11) (own_w hw 12) (own_w hw 13) (own_w hw 10) (by decide) e3 (hM := own_ti l Z a0 hw [] b3 a_XML_1_0 h3 n0 (Nat.le_trans zs1 E3.1) A3 ge_b3 F3_lastName F3_version F3_text F3_at F3_nameStart F3_nameEnd F3_valueStart F3_valueEnd F3_attributesEnd) (W := 1) (pc := 448) (Ls := #[iv i0, iv i1, iv i2, iv i3, iv i4, iv i5, iv v1, iv sl, iv att, iv sc, iv sb, iv sa, iv qc, iv nc, iv vc, iv tc, rv ca, iv kk, rv a_XML_1_0, .unset, .unset]) (argsL := [(.ref a_XML_1_0)]) (rest := [(.ref b3)]) (st0 := [(.ref a_XML_1_0), (.ref b3), (.ref b3)]) (by rw [hml]; rfl) (lenOf own_pd25 rfl) rfl (Nat.le_of_eq rfl) (hb hby at_448) (by decide) (by decide) (by decide) (by decide) ?_
    intro v4 T4 L4 s X4 hZ hown hI4 hvm4 hhp4 hWw4 hQ4
    obtain ⟨rfl, Nq4, K4, G4_0, G4_1, G4_2, G4_3, G4_4, G4_5, G4_6, G4_7⟩ := hQ4
    have N4 := Fr.app N1 Nq4
    show own_Ends p e below s _ _ _ (own_F T4 m 451 #[iv i0, iv i1, iv i2, iv i3, iv i4, iv i5, iv v1, iv sl, iv att, iv sc, iv sb, iv sa, iv qc, iv nc, iv vc, iv tc, rv ca, iv kk, rv a_XML_1_0, .unset, .unset] [(.ref b3)])
    refine own_g (own_F T4 m 453 #[iv i0, iv i1, iv i2, iv i3, iv i4, iv i5, iv v1, iv sl, iv att, iv sc, iv sb, iv sa, iv qc, iv nc, iv vc, iv tc, rv ca, iv kk, rv a_XML_1_0, rv b3, .unset] []) (fun _ z_ => XS.astore X4.here hx rfl (hb hby at_451) rfl rfl (l' := #[iv i0, iv i1, iv i2, iv i3, iv i4, iv i5, iv v1, iv sl, iv att, iv sc, iv sb, iv sa, iv qc, iv nc, iv vc, iv tc, rv ca, iv kk, rv a_XML_1_0, rv b3, .unset]) rfl z_) ?_
    refine own_g (own_F T4 m 455 #[iv i0, iv i1, iv i2, iv i3, iv i4, iv i5, iv v1, iv sl, iv att, iv sc, iv sb, iv sa, iv qc, iv nc, iv vc, iv tc, rv ca, iv kk, rv a_XML_1_0, rv b3, .unset] [(.ref b3)]) (fun _ z_ => XS.aload X4.here hx rfl (hb hby at_453) rfl rfl z_) ?_
    obtain ⟨T5, h5, X5, e5, E5, A5, D5, -, st5⟩ := newO X4 hx hZ hown (own_w hw 29) (own_w hw 19) (own_w hw 18) (rfl : T4.heap = T4.heap) (g := (mkF m 455 #[iv i0, iv i1, iv i2, iv i3, iv i4, iv i5, iv v1, iv sl, iv att, iv sc, iv sb, iv sa, iv qc, iv nc, iv vc, iv tc, rv ca, iv kk, rv a_XML_1_0, rv b3, .unset] [(.ref b3)])) rfl (hb hby at_455) (by decide) (by decide)
    obtain ⟨b5, g5⟩ : ∃ z, z = T4.heap.size := ⟨_, rfl⟩
    rw [← g5] at A5 D5 st5
    have sz_b5 : h0.size ≤ b5 := Nat.le_trans (Nat.le_trans (Nat.le_trans zz1 E3.1) K4.1) (Nat.le_of_eq g5.symm)
    have ge_b5 : n0 ≤ b5 := Nat.le_trans (Nat.le_trans (Nat.le_trans zs1 E3.1) K4.1) (Nat.le_of_eq g5.symm)
    have ne_ca_b5 : ca ≠ b5 := Nat.ne_of_lt (Nat.lt_of_lt_of_le ((f1_0.ext E3).keep K4 (ninS ne_ca_b3 nin0)).lt (Nat.le_of_eq g5.symm))
    have ne_a_XML_1_0_b5 : a_XML_1_0 ≠ b5 := Nat.ne_of_lt (Nat.lt_of_lt_of_le (((E_XML_1_0.keep K1).ext E3).keep K4).lt (Nat.le_of_eq g5.symm))
    have ne_a_XML_1_1_b5 : a_XML_1_1 ≠ b5 := Nat.ne_of_lt (Nat.lt_of_lt_of_le (((E_XML_1_1.keep K1).ext E3).keep K4).lt (Nat.le_of_eq g5.symm))
    have ne_b3_b5 : b3 ≠ b5 := Nat.ne_of_lt (Nat.lt_of_lt_of_le (A3.keep K4).lt (Nat.le_of_eq g5.symm))
    have F5_value : Fld Z h5 b5 "java/lang/String" "value" "[B" .null := D5 (Or.inr (own_w hw 21)) (ty := (.array .byte)) (by decide)
    have F5_coder : Fld Z h5 b5 "java/lang/String" "coder" "B" (.int 0) := D5 (Or.inr (own_w hw 22)) (ty := .byte) (by decide)
    refine own_pre (S' := (own_F T5 m 458 #[iv i0, iv i1, iv i2, iv i3, iv i4, iv i5, iv v1, iv sl, iv att, iv sc, iv sb, iv sa, iv qc, iv nc, iv vc, iv tc, rv ca, iv kk, rv a_XML_1_0, rv b3, .unset] [(.ref b5), (.ref b3)])) st5 ?_
    refine own_g (own_F T5 m 459 #[iv i0, iv i1, iv i2, iv i3, iv i4, iv i5, iv v1, iv sl, iv att, iv sc, iv sb, iv sa, iv qc, iv nc, iv vc, iv tc, rv ca, iv kk, rv a_XML_1_0, rv b3, .unset] [(.ref b5), (.ref b5), (.ref b3)]) (fun _ z_ => XS.dup X5.here hx rfl (hb hby at_458) rfl rfl z_) ?_
    refine own_g (own_F T5 m 461 #[iv i0, iv i1, iv i2, iv i3, iv i4, iv i5, iv v1, iv sl, iv att, iv sc, iv sb, iv sa, iv qc, iv nc, iv vc, iv tc, rv ca, iv kk, rv a_XML_1_0, rv b3, .unset] [(.ref ca), (.ref b5), (.ref b5), (.ref b3)]) (fun _ z_ => XS.aload X5.here hx rfl (hb hby at_459) rfl rfl z_) ?_
    refine own_callI (y := (⟨"java/lang/String", "<init>", "([C)V"⟩ : MethodName)) (b := b5) X5 hx hZ hown rfl (own_w hw 30) (own_w hw 31) (own_w hw 32) (own_w hw 18) (by decide) e5 (hM := own_si l Z a0 hw [] b5 ca 16 16 zc f h5 n0 (Nat.le_trans (Nat.le_trans (Nat.le_trans zs1 E3.1) K4.1) E5.1) rfl (by decide) (by decide) hzc (((f1_0.ext E3).keep K4 (ninS ne_ca_b3 nin0)).ext E5) hf A5 F5_value F5_coder ((own_sta_keep ((own_sta_keep S_cs K1 all0).ext E3) K4 (allS (own_plainE A3) all0)).ext E5) ((own_sta_keep ((own_sta_keep S_ad K1 all0).ext E3) K4 (allS (own_plainE A3) all0)).ext E5) ((own_sta_keep ((own_sta_keep S_hi K1 all0).ext E3) K4 (allS (own_plainE A3) all0)).ext E5) ((own_sta_keep ((own_sta_keep S_lo K1 all0).ext E3) K4 (allS (own_plainE A3) all0)).ext E5) ge_b5 (Ne.symm ne_ca_b5)) (W := 2) (pc := 461) (Ls := #[iv i0, iv i1, iv i2, iv i3, iv i4, iv i5, iv v1, iv sl, iv att, iv sc, iv sb, iv sa, iv qc, iv nc, iv vc, iv tc, rv ca, iv kk, rv a_XML_1_0, rv b3, .unset]) (argsL := [(.ref ca)]) (rest := [(.ref b5), (.ref b3)]) (st0 := [(.ref ca), (.ref b5), (.ref b5), (.ref b3)]) (by rw [hml]; rfl) (lenOf own_pd26 rfl) rfl (Nat.le_of_eq rfl) (hb hby at_461) (by decide) (by decide) (by decide) (by decide) ?_
    intro v6 T6 L6 s X6 hZ hown hI6 hvm6 hhp6 hWw6 hQ6
    obtain ⟨rfl, Nq6, K6, Sx6⟩ := hQ6
    have N6 := Fr.app N4 Nq6
    show own_Ends p e below s _ _ _ (own_F T6 m 464 #[iv i0, iv i1, iv i2, iv i3, iv i4, iv i5, iv v1, iv sl, iv att, iv sc, iv sb, iv sa, iv qc, iv nc, iv vc, iv tc, rv ca, iv kk, rv a_XML_1_0, rv b3, .unset] [(.ref b5), (.ref b3)])
    refine own_g (own_F T6 m 465 #[iv i0, iv i1, iv i2, iv i3, iv i4, iv i5, iv v1, iv sl, iv att, iv sc, iv sb, iv sa, iv qc, iv nc, iv vc, iv tc, rv ca, iv kk, rv a_XML_1_0, rv b3, .unset] [(.int 1), (.ref b5), (.ref b3)]) (fun _ z_ => XS.iconst X6.here hx rfl (hb hby at_464) z_) ?_
    have hVq : (¬ v1 = (0 : Int32)) ↔ a_XML_1_0 = a_XML_1_1 := ⟨fun q => absurd c428 q, fun q => absurd q ne_XML_1_0_XML_1_1⟩
    refine own_callV (C := "com/example/cadmus/cadmus/Markup$StartTag") (y := (⟨"com/example/cadmus/cadmus/Markup$StartTag", "read", "(Ljava/lang/String;I)Lcom/example/cadmus/cadmus/Markup$StartTag;"⟩ : MethodName)) (b := b3) X6 hx hZ hown (own_w hw 51) (own_w hw 52) (own_w hw 54) (own_w hw 53) (own_w hw 55) (own_w hw 10) (by decide) (rfl : T6.heap = T6.heap) (((A3.keep K4).ext E5).keep K6) (hM := own_read l Z a0 hw [] b3 b5 a_XML_1_0 a_XML_1_1 16 16 zc f (¬ v1 = (0 : Int32)) sv hsv T6.heap n0 (Nat.le_trans (Nat.le_trans (Nat.le_trans (Nat.le_trans zs1 E3.1) K4.1) E5.1) K6.1) (by decide) (hf2 _) hd3 rfl hzc hVq Sx6 (((((E_XML_1_0.keep K1).ext E3).keep K4).ext E5).keep K6) (own_sta_keep ((own_sta_keep ((own_sta_keep S_XML_1_1 K1 all0).ext E3) K4 (allS (own_plainE A3) all0)).ext E5) K6 (allS (own_plainE A5) all0)) (own_sta_keep ((own_sta_keep ((own_sta_keep S_cs K1 all0).ext E3) K4 (allS (own_plainE A3) all0)).ext E5) K6 (allS (own_plainE A5) all0)) (own_sta_keep ((own_sta_keep ((own_sta_keep S_sf K1 all0).ext E3) K4 (allS (own_plainE A3) all0)).ext E5) K6 (allS (own_plainE A5) all0)) (own_sta_keep ((own_sta_keep ((own_sta_keep S_ad K1 all0).ext E3) K4 (allS (own_plainE A3) all0)).ext E5) K6 (allS (own_plainE A5) all0)) (own_sta_keep ((own_sta_keep ((own_sta_keep S_hi K1 all0).ext E3) K4 (allS (own_plainE A3) all0)).ext E5) K6 (allS (own_plainE A5) all0)) (own_sta_keep ((own_sta_keep ((own_sta_keep S_lo K1 all0).ext E3) K4 (allS (own_plainE A3) all0)).ext E5) K6 (allS (own_plainE A5) all0)) (((A3.keep K4).ext E5).keep K6) ge_b3 ((G4_0.ext E5).keep K6 (ninS ne_b3_b5 nin0)) ((G4_2.ext E5).keep K6 (ninS ne_b3_b5 nin0)) ((G4_1.ext E5).keep K6 (ninS ne_b3_b5 nin0)) ((G4_7.ext E5).keep K6 (ninS ne_b3_b5 nin0)) ((G4_3.ext E5).keep K6 (ninS ne_b3_b5 nin0)) ((G4_4.ext E5).keep K6 (ninS ne_b3_b5 nin0)) ((G4_5.ext E5).keep K6 (ninS ne_b3_b5 nin0)) ((G4_6.ext E5).keep K6 (ninS ne_b3_b5 nin0))) (W := 0) (pc := 465) (Ls := #[iv i0, iv i1, iv i2, iv i3, iv i4, iv i5, iv v1, iv sl, iv att, iv sc, iv sb, iv sa, iv qc, iv nc, iv vc, iv tc, rv ca, iv kk, rv a_XML_1_0, rv b3, .unset]) (argsL := [(.ref b5), (.int 1)]) (rest := []) (st0 := [(.int 1), (.ref b5), (.ref b3)]) (by rw [hml]; rfl) (lenOf own_pd27 rfl) rfl (Nat.le_of_eq rfl) (hb hby at_465) (by decide) (by decide) (by decide) (by decide) ?_
    intro v7 T7 L7 s X7 hZ hown hI7 hvm7 hhp7 hWw7 hQ7
    obtain ⟨r7, rfl, hp7, Nq7, K7, H7_0, H7_1, H7_2, H7_3, H7_4, H7_5, H7_6, H7_7⟩ := hQ7
    have N7 := Fr.app N6 Nq7
    show own_Ends p e below s _ _ _ (own_F T7 m 468 #[iv i0, iv i1, iv i2, iv i3, iv i4, iv i5, iv v1, iv sl, iv att, iv sc, iv sb, iv sa, iv qc, iv nc, iv vc, iv tc, rv ca, iv kk, rv a_XML_1_0, rv b3, .unset] [(.ref b3)])
    refine own_g (own_F T7 m 469 #[iv i0, iv i1, iv i2, iv i3, iv i4, iv i5, iv v1, iv sl, iv att, iv sc, iv sb, iv sa, iv qc, iv nc, iv vc, iv tc, rv ca, iv kk, rv a_XML_1_0, rv b3, .unset] []) (fun _ z_ => XS.pop X7.here hx rfl (hb hby at_468) rfl rfl z_) ?_
    refine own_g (own_F T7 m 471 #[iv i0, iv i1, iv i2, iv i3, iv i4, iv i5, iv v1, iv sl, iv att, iv sc, iv sb, iv sa, iv qc, iv nc, iv vc, iv tc, rv ca, iv kk, rv a_XML_1_0, rv b3, .unset] [(.ref b3)]) (fun _ z_ => XS.aload X7.here hx rfl (hb hby at_469) rfl rfl z_) ?_
    obtain ⟨hz1, hz2, hz3⟩ := hlz
    have hce : f kz = (62 : Int32) ∨ f kz = (47 : Int32) := by rcases hz3 with ⟨-, q, -⟩ | ⟨-, q, -⟩; exact Or.inr q; exact Or.inl q
    have hskz := own_skz hz1 (own_nspe hce)
    have hro : (sl = 1 ∧ f kz = (47 : Int32)) ∨ (sl = 0 ∧ ¬ f kz = (47 : Int32)) := by rcases hz3 with ⟨q1, q, -⟩ | ⟨q1, q, -⟩; exact Or.inl ⟨q1, q⟩; exact Or.inr ⟨q1, by rw [q]; decide⟩
    rcases hlay with ⟨he3, -⟩ | ⟨-, hl1, hl2, hl3, hl4, hl5, hl6, hl7, hl8, hl9⟩
    ·
     refine own_callV (C := "com/example/cadmus/cadmus/Markup$StartTag") (y := (⟨"com/example/cadmus/cadmus/Markup$StartTag", "end", "()I"⟩ : MethodName)) (b := b3) X7 hx hZ hown (own_w hw 95) (own_w hw 96) (own_w hw 98) (own_w hw 97) (own_w hw 99) (own_w hw 10) (by decide) (rfl : T7.heap = T7.heap) ((((A3.keep K4).ext E5).keep K6).keep K7) (hM := own_end0 l Z a0 hw [] b3 b5 a_XML_1_0 a_XML_1_1 16 3 r7 16 zc f (¬ v1 = (0 : Int32)) sv hsv kz sl T7.heap n0 (Nat.le_trans (Nat.le_trans (Nat.le_trans (Nat.le_trans (Nat.le_trans zs1 E3.1) K4.1) E5.1) K6.1) K7.1) hp7 rfl hzc hVq (own_Str.keepO Sx6 K7 (((A3.keep K4).ext E5).keep K6) (by decide) (own_w hw 9)) ((((((E_XML_1_0.keep K1).ext E3).keep K4).ext E5).keep K6).keep K7) (own_sta_keep (own_sta_keep ((own_sta_keep ((own_sta_keep S_XML_1_1 K1 all0).ext E3) K4 (allS (own_plainE A3) all0)).ext E5) K6 (allS (own_plainE A5) all0)) K7 (allS (own_plainE (((A3.keep K4).ext E5).keep K6)) all0)) (own_sta_keep (own_sta_keep ((own_sta_keep ((own_sta_keep S_cs K1 all0).ext E3) K4 (allS (own_plainE A3) all0)).ext E5) K6 (allS (own_plainE A5) all0)) K7 (allS (own_plainE (((A3.keep K4).ext E5).keep K6)) all0)) (own_sta_keep (own_sta_keep ((own_sta_keep ((own_sta_keep S_sf K1 all0).ext E3) K4 (allS (own_plainE A3) all0)).ext E5) K6 (allS (own_plainE A5) all0)) K7 (allS (own_plainE (((A3.keep K4).ext E5).keep K6)) all0)) (own_sta_keep (own_sta_keep ((own_sta_keep ((own_sta_keep S_ad K1 all0).ext E3) K4 (allS (own_plainE A3) all0)).ext E5) K6 (allS (own_plainE A5) all0)) K7 (allS (own_plainE (((A3.keep K4).ext E5).keep K6)) all0)) (own_sta_keep (own_sta_keep ((own_sta_keep ((own_sta_keep S_hi K1 all0).ext E3) K4 (allS (own_plainE A3) all0)).ext E5) K6 (allS (own_plainE A5) all0)) K7 (allS (own_plainE (((A3.keep K4).ext E5).keep K6)) all0)) (own_sta_keep (own_sta_keep ((own_sta_keep ((own_sta_keep S_lo K1 all0).ext E3) K4 (allS (own_plainE A3) all0)).ext E5) K6 (allS (own_plainE A5) all0)) K7 (allS (own_plainE (((A3.keep K4).ext E5).keep K6)) all0)) ((((A3.keep K4).ext E5).keep K6).keep K7) H7_0 H7_1 H7_2 ge_b3 (by omega) (he3 ▸ hskz) hce hro (by decide)) (W := 0) (pc := 471) (Ls := #[iv i0, iv i1, iv i2, iv i3, iv i4, iv i5, iv v1, iv sl, iv att, iv sc, iv sb, iv sa, iv qc, iv nc, iv vc, iv tc, rv ca, iv kk, rv a_XML_1_0, rv b3, .unset]) (argsL := []) (rest := []) (st0 := [(.ref b3)]) (by rw [hml]; rfl) (lenOf own_pd20 rfl) rfl (Nat.le_of_eq rfl) (hb hby at_471) (by decide) (by decide) (by decide) (by decide) ?_
     intro v8 T8 L8 s X8 hZ hown hI8 hvm8 hhp8 hWw8 hQ8
     obtain ⟨r8, ⟨w8, rfl, hw8⟩, hp8, Nq8, K8, H8_0, H8_1, H8_2⟩ := hQ8
     have N8 := Fr.app N7 Nq8
     show own_Ends p e below s _ _ _ (own_F T8 m 474 #[iv i0, iv i1, iv i2, iv i3, iv i4, iv i5, iv v1, iv sl, iv att, iv sc, iv sb, iv sa, iv qc, iv nc, iv vc, iv tc, rv ca, iv kk, rv a_XML_1_0, rv b3, .unset] [(.int w8)])
     refine own_g (own_F T8 m 476 #[iv i0, iv i1, iv i2, iv i3, iv i4, iv i5, iv v1, iv sl, iv att, iv sc, iv sb, iv sa, iv qc, iv nc, iv vc, iv tc, rv ca, iv kk, rv a_XML_1_0, rv b3, iv w8] []) (fun _ z_ => XS.istore X8.here hx rfl (hb hby at_474) rfl (l' := #[iv i0, iv i1, iv i2, iv i3, iv i4, iv i5, iv v1, iv sl, iv att, iv sc, iv sb, iv sa, iv qc, iv nc, iv vc, iv tc, rv ca, iv kk, rv a_XML_1_0, rv b3, iv w8]) rfl z_) ?_
     refine own_g (own_F T8 m 478 #[iv i0, iv i1, iv i2, iv i3, iv i4, iv i5, iv v1, iv sl, iv att, iv sc, iv sb, iv sa, iv qc, iv nc, iv vc, iv tc, rv ca, iv kk, rv a_XML_1_0, rv b3, iv w8] [(.ref b3)]) (fun _ z_ => XS.aload X8.here hx rfl (hb hby at_476) rfl rfl z_) ?_
     refine own_callV (C := "com/example/cadmus/cadmus/Markup$StartTag") (y := (⟨"com/example/cadmus/cadmus/Markup$StartTag", "empty", "()Z"⟩ : MethodName)) (b := b3) X8 hx hZ hown (own_w hw 124) (own_w hw 120) (own_w hw 122) (own_w hw 121) (own_w hw 123) (own_w hw 10) (by decide) (rfl : T8.heap = T8.heap) (((((A3.keep K4).ext E5).keep K6).keep K7).keep K8) (hM := own_emp l Z a0 hw [] b3 b5 a_XML_1_0 a_XML_1_1 16 kz r8 16 zc f (¬ v1 = (0 : Int32)) sv hsv sl T8.heap n0 (Nat.le_trans (Nat.le_trans (Nat.le_trans (Nat.le_trans (Nat.le_trans (Nat.le_trans zs1 E3.1) K4.1) E5.1) K6.1) K7.1) K8.1) hp8 rfl hzc hVq (own_Str.keepO (own_Str.keepO Sx6 K7 (((A3.keep K4).ext E5).keep K6) (by decide) (own_w hw 9)) K8 ((((A3.keep K4).ext E5).keep K6).keep K7) (by decide) (own_w hw 9)) (((((((E_XML_1_0.keep K1).ext E3).keep K4).ext E5).keep K6).keep K7).keep K8) (own_sta_keep (own_sta_keep (own_sta_keep ((own_sta_keep ((own_sta_keep S_XML_1_1 K1 all0).ext E3) K4 (allS (own_plainE A3) all0)).ext E5) K6 (allS (own_plainE A5) all0)) K7 (allS (own_plainE (((A3.keep K4).ext E5).keep K6)) all0)) K8 (allS (own_plainE ((((A3.keep K4).ext E5).keep K6).keep K7)) all0)) (own_sta_keep (own_sta_keep (own_sta_keep ((own_sta_keep ((own_sta_keep S_cs K1 all0).ext E3) K4 (allS (own_plainE A3) all0)).ext E5) K6 (allS (own_plainE A5) all0)) K7 (allS (own_plainE (((A3.keep K4).ext E5).keep K6)) all0)) K8 (allS (own_plainE ((((A3.keep K4).ext E5).keep K6).keep K7)) all0)) (own_sta_keep (own_sta_keep (own_sta_keep ((own_sta_keep ((own_sta_keep S_sf K1 all0).ext E3) K4 (allS (own_plainE A3) all0)).ext E5) K6 (allS (own_plainE A5) all0)) K7 (allS (own_plainE (((A3.keep K4).ext E5).keep K6)) all0)) K8 (allS (own_plainE ((((A3.keep K4).ext E5).keep K6).keep K7)) all0)) (own_sta_keep (own_sta_keep (own_sta_keep ((own_sta_keep ((own_sta_keep S_ad K1 all0).ext E3) K4 (allS (own_plainE A3) all0)).ext E5) K6 (allS (own_plainE A5) all0)) K7 (allS (own_plainE (((A3.keep K4).ext E5).keep K6)) all0)) K8 (allS (own_plainE ((((A3.keep K4).ext E5).keep K6).keep K7)) all0)) (own_sta_keep (own_sta_keep (own_sta_keep ((own_sta_keep ((own_sta_keep S_hi K1 all0).ext E3) K4 (allS (own_plainE A3) all0)).ext E5) K6 (allS (own_plainE A5) all0)) K7 (allS (own_plainE (((A3.keep K4).ext E5).keep K6)) all0)) K8 (allS (own_plainE ((((A3.keep K4).ext E5).keep K6).keep K7)) all0)) (own_sta_keep (own_sta_keep (own_sta_keep ((own_sta_keep ((own_sta_keep S_lo K1 all0).ext E3) K4 (allS (own_plainE A3) all0)).ext E5) K6 (allS (own_plainE A5) all0)) K7 (allS (own_plainE (((A3.keep K4).ext E5).keep K6)) all0)) K8 (allS (own_plainE ((((A3.keep K4).ext E5).keep K6).keep K7)) all0)) (((((A3.keep K4).ext E5).keep K6).keep K7).keep K8) H8_0 H8_1 H8_2 (by omega) ge_b3 hro) (W := 0) (pc := 478) (Ls := #[iv i0, iv i1, iv i2, iv i3, iv i4, iv i5, iv v1, iv sl, iv att, iv sc, iv sb, iv sa, iv qc, iv nc, iv vc, iv tc, rv ca, iv kk, rv a_XML_1_0, rv b3, iv w8]) (argsL := []) (rest := []) (st0 := [(.ref b3)]) (by rw [hml]; rfl) (lenOf own_pd12 rfl) rfl (Nat.le_of_eq rfl) (hb hby at_478) (by decide) (by decide) (by decide) (by decide) ?_
     intro v9 T9 L9 s X9 hZ hown hI9 hvm9 hhp9 hWw9 hQ9
     obtain ⟨rfl, Nq9, hh9⟩ := hQ9
     have N9 := Fr.app N8 Nq9
     show own_Ends p e below s _ _ _ (own_F T9 m 481 #[iv i0, iv i1, iv i2, iv i3, iv i4, iv i5, iv v1, iv sl, iv att, iv sc, iv sb, iv sa, iv qc, iv nc, iv vc, iv tc, rv ca, iv kk, rv a_XML_1_0, rv b3, iv w8] [(.int sl)])
     refine own_g (own_F T9 m 483 #[iv i0, iv i1, iv i2, iv i3, iv i4, iv i5, iv v1, iv sl, iv att, iv sc, iv sb, iv sa, iv qc, iv nc, iv vc, iv tc, rv ca, iv kk, rv a_XML_1_0, rv b3, iv w8] [(.int sl), (.int sl)]) (fun _ z_ => XS.iload X9.here hx rfl (hb hby at_481) rfl z_) ?_
     refine own_g (own_F T9 m 486 #[iv i0, iv i1, iv i2, iv i3, iv i4, iv i5, iv v1, iv sl, iv att, iv sc, iv sb, iv sa, iv qc, iv nc, iv vc, iv tc, rv ca, iv kk, rv a_XML_1_0, rv b3, iv w8] []) (fun _ z_ => XS.icmpNo X9.here hx rfl (hb hby at_483) rfl (teq (rfl : sl = sl)).2 z_) ?_
     refine own_g (own_F T9 m 488 #[iv i0, iv i1, iv i2, iv i3, iv i4, iv i5, iv v1, iv sl, iv att, iv sc, iv sb, iv sa, iv qc, iv nc, iv vc, iv tc, rv ca, iv kk, rv a_XML_1_0, rv b3, iv w8] [(.int w8)]) (fun _ z_ => XS.iload X9.here hx rfl (hb hby at_486) rfl z_) ?_
     refine own_g (own_F T9 m 490 #[iv i0, iv i1, iv i2, iv i3, iv i4, iv i5, iv v1, iv sl, iv att, iv sc, iv sb, iv sa, iv qc, iv nc, iv vc, iv tc, rv ca, iv kk, rv a_XML_1_0, rv b3, iv w8] [(.int kk), (.int w8)]) (fun _ z_ => XS.iload X9.here hx rfl (hb hby at_488) rfl z_) ?_
     refine own_g (own_F T9 m 493 #[iv i0, iv i1, iv i2, iv i3, iv i4, iv i5, iv v1, iv sl, iv att, iv sc, iv sb, iv sa, iv qc, iv nc, iv vc, iv tc, rv ca, iv kk, rv a_XML_1_0, rv b3, iv w8] []) (fun _ z_ => XS.icmpNo X9.here hx rfl (hb hby at_490) rfl (teq (own_wk hw8 hz3)).2 z_) ?_
     refine own_g (own_F T9 m 494 #[iv i0, iv i1, iv i2, iv i3, iv i4, iv i5, iv v1, iv sl, iv att, iv sc, iv sb, iv sa, iv qc, iv nc, iv vc, iv tc, rv ca, iv kk, rv a_XML_1_0, rv b3, iv w8] [(.int 1)]) (fun _ z_ => XS.iconst X9.here hx rfl (hb hby at_493) z_) ?_
     refine own_g (own_F T9 m 498 #[iv i0, iv i1, iv i2, iv i3, iv i4, iv i5, iv v1, iv sl, iv att, iv sc, iv sb, iv sa, iv qc, iv nc, iv vc, iv tc, rv ca, iv kk, rv a_XML_1_0, rv b3, iv w8] [(.int 1)]) (fun _ z_ => XS.goto X9.here hx rfl (pc0 := 494) (pc' := 498) rfl (hb hby at_494) (by decide) (by decide) z_) ?_
     refine own_ret (t := .boolean) X9 hx hlk hrt rfl (Or.inl ⟨rfl, by simp, _, rfl⟩) (hb hby at_498) (by decide) (by decide) ?_
     exact ⟨rfl, N9⟩
    ·
     have hs4 : own_skip (¬ v1 = (0 : Int32)) f 3 4 := Or.inr ⟨rfl, hl1, fun q => hl2 _ (Or.inl q)⟩
     have hs5 : own_skip (¬ v1 = (0 : Int32)) f (4 + 1) kp := own_skz hl3 (own_nsp61 hl4)
     have hs6 : own_skip (¬ v1 = (0 : Int32)) f (kp + 1) kq := own_skz hl5 (own_nspq hl6)
     have hd5 : own_dl (¬ v1 = (0 : Int32)) (f (4 + 1)) := by rcases hl3 with ⟨q, -⟩ | ⟨-, q⟩; subst q; exact Or.inr (Or.inr (Or.inr hl4)); exact Or.inl q
     refine own_callV (C := "com/example/cadmus/cadmus/Markup$StartTag") (y := (⟨"com/example/cadmus/cadmus/Markup$StartTag", "end", "()I"⟩ : MethodName)) (b := b3) X7 hx hZ hown (own_w hw 95) (own_w hw 96) (own_w hw 98) (own_w hw 97) (own_w hw 99) (own_w hw 10) (by decide) (rfl : T7.heap = T7.heap) ((((A3.keep K4).ext E5).keep K6).keep K7) (hM := own_end1 l Z a0 hw [] b3 b5 a_XML_1_0 a_XML_1_1 16 3 r7 16 zc f (¬ v1 = (0 : Int32)) sv hsv kz sl 4 kp kq 0 0 0 0 r7 T7.heap n0 (Nat.le_trans (Nat.le_trans (Nat.le_trans (Nat.le_trans (Nat.le_trans zs1 E3.1) K4.1) E5.1) K6.1) K7.1) hp7 rfl hzc hVq (own_Str.keepO Sx6 K7 (((A3.keep K4).ext E5).keep K6) (by decide) (own_w hw 9)) ((((((E_XML_1_0.keep K1).ext E3).keep K4).ext E5).keep K6).keep K7) (own_sta_keep (own_sta_keep ((own_sta_keep ((own_sta_keep S_XML_1_1 K1 all0).ext E3) K4 (allS (own_plainE A3) all0)).ext E5) K6 (allS (own_plainE A5) all0)) K7 (allS (own_plainE (((A3.keep K4).ext E5).keep K6)) all0)) (own_sta_keep (own_sta_keep ((own_sta_keep ((own_sta_keep S_cs K1 all0).ext E3) K4 (allS (own_plainE A3) all0)).ext E5) K6 (allS (own_plainE A5) all0)) K7 (allS (own_plainE (((A3.keep K4).ext E5).keep K6)) all0)) (own_sta_keep (own_sta_keep ((own_sta_keep ((own_sta_keep S_sf K1 all0).ext E3) K4 (allS (own_plainE A3) all0)).ext E5) K6 (allS (own_plainE A5) all0)) K7 (allS (own_plainE (((A3.keep K4).ext E5).keep K6)) all0)) (own_sta_keep (own_sta_keep ((own_sta_keep ((own_sta_keep S_ad K1 all0).ext E3) K4 (allS (own_plainE A3) all0)).ext E5) K6 (allS (own_plainE A5) all0)) K7 (allS (own_plainE (((A3.keep K4).ext E5).keep K6)) all0)) (own_sta_keep (own_sta_keep ((own_sta_keep ((own_sta_keep S_hi K1 all0).ext E3) K4 (allS (own_plainE A3) all0)).ext E5) K6 (allS (own_plainE A5) all0)) K7 (allS (own_plainE (((A3.keep K4).ext E5).keep K6)) all0)) (own_sta_keep (own_sta_keep ((own_sta_keep ((own_sta_keep S_lo K1 all0).ext E3) K4 (allS (own_plainE A3) all0)).ext E5) K6 (allS (own_plainE A5) all0)) K7 (allS (own_plainE (((A3.keep K4).ext E5).keep K6)) all0)) ((((A3.keep K4).ext E5).keep K6).keep K7) H7_0 H7_1 H7_2 H7_4 H7_5 H7_6 H7_7 H7_3 (by omega) (by omega) (by omega) hs4 (hl2 _) hd5 hs5 hs6 (own_q255 hl6) hl7 hl8 ge_b3 (by omega) (hl9 ▸ hskz) hce hro (by decide)) (W := 0) (pc := 471) (Ls := #[iv i0, iv i1, iv i2, iv i3, iv i4, iv i5, iv v1, iv sl, iv att, iv sc, iv sb, iv sa, iv qc, iv nc, iv vc, iv tc, rv ca, iv kk, rv a_XML_1_0, rv b3, .unset]) (argsL := []) (rest := []) (st0 := [(.ref b3)]) (by rw [hml]; rfl) (lenOf own_pd20 rfl) rfl (Nat.le_of_eq rfl) (hb hby at_471) (by decide) (by decide) (by decide) (by decide) ?_
     intro v10 T10 L10 s X10 hZ hown hI10 hvm10 hhp10 hWw10 hQ10
     obtain ⟨r10, ⟨w10, rfl, hw10⟩, hp10, Nq10, K10, H10_0, H10_1, H10_2⟩ := hQ10
     have N10 := Fr.app N7 Nq10
     show own_Ends p e below s _ _ _ (own_F T10 m 474 #[iv i0, iv i1, iv i2, iv i3, iv i4, iv i5, iv v1, iv sl, iv att, iv sc, iv sb, iv sa, iv qc, iv nc, iv vc, iv tc, rv ca, iv kk, rv a_XML_1_0, rv b3, .unset] [(.int w10)])
     refine own_g (own_F T10 m 476 #[iv i0, iv i1, iv i2, iv i3, iv i4, iv i5, iv v1, iv sl, iv att, iv sc, iv sb, iv sa, iv qc, iv nc, iv vc, iv tc, rv ca, iv kk, rv a_XML_1_0, rv b3, iv w10] []) (fun _ z_ => XS.istore X10.here hx rfl (hb hby at_474) rfl (l' := #[iv i0, iv i1, iv i2, iv i3, iv i4, iv i5, iv v1, iv sl, iv att, iv sc, iv sb, iv sa, iv qc, iv nc, iv vc, iv tc, rv ca, iv kk, rv a_XML_1_0, rv b3, iv w10]) rfl z_) ?_
     refine own_g (own_F T10 m 478 #[iv i0, iv i1, iv i2, iv i3, iv i4, iv i5, iv v1, iv sl, iv att, iv sc, iv sb, iv sa, iv qc, iv nc, iv vc, iv tc, rv ca, iv kk, rv a_XML_1_0, rv b3, iv w10] [(.ref b3)]) (fun _ z_ => XS.aload X10.here hx rfl (hb hby at_476) rfl rfl z_) ?_
     refine own_callV (C := "com/example/cadmus/cadmus/Markup$StartTag") (y := (⟨"com/example/cadmus/cadmus/Markup$StartTag", "empty", "()Z"⟩ : MethodName)) (b := b3) X10 hx hZ hown (own_w hw 124) (own_w hw 120) (own_w hw 122) (own_w hw 121) (own_w hw 123) (own_w hw 10) (by decide) (rfl : T10.heap = T10.heap) (((((A3.keep K4).ext E5).keep K6).keep K7).keep K10) (hM := own_emp l Z a0 hw [] b3 b5 a_XML_1_0 a_XML_1_1 16 kz r10 16 zc f (¬ v1 = (0 : Int32)) sv hsv sl T10.heap n0 (Nat.le_trans (Nat.le_trans (Nat.le_trans (Nat.le_trans (Nat.le_trans (Nat.le_trans zs1 E3.1) K4.1) E5.1) K6.1) K7.1) K10.1) hp10 rfl hzc hVq (own_Str.keepO (own_Str.keepO Sx6 K7 (((A3.keep K4).ext E5).keep K6) (by decide) (own_w hw 9)) K10 ((((A3.keep K4).ext E5).keep K6).keep K7) (by decide) (own_w hw 9)) (((((((E_XML_1_0.keep K1).ext E3).keep K4).ext E5).keep K6).keep K7).keep K10) (own_sta_keep (own_sta_keep (own_sta_keep ((own_sta_keep ((own_sta_keep S_XML_1_1 K1 all0).ext E3) K4 (allS (own_plainE A3) all0)).ext E5) K6 (allS (own_plainE A5) all0)) K7 (allS (own_plainE (((A3.keep K4).ext E5).keep K6)) all0)) K10 (allS (own_plainE ((((A3.keep K4).ext E5).keep K6).keep K7)) all0)) (own_sta_keep (own_sta_keep (own_sta_keep ((own_sta_keep ((own_sta_keep S_cs K1 all0).ext E3) K4 (allS (own_plainE A3) all0)).ext E5) K6 (allS (own_plainE A5) all0)) K7 (allS (own_plainE (((A3.keep K4).ext E5).keep K6)) all0)) K10 (allS (own_plainE ((((A3.keep K4).ext E5).keep K6).keep K7)) all0)) (own_sta_keep (own_sta_keep (own_sta_keep ((own_sta_keep ((own_sta_keep S_sf K1 all0).ext E3) K4 (allS (own_plainE A3) all0)).ext E5) K6 (allS (own_plainE A5) all0)) K7 (allS (own_plainE (((A3.keep K4).ext E5).keep K6)) all0)) K10 (allS (own_plainE ((((A3.keep K4).ext E5).keep K6).keep K7)) all0)) (own_sta_keep (own_sta_keep (own_sta_keep ((own_sta_keep ((own_sta_keep S_ad K1 all0).ext E3) K4 (allS (own_plainE A3) all0)).ext E5) K6 (allS (own_plainE A5) all0)) K7 (allS (own_plainE (((A3.keep K4).ext E5).keep K6)) all0)) K10 (allS (own_plainE ((((A3.keep K4).ext E5).keep K6).keep K7)) all0)) (own_sta_keep (own_sta_keep (own_sta_keep ((own_sta_keep ((own_sta_keep S_hi K1 all0).ext E3) K4 (allS (own_plainE A3) all0)).ext E5) K6 (allS (own_plainE A5) all0)) K7 (allS (own_plainE (((A3.keep K4).ext E5).keep K6)) all0)) K10 (allS (own_plainE ((((A3.keep K4).ext E5).keep K6).keep K7)) all0)) (own_sta_keep (own_sta_keep (own_sta_keep ((own_sta_keep ((own_sta_keep S_lo K1 all0).ext E3) K4 (allS (own_plainE A3) all0)).ext E5) K6 (allS (own_plainE A5) all0)) K7 (allS (own_plainE (((A3.keep K4).ext E5).keep K6)) all0)) K10 (allS (own_plainE ((((A3.keep K4).ext E5).keep K6).keep K7)) all0)) (((((A3.keep K4).ext E5).keep K6).keep K7).keep K10) H10_0 H10_1 H10_2 (by omega) ge_b3 hro) (W := 0) (pc := 478) (Ls := #[iv i0, iv i1, iv i2, iv i3, iv i4, iv i5, iv v1, iv sl, iv att, iv sc, iv sb, iv sa, iv qc, iv nc, iv vc, iv tc, rv ca, iv kk, rv a_XML_1_0, rv b3, iv w10]) (argsL := []) (rest := []) (st0 := [(.ref b3)]) (by rw [hml]; rfl) (lenOf own_pd12 rfl) rfl (Nat.le_of_eq rfl) (hb hby at_478) (by decide) (by decide) (by decide) (by decide) ?_
     intro v11 T11 L11 s X11 hZ hown hI11 hvm11 hhp11 hWw11 hQ11
     obtain ⟨rfl, Nq11, hh11⟩ := hQ11
     have N11 := Fr.app N10 Nq11
     show own_Ends p e below s _ _ _ (own_F T11 m 481 #[iv i0, iv i1, iv i2, iv i3, iv i4, iv i5, iv v1, iv sl, iv att, iv sc, iv sb, iv sa, iv qc, iv nc, iv vc, iv tc, rv ca, iv kk, rv a_XML_1_0, rv b3, iv w10] [(.int sl)])
     refine own_g (own_F T11 m 483 #[iv i0, iv i1, iv i2, iv i3, iv i4, iv i5, iv v1, iv sl, iv att, iv sc, iv sb, iv sa, iv qc, iv nc, iv vc, iv tc, rv ca, iv kk, rv a_XML_1_0, rv b3, iv w10] [(.int sl), (.int sl)]) (fun _ z_ => XS.iload X11.here hx rfl (hb hby at_481) rfl z_) ?_
     refine own_g (own_F T11 m 486 #[iv i0, iv i1, iv i2, iv i3, iv i4, iv i5, iv v1, iv sl, iv att, iv sc, iv sb, iv sa, iv qc, iv nc, iv vc, iv tc, rv ca, iv kk, rv a_XML_1_0, rv b3, iv w10] []) (fun _ z_ => XS.icmpNo X11.here hx rfl (hb hby at_483) rfl (teq (rfl : sl = sl)).2 z_) ?_
     refine own_g (own_F T11 m 488 #[iv i0, iv i1, iv i2, iv i3, iv i4, iv i5, iv v1, iv sl, iv att, iv sc, iv sb, iv sa, iv qc, iv nc, iv vc, iv tc, rv ca, iv kk, rv a_XML_1_0, rv b3, iv w10] [(.int w10)]) (fun _ z_ => XS.iload X11.here hx rfl (hb hby at_486) rfl z_) ?_
     refine own_g (own_F T11 m 490 #[iv i0, iv i1, iv i2, iv i3, iv i4, iv i5, iv v1, iv sl, iv att, iv sc, iv sb, iv sa, iv qc, iv nc, iv vc, iv tc, rv ca, iv kk, rv a_XML_1_0, rv b3, iv w10] [(.int kk), (.int w10)]) (fun _ z_ => XS.iload X11.here hx rfl (hb hby at_488) rfl z_) ?_
     refine own_g (own_F T11 m 493 #[iv i0, iv i1, iv i2, iv i3, iv i4, iv i5, iv v1, iv sl, iv att, iv sc, iv sb, iv sa, iv qc, iv nc, iv vc, iv tc, rv ca, iv kk, rv a_XML_1_0, rv b3, iv w10] []) (fun _ z_ => XS.icmpNo X11.here hx rfl (hb hby at_490) rfl (teq (own_wk hw10 hz3)).2 z_) ?_
     refine own_g (own_F T11 m 494 #[iv i0, iv i1, iv i2, iv i3, iv i4, iv i5, iv v1, iv sl, iv att, iv sc, iv sb, iv sa, iv qc, iv nc, iv vc, iv tc, rv ca, iv kk, rv a_XML_1_0, rv b3, iv w10] [(.int 1)]) (fun _ z_ => XS.iconst X11.here hx rfl (hb hby at_493) z_) ?_
     refine own_g (own_F T11 m 498 #[iv i0, iv i1, iv i2, iv i3, iv i4, iv i5, iv v1, iv sl, iv att, iv sc, iv sb, iv sa, iv qc, iv nc, iv vc, iv tc, rv ca, iv kk, rv a_XML_1_0, rv b3, iv w10] [(.int 1)]) (fun _ z_ => XS.goto X11.here hx rfl (pc0 := 494) (pc' := 498) rfl (hb hby at_494) (by decide) (by decide) z_) ?_
     refine own_ret (t := .boolean) X11 hx hlk hrt rfl (Or.inl ⟨rfl, by simp, _, rfl⟩) (hb hby at_498) (by decide) (by decide) ?_
     exact ⟨rfl, N11⟩
   · -- pc 428: not v1 = (0 : Int32)
    refine own_g (own_F T1 m 431 #[iv i0, iv i1, iv i2, iv i3, iv i4, iv i5, iv v1, iv sl, iv att, iv sc, iv sb, iv sa, iv qc, iv nc, iv vc, iv tc, rv ca, iv kk, .unset, .unset, .unset] []) (fun _ z_ => XS.ifNo X1.here hx rfl (hb hby at_428) rfl ((if0 _ _).trans (feq c428).1) z_) ?_
    obtain ⟨T12, X12, e12, st12⟩ := getS2 X1 hx hZ hown (host := "") (Or.inl (own_w hw 162)) Via.refl e1 (own_sta_keep S_XML_1_1 K1 all0) (g := (mkF m 431 #[iv i0, iv i1, iv i2, iv i3, iv i4, iv i5, iv v1, iv sl, iv att, iv sc, iv sb, iv sa, iv qc, iv nc, iv vc, iv tc, rv ca, iv kk, .unset, .unset, .unset] [])) rfl (hb hby at_431)
    refine own_pre (S' := (own_F T12 m 434 #[iv i0, iv i1, iv i2, iv i3, iv i4, iv i5, iv v1, iv sl, iv att, iv sc, iv sb, iv sa, iv qc, iv nc, iv vc, iv tc, rv ca, iv kk, .unset, .unset, .unset] [(.ref a_XML_1_1)])) st12 ?_
    refine own_g (own_F T12 m 440 #[iv i0, iv i1, iv i2, iv i3, iv i4, iv i5, iv v1, iv sl, iv att, iv sc, iv sb, iv sa, iv qc, iv nc, iv vc, iv tc, rv ca, iv kk, .unset, .unset, .unset] [(.ref a_XML_1_1)]) (fun _ z_ => XS.goto X12.here hx rfl (pc0 := 434) (pc' := 440) rfl (hb hby at_434) (by decide) (by decide) z_) ?_
    refine own_g (own_F T12 m 442 #[iv i0, iv i1, iv i2, iv i3, iv i4, iv i5, iv v1, iv sl, iv att, iv sc, iv sb, iv sa, iv qc, iv nc, iv vc, iv tc, rv ca, iv kk, rv a_XML_1_1, .unset, .unset] []) (fun _ z_ => XS.astore X12.here hx rfl (hb hby at_440) rfl rfl (l' := #[iv i0, iv i1, iv i2, iv i3, iv i4, iv i5, iv v1, iv sl, iv att, iv sc, iv sb, iv sa, iv qc, iv nc, iv vc, iv tc, rv ca, iv kk, rv a_XML_1_1, .unset, .unset]) rfl z_) ?_
    obtain ⟨T13, h13, X13, e13, E13, A13, D13, -, st13⟩ := newO X12 hx hZ hown (own_w hw 8) (own_w hw 9) (own_w hw 10) e12 (g := (mkF m 442 #[iv i0, iv i1, iv i2, iv i3, iv i4, iv i5, iv v1, iv sl, iv att, iv sc, iv sb, iv sa, iv qc, iv nc, iv vc, iv tc, rv ca, iv kk, rv a_XML_1_1, .unset, .unset] [])) rfl (hb hby at_442) (by decide) (by decide)
    obtain ⟨b13, g13⟩ : ∃ z, z = hp1.size := ⟨_, rfl⟩
    rw [← g13] at A13 D13 st13
    have sz_b13 : h0.size ≤ b13 := Nat.le_trans zz1 (Nat.le_of_eq g13.symm)
    have ge_b13 : n0 ≤ b13 := Nat.le_trans zs1 (Nat.le_of_eq g13.symm)
    have ne_ca_b13 : ca ≠ b13 := Nat.ne_of_lt (Nat.lt_of_lt_of_le f1_0.lt (Nat.le_of_eq g13.symm))
    have ne_a_XML_1_0_b13 : a_XML_1_0 ≠ b13 := Nat.ne_of_lt (Nat.lt_of_lt_of_le (E_XML_1_0.keep K1).lt (Nat.le_of_eq g13.symm))
    have ne_a_XML_1_1_b13 : a_XML_1_1 ≠ b13 := Nat.ne_of_lt (Nat.lt_of_lt_of_le (E_XML_1_1.keep K1).lt (Nat.le_of_eq g13.symm))
    have F13_lastName : Fld Z h13 b13 "com/example/cadmus/cadmus/Markup$StartTag" "lastName" "Ljava/lang/String;" .null := D13 (Or.inl (own_w hw 26)) (ty := (.object "java/lang/String")) (by decide)
    have F13_version : Fld Z h13 b13 "com/example/cadmus/cadmus/Markup$StartTag" "version" "Lcom/example/cadmus/cadmus/XmlVersion;" .null := D13 (Or.inr (own_w hw 28)) (ty := (.object "com/example/cadmus/cadmus/XmlVersion")) (by decide)
    have F13_text : Fld Z h13 b13 "com/example/cadmus/cadmus/Markup$StartTag" "text" "Ljava/lang/String;" .null := D13 (Or.inl (own_w hw 57)) (ty := (.object "java/lang/String")) (by decide)
    have F13_at : Fld Z h13 b13 "com/example/cadmus/cadmus/Markup$StartTag" "at" "I" (.int 0) := D13 (Or.inl (own_w hw 92)) (ty := .int) (by decide)
    have F13_attributesEnd : Fld Z h13 b13 "com/example/cadmus/cadmus/Markup$StartTag" "attributesEnd" "I" (.int 0) := D13 (Or.inl (own_w hw 94)) (ty := .int) (by decide)
    have F13_nameStart : Fld Z h13 b13 "com/example/cadmus/cadmus/Markup$StartTag" "nameStart" "I" (.int 0) := D13 (Or.inl (own_w hw 130)) (ty := .int) (by decide)
    have F13_nameEnd : Fld Z h13 b13 "com/example/cadmus/cadmus/Markup$StartTag" "nameEnd" "I" (.int 0) := D13 (Or.inl (own_w hw 132)) (ty := .int) (by decide)
    have F13_valueStart : Fld Z h13 b13 "com/example/cadmus/cadmus/Markup$StartTag" "valueStart" "I" (.int 0) := D13 (Or.inl (own_w hw 134)) (ty := .int) (by decide)
    have F13_valueEnd : Fld Z h13 b13 "com/example/cadmus/cadmus/Markup$StartTag" "valueEnd" "I" (.int 0) := D13 (Or.inl (own_w hw 161)) (ty := .int) (by decide)
    refine own_pre (S' := (own_F T13 m 445 #[iv i0, iv i1, iv i2, iv i3, iv i4, iv i5, iv v1, iv sl, iv att, iv sc, iv sb, iv sa, iv qc, iv nc, iv vc, iv tc, rv ca, iv kk, rv a_XML_1_1, .unset, .unset] [(.ref b13)])) st13 ?_
    refine own_g (own_F T13 m 446 #[iv i0, iv i1, iv i2, iv i3, iv i4, iv i5, iv v1, iv sl, iv att, iv sc, iv sb, iv sa, iv qc, iv nc, iv vc, iv tc, rv ca, iv kk, rv a_XML_1_1, .unset, .unset] [(.ref b13), (.ref b13)]) (fun _ z_ => XS.dup X13.here hx rfl (hb hby at_445) rfl rfl z_) ?_
    refine own_g (own_F T13 m 448 #[iv i0, iv i1, iv i2, iv i3, iv i4, iv i5, iv v1, iv sl, iv att, iv sc, iv sb, iv sa, iv qc, iv nc, iv vc, iv tc, rv ca, iv kk, rv a_XML_1_1, .unset, .unset] [(.ref a_XML_1_1), (.ref b13), (.ref b13)]) (fun _ z_ => XS.aload X13.here hx rfl (hb hby at_446) rfl rfl z_) ?_
    refine own_callI (y := (⟨"com/example/cadmus/cadmus/Markup$StartTag", "<init>", "(Lcom/example/cadmus/cadmus/XmlVersion;)V"⟩ : MethodName)) (b := b13) X13 hx hZ hown rfl (own_w hw 11) (own_w hw 12) (own_w hw 13) (own_w hw 10) (by decide) e13 (hM := own_ti l Z a0 hw [] b13 a_XML_1_1 h13 n0 (Nat.le_trans zs1 E13.1) A13 ge_b13 F13_lastName F13_version F13_text F13_at F13_nameStart F13_nameEnd F13_valueStart F13_valueEnd F13_attributesEnd) (W := 1) (pc := 448) (Ls := #[iv i0, iv i1, iv i2, iv i3, iv i4, iv i5, iv v1, iv sl, iv att, iv sc, iv sb, iv sa, iv qc, iv nc, iv vc, iv tc, rv ca, iv kk, rv a_XML_1_1, .unset, .unset]) (argsL := [(.ref a_XML_1_1)]) (rest := [(.ref b13)]) (st0 := [(.ref a_XML_1_1), (.ref b13), (.ref b13)]) (by rw [hml]; rfl) (lenOf own_pd25 rfl) rfl (Nat.le_of_eq rfl) (hb hby at_448) (by decide) (by decide) (by decide) (by decide) ?_
    intro v14 T14 L14 s X14 hZ hown hI14 hvm14 hhp14 hWw14 hQ14
    obtain ⟨rfl, Nq14, K14, G14_0, G14_1, G14_2, G14_3, G14_4, G14_5, G14_6, G14_7⟩ := hQ14
    have N14 := Fr.app N1 Nq14
    show own_Ends p e below s _ _ _ (own_F T14 m 451 #[iv i0, iv i1, iv i2, iv i3, iv i4, iv i5, iv v1, iv sl, iv att, iv sc, iv sb, iv sa, iv qc, iv nc, iv vc, iv tc, rv ca, iv kk, rv a_XML_1_1, .unset, .unset] [(.ref b13)])
    refine own_g (own_F T14 m 453 #[iv i0, iv i1, iv i2, iv i3, iv i4, iv i5, iv v1, iv sl, iv att, iv sc, iv sb, iv sa, iv qc, iv nc, iv vc, iv tc, rv ca, iv kk, rv a_XML_1_1, rv b13, .unset] []) (fun _ z_ => XS.astore X14.here hx rfl (hb hby at_451) rfl rfl (l' := #[iv i0, iv i1, iv i2, iv i3, iv i4, iv i5, iv v1, iv sl, iv att, iv sc, iv sb, iv sa, iv qc, iv nc, iv vc, iv tc, rv ca, iv kk, rv a_XML_1_1, rv b13, .unset]) rfl z_) ?_
    refine own_g (own_F T14 m 455 #[iv i0, iv i1, iv i2, iv i3, iv i4, iv i5, iv v1, iv sl, iv att, iv sc, iv sb, iv sa, iv qc, iv nc, iv vc, iv tc, rv ca, iv kk, rv a_XML_1_1, rv b13, .unset] [(.ref b13)]) (fun _ z_ => XS.aload X14.here hx rfl (hb hby at_453) rfl rfl z_) ?_
    obtain ⟨T15, h15, X15, e15, E15, A15, D15, -, st15⟩ := newO X14 hx hZ hown (own_w hw 29) (own_w hw 19) (own_w hw 18) (rfl : T14.heap = T14.heap) (g := (mkF m 455 #[iv i0, iv i1, iv i2, iv i3, iv i4, iv i5, iv v1, iv sl, iv att, iv sc, iv sb, iv sa, iv qc, iv nc, iv vc, iv tc, rv ca, iv kk, rv a_XML_1_1, rv b13, .unset] [(.ref b13)])) rfl (hb hby at_455) (by decide) (by decide)
    obtain ⟨b15, g15⟩ : ∃ z, z = T14.heap.size := ⟨_, rfl⟩
    rw [← g15] at A15 D15 st15
    have sz_b15 : h0.size ≤ b15 := Nat.le_trans (Nat.le_trans (Nat.le_trans zz1 E13.1) K14.1) (Nat.le_of_eq g15.symm)
    have ge_b15 : n0 ≤ b15 := Nat.le_trans (Nat.le_trans (Nat.le_trans zs1 E13.1) K14.1) (Nat.le_of_eq g15.symm)
    have ne_ca_b15 : ca ≠ b15 := Nat.ne_of_lt (Nat.lt_of_lt_of_le ((f1_0.ext E13).keep K14 (ninS ne_ca_b13 nin0)).lt (Nat.le_of_eq g15.symm))
    have ne_a_XML_1_0_b15 : a_XML_1_0 ≠ b15 := Nat.ne_of_lt (Nat.lt_of_lt_of_le (((E_XML_1_0.keep K1).ext E13).keep K14).lt (Nat.le_of_eq g15.symm))
    have ne_a_XML_1_1_b15 : a_XML_1_1 ≠ b15 := Nat.ne_of_lt (Nat.lt_of_lt_of_le (((E_XML_1_1.keep K1).ext E13).keep K14).lt (Nat.le_of_eq g15.symm))
    have ne_b13_b15 : b13 ≠ b15 := Nat.ne_of_lt (Nat.lt_of_lt_of_le (A13.keep K14).lt (Nat.le_of_eq g15.symm))
    have F15_value : Fld Z h15 b15 "java/lang/String" "value" "[B" .null := D15 (Or.inr (own_w hw 21)) (ty := (.array .byte)) (by decide)
    have F15_coder : Fld Z h15 b15 "java/lang/String" "coder" "B" (.int 0) := D15 (Or.inr (own_w hw 22)) (ty := .byte) (by decide)
    refine own_pre (S' := (own_F T15 m 458 #[iv i0, iv i1, iv i2, iv i3, iv i4, iv i5, iv v1, iv sl, iv att, iv sc, iv sb, iv sa, iv qc, iv nc, iv vc, iv tc, rv ca, iv kk, rv a_XML_1_1, rv b13, .unset] [(.ref b15), (.ref b13)])) st15 ?_
    refine own_g (own_F T15 m 459 #[iv i0, iv i1, iv i2, iv i3, iv i4, iv i5, iv v1, iv sl, iv att, iv sc, iv sb, iv sa, iv qc, iv nc, iv vc, iv tc, rv ca, iv kk, rv a_XML_1_1, rv b13, .unset] [(.ref b15), (.ref b15), (.ref b13)]) (fun _ z_ => XS.dup X15.here hx rfl (hb hby at_458) rfl rfl z_) ?_
    refine own_g (own_F T15 m 461 #[iv i0, iv i1, iv i2, iv i3, iv i4, iv i5, iv v1, iv sl, iv att, iv sc, iv sb, iv sa, iv qc, iv nc, iv vc, iv tc, rv ca, iv kk, rv a_XML_1_1, rv b13, .unset] [(.ref ca), (.ref b15), (.ref b15), (.ref b13)]) (fun _ z_ => XS.aload X15.here hx rfl (hb hby at_459) rfl rfl z_) ?_
    refine own_callI (y := (⟨"java/lang/String", "<init>", "([C)V"⟩ : MethodName)) (b := b15) X15 hx hZ hown rfl (own_w hw 30) (own_w hw 31) (own_w hw 32) (own_w hw 18) (by decide) e15 (hM := own_si l Z a0 hw [] b15 ca 16 16 zc f h15 n0 (Nat.le_trans (Nat.le_trans (Nat.le_trans zs1 E13.1) K14.1) E15.1) rfl (by decide) (by decide) hzc (((f1_0.ext E13).keep K14 (ninS ne_ca_b13 nin0)).ext E15) hf A15 F15_value F15_coder ((own_sta_keep ((own_sta_keep S_cs K1 all0).ext E13) K14 (allS (own_plainE A13) all0)).ext E15) ((own_sta_keep ((own_sta_keep S_ad K1 all0).ext E13) K14 (allS (own_plainE A13) all0)).ext E15) ((own_sta_keep ((own_sta_keep S_hi K1 all0).ext E13) K14 (allS (own_plainE A13) all0)).ext E15) ((own_sta_keep ((own_sta_keep S_lo K1 all0).ext E13) K14 (allS (own_plainE A13) all0)).ext E15) ge_b15 (Ne.symm ne_ca_b15)) (W := 2) (pc := 461) (Ls := #[iv i0, iv i1, iv i2, iv i3, iv i4, iv i5, iv v1, iv sl, iv att, iv sc, iv sb, iv sa, iv qc, iv nc, iv vc, iv tc, rv ca, iv kk, rv a_XML_1_1, rv b13, .unset]) (argsL := [(.ref ca)]) (rest := [(.ref b15), (.ref b13)]) (st0 := [(.ref ca), (.ref b15), (.ref b15), (.ref b13)]) (by rw [hml]; rfl) (lenOf own_pd26 rfl) rfl (Nat.le_of_eq rfl) (hb hby at_461) (by decide) (by decide) (by decide) (by decide) ?_
    intro v16 T16 L16 s X16 hZ hown hI16 hvm16 hhp16 hWw16 hQ16
    obtain ⟨rfl, Nq16, K16, Sx16⟩ := hQ16
    have N16 := Fr.app N14 Nq16
    show own_Ends p e below s _ _ _ (own_F T16 m 464 #[iv i0, iv i1, iv i2, iv i3, iv i4, iv i5, iv v1, iv sl, iv att, iv sc, iv sb, iv sa, iv qc, iv nc, iv vc, iv tc, rv ca, iv kk, rv a_XML_1_1, rv b13, .unset] [(.ref b15), (.ref b13)])
    refine own_g (own_F T16 m 465 #[iv i0, iv i1, iv i2, iv i3, iv i4, iv i5, iv v1, iv sl, iv att, iv sc, iv sb, iv sa, iv qc, iv nc, iv vc, iv tc, rv ca, iv kk, rv a_XML_1_1, rv b13, .unset] [(.int 1), (.ref b15), (.ref b13)]) (fun _ z_ => XS.iconst X16.here hx rfl (hb hby at_464) z_) ?_
    have hVq : (¬ v1 = (0 : Int32)) ↔ a_XML_1_1 = a_XML_1_1 := ⟨fun _ => rfl, fun _ => c428⟩
    refine own_callV (C := "com/example/cadmus/cadmus/Markup$StartTag") (y := (⟨"com/example/cadmus/cadmus/Markup$StartTag", "read", "(Ljava/lang/String;I)Lcom/example/cadmus/cadmus/Markup$StartTag;"⟩ : MethodName)) (b := b13) X16 hx hZ hown (own_w hw 51) (own_w hw 52) (own_w hw 54) (own_w hw 53) (own_w hw 55) (own_w hw 10) (by decide) (rfl : T16.heap = T16.heap) (((A13.keep K14).ext E15).keep K16) (hM := own_read l Z a0 hw [] b13 b15 a_XML_1_1 a_XML_1_1 16 16 zc f (¬ v1 = (0 : Int32)) sv hsv T16.heap n0 (Nat.le_trans (Nat.le_trans (Nat.le_trans (Nat.le_trans zs1 E13.1) K14.1) E15.1) K16.1) (by decide) (hf2 _) hd3 rfl hzc hVq Sx16 (((((E_XML_1_1.keep K1).ext E13).keep K14).ext E15).keep K16) (own_sta_keep ((own_sta_keep ((own_sta_keep S_XML_1_1 K1 all0).ext E13) K14 (allS (own_plainE A13) all0)).ext E15) K16 (allS (own_plainE A15) all0)) (own_sta_keep ((own_sta_keep ((own_sta_keep S_cs K1 all0).ext E13) K14 (allS (own_plainE A13) all0)).ext E15) K16 (allS (own_plainE A15) all0)) (own_sta_keep ((own_sta_keep ((own_sta_keep S_sf K1 all0).ext E13) K14 (allS (own_plainE A13) all0)).ext E15) K16 (allS (own_plainE A15) all0)) (own_sta_keep ((own_sta_keep ((own_sta_keep S_ad K1 all0).ext E13) K14 (allS (own_plainE A13) all0)).ext E15) K16 (allS (own_plainE A15) all0)) (own_sta_keep ((own_sta_keep ((own_sta_keep S_hi K1 all0).ext E13) K14 (allS (own_plainE A13) all0)).ext E15) K16 (allS (own_plainE A15) all0)) (own_sta_keep ((own_sta_keep ((own_sta_keep S_lo K1 all0).ext E13) K14 (allS (own_plainE A13) all0)).ext E15) K16 (allS (own_plainE A15) all0)) (((A13.keep K14).ext E15).keep K16) ge_b13 ((G14_0.ext E15).keep K16 (ninS ne_b13_b15 nin0)) ((G14_2.ext E15).keep K16 (ninS ne_b13_b15 nin0)) ((G14_1.ext E15).keep K16 (ninS ne_b13_b15 nin0)) ((G14_7.ext E15).keep K16 (ninS ne_b13_b15 nin0)) ((G14_3.ext E15).keep K16 (ninS ne_b13_b15 nin0)) ((G14_4.ext E15).keep K16 (ninS ne_b13_b15 nin0)) ((G14_5.ext E15).keep K16 (ninS ne_b13_b15 nin0)) ((G14_6.ext E15).keep K16 (ninS ne_b13_b15 nin0))) (W := 0) (pc := 465) (Ls := #[iv i0, iv i1, iv i2, iv i3, iv i4, iv i5, iv v1, iv sl, iv att, iv sc, iv sb, iv sa, iv qc, iv nc, iv vc, iv tc, rv ca, iv kk, rv a_XML_1_1, rv b13, .unset]) (argsL := [(.ref b15), (.int 1)]) (rest := []) (st0 := [(.int 1), (.ref b15), (.ref b13)]) (by rw [hml]; rfl) (lenOf own_pd27 rfl) rfl (Nat.le_of_eq rfl) (hb hby at_465) (by decide) (by decide) (by decide) (by decide) ?_
    intro v17 T17 L17 s X17 hZ hown hI17 hvm17 hhp17 hWw17 hQ17
    obtain ⟨r17, rfl, hp17, Nq17, K17, H17_0, H17_1, H17_2, H17_3, H17_4, H17_5, H17_6, H17_7⟩ := hQ17
    have N17 := Fr.app N16 Nq17
    show own_Ends p e below s _ _ _ (own_F T17 m 468 #[iv i0, iv i1, iv i2, iv i3, iv i4, iv i5, iv v1, iv sl, iv att, iv sc, iv sb, iv sa, iv qc, iv nc, iv vc, iv tc, rv ca, iv kk, rv a_XML_1_1, rv b13, .unset] [(.ref b13)])
    refine own_g (own_F T17 m 469 #[iv i0, iv i1, iv i2, iv i3, iv i4, iv i5, iv v1, iv sl, iv att, iv sc, iv sb, iv sa, iv qc, iv nc, iv vc, iv tc, rv ca, iv kk, rv a_XML_1_1, rv b13, .unset] []) (fun _ z_ => XS.pop X17.here hx rfl (hb hby at_468) rfl rfl z_) ?_
    refine own_g (own_F T17 m 471 #[iv i0, iv i1, iv i2, iv i3, iv i4, iv i5, iv v1, iv sl, iv att, iv sc, iv sb, iv sa, iv qc, iv nc, iv vc, iv tc, rv ca, iv kk, rv a_XML_1_1, rv b13, .unset] [(.ref b13)]) (fun _ z_ => XS.aload X17.here hx rfl (hb hby at_469) rfl rfl z_) ?_
    obtain ⟨hz1, hz2, hz3⟩ := hlz
    have hce : f kz = (62 : Int32) ∨ f kz = (47 : Int32) := by rcases hz3 with ⟨-, q, -⟩ | ⟨-, q, -⟩; exact Or.inr q; exact Or.inl q
    have hskz := own_skz hz1 (own_nspe hce)
    have hro : (sl = 1 ∧ f kz = (47 : Int32)) ∨ (sl = 0 ∧ ¬ f kz = (47 : Int32)) := by rcases hz3 with ⟨q1, q, -⟩ | ⟨q1, q, -⟩; exact Or.inl ⟨q1, q⟩; exact Or.inr ⟨q1, by rw [q]; decide⟩
    rcases hlay with ⟨he3, -⟩ | ⟨-, hl1, hl2, hl3, hl4, hl5, hl6, hl7, hl8, hl9⟩
    ·
     refine own_callV (C := "com/example/cadmus/cadmus/Markup$StartTag") (y := (⟨"com/example/cadmus/cadmus/Markup$StartTag", "end", "()I"⟩ : MethodName)) (b := b13) X17 hx hZ hown (own_w hw 95) (own_w hw 96) (own_w hw 98) (own_w hw 97) (own_w hw 99) (own_w hw 10) (by decide) (rfl : T17.heap = T17.heap) ((((A13.keep K14).ext E15).keep K16).keep K17) (hM := own_end0 l Z a0 hw [] b13 b15 a_XML_1_1 a_XML_1_1 16 3 r17 16 zc f (¬ v1 = (0 : Int32)) sv hsv kz sl T17.heap n0 (Nat.le_trans (Nat.le_trans (Nat.le_trans (Nat.le_trans (Nat.le_trans zs1 E13.1) K14.1) E15.1) K16.1) K17.1) hp17 rfl hzc hVq (own_Str.keepO Sx16 K17 (((A13.keep K14).ext E15).keep K16) (by decide) (own_w hw 9)) ((((((E_XML_1_1.keep K1).ext E13).keep K14).ext E15).keep K16).keep K17) (own_sta_keep (own_sta_keep ((own_sta_keep ((own_sta_keep S_XML_1_1 K1 all0).ext E13) K14 (allS (own_plainE A13) all0)).ext E15) K16 (allS (own_plainE A15) all0)) K17 (allS (own_plainE (((A13.keep K14).ext E15).keep K16)) all0)) (own_sta_keep (own_sta_keep ((own_sta_keep ((own_sta_keep S_cs K1 all0).ext E13) K14 (allS (own_plainE A13) all0)).ext E15) K16 (allS (own_plainE A15) all0)) K17 (allS (own_plainE (((A13.keep K14).ext E15).keep K16)) all0)) (own_sta_keep (own_sta_keep ((own_sta_keep ((own_sta_keep S_sf K1 all0).ext E13) K14 (allS (own_plainE A13) all0)).ext E15) K16 (allS (own_plainE A15) all0)) K17 (allS (own_plainE (((A13.keep K14).ext E15).keep K16)) all0)) (own_sta_keep (own_sta_keep ((own_sta_keep ((own_sta_keep S_ad K1 all0).ext E13) K14 (allS (own_plainE A13) all0)).ext E15) K16 (allS (own_plainE A15) all0)) K17 (allS (own_plainE (((A13.keep K14).ext E15).keep K16)) all0)) (own_sta_keep (own_sta_keep ((own_sta_keep ((own_sta_keep S_hi K1 all0).ext E13) K14 (allS (own_plainE A13) all0)).ext E15) K16 (allS (own_plainE A15) all0)) K17 (allS (own_plainE (((A13.keep K14).ext E15).keep K16)) all0)) (own_sta_keep (own_sta_keep ((own_sta_keep ((own_sta_keep S_lo K1 all0).ext E13) K14 (allS (own_plainE A13) all0)).ext E15) K16 (allS (own_plainE A15) all0)) K17 (allS (own_plainE (((A13.keep K14).ext E15).keep K16)) all0)) ((((A13.keep K14).ext E15).keep K16).keep K17) H17_0 H17_1 H17_2 ge_b13 (by omega) (he3 ▸ hskz) hce hro (by decide)) (W := 0) (pc := 471) (Ls := #[iv i0, iv i1, iv i2, iv i3, iv i4, iv i5, iv v1, iv sl, iv att, iv sc, iv sb, iv sa, iv qc, iv nc, iv vc, iv tc, rv ca, iv kk, rv a_XML_1_1, rv b13, .unset]) (argsL := []) (rest := []) (st0 := [(.ref b13)]) (by rw [hml]; rfl) (lenOf own_pd20 rfl) rfl (Nat.le_of_eq rfl) (hb hby at_471) (by decide) (by decide) (by decide) (by decide) ?_
     intro v18 T18 L18 s X18 hZ hown hI18 hvm18 hhp18 hWw18 hQ18
     obtain ⟨r18, ⟨w18, rfl, hw18⟩, hp18, Nq18, K18, H18_0, H18_1, H18_2⟩ := hQ18
     have N18 := Fr.app N17 Nq18
     show own_Ends p e below s _ _ _ (own_F T18 m 474 #[iv i0, iv i1, iv i2, iv i3, iv i4, iv i5, iv v1, iv sl, iv att, iv sc, iv sb, iv sa, iv qc, iv nc, iv vc, iv tc, rv ca, iv kk, rv a_XML_1_1, rv b13, .unset] [(.int w18)])
     refine own_g (own_F T18 m 476 #[iv i0, iv i1, iv i2, iv i3, iv i4, iv i5, iv v1, iv sl, iv att, iv sc, iv sb, iv sa, iv qc, iv nc, iv vc, iv tc, rv ca, iv kk, rv a_XML_1_1, rv b13, iv w18] []) (fun _ z_ => XS.istore X18.here hx rfl (hb hby at_474) rfl (l' := #[iv i0, iv i1, iv i2, iv i3, iv i4, iv i5, iv v1, iv sl, iv att, iv sc, iv sb, iv sa, iv qc, iv nc, iv vc, iv tc, rv ca, iv kk, rv a_XML_1_1, rv b13, iv w18]) rfl z_) ?_
     refine own_g (own_F T18 m 478 #[iv i0, iv i1, iv i2, iv i3, iv i4, iv i5, iv v1, iv sl, iv att, iv sc, iv sb, iv sa, iv qc, iv nc, iv vc, iv tc, rv ca, iv kk, rv a_XML_1_1, rv b13, iv w18] [(.ref b13)]) (fun _ z_ => XS.aload X18.here hx rfl (hb hby at_476) rfl rfl z_) ?_
     refine own_callV (C := "com/example/cadmus/cadmus/Markup$StartTag") (y := (⟨"com/example/cadmus/cadmus/Markup$StartTag", "empty", "()Z"⟩ : MethodName)) (b := b13) X18 hx hZ hown (own_w hw 124) (own_w hw 120) (own_w hw 122) (own_w hw 121) (own_w hw 123) (own_w hw 10) (by decide) (rfl : T18.heap = T18.heap) (((((A13.keep K14).ext E15).keep K16).keep K17).keep K18) (hM := own_emp l Z a0 hw [] b13 b15 a_XML_1_1 a_XML_1_1 16 kz r18 16 zc f (¬ v1 = (0 : Int32)) sv hsv sl T18.heap n0 (Nat.le_trans (Nat.le_trans (Nat.le_trans (Nat.le_trans (Nat.le_trans (Nat.le_trans zs1 E13.1) K14.1) E15.1) K16.1) K17.1) K18.1) hp18 rfl hzc hVq (own_Str.keepO (own_Str.keepO Sx16 K17 (((A13.keep K14).ext E15).keep K16) (by decide) (own_w hw 9)) K18 ((((A13.keep K14).ext E15).keep K16).keep K17) (by decide) (own_w hw 9)) (((((((E_XML_1_1.keep K1).ext E13).keep K14).ext E15).keep K16).keep K17).keep K18) (own_sta_keep (own_sta_keep (own_sta_keep ((own_sta_keep ((own_sta_keep S_XML_1_1 K1 all0).ext E13) K14 (allS (own_plainE A13) all0)).ext E15) K16 (allS (own_plainE A15) all0)) K17 (allS (own_plainE (((A13.keep K14).ext E15).keep K16)) all0)) K18 (allS (own_plainE ((((A13.keep K14).ext E15).keep K16).keep K17)) all0)) (own_sta_keep (own_sta_keep (own_sta_keep ((own_sta_keep ((own_sta_keep S_cs K1 all0).ext E13) K14 (allS (own_plainE A13) all0)).ext E15) K16 (allS (own_plainE A15) all0)) K17 (allS (own_plainE (((A13.keep K14).ext E15).keep K16)) all0)) K18 (allS (own_plainE ((((A13.keep K14).ext E15).keep K16).keep K17)) all0)) (own_sta_keep (own_sta_keep (own_sta_keep ((own_sta_keep ((own_sta_keep S_sf K1 all0).ext E13) K14 (allS (own_plainE A13) all0)).ext E15) K16 (allS (own_plainE A15) all0)) K17 (allS (own_plainE (((A13.keep K14).ext E15).keep K16)) all0)) K18 (allS (own_plainE ((((A13.keep K14).ext E15).keep K16).keep K17)) all0)) (own_sta_keep (own_sta_keep (own_sta_keep ((own_sta_keep ((own_sta_keep S_ad K1 all0).ext E13) K14 (allS (own_plainE A13) all0)).ext E15) K16 (allS (own_plainE A15) all0)) K17 (allS (own_plainE (((A13.keep K14).ext E15).keep K16)) all0)) K18 (allS (own_plainE ((((A13.keep K14).ext E15).keep K16).keep K17)) all0)) (own_sta_keep (own_sta_keep (own_sta_keep ((own_sta_keep ((own_sta_keep S_hi K1 all0).ext E13) K14 (allS (own_plainE A13) all0)).ext E15) K16 (allS (own_plainE A15) all0)) K17 (allS (own_plainE (((A13.keep K14).ext E15).keep K16)) all0)) K18 (allS (own_plainE ((((A13.keep K14).ext E15).keep K16).keep K17)) all0)) (own_sta_keep (own_sta_keep (own_sta_keep ((own_sta_keep ((own_sta_keep S_lo K1 all0).ext E13) K14 (allS (own_plainE A13) all0)).ext E15) K16 (allS (own_plainE A15) all0)) K17 (allS (own_plainE (((A13.keep K14).ext E15).keep K16)) all0)) K18 (allS (own_plainE ((((A13.keep K14).ext E15).keep K16).keep K17)) all0)) (((((A13.keep K14).ext E15).keep K16).keep K17).keep K18) H18_0 H18_1 H18_2 (by omega) ge_b13 hro) (W := 0) (pc := 478) (Ls := #[iv i0, iv i1, iv i2, iv i3, iv i4, iv i5, iv v1, iv sl, iv att, iv sc, iv sb, iv sa, iv qc, iv nc, iv vc, iv tc, rv ca, iv kk, rv a_XML_1_1, rv b13, iv w18]) (argsL := []) (rest := []) (st0 := [(.ref b13)]) (by rw [hml]; rfl) (lenOf own_pd12 rfl) rfl (Nat.le_of_eq rfl) (hb hby at_478) (by decide) (by decide) (by decide) (by decide) ?_
     intro v19 T19 L19 s X19 hZ hown hI19 hvm19 hhp19 hWw19 hQ19
     obtain ⟨rfl, Nq19, hh19⟩ := hQ19
     have N19 := Fr.app N18 Nq19
     show own_Ends p e below s _ _ _ (own_F T19 m 481 #[iv i0, iv i1, iv i2, iv i3, iv i4, iv i5, iv v1, iv sl, iv att, iv sc, iv sb, iv sa, iv qc, iv nc, iv vc, iv tc, rv ca, iv kk, rv a_XML_1_1, rv b13, iv w18] [(.int sl)])
     refine own_g (own_F T19 m 483 #[iv i0, iv i1, iv i2, iv i3, iv i4, iv i5, iv v1, iv sl, iv att, iv sc, iv sb, iv sa, iv qc, iv nc, iv vc, iv tc, rv ca, iv kk, rv a_XML_1_1, rv b13, iv w18] [(.int sl), (.int sl)]) (fun _ z_ => XS.iload X19.here hx rfl (hb hby at_481) rfl z_) ?_
     refine own_g (own_F T19 m 486 #[iv i0, iv i1, iv i2, iv i3, iv i4, iv i5, iv v1, iv sl, iv att, iv sc, iv sb, iv sa, iv qc, iv nc, iv vc, iv tc, rv ca, iv kk, rv a_XML_1_1, rv b13, iv w18] []) (fun _ z_ => XS.icmpNo X19.here hx rfl (hb hby at_483) rfl (teq (rfl : sl = sl)).2 z_) ?_
     refine own_g (own_F T19 m 488 #[iv i0, iv i1, iv i2, iv i3, iv i4, iv i5, iv v1, iv sl, iv att, iv sc, iv sb, iv sa, iv qc, iv nc, iv vc, iv tc, rv ca, iv kk, rv a_XML_1_1, rv b13, iv w18] [(.int w18)]) (fun _ z_ => XS.iload X19.here hx rfl (hb hby at_486) rfl z_) ?_
     refine own_g (own_F T19 m 490 #[iv i0, iv i1, iv i2, iv i3, iv i4, iv i5, iv v1, iv sl, iv att, iv sc, iv sb, iv sa, iv qc, iv nc, iv vc, iv tc, rv ca, iv kk, rv a_XML_1_1, rv b13, iv w18] [(.int kk), (.int w18)]) (fun _ z_ => XS.iload X19.here hx rfl (hb hby at_488) rfl z_) ?_
     refine own_g (own_F T19 m 493 #[iv i0, iv i1, iv i2, iv i3, iv i4, iv i5, iv v1, iv sl, iv att, iv sc, iv sb, iv sa, iv qc, iv nc, iv vc, iv tc, rv ca, iv kk, rv a_XML_1_1, rv b13, iv w18] []) (fun _ z_ => XS.icmpNo X19.here hx rfl (hb hby at_490) rfl (teq (own_wk hw18 hz3)).2 z_) ?_
     refine own_g (own_F T19 m 494 #[iv i0, iv i1, iv i2, iv i3, iv i4, iv i5, iv v1, iv sl, iv att, iv sc, iv sb, iv sa, iv qc, iv nc, iv vc, iv tc, rv ca, iv kk, rv a_XML_1_1, rv b13, iv w18] [(.int 1)]) (fun _ z_ => XS.iconst X19.here hx rfl (hb hby at_493) z_) ?_
     refine own_g (own_F T19 m 498 #[iv i0, iv i1, iv i2, iv i3, iv i4, iv i5, iv v1, iv sl, iv att, iv sc, iv sb, iv sa, iv qc, iv nc, iv vc, iv tc, rv ca, iv kk, rv a_XML_1_1, rv b13, iv w18] [(.int 1)]) (fun _ z_ => XS.goto X19.here hx rfl (pc0 := 494) (pc' := 498) rfl (hb hby at_494) (by decide) (by decide) z_) ?_
     refine own_ret (t := .boolean) X19 hx hlk hrt rfl (Or.inl ⟨rfl, by simp, _, rfl⟩) (hb hby at_498) (by decide) (by decide) ?_
     exact ⟨rfl, N19⟩
    ·
     have hs4 : own_skip (¬ v1 = (0 : Int32)) f 3 4 := Or.inr ⟨rfl, hl1, fun q => hl2 _ (Or.inl q)⟩
     have hs5 : own_skip (¬ v1 = (0 : Int32)) f (4 + 1) kp := own_skz hl3 (own_nsp61 hl4)
     have hs6 : own_skip (¬ v1 = (0 : Int32)) f (kp + 1) kq := own_skz hl5 (own_nspq hl6)
     have hd5 : own_dl (¬ v1 = (0 : Int32)) (f (4 + 1)) := by rcases hl3 with ⟨q, -⟩ | ⟨-, q⟩; subst q; exact Or.inr (Or.inr (Or.inr hl4)); exact Or.inl q
     refine own_callV (C := "com/example/cadmus/cadmus/Markup$StartTag") (y := (⟨"com/example/cadmus/cadmus/Markup$StartTag", "end", "()I"⟩ : MethodName)) (b := b13) X17 hx hZ hown (own_w hw 95) (own_w hw 96) (own_w hw 98) (own_w hw 97) (own_w hw 99) (own_w hw 10) (by decide) (rfl : T17.heap = T17.heap) ((((A13.keep K14).ext E15).keep K16).keep K17) (hM := own_end1 l Z a0 hw [] b13 b15 a_XML_1_1 a_XML_1_1 16 3 r17 16 zc f (¬ v1 = (0 : Int32)) sv hsv kz sl 4 kp kq 0 0 0 0 r17 T17.heap n0 (Nat.le_trans (Nat.le_trans (Nat.le_trans (Nat.le_trans (Nat.le_trans zs1 E13.1) K14.1) E15.1) K16.1) K17.1) hp17 rfl hzc hVq (own_Str.keepO Sx16 K17 (((A13.keep K14).ext E15).keep K16) (by decide) (own_w hw 9)) ((((((E_XML_1_1.keep K1).ext E13).keep K14).ext E15).keep K16).keep K17) (own_sta_keep (own_sta_keep ((own_sta_keep ((own_sta_keep S_XML_1_1 K1 all0).ext E13) K14 (allS (own_plainE A13) all0)).ext E15) K16 (allS (own_plainE A15) all0)) K17 (allS (own_plainE (((A13.keep K14).ext E15).keep K16)) all0)) (own_sta_keep (own_sta_keep ((own_sta_keep ((own_sta_keep S_cs K1 all0).ext E13) K14 (allS (own_plainE A13) all0)).ext E15) K16 (allS (own_plainE A15) all0)) K17 (allS (own_plainE (((A13.keep K14).ext E15).keep K16)) all0)) (own_sta_keep (own_sta_keep ((own_sta_keep ((own_sta_keep S_sf K1 all0).ext E13) K14 (allS (own_plainE A13) all0)).ext E15) K16 (allS (own_plainE A15) all0)) K17 (allS (own_plainE (((A13.keep K14).ext E15).keep K16)) all0)) (own_sta_keep (own_sta_keep ((own_sta_keep ((own_sta_keep S_ad K1 all0).ext E13) K14 (allS (own_plainE A13) all0)).ext E15) K16 (allS (own_plainE A15) all0)) K17 (allS (own_plainE (((A13.keep K14).ext E15).keep K16)) all0)) (own_sta_keep (own_sta_keep ((own_sta_keep ((own_sta_keep S_hi K1 all0).ext E13) K14 (allS (own_plainE A13) all0)).ext E15) K16 (allS (own_plainE A15) all0)) K17 (allS (own_plainE (((A13.keep K14).ext E15).keep K16)) all0)) (own_sta_keep (own_sta_keep ((own_sta_keep ((own_sta_keep S_lo K1 all0).ext E13) K14 (allS (own_plainE A13) all0)).ext E15) K16 (allS (own_plainE A15) all0)) K17 (allS (own_plainE (((A13.keep K14).ext E15).keep K16)) all0)) ((((A13.keep K14).ext E15).keep K16).keep K17) H17_0 H17_1 H17_2 H17_4 H17_5 H17_6 H17_7 H17_3 (by omega) (by omega) (by omega) hs4 (hl2 _) hd5 hs5 hs6 (own_q255 hl6) hl7 hl8 ge_b13 (by omega) (hl9 ▸ hskz) hce hro (by decide)) (W := 0) (pc := 471) (Ls := #[iv i0, iv i1, iv i2, iv i3, iv i4, iv i5, iv v1, iv sl, iv att, iv sc, iv sb, iv sa, iv qc, iv nc, iv vc, iv tc, rv ca, iv kk, rv a_XML_1_1, rv b13, .unset]) (argsL := []) (rest := []) (st0 := [(.ref b13)]) (by rw [hml]; rfl) (lenOf own_pd20 rfl) rfl (Nat.le_of_eq rfl) (hb hby at_471) (by decide) (by decide) (by decide) (by decide) ?_
     intro v20 T20 L20 s X20 hZ hown hI20 hvm20 hhp20 hWw20 hQ20
     obtain ⟨r20, ⟨w20, rfl, hw20⟩, hp20, Nq20, K20, H20_0, H20_1, H20_2⟩ := hQ20
     have N20 := Fr.app N17 Nq20
     show own_Ends p e below s _ _ _ (own_F T20 m 474 #[iv i0, iv i1, iv i2, iv i3, iv i4, iv i5, iv v1, iv sl, iv att, iv sc, iv sb, iv sa, iv qc, iv nc, iv vc, iv tc, rv ca, iv kk, rv a_XML_1_1, rv b13, .unset] [(.int w20)])
     refine own_g (own_F T20 m 476 #[iv i0, iv i1, iv i2, iv i3, iv i4, iv i5, iv v1, iv sl, iv att, iv sc, iv sb, iv sa, iv qc, iv nc, iv vc, iv tc, rv ca, iv kk, rv a_XML_1_1, rv b13, iv w20] []) (fun _ z_ => XS.istore X20.here hx rfl (hb hby at_474) rfl (l' := #[iv i0, iv i1, iv i2, iv i3, iv i4, iv i5, iv v1, iv sl, iv att, iv sc, iv sb, iv sa, iv qc, iv nc, iv vc, iv tc, rv ca, iv kk, rv a_XML_1_1, rv b13, iv w20]) rfl z_) ?_
     refine own_g (own_F T20 m 478 #[iv i0, iv i1, iv i2, iv i3, iv i4, iv i5, iv v1, iv sl, iv att, iv sc, iv sb, iv sa, iv qc, iv nc, iv vc, iv tc, rv ca, iv kk, rv a_XML_1_1, rv b13, iv w20] [(.ref b13)]) (fun _ z_ => XS.aload X20.here hx rfl (hb hby at_476) rfl rfl z_) ?_
     refine own_callV (C := "com/example/cadmus/cadmus/Markup$StartTag") (y := (⟨"com/example/cadmus/cadmus/Markup$StartTag", "empty", "()Z"⟩ : MethodName)) (b := b13) X20 hx hZ hown (own_w hw 124) (own_w hw 120) (own_w hw 122) (own_w hw 121) (own_w hw 123) (own_w hw 10) (by decide) (rfl : T20.heap = T20.heap) (((((A13.keep K14).ext E15).keep K16).keep K17).keep K20) (hM := own_emp l Z a0 hw [] b13 b15 a_XML_1_1 a_XML_1_1 16 kz r20 16 zc f (¬ v1 = (0 : Int32)) sv hsv sl T20.heap n0 (Nat.le_trans (Nat.le_trans (Nat.le_trans (Nat.le_trans (Nat.le_trans (Nat.le_trans zs1 E13.1) K14.1) E15.1) K16.1) K17.1) K20.1) hp20 rfl hzc hVq (own_Str.keepO (own_Str.keepO Sx16 K17 (((A13.keep K14).ext E15).keep K16) (by decide) (own_w hw 9)) K20 ((((A13.keep K14).ext E15).keep K16).keep K17) (by decide) (own_w hw 9)) (((((((E_XML_1_1.keep K1).ext E13).keep K14).ext E15).keep K16).keep K17).keep K20) (own_sta_keep (own_sta_keep (own_sta_keep ((own_sta_keep ((own_sta_keep S_XML_1_1 K1 all0).ext E13) K14 (allS (own_plainE A13) all0)).ext E15) K16 (allS (own_plainE A15) all0)) K17 (allS (own_plainE (((A13.keep K14).ext E15).keep K16)) all0)) K20 (allS (own_plainE ((((A13.keep K14).ext E15).keep K16).keep K17)) all0)) (own_sta_keep (own_sta_keep (own_sta_keep ((own_sta_keep ((own_sta_keep S_cs K1 all0).ext E13) K14 (allS (own_plainE A13) all0)).ext E15) K16 (allS (own_plainE A15) all0)) K17 (allS (own_plainE (((A13.keep K14).ext E15).keep K16)) all0)) K20 (allS (own_plainE ((((A13.keep K14).ext E15).keep K16).keep K17)) all0)) (own_sta_keep (own_sta_keep (own_sta_keep ((own_sta_keep ((own_sta_keep S_sf K1 all0).ext E13) K14 (allS (own_plainE A13) all0)).ext E15) K16 (allS (own_plainE A15) all0)) K17 (allS (own_plainE (((A13.keep K14).ext E15).keep K16)) all0)) K20 (allS (own_plainE ((((A13.keep K14).ext E15).keep K16).keep K17)) all0)) (own_sta_keep (own_sta_keep (own_sta_keep ((own_sta_keep ((own_sta_keep S_ad K1 all0).ext E13) K14 (allS (own_plainE A13) all0)).ext E15) K16 (allS (own_plainE A15) all0)) K17 (allS (own_plainE (((A13.keep K14).ext E15).keep K16)) all0)) K20 (allS (own_plainE ((((A13.keep K14).ext E15).keep K16).keep K17)) all0)) (own_sta_keep (own_sta_keep (own_sta_keep ((own_sta_keep ((own_sta_keep S_hi K1 all0).ext E13) K14 (allS (own_plainE A13) all0)).ext E15) K16 (allS (own_plainE A15) all0)) K17 (allS (own_plainE (((A13.keep K14).ext E15).keep K16)) all0)) K20 (allS (own_plainE ((((A13.keep K14).ext E15).keep K16).keep K17)) all0)) (own_sta_keep (own_sta_keep (own_sta_keep ((own_sta_keep ((own_sta_keep S_lo K1 all0).ext E13) K14 (allS (own_plainE A13) all0)).ext E15) K16 (allS (own_plainE A15) all0)) K17 (allS (own_plainE (((A13.keep K14).ext E15).keep K16)) all0)) K20 (allS (own_plainE ((((A13.keep K14).ext E15).keep K16).keep K17)) all0)) (((((A13.keep K14).ext E15).keep K16).keep K17).keep K20) H20_0 H20_1 H20_2 (by omega) ge_b13 hro) (W := 0) (pc := 478) (Ls := #[iv i0, iv i1, iv i2, iv i3, iv i4, iv i5, iv v1, iv sl, iv att, iv sc, iv sb, iv sa, iv qc, iv nc, iv vc, iv tc, rv ca, iv kk, rv a_XML_1_1, rv b13, iv w20]) (argsL := []) (rest := []) (st0 := [(.ref b13)]) (by rw [hml]; rfl) (lenOf own_pd12 rfl) rfl (Nat.le_of_eq rfl) (hb hby at_478) (by decide) (by decide) (by decide) (by decide) ?_
     intro v21 T21 L21 s X21 hZ hown hI21 hvm21 hhp21 hWw21 hQ21
     obtain ⟨rfl, Nq21, hh21⟩ := hQ21
     have N21 := Fr.app N20 Nq21
     show own_Ends p e below s _ _ _ (own_F T21 m 481 #[iv i0, iv i1, iv i2, iv i3, iv i4, iv i5, iv v1, iv sl, iv att, iv sc, iv sb, iv sa, iv qc, iv nc, iv vc, iv tc, rv ca, iv kk, rv a_XML_1_1, rv b13, iv w20] [(.int sl)])
     refine own_g (own_F T21 m 483 #[iv i0, iv i1, iv i2, iv i3, iv i4, iv i5, iv v1, iv sl, iv att, iv sc, iv sb, iv sa, iv qc, iv nc, iv vc, iv tc, rv ca, iv kk, rv a_XML_1_1, rv b13, iv w20] [(.int sl), (.int sl)]) (fun _ z_ => XS.iload X21.here hx rfl (hb hby at_481) rfl z_) ?_
     refine own_g (own_F T21 m 486 #[iv i0, iv i1, iv i2, iv i3, iv i4, iv i5, iv v1, iv sl, iv att, iv sc, iv sb, iv sa, iv qc, iv nc, iv vc, iv tc, rv ca, iv kk, rv a_XML_1_1, rv b13, iv w20] []) (fun _ z_ => XS.icmpNo X21.here hx rfl (hb hby at_483) rfl (teq (rfl : sl = sl)).2 z_) ?_
     refine own_g (own_F T21 m 488 #[iv i0, iv i1, iv i2, iv i3, iv i4, iv i5, iv v1, iv sl, iv att, iv sc, iv sb, iv sa, iv qc, iv nc, iv vc, iv tc, rv ca, iv kk, rv a_XML_1_1, rv b13, iv w20] [(.int w20)]) (fun _ z_ => XS.iload X21.here hx rfl (hb hby at_486) rfl z_) ?_
     refine own_g (own_F T21 m 490 #[iv i0, iv i1, iv i2, iv i3, iv i4, iv i5, iv v1, iv sl, iv att, iv sc, iv sb, iv sa, iv qc, iv nc, iv vc, iv tc, rv ca, iv kk, rv a_XML_1_1, rv b13, iv w20] [(.int kk), (.int w20)]) (fun _ z_ => XS.iload X21.here hx rfl (hb hby at_488) rfl z_) ?_
     refine own_g (own_F T21 m 493 #[iv i0, iv i1, iv i2, iv i3, iv i4, iv i5, iv v1, iv sl, iv att, iv sc, iv sb, iv sa, iv qc, iv nc, iv vc, iv tc, rv ca, iv kk, rv a_XML_1_1, rv b13, iv w20] []) (fun _ z_ => XS.icmpNo X21.here hx rfl (hb hby at_490) rfl (teq (own_wk hw20 hz3)).2 z_) ?_
     refine own_g (own_F T21 m 494 #[iv i0, iv i1, iv i2, iv i3, iv i4, iv i5, iv v1, iv sl, iv att, iv sc, iv sb, iv sa, iv qc, iv nc, iv vc, iv tc, rv ca, iv kk, rv a_XML_1_1, rv b13, iv w20] [(.int 1)]) (fun _ z_ => XS.iconst X21.here hx rfl (hb hby at_493) z_) ?_
     refine own_g (own_F T21 m 498 #[iv i0, iv i1, iv i2, iv i3, iv i4, iv i5, iv v1, iv sl, iv att, iv sc, iv sb, iv sa, iv qc, iv nc, iv vc, iv tc, rv ca, iv kk, rv a_XML_1_1, rv b13, iv w20] [(.int 1)]) (fun _ z_ => XS.goto X21.here hx rfl (pc0 := 494) (pc' := 498) rfl (hb hby at_494) (by decide) (by decide) z_) ?_
     refine own_ret (t := .boolean) X21 hx hlk hrt rfl (Or.inl ⟨rfl, by simp, _, rfl⟩) (hb hby at_498) (by decide) (by decide) ?_
     exact ⟨rfl, N21⟩
  have J241 : ∀ (ca : Addr) (f : Nat → Int32) (v1 : Int32) (sl : Int32) (qc : Int32) (nc : Int32) (vc : Int32) (tc : Int32) (att : Int32) (sc : Int32) (sb : Int32) (sa : Int32) (T22 : State) (lc22 : List Loc) (hp22 : Heap) (s : State) (hZ : Z.Warmed39 s.vm) (hown : s.vm.findClass "com/example/cadmus/cadmus/StartTagEmptyPinLaw" = some m.cls) (X22 : Stand p l e room_1 s m #[(.int i0), (.int i1), (.int i2), (.int i3), (.int i4), (.int i5)] below meth c T22 lc22 1 16) (e22 : T22.heap = hp22) (N22 : Fr n0 lc22) (zs22 : n0 ≤ hp22.size) (zz22 : h0.size ≤ hp22.size) (K22 : Keep h0 hp22 []) (f22_0 : own_A Z hp22 ca .char 16 (fun i => .int (f i))) (hf : ∀ i, i < 16 → 0 ≤ (f i).toInt ∧ (f i).toInt ≤ 65535) (ga : n0 ≤ ca) (za : h0.size ≤ ca) (hq : qc = (34 : Int32) ∨ qc = (39 : Int32)) (hnc : ∀ V : Prop, ¬ own_dl V nc) (rnc : 0 ≤ nc.toInt ∧ nc.toInt ≤ 65535) (hvc : ¬ vc = qc) (rvc : 0 ≤ vc.toInt ∧ vc.toInt ≤ 65535) (h_v1 : v1 = 0 ∨ v1 = 1) (h_sl : sl = 0 ∨ sl = 1) (h_att : att = 0 ∨ att = 1) (h_sc : sc = 0 ∨ sc = 1) (h_sb : sb = 0 ∨ sb = 1) (h_sa : sa = 0 ∨ sa = 1), own_Ends p e below s ((fun v h L _ => v = some (.int 1) ∧ Fr n0 L), []) room_1.cells room_1.slots (own_F T22 m 241 #[iv i0, iv i1, iv i2, iv i3, iv i4, iv i5, iv v1, iv sl, iv att, iv sc, iv sb, iv sa, iv qc, iv nc, iv vc, iv tc, rv ca, .unset, .unset, .unset, .unset] []) := by
   intro ca f v1 sl qc nc vc tc att sc sb sa T22 lc22 hp22 s hZ hown X22 e22 N22 zs22 zz22 K22 f22_0 hf ga za hq hnc rnc hvc rvc h_v1 h_sl h_att h_sc h_sb h_sa
   have sz_ca := za
   have rqc : 0 ≤ qc.toInt ∧ qc.toInt ≤ 65535 := by rcases hq with rfl | rfl <;> decide
   refine own_g (own_F T22 m 243 #[iv i0, iv i1, iv i2, iv i3, iv i4, iv i5, iv v1, iv sl, iv att, iv sc, iv sb, iv sa, iv qc, iv nc, iv vc, iv tc, rv ca, .unset, .unset, .unset, .unset] [(.ref ca)]) (fun _ z_ => XS.aload X22.here hx rfl (hb hby at_241) rfl rfl z_) ?_
   refine own_g (own_F T22 m 244 #[iv i0, iv i1, iv i2, iv i3, iv i4, iv i5, iv v1, iv sl, iv att, iv sc, iv sb, iv sa, iv qc, iv nc, iv vc, iv tc, rv ca, .unset, .unset, .unset, .unset] [(.int 0), (.ref ca)]) (fun _ z_ => XS.iconst X22.here hx rfl (hb hby at_243) z_) ?_
   refine own_g (own_F T22 m 246 #[iv i0, iv i1, iv i2, iv i3, iv i4, iv i5, iv v1, iv sl, iv att, iv sc, iv sb, iv sa, iv qc, iv nc, iv vc, iv tc, rv ca, .unset, .unset, .unset, .unset] [(.int i5), (.int 0), (.ref ca)]) (fun _ z_ => XS.iload X22.here hx rfl (hb hby at_244) rfl z_) ?_
   refine own_g (own_F T22 m 249 #[iv i0, iv i1, iv i2, iv i3, iv i4, iv i5, iv v1, iv sl, iv att, iv sc, iv sb, iv sa, iv qc, iv nc, iv vc, iv tc, rv ca, .unset, .unset, .unset, .unset] [(.int 255), (.int i5), (.int 0), (.ref ca)]) (fun _ z_ => XS.sipush X22.here hx rfl (hb hby at_246) z_) ?_
   refine own_g (own_F T22 m 250 #[iv i0, iv i1, iv i2, iv i3, iv i4, iv i5, iv v1, iv sl, iv att, iv sc, iv sb, iv sa, iv qc, iv nc, iv vc, iv tc, rv ca, .unset, .unset, .unset, .unset] [(.int (i5 &&& (255 : Int32))), (.int 0), (.ref ca)]) (fun _ z_ => XS.iand X22.here hx rfl (hb hby at_249) rfl z_) ?_
   refine own_g (own_F T22 m 251 #[iv i0, iv i1, iv i2, iv i3, iv i4, iv i5, iv v1, iv sl, iv att, iv sc, iv sb, iv sa, iv qc, iv nc, iv vc, iv tc, rv ca, .unset, .unset, .unset, .unset] [(.int ((i5 &&& (255 : Int32)).toUInt32.toUInt16.toUInt32.toInt32)), (.int 0), (.ref ca)]) (fun _ z_ => XS.i2c X22.here hx rfl (hb hby at_250) rfl z_) ?_
   refine own_cast X22 hx hZ e22 f22_0 0 rfl (by decide) ((i5 &&& (255 : Int32)).toUInt32.toUInt16.toUInt32.toInt32) (own_narI' _) (hb hby at_251) ?_
   intro T23 h23 X23 e23 W23 A23
   have N23 := Fr.snoc X23 N22 ga
   obtain ⟨g23, hg23⟩ : ∃ gq_ : Nat → Int32, gq_ = fun q_ => if q_ = 0 then ((i5 &&& (255 : Int32)).toUInt32.toUInt16.toUInt32.toInt32) else f q_ := ⟨_, rfl⟩
   have A23 : own_A Z h23 ca .char 16 (fun q_ => .int (g23 q_)) := by rw [hg23]; exact A23
   show own_Ends p e below s _ _ _ (own_F T23 m 252 #[iv i0, iv i1, iv i2, iv i3, iv i4, iv i5, iv v1, iv sl, iv att, iv sc, iv sb, iv sa, iv qc, iv nc, iv vc, iv tc, rv ca, .unset, .unset, .unset, .unset] [])
   have hfg23 := own_rng hf (own_i2cr _) hg23
   refine own_g (own_F T23 m 254 #[iv i0, iv i1, iv i2, iv i3, iv i4, iv i5, iv v1, iv sl, iv att, iv sc, iv sb, iv sa, iv qc, iv nc, iv vc, iv tc, rv ca, .unset, .unset, .unset, .unset] [(.ref ca)]) (fun _ z_ => XS.aload X23.here hx rfl (hb hby at_252) rfl rfl z_) ?_
   refine own_g (own_F T23 m 255 #[iv i0, iv i1, iv i2, iv i3, iv i4, iv i5, iv v1, iv sl, iv att, iv sc, iv sb, iv sa, iv qc, iv nc, iv vc, iv tc, rv ca, .unset, .unset, .unset, .unset] [(.int 1), (.ref ca)]) (fun _ z_ => XS.iconst X23.here hx rfl (hb hby at_254) z_) ?_
   refine own_g (own_F T23 m 257 #[iv i0, iv i1, iv i2, iv i3, iv i4, iv i5, iv v1, iv sl, iv att, iv sc, iv sb, iv sa, iv qc, iv nc, iv vc, iv tc, rv ca, .unset, .unset, .unset, .unset] [(.int 60), (.int 1), (.ref ca)]) (fun _ z_ => XS.bipush X23.here hx rfl (hb hby at_255) z_) ?_
   refine own_cast X23 hx hZ e23 A23 1 rfl (by decide) (60 : Int32) rfl (hb hby at_257) ?_
   intro T24 h24 X24 e24 W24 A24
   have N24 := Fr.snoc X24 N23 ga
   obtain ⟨g24, hg24⟩ : ∃ gq_ : Nat → Int32, gq_ = fun q_ => if q_ = 1 then (60 : Int32) else g23 q_ := ⟨_, rfl⟩
   have A24 : own_A Z h24 ca .char 16 (fun q_ => .int (g24 q_)) := by rw [hg24]; exact A24
   show own_Ends p e below s _ _ _ (own_F T24 m 258 #[iv i0, iv i1, iv i2, iv i3, iv i4, iv i5, iv v1, iv sl, iv att, iv sc, iv sb, iv sa, iv qc, iv nc, iv vc, iv tc, rv ca, .unset, .unset, .unset, .unset] [])
   have hfg24 := own_rng hfg23 (by decide) hg24
   refine own_g (own_F T24 m 260 #[iv i0, iv i1, iv i2, iv i3, iv i4, iv i5, iv v1, iv sl, iv att, iv sc, iv sb, iv sa, iv qc, iv nc, iv vc, iv tc, rv ca, .unset, .unset, .unset, .unset] [(.ref ca)]) (fun _ z_ => XS.aload X24.here hx rfl (hb hby at_258) rfl rfl z_) ?_
   refine own_g (own_F T24 m 261 #[iv i0, iv i1, iv i2, iv i3, iv i4, iv i5, iv v1, iv sl, iv att, iv sc, iv sb, iv sa, iv qc, iv nc, iv vc, iv tc, rv ca, .unset, .unset, .unset, .unset] [(.int 2), (.ref ca)]) (fun _ z_ => XS.iconst X24.here hx rfl (hb hby at_260) z_) ?_
   refine own_g (own_F T24 m 263 #[iv i0, iv i1, iv i2, iv i3, iv i4, iv i5, iv v1, iv sl, iv att, iv sc, iv sb, iv sa, iv qc, iv nc, iv vc, iv tc, rv ca, .unset, .unset, .unset, .unset] [(.int nc), (.int 2), (.ref ca)]) (fun _ z_ => XS.iload X24.here hx rfl (hb hby at_261) rfl z_) ?_
   refine own_cast X24 hx hZ e24 A24 2 rfl (by decide) nc (own_narC rnc) (hb hby at_263) ?_
   intro T25 h25 X25 e25 W25 A25
   have N25 := Fr.snoc X25 N24 ga
   obtain ⟨g25, hg25⟩ : ∃ gq_ : Nat → Int32, gq_ = fun q_ => if q_ = 2 then nc else g24 q_ := ⟨_, rfl⟩
   have A25 : own_A Z h25 ca .char 16 (fun q_ => .int (g25 q_)) := by rw [hg25]; exact A25
   show own_Ends p e below s _ _ _ (own_F T25 m 264 #[iv i0, iv i1, iv i2, iv i3, iv i4, iv i5, iv v1, iv sl, iv att, iv sc, iv sb, iv sa, iv qc, iv nc, iv vc, iv tc, rv ca, .unset, .unset, .unset, .unset] [])
   have hfg25 := own_rng hfg24 rnc hg25
   refine own_g (own_F T25 m 265 #[iv i0, iv i1, iv i2, iv i3, iv i4, iv i5, iv v1, iv sl, iv att, iv sc, iv sb, iv sa, iv qc, iv nc, iv vc, iv tc, rv ca, .unset, .unset, .unset, .unset] [(.int 3)]) (fun _ z_ => XS.iconst X25.here hx rfl (hb hby at_264) z_) ?_
   refine own_g (own_F T25 m 267 #[iv i0, iv i1, iv i2, iv i3, iv i4, iv i5, iv v1, iv sl, iv att, iv sc, iv sb, iv sa, iv qc, iv nc, iv vc, iv tc, rv ca, iv 3, .unset, .unset, .unset] []) (fun _ z_ => XS.istore X25.here hx rfl (hb hby at_265) rfl (l' := #[iv i0, iv i1, iv i2, iv i3, iv i4, iv i5, iv v1, iv sl, iv att, iv sc, iv sb, iv sa, iv qc, iv nc, iv vc, iv tc, rv ca, iv 3, .unset, .unset, .unset]) rfl z_) ?_
   refine own_g (own_F T25 m 269 #[iv i0, iv i1, iv i2, iv i3, iv i4, iv i5, iv v1, iv sl, iv att, iv sc, iv sb, iv sa, iv qc, iv nc, iv vc, iv tc, rv ca, iv 3, .unset, .unset, .unset] [(.int att)]) (fun _ z_ => XS.iload X25.here hx rfl (hb hby at_267) rfl z_) ?_
   by_cases c269 : att = (0 : Int32)
   · -- pc 269: att = (0 : Int32)
    refine own_g (own_F T25 m 379 #[iv i0, iv i1, iv i2, iv i3, iv i4, iv i5, iv v1, iv sl, iv att, iv sc, iv sb, iv sa, iv qc, iv nc, iv vc, iv tc, rv ca, iv 3, .unset, .unset, .unset] []) (fun _ z_ => XS.ifYes X25.here hx rfl (pc0 := 269) (pc' := 379) rfl (hb hby at_269) rfl ((if0 _ _).trans (teq c269).1) (by decide) (by decide) z_) ?_
    refine own_g (own_F T25 m 381 #[iv i0, iv i1, iv i2, iv i3, iv i4, iv i5, iv v1, iv sl, iv att, iv sc, iv sb, iv sa, iv qc, iv nc, iv vc, iv tc, rv ca, iv 3, .unset, .unset, .unset] [(.int sc)]) (fun _ z_ => XS.iload X25.here hx rfl (hb hby at_379) rfl z_) ?_
    by_cases c381 : sc = (0 : Int32)
    · -- pc 381: sc = (0 : Int32)
     refine own_g (own_F T25 m 401 #[iv i0, iv i1, iv i2, iv i3, iv i4, iv i5, iv v1, iv sl, iv att, iv sc, iv sb, iv sa, iv qc, iv nc, iv vc, iv tc, rv ca, iv 3, .unset, .unset, .unset] []) (fun _ z_ => XS.ifYes X25.here hx rfl (pc0 := 381) (pc' := 401) rfl (hb hby at_381) rfl ((if0 _ _).trans (teq c381).1) (by decide) (by decide) z_) ?_
     refine own_g (own_F T25 m 403 #[iv i0, iv i1, iv i2, iv i3, iv i4, iv i5, iv v1, iv sl, iv att, iv sc, iv sb, iv sa, iv qc, iv nc, iv vc, iv tc, rv ca, iv 3, .unset, .unset, .unset] [(.int sl)]) (fun _ z_ => XS.iload X25.here hx rfl (hb hby at_401) rfl z_) ?_
     by_cases c403 : sl = (0 : Int32)
     · -- pc 403: sl = (0 : Int32)
      refine own_g (own_F T25 m 416 #[iv i0, iv i1, iv i2, iv i3, iv i4, iv i5, iv v1, iv sl, iv att, iv sc, iv sb, iv sa, iv qc, iv nc, iv vc, iv tc, rv ca, iv 3, .unset, .unset, .unset] []) (fun _ z_ => XS.ifYes X25.here hx rfl (pc0 := 403) (pc' := 416) rfl (hb hby at_403) rfl ((if0 _ _).trans (teq c403).1) (by decide) (by decide) z_) ?_
      refine own_g (own_F T25 m 418 #[iv i0, iv i1, iv i2, iv i3, iv i4, iv i5, iv v1, iv sl, iv att, iv sc, iv sb, iv sa, iv qc, iv nc, iv vc, iv tc, rv ca, iv 3, .unset, .unset, .unset] [(.ref ca)]) (fun _ z_ => XS.aload X25.here hx rfl (hb hby at_416) rfl rfl z_) ?_
      refine own_g (own_F T25 m 420 #[iv i0, iv i1, iv i2, iv i3, iv i4, iv i5, iv v1, iv sl, iv att, iv sc, iv sb, iv sa, iv qc, iv nc, iv vc, iv tc, rv ca, iv 3, .unset, .unset, .unset] [(.int 3), (.ref ca)]) (fun _ z_ => XS.iload X25.here hx rfl (hb hby at_418) rfl z_) ?_
      refine own_g (own_F T25 m 422 #[iv i0, iv i1, iv i2, iv i3, iv i4, iv i5, iv v1, iv sl, iv att, iv sc, iv sb, iv sa, iv qc, iv nc, iv vc, iv tc, rv ca, iv 3, .unset, .unset, .unset] [(.int 62), (.int 3), (.ref ca)]) (fun _ z_ => XS.bipush X25.here hx rfl (hb hby at_420) z_) ?_
      refine own_cast X25 hx hZ e25 A25 3 rfl (by decide) (62 : Int32) rfl (hb hby at_422) ?_
      intro T26 h26 X26 e26 W26 A26
      have N26 := Fr.snoc X26 N25 ga
      obtain ⟨g26, hg26⟩ : ∃ gq_ : Nat → Int32, gq_ = fun q_ => if q_ = 3 then (62 : Int32) else g25 q_ := ⟨_, rfl⟩
      have A26 : own_A Z h26 ca .char 16 (fun q_ => .int (g26 q_)) := by rw [hg26]; exact A26
      show own_Ends p e below s _ _ _ (own_F T26 m 423 #[iv i0, iv i1, iv i2, iv i3, iv i4, iv i5, iv v1, iv sl, iv att, iv sc, iv sb, iv sa, iv qc, iv nc, iv vc, iv tc, rv ca, iv 3, .unset, .unset, .unset] [])
      have hfg26 := own_rng hfg25 (by decide) hg26
      refine own_g (own_F T26 m 426 #[iv i0, iv i1, iv i2, iv i3, iv i4, iv i5, iv v1, iv sl, iv att, iv sc, iv sb, iv sa, iv qc, iv nc, iv vc, iv tc, rv ca, iv 4, .unset, .unset, .unset] []) (fun _ z_ => XS.iinc X26.here hx rfl (hb hby at_423) rfl (l' := #[iv i0, iv i1, iv i2, iv i3, iv i4, iv i5, iv v1, iv sl, iv att, iv sc, iv sb, iv sa, iv qc, iv nc, iv vc, iv tc, rv ca, iv 4, .unset, .unset, .unset]) rfl z_) ?_
      have e2 : g26 2 = nc := by simp only [hg26, hg25, hg24, hg23]; rfl
      have e3 : g26 3 = (62 : Int32) := by simp only [hg26, hg25, hg24, hg23]; rfl
      exact J426 ca g26 (4 : Int32) 3 3 0 0 v1 sl qc nc vc tc att sc sb sa T26 _ _ s hZ hown X26 e26 N26 (Nat.le_trans (Nat.le_trans (Nat.le_trans (Nat.le_trans zs22 (Nat.le_of_eq W23.size.symm)) (Nat.le_of_eq W24.size.symm)) (Nat.le_of_eq W25.size.symm)) (Nat.le_of_eq W26.size.symm)) (Nat.le_trans (Nat.le_trans (Nat.le_trans (Nat.le_trans zz22 (Nat.le_of_eq W23.size.symm)) (Nat.le_of_eq W24.size.symm)) (Nat.le_of_eq W25.size.symm)) (Nat.le_of_eq W26.size.symm)) ((((K22.wr W23 (Or.inr sz_ca)).wr W24 (Or.inr sz_ca)).wr W25 (Or.inr sz_ca)).wr W26 (Or.inr sz_ca)) A26 hfg26 ga za (by rw [e2]; exact hnc) (Or.inl ⟨rfl, rfl⟩) ⟨Or.inl ⟨rfl, trivial⟩, by decide, Or.inr ⟨c403, e3, rfl⟩⟩
     · -- pc 403: not sl = (0 : Int32)
      refine own_g (own_F T25 m 406 #[iv i0, iv i1, iv i2, iv i3, iv i4, iv i5, iv v1, iv sl, iv att, iv sc, iv sb, iv sa, iv qc, iv nc, iv vc, iv tc, rv ca, iv 3, .unset, .unset, .unset] []) (fun _ z_ => XS.ifNo X25.here hx rfl (hb hby at_403) rfl ((if0 _ _).trans (feq c403).1) z_) ?_
      refine own_g (own_F T25 m 408 #[iv i0, iv i1, iv i2, iv i3, iv i4, iv i5, iv v1, iv sl, iv att, iv sc, iv sb, iv sa, iv qc, iv nc, iv vc, iv tc, rv ca, iv 3, .unset, .unset, .unset] [(.ref ca)]) (fun _ z_ => XS.aload X25.here hx rfl (hb hby at_406) rfl rfl z_) ?_
      refine own_g (own_F T25 m 410 #[iv i0, iv i1, iv i2, iv i3, iv i4, iv i5, iv v1, iv sl, iv att, iv sc, iv sb, iv sa, iv qc, iv nc, iv vc, iv tc, rv ca, iv 3, .unset, .unset, .unset] [(.int 3), (.ref ca)]) (fun _ z_ => XS.iload X25.here hx rfl (hb hby at_408) rfl z_) ?_
      refine own_g (own_F T25 m 412 #[iv i0, iv i1, iv i2, iv i3, iv i4, iv i5, iv v1, iv sl, iv att, iv sc, iv sb, iv sa, iv qc, iv nc, iv vc, iv tc, rv ca, iv 3, .unset, .unset, .unset] [(.int 47), (.int 3), (.ref ca)]) (fun _ z_ => XS.bipush X25.here hx rfl (hb hby at_410) z_) ?_
      refine own_cast X25 hx hZ e25 A25 3 rfl (by decide) (47 : Int32) rfl (hb hby at_412) ?_
      intro T27 h27 X27 e27 W27 A27
      have N27 := Fr.snoc X27 N25 ga
      obtain ⟨g27, hg27⟩ : ∃ gq_ : Nat → Int32, gq_ = fun q_ => if q_ = 3 then (47 : Int32) else g25 q_ := ⟨_, rfl⟩
      have A27 : own_A Z h27 ca .char 16 (fun q_ => .int (g27 q_)) := by rw [hg27]; exact A27
      show own_Ends p e below s _ _ _ (own_F T27 m 413 #[iv i0, iv i1, iv i2, iv i3, iv i4, iv i5, iv v1, iv sl, iv att, iv sc, iv sb, iv sa, iv qc, iv nc, iv vc, iv tc, rv ca, iv 3, .unset, .unset, .unset] [])
      have hfg27 := own_rng hfg25 (by decide) hg27
      refine own_g (own_F T27 m 416 #[iv i0, iv i1, iv i2, iv i3, iv i4, iv i5, iv v1, iv sl, iv att, iv sc, iv sb, iv sa, iv qc, iv nc, iv vc, iv tc, rv ca, iv 4, .unset, .unset, .unset] []) (fun _ z_ => XS.iinc X27.here hx rfl (hb hby at_413) rfl (l' := #[iv i0, iv i1, iv i2, iv i3, iv i4, iv i5, iv v1, iv sl, iv att, iv sc, iv sb, iv sa, iv qc, iv nc, iv vc, iv tc, rv ca, iv 4, .unset, .unset, .unset]) rfl z_) ?_
      refine own_g (own_F T27 m 418 #[iv i0, iv i1, iv i2, iv i3, iv i4, iv i5, iv v1, iv sl, iv att, iv sc, iv sb, iv sa, iv qc, iv nc, iv vc, iv tc, rv ca, iv 4, .unset, .unset, .unset] [(.ref ca)]) (fun _ z_ => XS.aload X27.here hx rfl (hb hby at_416) rfl rfl z_) ?_
      refine own_g (own_F T27 m 420 #[iv i0, iv i1, iv i2, iv i3, iv i4, iv i5, iv v1, iv sl, iv att, iv sc, iv sb, iv sa, iv qc, iv nc, iv vc, iv tc, rv ca, iv 4, .unset, .unset, .unset] [(.int 4), (.ref ca)]) (fun _ z_ => XS.iload X27.here hx rfl (hb hby at_418) rfl z_) ?_
      refine own_g (own_F T27 m 422 #[iv i0, iv i1, iv i2, iv i3, iv i4, iv i5, iv v1, iv sl, iv att, iv sc, iv sb, iv sa, iv qc, iv nc, iv vc, iv tc, rv ca, iv 4, .unset, .unset, .unset] [(.int 62), (.int 4), (.ref ca)]) (fun _ z_ => XS.bipush X27.here hx rfl (hb hby at_420) z_) ?_
      refine own_cast X27 hx hZ e27 A27 4 rfl (by decide) (62 : Int32) rfl (hb hby at_422) ?_
      intro T28 h28 X28 e28 W28 A28
      have N28 := Fr.snoc X28 N27 ga
      obtain ⟨g28, hg28⟩ : ∃ gq_ : Nat → Int32, gq_ = fun q_ => if q_ = 4 then (62 : Int32) else g27 q_ := ⟨_, rfl⟩
      have A28 : own_A Z h28 ca .char 16 (fun q_ => .int (g28 q_)) := by rw [hg28]; exact A28
      show own_Ends p e below s _ _ _ (own_F T28 m 423 #[iv i0, iv i1, iv i2, iv i3, iv i4, iv i5, iv v1, iv sl, iv att, iv sc, iv sb, iv sa, iv qc, iv nc, iv vc, iv tc, rv ca, iv 4, .unset, .unset, .unset] [])
      have hfg28 := own_rng hfg27 (by decide) hg28
      refine own_g (own_F T28 m 426 #[iv i0, iv i1, iv i2, iv i3, iv i4, iv i5, iv v1, iv sl, iv att, iv sc, iv sb, iv sa, iv qc, iv nc, iv vc, iv tc, rv ca, iv 5, .unset, .unset, .unset] []) (fun _ z_ => XS.iinc X28.here hx rfl (hb hby at_423) rfl (l' := #[iv i0, iv i1, iv i2, iv i3, iv i4, iv i5, iv v1, iv sl, iv att, iv sc, iv sb, iv sa, iv qc, iv nc, iv vc, iv tc, rv ca, iv 5, .unset, .unset, .unset]) rfl z_) ?_
      have e2 : g28 2 = nc := by simp only [hg28, hg27, hg25, hg24, hg23]; rfl
      have e3 : g28 3 = (47 : Int32) := by simp only [hg28, hg27, hg25, hg24, hg23]; rfl
      have e4 : g28 4 = (62 : Int32) := by simp only [hg28, hg27, hg25, hg24, hg23]; rfl
      exact J426 ca g28 (5 : Int32) 3 3 0 0 v1 sl qc nc vc tc att sc sb sa T28 _ _ s hZ hown X28 e28 N28 (Nat.le_trans (Nat.le_trans (Nat.le_trans (Nat.le_trans (Nat.le_trans zs22 (Nat.le_of_eq W23.size.symm)) (Nat.le_of_eq W24.size.symm)) (Nat.le_of_eq W25.size.symm)) (Nat.le_of_eq W27.size.symm)) (Nat.le_of_eq W28.size.symm)) (Nat.le_trans (Nat.le_trans (Nat.le_trans (Nat.le_trans (Nat.le_trans zz22 (Nat.le_of_eq W23.size.symm)) (Nat.le_of_eq W24.size.symm)) (Nat.le_of_eq W25.size.symm)) (Nat.le_of_eq W27.size.symm)) (Nat.le_of_eq W28.size.symm)) (((((K22.wr W23 (Or.inr sz_ca)).wr W24 (Or.inr sz_ca)).wr W25 (Or.inr sz_ca)).wr W27 (Or.inr sz_ca)).wr W28 (Or.inr sz_ca)) A28 hfg28 ga za (by rw [e2]; exact hnc) (Or.inl ⟨rfl, rfl⟩) ⟨Or.inl ⟨rfl, trivial⟩, by decide, Or.inl ⟨(h_sl.resolve_left c403), e3, rfl⟩⟩
    · -- pc 381: not sc = (0 : Int32)
     refine own_g (own_F T25 m 384 #[iv i0, iv i1, iv i2, iv i3, iv i4, iv i5, iv v1, iv sl, iv att, iv sc, iv sb, iv sa, iv qc, iv nc, iv vc, iv tc, rv ca, iv 3, .unset, .unset, .unset] []) (fun _ z_ => XS.ifNo X25.here hx rfl (hb hby at_381) rfl ((if0 _ _).trans (feq c381).1) z_) ?_
     refine own_g (own_F T25 m 386 #[iv i0, iv i1, iv i2, iv i3, iv i4, iv i5, iv v1, iv sl, iv att, iv sc, iv sb, iv sa, iv qc, iv nc, iv vc, iv tc, rv ca, iv 3, .unset, .unset, .unset] [(.ref ca)]) (fun _ z_ => XS.aload X25.here hx rfl (hb hby at_384) rfl rfl z_) ?_
     refine own_g (own_F T25 m 388 #[iv i0, iv i1, iv i2, iv i3, iv i4, iv i5, iv v1, iv sl, iv att, iv sc, iv sb, iv sa, iv qc, iv nc, iv vc, iv tc, rv ca, iv 3, .unset, .unset, .unset] [(.int 3), (.ref ca)]) (fun _ z_ => XS.iload X25.here hx rfl (hb hby at_386) rfl z_) ?_
     refine own_g (own_F T25 m 389 #[iv i0, iv i1, iv i2, iv i3, iv i4, iv i5, iv v1, iv sl, iv att, iv sc, iv sb, iv sa, iv qc, iv nc, iv vc, iv tc, rv ca, iv 3, .unset, .unset, .unset] [(.int i3), (.int 3), (.ref ca)]) (fun _ z_ => XS.iloadN X25.here hx rfl (hb hby at_388) rfl z_) ?_
     refine own_g (own_F T25 m 391 #[iv i0, iv i1, iv i2, iv i3, iv i4, iv i5, iv v1, iv sl, iv att, iv sc, iv sb, iv sa, iv qc, iv nc, iv vc, iv tc, rv ca, iv 3, .unset, .unset, .unset] [(.int 9), (.int i3), (.int 3), (.ref ca)]) (fun _ z_ => XS.bipush X25.here hx rfl (hb hby at_389) z_) ?_
     refine own_g (own_F T25 m 392 #[iv i0, iv i1, iv i2, iv i3, iv i4, iv i5, iv v1, iv sl, iv att, iv sc, iv sb, iv sa, iv qc, iv nc, iv vc, iv tc, rv ca, iv 3, .unset, .unset, .unset] [(.int ((i3.toUInt32 >>> ((9 : Int32) &&& 31).toUInt32).toInt32)), (.int 3), (.ref ca)]) (fun _ z_ => XS.iushr X25.here hx rfl (hb hby at_391) rfl z_) ?_
     refine own_g (own_F T25 m 394 #[iv i0, iv i1, iv i2, iv i3, iv i4, iv i5, iv v1, iv sl, iv att, iv sc, iv sb, iv sa, iv qc, iv nc, iv vc, iv tc, rv ca, iv 3, .unset, .unset, .unset] [(.int v1), (.int ((i3.toUInt32 >>> ((9 : Int32) &&& 31).toUInt32).toInt32)), (.int 3), (.ref ca)]) (fun _ z_ => XS.iload X25.here hx rfl (hb hby at_392) rfl z_) ?_
     refine own_callS (y := (⟨"com/example/cadmus/cadmus/StartTagEmptyPinLaw", "space", "(IZ)C"⟩ : MethodName)) X25 hx hZ hown (own_w hw 125) (own_w hw 126) (own_w hw 2) (own_w hw 127) (by decide) e25 (hM := own_space l Z a0 hw [] ((i3.toUInt32 >>> ((9 : Int32) &&& 31).toUInt32).toInt32) v1 h25 n0 (Nat.le_trans (Nat.le_trans (Nat.le_trans zs22 (Nat.le_of_eq W23.size.symm)) (Nat.le_of_eq W24.size.symm)) (Nat.le_of_eq W25.size.symm))) (W := 2) (pc := 394) (Ls := #[iv i0, iv i1, iv i2, iv i3, iv i4, iv i5, iv v1, iv sl, iv att, iv sc, iv sb, iv sa, iv qc, iv nc, iv vc, iv tc, rv ca, iv 3, .unset, .unset, .unset]) (argsL := [(.int ((i3.toUInt32 >>> ((9 : Int32) &&& 31).toUInt32).toInt32)), (.int v1)]) (rest := [(.int 3), (.ref ca)]) (st0 := [(.int v1), (.int ((i3.toUInt32 >>> ((9 : Int32) &&& 31).toUInt32).toInt32)), (.int 3), (.ref ca)]) (by rw [hml]; rfl) (lenOf own_pd28 rfl) rfl (Nat.le_of_eq rfl) (hb hby at_394) (by decide) (by decide) (by decide) (by decide) ?_
     intro v29 T29 L29 s X29 hZ hown hI29 hvm29 hhp29 hWw29 hQ29
     obtain ⟨s29, rfl, hsp29, rsp29, Nq29, hh29⟩ := hQ29
     have N29 := Fr.app N25 Nq29
     show own_Ends p e below s _ _ _ (own_F T29 m 397 #[iv i0, iv i1, iv i2, iv i3, iv i4, iv i5, iv v1, iv sl, iv att, iv sc, iv sb, iv sa, iv qc, iv nc, iv vc, iv tc, rv ca, iv 3, .unset, .unset, .unset] [(.int s29), (.int 3), (.ref ca)])
     refine own_cast X29 hx hZ hh29 A25 3 rfl (by decide) s29 (own_narC rsp29) (hb hby at_397) ?_
     intro T30 h30 X30 e30 W30 A30
     have N30 := Fr.snoc X30 N29 ga
     obtain ⟨g30, hg30⟩ : ∃ gq_ : Nat → Int32, gq_ = fun q_ => if q_ = 3 then s29 else g25 q_ := ⟨_, rfl⟩
     have A30 : own_A Z h30 ca .char 16 (fun q_ => .int (g30 q_)) := by rw [hg30]; exact A30
     show own_Ends p e below s _ _ _ (own_F T30 m 398 #[iv i0, iv i1, iv i2, iv i3, iv i4, iv i5, iv v1, iv sl, iv att, iv sc, iv sb, iv sa, iv qc, iv nc, iv vc, iv tc, rv ca, iv 3, .unset, .unset, .unset] [])
     have hfg30 := own_rng hfg25 rsp29 hg30
     refine own_g (own_F T30 m 401 #[iv i0, iv i1, iv i2, iv i3, iv i4, iv i5, iv v1, iv sl, iv att, iv sc, iv sb, iv sa, iv qc, iv nc, iv vc, iv tc, rv ca, iv 4, .unset, .unset, .unset] []) (fun _ z_ => XS.iinc X30.here hx rfl (hb hby at_398) rfl (l' := #[iv i0, iv i1, iv i2, iv i3, iv i4, iv i5, iv v1, iv sl, iv att, iv sc, iv sb, iv sa, iv qc, iv nc, iv vc, iv tc, rv ca, iv 4, .unset, .unset, .unset]) rfl z_) ?_
     refine own_g (own_F T30 m 403 #[iv i0, iv i1, iv i2, iv i3, iv i4, iv i5, iv v1, iv sl, iv att, iv sc, iv sb, iv sa, iv qc, iv nc, iv vc, iv tc, rv ca, iv 4, .unset, .unset, .unset] [(.int sl)]) (fun _ z_ => XS.iload X30.here hx rfl (hb hby at_401) rfl z_) ?_
     by_cases c403 : sl = (0 : Int32)
     · -- pc 403: sl = (0 : Int32)
      refine own_g (own_F T30 m 416 #[iv i0, iv i1, iv i2, iv i3, iv i4, iv i5, iv v1, iv sl, iv att, iv sc, iv sb, iv sa, iv qc, iv nc, iv vc, iv tc, rv ca, iv 4, .unset, .unset, .unset] []) (fun _ z_ => XS.ifYes X30.here hx rfl (pc0 := 403) (pc' := 416) rfl (hb hby at_403) rfl ((if0 _ _).trans (teq c403).1) (by decide) (by decide) z_) ?_
      refine own_g (own_F T30 m 418 #[iv i0, iv i1, iv i2, iv i3, iv i4, iv i5, iv v1, iv sl, iv att, iv sc, iv sb, iv sa, iv qc, iv nc, iv vc, iv tc, rv ca, iv 4, .unset, .unset, .unset] [(.ref ca)]) (fun _ z_ => XS.aload X30.here hx rfl (hb hby at_416) rfl rfl z_) ?_
      refine own_g (own_F T30 m 420 #[iv i0, iv i1, iv i2, iv i3, iv i4, iv i5, iv v1, iv sl, iv att, iv sc, iv sb, iv sa, iv qc, iv nc, iv vc, iv tc, rv ca, iv 4, .unset, .unset, .unset] [(.int 4), (.ref ca)]) (fun _ z_ => XS.iload X30.here hx rfl (hb hby at_418) rfl z_) ?_
      refine own_g (own_F T30 m 422 #[iv i0, iv i1, iv i2, iv i3, iv i4, iv i5, iv v1, iv sl, iv att, iv sc, iv sb, iv sa, iv qc, iv nc, iv vc, iv tc, rv ca, iv 4, .unset, .unset, .unset] [(.int 62), (.int 4), (.ref ca)]) (fun _ z_ => XS.bipush X30.here hx rfl (hb hby at_420) z_) ?_
      refine own_cast X30 hx hZ e30 A30 4 rfl (by decide) (62 : Int32) rfl (hb hby at_422) ?_
      intro T31 h31 X31 e31 W31 A31
      have N31 := Fr.snoc X31 N30 ga
      obtain ⟨g31, hg31⟩ : ∃ gq_ : Nat → Int32, gq_ = fun q_ => if q_ = 4 then (62 : Int32) else g30 q_ := ⟨_, rfl⟩
      have A31 : own_A Z h31 ca .char 16 (fun q_ => .int (g31 q_)) := by rw [hg31]; exact A31
      show own_Ends p e below s _ _ _ (own_F T31 m 423 #[iv i0, iv i1, iv i2, iv i3, iv i4, iv i5, iv v1, iv sl, iv att, iv sc, iv sb, iv sa, iv qc, iv nc, iv vc, iv tc, rv ca, iv 4, .unset, .unset, .unset] [])
      have hfg31 := own_rng hfg30 (by decide) hg31
      refine own_g (own_F T31 m 426 #[iv i0, iv i1, iv i2, iv i3, iv i4, iv i5, iv v1, iv sl, iv att, iv sc, iv sb, iv sa, iv qc, iv nc, iv vc, iv tc, rv ca, iv 5, .unset, .unset, .unset] []) (fun _ z_ => XS.iinc X31.here hx rfl (hb hby at_423) rfl (l' := #[iv i0, iv i1, iv i2, iv i3, iv i4, iv i5, iv v1, iv sl, iv att, iv sc, iv sb, iv sa, iv qc, iv nc, iv vc, iv tc, rv ca, iv 5, .unset, .unset, .unset]) rfl z_) ?_
      have e2 : g31 2 = nc := by simp only [hg31, hg30, hg25, hg24, hg23]; rfl
      have e3 : g31 3 = s29 := by simp only [hg31, hg30, hg25, hg24, hg23]; rfl
      have e4 : g31 4 = (62 : Int32) := by simp only [hg31, hg30, hg25, hg24, hg23]; rfl
      exact J426 ca g31 (5 : Int32) 3 4 0 0 v1 sl qc nc vc tc att sc sb sa T31 _ _ s hZ hown X31 e31 N31 (Nat.le_trans (Nat.le_trans (Nat.le_trans (Nat.le_trans (Nat.le_trans zs22 (Nat.le_of_eq W23.size.symm)) (Nat.le_of_eq W24.size.symm)) (Nat.le_of_eq W25.size.symm)) (Nat.le_of_eq W30.size.symm)) (Nat.le_of_eq W31.size.symm)) (Nat.le_trans (Nat.le_trans (Nat.le_trans (Nat.le_trans (Nat.le_trans zz22 (Nat.le_of_eq W23.size.symm)) (Nat.le_of_eq W24.size.symm)) (Nat.le_of_eq W25.size.symm)) (Nat.le_of_eq W30.size.symm)) (Nat.le_of_eq W31.size.symm)) (((((K22.wr W23 (Or.inr sz_ca)).wr W24 (Or.inr sz_ca)).wr W25 (Or.inr sz_ca)).wr W30 (Or.inr sz_ca)).wr W31 (Or.inr sz_ca)) A31 hfg31 ga za (by rw [e2]; exact hnc) (Or.inl ⟨rfl, rfl⟩) ⟨Or.inr ⟨rfl, by rw [e3]; exact hsp29⟩, by decide, Or.inr ⟨c403, e4, rfl⟩⟩
     · -- pc 403: not sl = (0 : Int32)
      refine own_g (own_F T30 m 406 #[iv i0, iv i1, iv i2, iv i3, iv i4, iv i5, iv v1, iv sl, iv att, iv sc, iv sb, iv sa, iv qc, iv nc, iv vc, iv tc, rv ca, iv 4, .unset, .unset, .unset] []) (fun _ z_ => XS.ifNo X30.here hx rfl (hb hby at_403) rfl ((if0 _ _).trans (feq c403).1) z_) ?_
      refine own_g (own_F T30 m 408 #[iv i0, iv i1, iv i2, iv i3, iv i4, iv i5, iv v1, iv sl, iv att, iv sc, iv sb, iv sa, iv qc, iv nc, iv vc, iv tc, rv ca, iv 4, .unset, .unset, .unset] [(.ref ca)]) (fun _ z_ => XS.aload X30.here hx rfl (hb hby at_406) rfl rfl z_) ?_
      refine own_g (own_F T30 m 410 #[iv i0, iv i1, iv i2, iv i3, iv i4, iv i5, iv v1, iv sl, iv att, iv sc, iv sb, iv sa, iv qc, iv nc, iv vc, iv tc, rv ca, iv 4, .unset, .unset, .unset] [(.int 4), (.ref ca)]) (fun _ z_ => XS.iload X30.here hx rfl (hb hby at_408) rfl z_) ?_
      refine own_g (own_F T30 m 412 #[iv i0, iv i1, iv i2, iv i3, iv i4, iv i5, iv v1, iv sl, iv att, iv sc, iv sb, iv sa, iv qc, iv nc, iv vc, iv tc, rv ca, iv 4, .unset, .unset, .unset] [(.int 47), (.int 4), (.ref ca)]) (fun _ z_ => XS.bipush X30.here hx rfl (hb hby at_410) z_) ?_
      refine own_cast X30 hx hZ e30 A30 4 rfl (by decide) (47 : Int32) rfl (hb hby at_412) ?_
      intro T32 h32 X32 e32 W32 A32
      have N32 := Fr.snoc X32 N30 ga
      obtain ⟨g32, hg32⟩ : ∃ gq_ : Nat → Int32, gq_ = fun q_ => if q_ = 4 then (47 : Int32) else g30 q_ := ⟨_, rfl⟩
      have A32 : own_A Z h32 ca .char 16 (fun q_ => .int (g32 q_)) := by rw [hg32]; exact A32
      show own_Ends p e below s _ _ _ (own_F T32 m 413 #[iv i0, iv i1, iv i2, iv i3, iv i4, iv i5, iv v1, iv sl, iv att, iv sc, iv sb, iv sa, iv qc, iv nc, iv vc, iv tc, rv ca, iv 4, .unset, .unset, .unset] [])
      have hfg32 := own_rng hfg30 (by decide) hg32
      refine own_g (own_F T32 m 416 #[iv i0, iv i1, iv i2, iv i3, iv i4, iv i5, iv v1, iv sl, iv att, iv sc, iv sb, iv sa, iv qc, iv nc, iv vc, iv tc, rv ca, iv 5, .unset, .unset, .unset] []) (fun _ z_ => XS.iinc X32.here hx rfl (hb hby at_413) rfl (l' := #[iv i0, iv i1, iv i2, iv i3, iv i4, iv i5, iv v1, iv sl, iv att, iv sc, iv sb, iv sa, iv qc, iv nc, iv vc, iv tc, rv ca, iv 5, .unset, .unset, .unset]) rfl z_) ?_
      refine own_g (own_F T32 m 418 #[iv i0, iv i1, iv i2, iv i3, iv i4, iv i5, iv v1, iv sl, iv att, iv sc, iv sb, iv sa, iv qc, iv nc, iv vc, iv tc, rv ca, iv 5, .unset, .unset, .unset] [(.ref ca)]) (fun _ z_ => XS.aload X32.here hx rfl (hb hby at_416) rfl rfl z_) ?_
      refine own_g (own_F T32 m 420 #[iv i0, iv i1, iv i2, iv i3, iv i4, iv i5, iv v1, iv sl, iv att, iv sc, iv sb, iv sa, iv qc, iv nc, iv vc, iv tc, rv ca, iv 5, .unset, .unset, .unset] [(.int 5), (.ref ca)]) (fun _ z_ => XS.iload X32.here hx rfl (hb hby at_418) rfl z_) ?_
      refine own_g (own_F T32 m 422 #[iv i0, iv i1, iv i2, iv i3, iv i4, iv i5, iv v1, iv sl, iv att, iv sc, iv sb, iv sa, iv qc, iv nc, iv vc, iv tc, rv ca, iv 5, .unset, .unset, .unset] [(.int 62), (.int 5), (.ref ca)]) (fun _ z_ => XS.bipush X32.here hx rfl (hb hby at_420) z_) ?_
      refine own_cast X32 hx hZ e32 A32 5 rfl (by decide) (62 : Int32) rfl (hb hby at_422) ?_
      intro T33 h33 X33 e33 W33 A33
      have N33 := Fr.snoc X33 N32 ga
      obtain ⟨g33, hg33⟩ : ∃ gq_ : Nat → Int32, gq_ = fun q_ => if q_ = 5 then (62 : Int32) else g32 q_ := ⟨_, rfl⟩
      have A33 : own_A Z h33 ca .char 16 (fun q_ => .int (g33 q_)) := by rw [hg33]; exact A33
      show own_Ends p e below s _ _ _ (own_F T33 m 423 #[iv i0, iv i1, iv i2, iv i3, iv i4, iv i5, iv v1, iv sl, iv att, iv sc, iv sb, iv sa, iv qc, iv nc, iv vc, iv tc, rv ca, iv 5, .unset, .unset, .unset] [])
      have hfg33 := own_rng hfg32 (by decide) hg33
      refine own_g (own_F T33 m 426 #[iv i0, iv i1, iv i2, iv i3, iv i4, iv i5, iv v1, iv sl, iv att, iv sc, iv sb, iv sa, iv qc, iv nc, iv vc, iv tc, rv ca, iv 6, .unset, .unset, .unset] []) (fun _ z_ => XS.iinc X33.here hx rfl (hb hby at_423) rfl (l' := #[iv i0, iv i1, iv i2, iv i3, iv i4, iv i5, iv v1, iv sl, iv att, iv sc, iv sb, iv sa, iv qc, iv nc, iv vc, iv tc, rv ca, iv 6, .unset, .unset, .unset]) rfl z_) ?_
      have e2 : g33 2 = nc := by simp only [hg33, hg32, hg30, hg25, hg24, hg23]; rfl
      have e3 : g33 3 = s29 := by simp only [hg33, hg32, hg30, hg25, hg24, hg23]; rfl
      have e4 : g33 4 = (47 : Int32) := by simp only [hg33, hg32, hg30, hg25, hg24, hg23]; rfl
      have e5 : g33 5 = (62 : Int32) := by simp only [hg33, hg32, hg30, hg25, hg24, hg23]; rfl
      exact J426 ca g33 (6 : Int32) 3 4 0 0 v1 sl qc nc vc tc att sc sb sa T33 _ _ s hZ hown X33 e33 N33 (Nat.le_trans (Nat.le_trans (Nat.le_trans (Nat.le_trans (Nat.le_trans (Nat.le_trans zs22 (Nat.le_of_eq W23.size.symm)) (Nat.le_of_eq W24.size.symm)) (Nat.le_of_eq W25.size.symm)) (Nat.le_of_eq W30.size.symm)) (Nat.le_of_eq W32.size.symm)) (Nat.le_of_eq W33.size.symm)) (Nat.le_trans (Nat.le_trans (Nat.le_trans (Nat.le_trans (Nat.le_trans (Nat.le_trans zz22 (Nat.le_of_eq W23.size.symm)) (Nat.le_of_eq W24.size.symm)) (Nat.le_of_eq W25.size.symm)) (Nat.le_of_eq W30.size.symm)) (Nat.le_of_eq W32.size.symm)) (Nat.le_of_eq W33.size.symm)) ((((((K22.wr W23 (Or.inr sz_ca)).wr W24 (Or.inr sz_ca)).wr W25 (Or.inr sz_ca)).wr W30 (Or.inr sz_ca)).wr W32 (Or.inr sz_ca)).wr W33 (Or.inr sz_ca)) A33 hfg33 ga za (by rw [e2]; exact hnc) (Or.inl ⟨rfl, rfl⟩) ⟨Or.inr ⟨rfl, by rw [e3]; exact hsp29⟩, by decide, Or.inl ⟨(h_sl.resolve_left c403), e4, rfl⟩⟩
   · -- pc 269: not att = (0 : Int32)
    refine own_g (own_F T25 m 272 #[iv i0, iv i1, iv i2, iv i3, iv i4, iv i5, iv v1, iv sl, iv att, iv sc, iv sb, iv sa, iv qc, iv nc, iv vc, iv tc, rv ca, iv 3, .unset, .unset, .unset] []) (fun _ z_ => XS.ifNo X25.here hx rfl (hb hby at_269) rfl ((if0 _ _).trans (feq c269).1) z_) ?_
    refine own_g (own_F T25 m 274 #[iv i0, iv i1, iv i2, iv i3, iv i4, iv i5, iv v1, iv sl, iv att, iv sc, iv sb, iv sa, iv qc, iv nc, iv vc, iv tc, rv ca, iv 3, .unset, .unset, .unset] [(.ref ca)]) (fun _ z_ => XS.aload X25.here hx rfl (hb hby at_272) rfl rfl z_) ?_
    refine own_g (own_F T25 m 276 #[iv i0, iv i1, iv i2, iv i3, iv i4, iv i5, iv v1, iv sl, iv att, iv sc, iv sb, iv sa, iv qc, iv nc, iv vc, iv tc, rv ca, iv 3, .unset, .unset, .unset] [(.int 3), (.ref ca)]) (fun _ z_ => XS.iload X25.here hx rfl (hb hby at_274) rfl z_) ?_
    refine own_g (own_F T25 m 277 #[iv i0, iv i1, iv i2, iv i3, iv i4, iv i5, iv v1, iv sl, iv att, iv sc, iv sb, iv sa, iv qc, iv nc, iv vc, iv tc, rv ca, iv 3, .unset, .unset, .unset] [(.int i3), (.int 3), (.ref ca)]) (fun _ z_ => XS.iloadN X25.here hx rfl (hb hby at_276) rfl z_) ?_
    refine own_g (own_F T25 m 279 #[iv i0, iv i1, iv i2, iv i3, iv i4, iv i5, iv v1, iv sl, iv att, iv sc, iv sb, iv sa, iv qc, iv nc, iv vc, iv tc, rv ca, iv 3, .unset, .unset, .unset] [(.int v1), (.int i3), (.int 3), (.ref ca)]) (fun _ z_ => XS.iload X25.here hx rfl (hb hby at_277) rfl z_) ?_
    refine own_callS (y := (⟨"com/example/cadmus/cadmus/StartTagEmptyPinLaw", "space", "(IZ)C"⟩ : MethodName)) X25 hx hZ hown (own_w hw 125) (own_w hw 126) (own_w hw 2) (own_w hw 127) (by decide) e25 (hM := own_space l Z a0 hw [] i3 v1 h25 n0 (Nat.le_trans (Nat.le_trans (Nat.le_trans zs22 (Nat.le_of_eq W23.size.symm)) (Nat.le_of_eq W24.size.symm)) (Nat.le_of_eq W25.size.symm))) (W := 2) (pc := 279) (Ls := #[iv i0, iv i1, iv i2, iv i3, iv i4, iv i5, iv v1, iv sl, iv att, iv sc, iv sb, iv sa, iv qc, iv nc, iv vc, iv tc, rv ca, iv 3, .unset, .unset, .unset]) (argsL := [(.int i3), (.int v1)]) (rest := [(.int 3), (.ref ca)]) (st0 := [(.int v1), (.int i3), (.int 3), (.ref ca)]) (by rw [hml]; rfl) (lenOf own_pd28 rfl) rfl (Nat.le_of_eq rfl) (hb hby at_279) (by decide) (by decide) (by decide) (by decide) ?_
    intro v34 T34 L34 s X34 hZ hown hI34 hvm34 hhp34 hWw34 hQ34
    obtain ⟨s34, rfl, hsp34, rsp34, Nq34, hh34⟩ := hQ34
    have N34 := Fr.app N25 Nq34
    show own_Ends p e below s _ _ _ (own_F T34 m 282 #[iv i0, iv i1, iv i2, iv i3, iv i4, iv i5, iv v1, iv sl, iv att, iv sc, iv sb, iv sa, iv qc, iv nc, iv vc, iv tc, rv ca, iv 3, .unset, .unset, .unset] [(.int s34), (.int 3), (.ref ca)])
    refine own_cast X34 hx hZ hh34 A25 3 rfl (by decide) s34 (own_narC rsp34) (hb hby at_282) ?_
    intro T35 h35 X35 e35 W35 A35
    have N35 := Fr.snoc X35 N34 ga
    obtain ⟨g35, hg35⟩ : ∃ gq_ : Nat → Int32, gq_ = fun q_ => if q_ = 3 then s34 else g25 q_ := ⟨_, rfl⟩
    have A35 : own_A Z h35 ca .char 16 (fun q_ => .int (g35 q_)) := by rw [hg35]; exact A35
    show own_Ends p e below s _ _ _ (own_F T35 m 283 #[iv i0, iv i1, iv i2, iv i3, iv i4, iv i5, iv v1, iv sl, iv att, iv sc, iv sb, iv sa, iv qc, iv nc, iv vc, iv tc, rv ca, iv 3, .unset, .unset, .unset] [])
    have hfg35 := own_rng hfg25 rsp34 hg35
    refine own_g (own_F T35 m 286 #[iv i0, iv i1, iv i2, iv i3, iv i4, iv i5, iv v1, iv sl, iv att, iv sc, iv sb, iv sa, iv qc, iv nc, iv vc, iv tc, rv ca, iv 4, .unset, .unset, .unset] []) (fun _ z_ => XS.iinc X35.here hx rfl (hb hby at_283) rfl (l' := #[iv i0, iv i1, iv i2, iv i3, iv i4, iv i5, iv v1, iv sl, iv att, iv sc, iv sb, iv sa, iv qc, iv nc, iv vc, iv tc, rv ca, iv 4, .unset, .unset, .unset]) rfl z_) ?_
    refine own_g (own_F T35 m 288 #[iv i0, iv i1, iv i2, iv i3, iv i4, iv i5, iv v1, iv sl, iv att, iv sc, iv sb, iv sa, iv qc, iv nc, iv vc, iv tc, rv ca, iv 4, .unset, .unset, .unset] [(.ref ca)]) (fun _ z_ => XS.aload X35.here hx rfl (hb hby at_286) rfl rfl z_) ?_
    refine own_g (own_F T35 m 290 #[iv i0, iv i1, iv i2, iv i3, iv i4, iv i5, iv v1, iv sl, iv att, iv sc, iv sb, iv sa, iv qc, iv nc, iv vc, iv tc, rv ca, iv 4, .unset, .unset, .unset] [(.int 4), (.ref ca)]) (fun _ z_ => XS.iload X35.here hx rfl (hb hby at_288) rfl z_) ?_
    refine own_g (own_F T35 m 292 #[iv i0, iv i1, iv i2, iv i3, iv i4, iv i5, iv v1, iv sl, iv att, iv sc, iv sb, iv sa, iv qc, iv nc, iv vc, iv tc, rv ca, iv 4, .unset, .unset, .unset] [(.int nc), (.int 4), (.ref ca)]) (fun _ z_ => XS.iload X35.here hx rfl (hb hby at_290) rfl z_) ?_
    refine own_cast X35 hx hZ e35 A35 4 rfl (by decide) nc (own_narC rnc) (hb hby at_292) ?_
    intro T36 h36 X36 e36 W36 A36
    have N36 := Fr.snoc X36 N35 ga
    obtain ⟨g36, hg36⟩ : ∃ gq_ : Nat → Int32, gq_ = fun q_ => if q_ = 4 then nc else g35 q_ := ⟨_, rfl⟩
    have A36 : own_A Z h36 ca .char 16 (fun q_ => .int (g36 q_)) := by rw [hg36]; exact A36
    show own_Ends p e below s _ _ _ (own_F T36 m 293 #[iv i0, iv i1, iv i2, iv i3, iv i4, iv i5, iv v1, iv sl, iv att, iv sc, iv sb, iv sa, iv qc, iv nc, iv vc, iv tc, rv ca, iv 4, .unset, .unset, .unset] [])
    have hfg36 := own_rng hfg35 rnc hg36
    refine own_g (own_F T36 m 296 #[iv i0, iv i1, iv i2, iv i3, iv i4, iv i5, iv v1, iv sl, iv att, iv sc, iv sb, iv sa, iv qc, iv nc, iv vc, iv tc, rv ca, iv 5, .unset, .unset, .unset] []) (fun _ z_ => XS.iinc X36.here hx rfl (hb hby at_293) rfl (l' := #[iv i0, iv i1, iv i2, iv i3, iv i4, iv i5, iv v1, iv sl, iv att, iv sc, iv sb, iv sa, iv qc, iv nc, iv vc, iv tc, rv ca, iv 5, .unset, .unset, .unset]) rfl z_) ?_
    refine own_g (own_F T36 m 298 #[iv i0, iv i1, iv i2, iv i3, iv i4, iv i5, iv v1, iv sl, iv att, iv sc, iv sb, iv sa, iv qc, iv nc, iv vc, iv tc, rv ca, iv 5, .unset, .unset, .unset] [(.int sb)]) (fun _ z_ => XS.iload X36.here hx rfl (hb hby at_296) rfl z_) ?_
    by_cases c298 : sb = (0 : Int32)
    · -- pc 298: sb = (0 : Int32)
     refine own_g (own_F T36 m 317 #[iv i0, iv i1, iv i2, iv i3, iv i4, iv i5, iv v1, iv sl, iv att, iv sc, iv sb, iv sa, iv qc, iv nc, iv vc, iv tc, rv ca, iv 5, .unset, .unset, .unset] []) (fun _ z_ => XS.ifYes X36.here hx rfl (pc0 := 298) (pc' := 317) rfl (hb hby at_298) rfl ((if0 _ _).trans (teq c298).1) (by decide) (by decide) z_) ?_
     refine own_g (own_F T36 m 319 #[iv i0, iv i1, iv i2, iv i3, iv i4, iv i5, iv v1, iv sl, iv att, iv sc, iv sb, iv sa, iv qc, iv nc, iv vc, iv tc, rv ca, iv 5, .unset, .unset, .unset] [(.ref ca)]) (fun _ z_ => XS.aload X36.here hx rfl (hb hby at_317) rfl rfl z_) ?_
     refine own_g (own_F T36 m 321 #[iv i0, iv i1, iv i2, iv i3, iv i4, iv i5, iv v1, iv sl, iv att, iv sc, iv sb, iv sa, iv qc, iv nc, iv vc, iv tc, rv ca, iv 5, .unset, .unset, .unset] [(.int 5), (.ref ca)]) (fun _ z_ => XS.iload X36.here hx rfl (hb hby at_319) rfl z_) ?_
     refine own_g (own_F T36 m 323 #[iv i0, iv i1, iv i2, iv i3, iv i4, iv i5, iv v1, iv sl, iv att, iv sc, iv sb, iv sa, iv qc, iv nc, iv vc, iv tc, rv ca, iv 5, .unset, .unset, .unset] [(.int 61), (.int 5), (.ref ca)]) (fun _ z_ => XS.bipush X36.here hx rfl (hb hby at_321) z_) ?_
     refine own_cast X36 hx hZ e36 A36 5 rfl (by decide) (61 : Int32) rfl (hb hby at_323) ?_
     intro T37 h37 X37 e37 W37 A37
     have N37 := Fr.snoc X37 N36 ga
     obtain ⟨g37, hg37⟩ : ∃ gq_ : Nat → Int32, gq_ = fun q_ => if q_ = 5 then (61 : Int32) else g36 q_ := ⟨_, rfl⟩
     have A37 : own_A Z h37 ca .char 16 (fun q_ => .int (g37 q_)) := by rw [hg37]; exact A37
     show own_Ends p e below s _ _ _ (own_F T37 m 324 #[iv i0, iv i1, iv i2, iv i3, iv i4, iv i5, iv v1, iv sl, iv att, iv sc, iv sb, iv sa, iv qc, iv nc, iv vc, iv tc, rv ca, iv 5, .unset, .unset, .unset] [])
     have hfg37 := own_rng hfg36 (by decide) hg37
     refine own_g (own_F T37 m 327 #[iv i0, iv i1, iv i2, iv i3, iv i4, iv i5, iv v1, iv sl, iv att, iv sc, iv sb, iv sa, iv qc, iv nc, iv vc, iv tc, rv ca, iv 6, .unset, .unset, .unset] []) (fun _ z_ => XS.iinc X37.here hx rfl (hb hby at_324) rfl (l' := #[iv i0, iv i1, iv i2, iv i3, iv i4, iv i5, iv v1, iv sl, iv att, iv sc, iv sb, iv sa, iv qc, iv nc, iv vc, iv tc, rv ca, iv 6, .unset, .unset, .unset]) rfl z_) ?_
     refine own_g (own_F T37 m 329 #[iv i0, iv i1, iv i2, iv i3, iv i4, iv i5, iv v1, iv sl, iv att, iv sc, iv sb, iv sa, iv qc, iv nc, iv vc, iv tc, rv ca, iv 6, .unset, .unset, .unset] [(.int sa)]) (fun _ z_ => XS.iload X37.here hx rfl (hb hby at_327) rfl z_) ?_
     by_cases c329 : sa = (0 : Int32)
     · -- pc 329: sa = (0 : Int32)
      refine own_g (own_F T37 m 349 #[iv i0, iv i1, iv i2, iv i3, iv i4, iv i5, iv v1, iv sl, iv att, iv sc, iv sb, iv sa, iv qc, iv nc, iv vc, iv tc, rv ca, iv 6, .unset, .unset, .unset] []) (fun _ z_ => XS.ifYes X37.here hx rfl (pc0 := 329) (pc' := 349) rfl (hb hby at_329) rfl ((if0 _ _).trans (teq c329).1) (by decide) (by decide) z_) ?_
      refine own_g (own_F T37 m 351 #[iv i0, iv i1, iv i2, iv i3, iv i4, iv i5, iv v1, iv sl, iv att, iv sc, iv sb, iv sa, iv qc, iv nc, iv vc, iv tc, rv ca, iv 6, .unset, .unset, .unset] [(.ref ca)]) (fun _ z_ => XS.aload X37.here hx rfl (hb hby at_349) rfl rfl z_) ?_
      refine own_g (own_F T37 m 353 #[iv i0, iv i1, iv i2, iv i3, iv i4, iv i5, iv v1, iv sl, iv att, iv sc, iv sb, iv sa, iv qc, iv nc, iv vc, iv tc, rv ca, iv 6, .unset, .unset, .unset] [(.int 6), (.ref ca)]) (fun _ z_ => XS.iload X37.here hx rfl (hb hby at_351) rfl z_) ?_
      refine own_g (own_F T37 m 355 #[iv i0, iv i1, iv i2, iv i3, iv i4, iv i5, iv v1, iv sl, iv att, iv sc, iv sb, iv sa, iv qc, iv nc, iv vc, iv tc, rv ca, iv 6, .unset, .unset, .unset] [(.int qc), (.int 6), (.ref ca)]) (fun _ z_ => XS.iload X37.here hx rfl (hb hby at_353) rfl z_) ?_
      refine own_cast X37 hx hZ e37 A37 6 rfl (by decide) qc (own_narC rqc) (hb hby at_355) ?_
      intro T38 h38 X38 e38 W38 A38
      have N38 := Fr.snoc X38 N37 ga
      obtain ⟨g38, hg38⟩ : ∃ gq_ : Nat → Int32, gq_ = fun q_ => if q_ = 6 then qc else g37 q_ := ⟨_, rfl⟩
      have A38 : own_A Z h38 ca .char 16 (fun q_ => .int (g38 q_)) := by rw [hg38]; exact A38
      show own_Ends p e below s _ _ _ (own_F T38 m 356 #[iv i0, iv i1, iv i2, iv i3, iv i4, iv i5, iv v1, iv sl, iv att, iv sc, iv sb, iv sa, iv qc, iv nc, iv vc, iv tc, rv ca, iv 6, .unset, .unset, .unset] [])
      have hfg38 := own_rng hfg37 rqc hg38
      refine own_g (own_F T38 m 359 #[iv i0, iv i1, iv i2, iv i3, iv i4, iv i5, iv v1, iv sl, iv att, iv sc, iv sb, iv sa, iv qc, iv nc, iv vc, iv tc, rv ca, iv 7, .unset, .unset, .unset] []) (fun _ z_ => XS.iinc X38.here hx rfl (hb hby at_356) rfl (l' := #[iv i0, iv i1, iv i2, iv i3, iv i4, iv i5, iv v1, iv sl, iv att, iv sc, iv sb, iv sa, iv qc, iv nc, iv vc, iv tc, rv ca, iv 7, .unset, .unset, .unset]) rfl z_) ?_
      refine own_g (own_F T38 m 361 #[iv i0, iv i1, iv i2, iv i3, iv i4, iv i5, iv v1, iv sl, iv att, iv sc, iv sb, iv sa, iv qc, iv nc, iv vc, iv tc, rv ca, iv 7, .unset, .unset, .unset] [(.ref ca)]) (fun _ z_ => XS.aload X38.here hx rfl (hb hby at_359) rfl rfl z_) ?_
      refine own_g (own_F T38 m 363 #[iv i0, iv i1, iv i2, iv i3, iv i4, iv i5, iv v1, iv sl, iv att, iv sc, iv sb, iv sa, iv qc, iv nc, iv vc, iv tc, rv ca, iv 7, .unset, .unset, .unset] [(.int 7), (.ref ca)]) (fun _ z_ => XS.iload X38.here hx rfl (hb hby at_361) rfl z_) ?_
      refine own_g (own_F T38 m 365 #[iv i0, iv i1, iv i2, iv i3, iv i4, iv i5, iv v1, iv sl, iv att, iv sc, iv sb, iv sa, iv qc, iv nc, iv vc, iv tc, rv ca, iv 7, .unset, .unset, .unset] [(.int vc), (.int 7), (.ref ca)]) (fun _ z_ => XS.iload X38.here hx rfl (hb hby at_363) rfl z_) ?_
      refine own_cast X38 hx hZ e38 A38 7 rfl (by decide) vc (own_narC rvc) (hb hby at_365) ?_
      intro T39 h39 X39 e39 W39 A39
      have N39 := Fr.snoc X39 N38 ga
      obtain ⟨g39, hg39⟩ : ∃ gq_ : Nat → Int32, gq_ = fun q_ => if q_ = 7 then vc else g38 q_ := ⟨_, rfl⟩
      have A39 : own_A Z h39 ca .char 16 (fun q_ => .int (g39 q_)) := by rw [hg39]; exact A39
      show own_Ends p e below s _ _ _ (own_F T39 m 366 #[iv i0, iv i1, iv i2, iv i3, iv i4, iv i5, iv v1, iv sl, iv att, iv sc, iv sb, iv sa, iv qc, iv nc, iv vc, iv tc, rv ca, iv 7, .unset, .unset, .unset] [])
      have hfg39 := own_rng hfg38 rvc hg39
      refine own_g (own_F T39 m 369 #[iv i0, iv i1, iv i2, iv i3, iv i4, iv i5, iv v1, iv sl, iv att, iv sc, iv sb, iv sa, iv qc, iv nc, iv vc, iv tc, rv ca, iv 8, .unset, .unset, .unset] []) (fun _ z_ => XS.iinc X39.here hx rfl (hb hby at_366) rfl (l' := #[iv i0, iv i1, iv i2, iv i3, iv i4, iv i5, iv v1, iv sl, iv att, iv sc, iv sb, iv sa, iv qc, iv nc, iv vc, iv tc, rv ca, iv 8, .unset, .unset, .unset]) rfl z_) ?_
      refine own_g (own_F T39 m 371 #[iv i0, iv i1, iv i2, iv i3, iv i4, iv i5, iv v1, iv sl, iv att, iv sc, iv sb, iv sa, iv qc, iv nc, iv vc, iv tc, rv ca, iv 8, .unset, .unset, .unset] [(.ref ca)]) (fun _ z_ => XS.aload X39.here hx rfl (hb hby at_369) rfl rfl z_) ?_
      refine own_g (own_F T39 m 373 #[iv i0, iv i1, iv i2, iv i3, iv i4, iv i5, iv v1, iv sl, iv att, iv sc, iv sb, iv sa, iv qc, iv nc, iv vc, iv tc, rv ca, iv 8, .unset, .unset, .unset] [(.int 8), (.ref ca)]) (fun _ z_ => XS.iload X39.here hx rfl (hb hby at_371) rfl z_) ?_
      refine own_g (own_F T39 m 375 #[iv i0, iv i1, iv i2, iv i3, iv i4, iv i5, iv v1, iv sl, iv att, iv sc, iv sb, iv sa, iv qc, iv nc, iv vc, iv tc, rv ca, iv 8, .unset, .unset, .unset] [(.int qc), (.int 8), (.ref ca)]) (fun _ z_ => XS.iload X39.here hx rfl (hb hby at_373) rfl z_) ?_
      refine own_cast X39 hx hZ e39 A39 8 rfl (by decide) qc (own_narC rqc) (hb hby at_375) ?_
      intro T40 h40 X40 e40 W40 A40
      have N40 := Fr.snoc X40 N39 ga
      obtain ⟨g40, hg40⟩ : ∃ gq_ : Nat → Int32, gq_ = fun q_ => if q_ = 8 then qc else g39 q_ := ⟨_, rfl⟩
      have A40 : own_A Z h40 ca .char 16 (fun q_ => .int (g40 q_)) := by rw [hg40]; exact A40
      show own_Ends p e below s _ _ _ (own_F T40 m 376 #[iv i0, iv i1, iv i2, iv i3, iv i4, iv i5, iv v1, iv sl, iv att, iv sc, iv sb, iv sa, iv qc, iv nc, iv vc, iv tc, rv ca, iv 8, .unset, .unset, .unset] [])
      have hfg40 := own_rng hfg39 rqc hg40
      refine own_g (own_F T40 m 379 #[iv i0, iv i1, iv i2, iv i3, iv i4, iv i5, iv v1, iv sl, iv att, iv sc, iv sb, iv sa, iv qc, iv nc, iv vc, iv tc, rv ca, iv 9, .unset, .unset, .unset] []) (fun _ z_ => XS.iinc X40.here hx rfl (hb hby at_376) rfl (l' := #[iv i0, iv i1, iv i2, iv i3, iv i4, iv i5, iv v1, iv sl, iv att, iv sc, iv sb, iv sa, iv qc, iv nc, iv vc, iv tc, rv ca, iv 9, .unset, .unset, .unset]) rfl z_) ?_
      refine own_g (own_F T40 m 381 #[iv i0, iv i1, iv i2, iv i3, iv i4, iv i5, iv v1, iv sl, iv att, iv sc, iv sb, iv sa, iv qc, iv nc, iv vc, iv tc, rv ca, iv 9, .unset, .unset, .unset] [(.int sc)]) (fun _ z_ => XS.iload X40.here hx rfl (hb hby at_379) rfl z_) ?_
      by_cases c381 : sc = (0 : Int32)
      · -- pc 381: sc = (0 : Int32)
       refine own_g (own_F T40 m 401 #[iv i0, iv i1, iv i2, iv i3, iv i4, iv i5, iv v1, iv sl, iv att, iv sc, iv sb, iv sa, iv qc, iv nc, iv vc, iv tc, rv ca, iv 9, .unset, .unset, .unset] []) (fun _ z_ => XS.ifYes X40.here hx rfl (pc0 := 381) (pc' := 401) rfl (hb hby at_381) rfl ((if0 _ _).trans (teq c381).1) (by decide) (by decide) z_) ?_
       refine own_g (own_F T40 m 403 #[iv i0, iv i1, iv i2, iv i3, iv i4, iv i5, iv v1, iv sl, iv att, iv sc, iv sb, iv sa, iv qc, iv nc, iv vc, iv tc, rv ca, iv 9, .unset, .unset, .unset] [(.int sl)]) (fun _ z_ => XS.iload X40.here hx rfl (hb hby at_401) rfl z_) ?_
       by_cases c403 : sl = (0 : Int32)
       · -- pc 403: sl = (0 : Int32)
        refine own_g (own_F T40 m 416 #[iv i0, iv i1, iv i2, iv i3, iv i4, iv i5, iv v1, iv sl, iv att, iv sc, iv sb, iv sa, iv qc, iv nc, iv vc, iv tc, rv ca, iv 9, .unset, .unset, .unset] []) (fun _ z_ => XS.ifYes X40.here hx rfl (pc0 := 403) (pc' := 416) rfl (hb hby at_403) rfl ((if0 _ _).trans (teq c403).1) (by decide) (by decide) z_) ?_
        refine own_g (own_F T40 m 418 #[iv i0, iv i1, iv i2, iv i3, iv i4, iv i5, iv v1, iv sl, iv att, iv sc, iv sb, iv sa, iv qc, iv nc, iv vc, iv tc, rv ca, iv 9, .unset, .unset, .unset] [(.ref ca)]) (fun _ z_ => XS.aload X40.here hx rfl (hb hby at_416) rfl rfl z_) ?_
        refine own_g (own_F T40 m 420 #[iv i0, iv i1, iv i2, iv i3, iv i4, iv i5, iv v1, iv sl, iv att, iv sc, iv sb, iv sa, iv qc, iv nc, iv vc, iv tc, rv ca, iv 9, .unset, .unset, .unset] [(.int 9), (.ref ca)]) (fun _ z_ => XS.iload X40.here hx rfl (hb hby at_418) rfl z_) ?_
        refine own_g (own_F T40 m 422 #[iv i0, iv i1, iv i2, iv i3, iv i4, iv i5, iv v1, iv sl, iv att, iv sc, iv sb, iv sa, iv qc, iv nc, iv vc, iv tc, rv ca, iv 9, .unset, .unset, .unset] [(.int 62), (.int 9), (.ref ca)]) (fun _ z_ => XS.bipush X40.here hx rfl (hb hby at_420) z_) ?_
        refine own_cast X40 hx hZ e40 A40 9 rfl (by decide) (62 : Int32) rfl (hb hby at_422) ?_
        intro T41 h41 X41 e41 W41 A41
        have N41 := Fr.snoc X41 N40 ga
        obtain ⟨g41, hg41⟩ : ∃ gq_ : Nat → Int32, gq_ = fun q_ => if q_ = 9 then (62 : Int32) else g40 q_ := ⟨_, rfl⟩
        have A41 : own_A Z h41 ca .char 16 (fun q_ => .int (g41 q_)) := by rw [hg41]; exact A41
        show own_Ends p e below s _ _ _ (own_F T41 m 423 #[iv i0, iv i1, iv i2, iv i3, iv i4, iv i5, iv v1, iv sl, iv att, iv sc, iv sb, iv sa, iv qc, iv nc, iv vc, iv tc, rv ca, iv 9, .unset, .unset, .unset] [])
        have hfg41 := own_rng hfg40 (by decide) hg41
        refine own_g (own_F T41 m 426 #[iv i0, iv i1, iv i2, iv i3, iv i4, iv i5, iv v1, iv sl, iv att, iv sc, iv sb, iv sa, iv qc, iv nc, iv vc, iv tc, rv ca, iv 10, .unset, .unset, .unset] []) (fun _ z_ => XS.iinc X41.here hx rfl (hb hby at_423) rfl (l' := #[iv i0, iv i1, iv i2, iv i3, iv i4, iv i5, iv v1, iv sl, iv att, iv sc, iv sb, iv sa, iv qc, iv nc, iv vc, iv tc, rv ca, iv 10, .unset, .unset, .unset]) rfl z_) ?_
        have e2 : g41 2 = nc := by simp only [hg41, hg40, hg39, hg38, hg37, hg36, hg35, hg25, hg24, hg23]; rfl
        have e3 : g41 3 = s34 := by simp only [hg41, hg40, hg39, hg38, hg37, hg36, hg35, hg25, hg24, hg23]; rfl
        have e4 : g41 4 = nc := by simp only [hg41, hg40, hg39, hg38, hg37, hg36, hg35, hg25, hg24, hg23]; rfl
        have e5 : g41 5 = (61 : Int32) := by simp only [hg41, hg40, hg39, hg38, hg37, hg36, hg35, hg25, hg24, hg23]; rfl
        have e6 : g41 6 = qc := by simp only [hg41, hg40, hg39, hg38, hg37, hg36, hg35, hg25, hg24, hg23]; rfl
        have e7 : g41 7 = vc := by simp only [hg41, hg40, hg39, hg38, hg37, hg36, hg35, hg25, hg24, hg23]; rfl
        have e8 : g41 8 = qc := by simp only [hg41, hg40, hg39, hg38, hg37, hg36, hg35, hg25, hg24, hg23]; rfl
        have e9 : g41 9 = (62 : Int32) := by simp only [hg41, hg40, hg39, hg38, hg37, hg36, hg35, hg25, hg24, hg23]; rfl
        exact J426 ca g41 (10 : Int32) 9 9 5 6 v1 sl qc nc vc tc att sc sb sa T41 _ _ s hZ hown X41 e41 N41 (Nat.le_trans (Nat.le_trans (Nat.le_trans (Nat.le_trans (Nat.le_trans (Nat.le_trans (Nat.le_trans (Nat.le_trans (Nat.le_trans (Nat.le_trans zs22 (Nat.le_of_eq W23.size.symm)) (Nat.le_of_eq W24.size.symm)) (Nat.le_of_eq W25.size.symm)) (Nat.le_of_eq W35.size.symm)) (Nat.le_of_eq W36.size.symm)) (Nat.le_of_eq W37.size.symm)) (Nat.le_of_eq W38.size.symm)) (Nat.le_of_eq W39.size.symm)) (Nat.le_of_eq W40.size.symm)) (Nat.le_of_eq W41.size.symm)) (Nat.le_trans (Nat.le_trans (Nat.le_trans (Nat.le_trans (Nat.le_trans (Nat.le_trans (Nat.le_trans (Nat.le_trans (Nat.le_trans (Nat.le_trans zz22 (Nat.le_of_eq W23.size.symm)) (Nat.le_of_eq W24.size.symm)) (Nat.le_of_eq W25.size.symm)) (Nat.le_of_eq W35.size.symm)) (Nat.le_of_eq W36.size.symm)) (Nat.le_of_eq W37.size.symm)) (Nat.le_of_eq W38.size.symm)) (Nat.le_of_eq W39.size.symm)) (Nat.le_of_eq W40.size.symm)) (Nat.le_of_eq W41.size.symm)) ((((((((((K22.wr W23 (Or.inr sz_ca)).wr W24 (Or.inr sz_ca)).wr W25 (Or.inr sz_ca)).wr W35 (Or.inr sz_ca)).wr W36 (Or.inr sz_ca)).wr W37 (Or.inr sz_ca)).wr W38 (Or.inr sz_ca)).wr W39 (Or.inr sz_ca)).wr W40 (Or.inr sz_ca)).wr W41 (Or.inr sz_ca)) A41 hfg41 ga za (by rw [e2]; exact hnc) (Or.inr ⟨by decide, by rw [e3]; exact hsp34, by rw [e4]; exact hnc, Or.inl ⟨rfl, trivial⟩, e5, Or.inl ⟨rfl, trivial⟩, by rw [e6]; exact hq, by rw [e7, e6]; exact hvc, by rw [e8, e6], rfl⟩) ⟨Or.inl ⟨rfl, trivial⟩, by decide, Or.inr ⟨c403, e9, rfl⟩⟩
       · -- pc 403: not sl = (0 : Int32)
        refine own_g (own_F T40 m 406 #[iv i0, iv i1, iv i2, iv i3, iv i4, iv i5, iv v1, iv sl, iv att, iv sc, iv sb, iv sa, iv qc, iv nc, iv vc, iv tc, rv ca, iv 9, .unset, .unset, .unset] []) (fun _ z_ => XS.ifNo X40.here hx rfl (hb hby at_403) rfl ((if0 _ _).trans (feq c403).1) z_) ?_
        refine own_g (own_F T40 m 408 #[iv i0, iv i1, iv i2, iv i3, iv i4, iv i5, iv v1, iv sl, iv att, iv sc, iv sb, iv sa, iv qc, iv nc, iv vc, iv tc, rv ca, iv 9, .unset, .unset, .unset] [(.ref ca)]) (fun _ z_ => XS.aload X40.here hx rfl (hb hby at_406) rfl rfl z_) ?_
        refine own_g (own_F T40 m 410 #[iv i0, iv i1, iv i2, iv i3, iv i4, iv i5, iv v1, iv sl, iv att, iv sc, iv sb, iv sa, iv qc, iv nc, iv vc, iv tc, rv ca, iv 9, .unset, .unset, .unset] [(.int 9), (.ref ca)]) (fun _ z_ => XS.iload X40.here hx rfl (hb hby at_408) rfl z_) ?_
        refine own_g (own_F T40 m 412 #[iv i0, iv i1, iv i2, iv i3, iv i4, iv i5, iv v1, iv sl, iv att, iv sc, iv sb, iv sa, iv qc, iv nc, iv vc, iv tc, rv ca, iv 9, .unset, .unset, .unset] [(.int 47), (.int 9), (.ref ca)]) (fun _ z_ => XS.bipush X40.here hx rfl (hb hby at_410) z_) ?_
        refine own_cast X40 hx hZ e40 A40 9 rfl (by decide) (47 : Int32) rfl (hb hby at_412) ?_
        intro T42 h42 X42 e42 W42 A42
        have N42 := Fr.snoc X42 N40 ga
        obtain ⟨g42, hg42⟩ : ∃ gq_ : Nat → Int32, gq_ = fun q_ => if q_ = 9 then (47 : Int32) else g40 q_ := ⟨_, rfl⟩
        have A42 : own_A Z h42 ca .char 16 (fun q_ => .int (g42 q_)) := by rw [hg42]; exact A42
        show own_Ends p e below s _ _ _ (own_F T42 m 413 #[iv i0, iv i1, iv i2, iv i3, iv i4, iv i5, iv v1, iv sl, iv att, iv sc, iv sb, iv sa, iv qc, iv nc, iv vc, iv tc, rv ca, iv 9, .unset, .unset, .unset] [])
        have hfg42 := own_rng hfg40 (by decide) hg42
        refine own_g (own_F T42 m 416 #[iv i0, iv i1, iv i2, iv i3, iv i4, iv i5, iv v1, iv sl, iv att, iv sc, iv sb, iv sa, iv qc, iv nc, iv vc, iv tc, rv ca, iv 10, .unset, .unset, .unset] []) (fun _ z_ => XS.iinc X42.here hx rfl (hb hby at_413) rfl (l' := #[iv i0, iv i1, iv i2, iv i3, iv i4, iv i5, iv v1, iv sl, iv att, iv sc, iv sb, iv sa, iv qc, iv nc, iv vc, iv tc, rv ca, iv 10, .unset, .unset, .unset]) rfl z_) ?_
        refine own_g (own_F T42 m 418 #[iv i0, iv i1, iv i2, iv i3, iv i4, iv i5, iv v1, iv sl, iv att, iv sc, iv sb, iv sa, iv qc, iv nc, iv vc, iv tc, rv ca, iv 10, .unset, .unset, .unset] [(.ref ca)]) (fun _ z_ => XS.aload X42.here hx rfl (hb hby at_416) rfl rfl z_) ?_
        refine own_g (own_F T42 m 420 #[iv i0, iv i1, iv i2, iv i3, iv i4, iv i5, iv v1, iv sl, iv att, iv sc, iv sb, iv sa, iv qc, iv nc, iv vc, iv tc, rv ca, iv 10, .unset, .unset, .unset] [(.int 10), (.ref ca)]) (fun _ z_ => XS.iload X42.here hx rfl (hb hby at_418) rfl z_) ?_
        refine own_g (own_F T42 m 422 #[iv i0, iv i1, iv i2, iv i3, iv i4, iv i5, iv v1, iv sl, iv att, iv sc, iv sb, iv sa, iv qc, iv nc, iv vc, iv tc, rv ca, iv 10, .unset, .unset, .unset] [(.int 62), (.int 10), (.ref ca)]) (fun _ z_ => XS.bipush X42.here hx rfl (hb hby at_420) z_) ?_
        refine own_cast X42 hx hZ e42 A42 10 rfl (by decide) (62 : Int32) rfl (hb hby at_422) ?_
        intro T43 h43 X43 e43 W43 A43
        have N43 := Fr.snoc X43 N42 ga
        obtain ⟨g43, hg43⟩ : ∃ gq_ : Nat → Int32, gq_ = fun q_ => if q_ = 10 then (62 : Int32) else g42 q_ := ⟨_, rfl⟩
        have A43 : own_A Z h43 ca .char 16 (fun q_ => .int (g43 q_)) := by rw [hg43]; exact A43
        show own_Ends p e below s _ _ _ (own_F T43 m 423 #[iv i0, iv i1, iv i2, iv i3, iv i4, iv i5, iv v1, iv sl, iv att, iv sc, iv sb, iv sa, iv qc, iv nc, iv vc, iv tc, rv ca, iv 10, .unset, .unset, .unset] [])
        have hfg43 := own_rng hfg42 (by decide) hg43
        refine own_g (own_F T43 m 426 #[iv i0, iv i1, iv i2, iv i3, iv i4, iv i5, iv v1, iv sl, iv att, iv sc, iv sb, iv sa, iv qc, iv nc, iv vc, iv tc, rv ca, iv 11, .unset, .unset, .unset] []) (fun _ z_ => XS.iinc X43.here hx rfl (hb hby at_423) rfl (l' := #[iv i0, iv i1, iv i2, iv i3, iv i4, iv i5, iv v1, iv sl, iv att, iv sc, iv sb, iv sa, iv qc, iv nc, iv vc, iv tc, rv ca, iv 11, .unset, .unset, .unset]) rfl z_) ?_
        have e2 : g43 2 = nc := by simp only [hg43, hg42, hg40, hg39, hg38, hg37, hg36, hg35, hg25, hg24, hg23]; rfl
        have e3 : g43 3 = s34 := by simp only [hg43, hg42, hg40, hg39, hg38, hg37, hg36, hg35, hg25, hg24, hg23]; rfl
        have e4 : g43 4 = nc := by simp only [hg43, hg42, hg40, hg39, hg38, hg37, hg36, hg35, hg25, hg24, hg23]; rfl
        have e5 : g43 5 = (61 : Int32) := by simp only [hg43, hg42, hg40, hg39, hg38, hg37, hg36, hg35, hg25, hg24, hg23]; rfl
        have e6 : g43 6 = qc := by simp only [hg43, hg42, hg40, hg39, hg38, hg37, hg36, hg35, hg25, hg24, hg23]; rfl
        have e7 : g43 7 = vc := by simp only [hg43, hg42, hg40, hg39, hg38, hg37, hg36, hg35, hg25, hg24, hg23]; rfl
        have e8 : g43 8 = qc := by simp only [hg43, hg42, hg40, hg39, hg38, hg37, hg36, hg35, hg25, hg24, hg23]; rfl
        have e9 : g43 9 = (47 : Int32) := by simp only [hg43, hg42, hg40, hg39, hg38, hg37, hg36, hg35, hg25, hg24, hg23]; rfl
        have e10 : g43 10 = (62 : Int32) := by simp only [hg43, hg42, hg40, hg39, hg38, hg37, hg36, hg35, hg25, hg24, hg23]; rfl
        exact J426 ca g43 (11 : Int32) 9 9 5 6 v1 sl qc nc vc tc att sc sb sa T43 _ _ s hZ hown X43 e43 N43 (Nat.le_trans (Nat.le_trans (Nat.le_trans (Nat.le_trans (Nat.le_trans (Nat.le_trans (Nat.le_trans (Nat.le_trans (Nat.le_trans (Nat.le_trans (Nat.le_trans zs22 (Nat.le_of_eq W23.size.symm)) (Nat.le_of_eq W24.size.symm)) (Nat.le_of_eq W25.size.symm)) (Nat.le_of_eq W35.size.symm)) (Nat.le_of_eq W36.size.symm)) (Nat.le_of_eq W37.size.symm)) (Nat.le_of_eq W38.size.symm)) (Nat.le_of_eq W39.size.symm)) (Nat.le_of_eq W40.size.symm)) (Nat.le_of_eq W42.size.symm)) (Nat.le_of_eq W43.size.symm)) (Nat.le_trans (Nat.le_trans (Nat.le_trans (Nat.le_trans (Nat.le_trans (Nat.le_trans (Nat.le_trans (Nat.le_trans (Nat.le_trans (Nat.le_trans (Nat.le_trans zz22 (Nat.le_of_eq W23.size.symm)) (Nat.le_of_eq W24.size.symm)) (Nat.le_of_eq W25.size.symm)) (Nat.le_of_eq W35.size.symm)) (Nat.le_of_eq W36.size.symm)) (Nat.le_of_eq W37.size.symm)) (Nat.le_of_eq W38.size.symm)) (Nat.le_of_eq W39.size.symm)) (Nat.le_of_eq W40.size.symm)) (Nat.le_of_eq W42.size.symm)) (Nat.le_of_eq W43.size.symm)) (((((((((((K22.wr W23 (Or.inr sz_ca)).wr W24 (Or.inr sz_ca)).wr W25 (Or.inr sz_ca)).wr W35 (Or.inr sz_ca)).wr W36 (Or.inr sz_ca)).wr W37 (Or.inr sz_ca)).wr W38 (Or.inr sz_ca)).wr W39 (Or.inr sz_ca)).wr W40 (Or.inr sz_ca)).wr W42 (Or.inr sz_ca)).wr W43 (Or.inr sz_ca)) A43 hfg43 ga za (by rw [e2]; exact hnc) (Or.inr ⟨by decide, by rw [e3]; exact hsp34, by rw [e4]; exact hnc, Or.inl ⟨rfl, trivial⟩, e5, Or.inl ⟨rfl, trivial⟩, by rw [e6]; exact hq, by rw [e7, e6]; exact hvc, by rw [e8, e6], rfl⟩) ⟨Or.inl ⟨rfl, trivial⟩, by decide, Or.inl ⟨(h_sl.resolve_left c403), e9, rfl⟩⟩
      · -- pc 381: not sc = (0 : Int32)
       refine own_g (own_F T40 m 384 #[iv i0, iv i1, iv i2, iv i3, iv i4, iv i5, iv v1, iv sl, iv att, iv sc, iv sb, iv sa, iv qc, iv nc, iv vc, iv tc, rv ca, iv 9, .unset, .unset, .unset] []) (fun _ z_ => XS.ifNo X40.here hx rfl (hb hby at_381) rfl ((if0 _ _).trans (feq c381).1) z_) ?_
       refine own_g (own_F T40 m 386 #[iv i0, iv i1, iv i2, iv i3, iv i4, iv i5, iv v1, iv sl, iv att, iv sc, iv sb, iv sa, iv qc, iv nc, iv vc, iv tc, rv ca, iv 9, .unset, .unset, .unset] [(.ref ca)]) (fun _ z_ => XS.aload X40.here hx rfl (hb hby at_384) rfl rfl z_) ?_
       refine own_g (own_F T40 m 388 #[iv i0, iv i1, iv i2, iv i3, iv i4, iv i5, iv v1, iv sl, iv att, iv sc, iv sb, iv sa, iv qc, iv nc, iv vc, iv tc, rv ca, iv 9, .unset, .unset, .unset] [(.int 9), (.ref ca)]) (fun _ z_ => XS.iload X40.here hx rfl (hb hby at_386) rfl z_) ?_
       refine own_g (own_F T40 m 389 #[iv i0, iv i1, iv i2, iv i3, iv i4, iv i5, iv v1, iv sl, iv att, iv sc, iv sb, iv sa, iv qc, iv nc, iv vc, iv tc, rv ca, iv 9, .unset, .unset, .unset] [(.int i3), (.int 9), (.ref ca)]) (fun _ z_ => XS.iloadN X40.here hx rfl (hb hby at_388) rfl z_) ?_
       refine own_g (own_F T40 m 391 #[iv i0, iv i1, iv i2, iv i3, iv i4, iv i5, iv v1, iv sl, iv att, iv sc, iv sb, iv sa, iv qc, iv nc, iv vc, iv tc, rv ca, iv 9, .unset, .unset, .unset] [(.int 9), (.int i3), (.int 9), (.ref ca)]) (fun _ z_ => XS.bipush X40.here hx rfl (hb hby at_389) z_) ?_
       refine own_g (own_F T40 m 392 #[iv i0, iv i1, iv i2, iv i3, iv i4, iv i5, iv v1, iv sl, iv att, iv sc, iv sb, iv sa, iv qc, iv nc, iv vc, iv tc, rv ca, iv 9, .unset, .unset, .unset] [(.int ((i3.toUInt32 >>> ((9 : Int32) &&& 31).toUInt32).toInt32)), (.int 9), (.ref ca)]) (fun _ z_ => XS.iushr X40.here hx rfl (hb hby at_391) rfl z_) ?_
       refine own_g (own_F T40 m 394 #[iv i0, iv i1, iv i2, iv i3, iv i4, iv i5, iv v1, iv sl, iv att, iv sc, iv sb, iv sa, iv qc, iv nc, iv vc, iv tc, rv ca, iv 9, .unset, .unset, .unset] [(.int v1), (.int ((i3.toUInt32 >>> ((9 : Int32) &&& 31).toUInt32).toInt32)), (.int 9), (.ref ca)]) (fun _ z_ => XS.iload X40.here hx rfl (hb hby at_392) rfl z_) ?_
       refine own_callS (y := (⟨"com/example/cadmus/cadmus/StartTagEmptyPinLaw", "space", "(IZ)C"⟩ : MethodName)) X40 hx hZ hown (own_w hw 125) (own_w hw 126) (own_w hw 2) (own_w hw 127) (by decide) e40 (hM := own_space l Z a0 hw [] ((i3.toUInt32 >>> ((9 : Int32) &&& 31).toUInt32).toInt32) v1 h40 n0 (Nat.le_trans (Nat.le_trans (Nat.le_trans (Nat.le_trans (Nat.le_trans (Nat.le_trans (Nat.le_trans (Nat.le_trans (Nat.le_trans zs22 (Nat.le_of_eq W23.size.symm)) (Nat.le_of_eq W24.size.symm)) (Nat.le_of_eq W25.size.symm)) (Nat.le_of_eq W35.size.symm)) (Nat.le_of_eq W36.size.symm)) (Nat.le_of_eq W37.size.symm)) (Nat.le_of_eq W38.size.symm)) (Nat.le_of_eq W39.size.symm)) (Nat.le_of_eq W40.size.symm))) (W := 2) (pc := 394) (Ls := #[iv i0, iv i1, iv i2, iv i3, iv i4, iv i5, iv v1, iv sl, iv att, iv sc, iv sb, iv sa, iv qc, iv nc, iv vc, iv tc, rv ca, iv 9, .unset, .unset, .unset]) (argsL := [(.int ((i3.toUInt32 >>> ((9 : Int32) &&& 31).toUInt32).toInt32)), (.int v1)]) (rest := [(.int 9), (.ref ca)]) (st0 := [(.int v1), (.int ((i3.toUInt32 >>> ((9 : Int32) &&& 31).toUInt32).toInt32)), (.int 9), (.ref ca)]) (by rw [hml]; rfl) (lenOf own_pd28 rfl) rfl (Nat.le_of_eq rfl) (hb hby at_394) (by decide) (by decide) (by decide) (by decide) ?_
       intro v44 T44 L44 s X44 hZ hown hI44 hvm44 hhp44 hWw44 hQ44
       obtain ⟨s44, rfl, hsp44, rsp44, Nq44, hh44⟩ := hQ44
       have N44 := Fr.app N40 Nq44
       show own_Ends p e below s _ _ _ (own_F T44 m 397 #[iv i0, iv i1, iv i2, iv i3, iv i4, iv i5, iv v1, iv sl, iv att, iv sc, iv sb, iv sa, iv qc, iv nc, iv vc, iv tc, rv ca, iv 9, .unset, .unset, .unset] [(.int s44), (.int 9), (.ref ca)])
       refine own_cast X44 hx hZ hh44 A40 9 rfl (by decide) s44 (own_narC rsp44) (hb hby at_397) ?_
       intro T45 h45 X45 e45 W45 A45
       have N45 := Fr.snoc X45 N44 ga
       obtain ⟨g45, hg45⟩ : ∃ gq_ : Nat → Int32, gq_ = fun q_ => if q_ = 9 then s44 else g40 q_ := ⟨_, rfl⟩
       have A45 : own_A Z h45 ca .char 16 (fun q_ => .int (g45 q_)) := by rw [hg45]; exact A45
       show own_Ends p e below s _ _ _ (own_F T45 m 398 #[iv i0, iv i1, iv i2, iv i3, iv i4, iv i5, iv v1, iv sl, iv att, iv sc, iv sb, iv sa, iv qc, iv nc, iv vc, iv tc, rv ca, iv 9, .unset, .unset, .unset] [])
       have hfg45 := own_rng hfg40 rsp44 hg45
       refine own_g (own_F T45 m 401 #[iv i0, iv i1, iv i2, iv i3, iv i4, iv i5, iv v1, iv sl, iv att, iv sc, iv sb, iv sa, iv qc, iv nc, iv vc, iv tc, rv ca, iv 10, .unset, .unset, .unset] []) (fun _ z_ => XS.iinc X45.here hx rfl (hb hby at_398) rfl (l' := #[iv i0, iv i1, iv i2, iv i3, iv i4, iv i5, iv v1, iv sl, iv att, iv sc, iv sb, iv sa, iv qc, iv nc, iv vc, iv tc, rv ca, iv 10, .unset, .unset, .unset]) rfl z_) ?_
       refine own_g (own_F T45 m 403 #[iv i0, iv i1, iv i2, iv i3, iv i4, iv i5, iv v1, iv sl, iv att, iv sc, iv sb, iv sa, iv qc, iv nc, iv vc, iv tc, rv ca, iv 10, .unset, .unset, .unset] [(.int sl)]) (fun _ z_ => XS.iload X45.here hx rfl (hb hby at_401) rfl z_) ?_
       by_cases c403 : sl = (0 : Int32)
       · -- pc 403: sl = (0 : Int32)
        refine own_g (own_F T45 m 416 #[iv i0, iv i1, iv i2, iv i3, iv i4, iv i5, iv v1, iv sl, iv att, iv sc, iv sb, iv sa, iv qc, iv nc, iv vc, iv tc, rv ca, iv 10, .unset, .unset, .unset] []) (fun _ z_ => XS.ifYes X45.here hx rfl (pc0 := 403) (pc' := 416) rfl (hb hby at_403) rfl ((if0 _ _).trans (teq c403).1) (by decide) (by decide) z_) ?_
        refine own_g (own_F T45 m 418 #[iv i0, iv i1, iv i2, iv i3, iv i4, iv i5, iv v1, iv sl, iv att, iv sc, iv sb, iv sa, iv qc, iv nc, iv vc, iv tc, rv ca, iv 10, .unset, .unset, .unset] [(.ref ca)]) (fun _ z_ => XS.aload X45.here hx rfl (hb hby at_416) rfl rfl z_) ?_
        refine own_g (own_F T45 m 420 #[iv i0, iv i1, iv i2, iv i3, iv i4, iv i5, iv v1, iv sl, iv att, iv sc, iv sb, iv sa, iv qc, iv nc, iv vc, iv tc, rv ca, iv 10, .unset, .unset, .unset] [(.int 10), (.ref ca)]) (fun _ z_ => XS.iload X45.here hx rfl (hb hby at_418) rfl z_) ?_
        refine own_g (own_F T45 m 422 #[iv i0, iv i1, iv i2, iv i3, iv i4, iv i5, iv v1, iv sl, iv att, iv sc, iv sb, iv sa, iv qc, iv nc, iv vc, iv tc, rv ca, iv 10, .unset, .unset, .unset] [(.int 62), (.int 10), (.ref ca)]) (fun _ z_ => XS.bipush X45.here hx rfl (hb hby at_420) z_) ?_
        refine own_cast X45 hx hZ e45 A45 10 rfl (by decide) (62 : Int32) rfl (hb hby at_422) ?_
        intro T46 h46 X46 e46 W46 A46
        have N46 := Fr.snoc X46 N45 ga
        obtain ⟨g46, hg46⟩ : ∃ gq_ : Nat → Int32, gq_ = fun q_ => if q_ = 10 then (62 : Int32) else g45 q_ := ⟨_, rfl⟩
        have A46 : own_A Z h46 ca .char 16 (fun q_ => .int (g46 q_)) := by rw [hg46]; exact A46
        show own_Ends p e below s _ _ _ (own_F T46 m 423 #[iv i0, iv i1, iv i2, iv i3, iv i4, iv i5, iv v1, iv sl, iv att, iv sc, iv sb, iv sa, iv qc, iv nc, iv vc, iv tc, rv ca, iv 10, .unset, .unset, .unset] [])
        have hfg46 := own_rng hfg45 (by decide) hg46
        refine own_g (own_F T46 m 426 #[iv i0, iv i1, iv i2, iv i3, iv i4, iv i5, iv v1, iv sl, iv att, iv sc, iv sb, iv sa, iv qc, iv nc, iv vc, iv tc, rv ca, iv 11, .unset, .unset, .unset] []) (fun _ z_ => XS.iinc X46.here hx rfl (hb hby at_423) rfl (l' := #[iv i0, iv i1, iv i2, iv i3, iv i4, iv i5, iv v1, iv sl, iv att, iv sc, iv sb, iv sa, iv qc, iv nc, iv vc, iv tc, rv ca, iv 11, .unset, .unset, .unset]) rfl z_) ?_
        have e2 : g46 2 = nc := by simp only [hg46, hg45, hg40, hg39, hg38, hg37, hg36, hg35, hg25, hg24, hg23]; rfl
        have e3 : g46 3 = s34 := by simp only [hg46, hg45, hg40, hg39, hg38, hg37, hg36, hg35, hg25, hg24, hg23]; rfl
        have e4 : g46 4 = nc := by simp only [hg46, hg45, hg40, hg39, hg38, hg37, hg36, hg35, hg25, hg24, hg23]; rfl
        have e5 : g46 5 = (61 : Int32) := by simp only [hg46, hg45, hg40, hg39, hg38, hg37, hg36, hg35, hg25, hg24, hg23]; rfl
        have e6 : g46 6 = qc := by simp only [hg46, hg45, hg40, hg39, hg38, hg37, hg36, hg35, hg25, hg24, hg23]; rfl
        have e7 : g46 7 = vc := by simp only [hg46, hg45, hg40, hg39, hg38, hg37, hg36, hg35, hg25, hg24, hg23]; rfl
        have e8 : g46 8 = qc := by simp only [hg46, hg45, hg40, hg39, hg38, hg37, hg36, hg35, hg25, hg24, hg23]; rfl
        have e9 : g46 9 = s44 := by simp only [hg46, hg45, hg40, hg39, hg38, hg37, hg36, hg35, hg25, hg24, hg23]; rfl
        have e10 : g46 10 = (62 : Int32) := by simp only [hg46, hg45, hg40, hg39, hg38, hg37, hg36, hg35, hg25, hg24, hg23]; rfl
        exact J426 ca g46 (11 : Int32) 9 10 5 6 v1 sl qc nc vc tc att sc sb sa T46 _ _ s hZ hown X46 e46 N46 (Nat.le_trans (Nat.le_trans (Nat.le_trans (Nat.le_trans (Nat.le_trans (Nat.le_trans (Nat.le_trans (Nat.le_trans (Nat.le_trans (Nat.le_trans (Nat.le_trans zs22 (Nat.le_of_eq W23.size.symm)) (Nat.le_of_eq W24.size.symm)) (Nat.le_of_eq W25.size.symm)) (Nat.le_of_eq W35.size.symm)) (Nat.le_of_eq W36.size.symm)) (Nat.le_of_eq W37.size.symm)) (Nat.le_of_eq W38.size.symm)) (Nat.le_of_eq W39.size.symm)) (Nat.le_of_eq W40.size.symm)) (Nat.le_of_eq W45.size.symm)) (Nat.le_of_eq W46.size.symm)) (Nat.le_trans (Nat.le_trans (Nat.le_trans (Nat.le_trans (Nat.le_trans (Nat.le_trans (Nat.le_trans (Nat.le_trans (Nat.le_trans (Nat.le_trans (Nat.le_trans zz22 (Nat.le_of_eq W23.size.symm)) (Nat.le_of_eq W24.size.symm)) (Nat.le_of_eq W25.size.symm)) (Nat.le_of_eq W35.size.symm)) (Nat.le_of_eq W36.size.symm)) (Nat.le_of_eq W37.size.symm)) (Nat.le_of_eq W38.size.symm)) (Nat.le_of_eq W39.size.symm)) (Nat.le_of_eq W40.size.symm)) (Nat.le_of_eq W45.size.symm)) (Nat.le_of_eq W46.size.symm)) (((((((((((K22.wr W23 (Or.inr sz_ca)).wr W24 (Or.inr sz_ca)).wr W25 (Or.inr sz_ca)).wr W35 (Or.inr sz_ca)).wr W36 (Or.inr sz_ca)).wr W37 (Or.inr sz_ca)).wr W38 (Or.inr sz_ca)).wr W39 (Or.inr sz_ca)).wr W40 (Or.inr sz_ca)).wr W45 (Or.inr sz_ca)).wr W46 (Or.inr sz_ca)) A46 hfg46 ga za (by rw [e2]; exact hnc) (Or.inr ⟨by decide, by rw [e3]; exact hsp34, by rw [e4]; exact hnc, Or.inl ⟨rfl, trivial⟩, e5, Or.inl ⟨rfl, trivial⟩, by rw [e6]; exact hq, by rw [e7, e6]; exact hvc, by rw [e8, e6], rfl⟩) ⟨Or.inr ⟨rfl, by rw [e9]; exact hsp44⟩, by decide, Or.inr ⟨c403, e10, rfl⟩⟩
       · -- pc 403: not sl = (0 : Int32)
        refine own_g (own_F T45 m 406 #[iv i0, iv i1, iv i2, iv i3, iv i4, iv i5, iv v1, iv sl, iv att, iv sc, iv sb, iv sa, iv qc, iv nc, iv vc, iv tc, rv ca, iv 10, .unset, .unset, .unset] []) (fun _ z_ => XS.ifNo X45.here hx rfl (hb hby at_403) rfl ((if0 _ _).trans (feq c403).1) z_) ?_
        refine own_g (own_F T45 m 408 #[iv i0, iv i1, iv i2, iv i3, iv i4, iv i5, iv v1, iv sl, iv att, iv sc, iv sb, iv sa, iv qc, iv nc, iv vc, iv tc, rv ca, iv 10, .unset, .unset, .unset] [(.ref ca)]) (fun _ z_ => XS.aload X45.here hx rfl (hb hby at_406) rfl rfl z_) ?_
        refine own_g (own_F T45 m 410 #[iv i0, iv i1, iv i2, iv i3, iv i4, iv i5, iv v1, iv sl, iv att, iv sc, iv sb, iv sa, iv qc, iv nc, iv vc, iv tc, rv ca, iv 10, .unset, .unset, .unset] [(.int 10), (.ref ca)]) (fun _ z_ => XS.iload X45.here hx rfl (hb hby at_408) rfl z_) ?_
        refine own_g (own_F T45 m 412 #[iv i0, iv i1, iv i2, iv i3, iv i4, iv i5, iv v1, iv sl, iv att, iv sc, iv sb, iv sa, iv qc, iv nc, iv vc, iv tc, rv ca, iv 10, .unset, .unset, .unset] [(.int 47), (.int 10), (.ref ca)]) (fun _ z_ => XS.bipush X45.here hx rfl (hb hby at_410) z_) ?_
        refine own_cast X45 hx hZ e45 A45 10 rfl (by decide) (47 : Int32) rfl (hb hby at_412) ?_
        intro T47 h47 X47 e47 W47 A47
        have N47 := Fr.snoc X47 N45 ga
        obtain ⟨g47, hg47⟩ : ∃ gq_ : Nat → Int32, gq_ = fun q_ => if q_ = 10 then (47 : Int32) else g45 q_ := ⟨_, rfl⟩
        have A47 : own_A Z h47 ca .char 16 (fun q_ => .int (g47 q_)) := by rw [hg47]; exact A47
        show own_Ends p e below s _ _ _ (own_F T47 m 413 #[iv i0, iv i1, iv i2, iv i3, iv i4, iv i5, iv v1, iv sl, iv att, iv sc, iv sb, iv sa, iv qc, iv nc, iv vc, iv tc, rv ca, iv 10, .unset, .unset, .unset] [])
        have hfg47 := own_rng hfg45 (by decide) hg47
        refine own_g (own_F T47 m 416 #[iv i0, iv i1, iv i2, iv i3, iv i4, iv i5, iv v1, iv sl, iv att, iv sc, iv sb, iv sa, iv qc, iv nc, iv vc, iv tc, rv ca, iv 11, .unset, .unset, .unset] []) (fun _ z_ => XS.iinc X47.here hx rfl (hb hby at_413) rfl (l' := #[iv i0, iv i1, iv i2, iv i3, iv i4, iv i5, iv v1, iv sl, iv att, iv sc, iv sb, iv sa, iv qc, iv nc, iv vc, iv tc, rv ca, iv 11, .unset, .unset, .unset]) rfl z_) ?_
        refine own_g (own_F T47 m 418 #[iv i0, iv i1, iv i2, iv i3, iv i4, iv i5, iv v1, iv sl, iv att, iv sc, iv sb, iv sa, iv qc, iv nc, iv vc, iv tc, rv ca, iv 11, .unset, .unset, .unset] [(.ref ca)]) (fun _ z_ => XS.aload X47.here hx rfl (hb hby at_416) rfl rfl z_) ?_
        refine own_g (own_F T47 m 420 #[iv i0, iv i1, iv i2, iv i3, iv i4, iv i5, iv v1, iv sl, iv att, iv sc, iv sb, iv sa, iv qc, iv nc, iv vc, iv tc, rv ca, iv 11, .unset, .unset, .unset] [(.int 11), (.ref ca)]) (fun _ z_ => XS.iload X47.here hx rfl (hb hby at_418) rfl z_) ?_
        refine own_g (own_F T47 m 422 #[iv i0, iv i1, iv i2, iv i3, iv i4, iv i5, iv v1, iv sl, iv att, iv sc, iv sb, iv sa, iv qc, iv nc, iv vc, iv tc, rv ca, iv 11, .unset, .unset, .unset] [(.int 62), (.int 11), (.ref ca)]) (fun _ z_ => XS.bipush X47.here hx rfl (hb hby at_420) z_) ?_
        refine own_cast X47 hx hZ e47 A47 11 rfl (by decide) (62 : Int32) rfl (hb hby at_422) ?_
        intro T48 h48 X48 e48 W48 A48
        have N48 := Fr.snoc X48 N47 ga
        obtain ⟨g48, hg48⟩ : ∃ gq_ : Nat → Int32, gq_ = fun q_ => if q_ = 11 then (62 : Int32) else g47 q_ := ⟨_, rfl⟩
        have A48 : own_A Z h48 ca .char 16 (fun q_ => .int (g48 q_)) := by rw [hg48]; exact A48
        show own_Ends p e below s _ _ _ (own_F T48 m 423 #[iv i0, iv i1, iv i2, iv i3, iv i4, iv i5, iv v1, iv sl, iv att, iv sc, iv sb, iv sa, iv qc, iv nc, iv vc, iv tc, rv ca, iv 11, .unset, .unset, .unset] [])
        have hfg48 := own_rng hfg47 (by decide) hg48
        refine own_g (own_F T48 m 426 #[iv i0, iv i1, iv i2, iv i3, iv i4, iv i5, iv v1, iv sl, iv att, iv sc, iv sb, iv sa, iv qc, iv nc, iv vc, iv tc, rv ca, iv 12, .unset, .unset, .unset] []) (fun _ z_ => XS.iinc X48.here hx rfl (hb hby at_423) rfl (l' := #[iv i0, iv i1, iv i2, iv i3, iv i4, iv i5, iv v1, iv sl, iv att, iv sc, iv sb, iv sa, iv qc, iv nc, iv vc, iv tc, rv ca, iv 12, .unset, .unset, .unset]) rfl z_) ?_
        have e2 : g48 2 = nc := by simp only [hg48, hg47, hg45, hg40, hg39, hg38, hg37, hg36, hg35, hg25, hg24, hg23]; rfl
        have e3 : g48 3 = s34 := by simp only [hg48, hg47, hg45, hg40, hg39, hg38, hg37, hg36, hg35, hg25, hg24, hg23]; rfl
        have e4 : g48 4 = nc := by simp only [hg48, hg47, hg45, hg40, hg39, hg38, hg37, hg36, hg35, hg25, hg24, hg23]; rfl
        have e5 : g48 5 = (61 : Int32) := by simp only [hg48, hg47, hg45, hg40, hg39, hg38, hg37, hg36, hg35, hg25, hg24, hg23]; rfl
        have e6 : g48 6 = qc := by simp only [hg48, hg47, hg45, hg40, hg39, hg38, hg37, hg36, hg35, hg25, hg24, hg23]; rfl
        have e7 : g48 7 = vc := by simp only [hg48, hg47, hg45, hg40, hg39, hg38, hg37, hg36, hg35, hg25, hg24, hg23]; rfl
        have e8 : g48 8 = qc := by simp only [hg48, hg47, hg45, hg40, hg39, hg38, hg37, hg36, hg35, hg25, hg24, hg23]; rfl
        have e9 : g48 9 = s44 := by simp only [hg48, hg47, hg45, hg40, hg39, hg38, hg37, hg36, hg35, hg25, hg24, hg23]; rfl
        have e10 : g48 10 = (47 : Int32) := by simp only [hg48, hg47, hg45, hg40, hg39, hg38, hg37, hg36, hg35, hg25, hg24, hg23]; rfl
        have e11 : g48 11 = (62 : Int32) := by simp only [hg48, hg47, hg45, hg40, hg39, hg38, hg37, hg36, hg35, hg25, hg24, hg23]; rfl
        exact J426 ca g48 (12 : Int32) 9 10 5 6 v1 sl qc nc vc tc att sc sb sa T48 _ _ s hZ hown X48 e48 N48 (Nat.le_trans (Nat.le_trans (Nat.le_trans (Nat.le_trans (Nat.le_trans (Nat.le_trans (Nat.le_trans (Nat.le_trans (Nat.le_trans (Nat.le_trans (Nat.le_trans (Nat.le_trans zs22 (Nat.le_of_eq W23.size.symm)) (Nat.le_of_eq W24.size.symm)) (Nat.le_of_eq W25.size.symm)) (Nat.le_of_eq W35.size.symm)) (Nat.le_of_eq W36.size.symm)) (Nat.le_of_eq W37.size.symm)) (Nat.le_of_eq W38.size.symm)) (Nat.le_of_eq W39.size.symm)) (Nat.le_of_eq W40.size.symm)) (Nat.le_of_eq W45.size.symm)) (Nat.le_of_eq W47.size.symm)) (Nat.le_of_eq W48.size.symm)) (Nat.le_trans (Nat.le_trans (Nat.le_trans (Nat.le_trans (Nat.le_trans (Nat.le_trans (Nat.le_trans (Nat.le_trans (Nat.le_trans (Nat.le_trans (Nat.le_trans (Nat.le_trans zz22 (Nat.le_of_eq W23.size.symm)) (Nat.le_of_eq W24.size.symm)) (Nat.le_of_eq W25.size.symm)) (Nat.le_of_eq W35.size.symm)) (Nat.le_of_eq W36.size.symm)) (Nat.le_of_eq W37.size.symm)) (Nat.le_of_eq W38.size.symm)) (Nat.le_of_eq W39.size.symm)) (Nat.le_of_eq W40.size.symm)) (Nat.le_of_eq W45.size.symm)) (Nat.le_of_eq W47.size.symm)) (Nat.le_of_eq W48.size.symm)) ((((((((((((K22.wr W23 (Or.inr sz_ca)).wr W24 (Or.inr sz_ca)).wr W25 (Or.inr sz_ca)).wr W35 (Or.inr sz_ca)).wr W36 (Or.inr sz_ca)).wr W37 (Or.inr sz_ca)).wr W38 (Or.inr sz_ca)).wr W39 (Or.inr sz_ca)).wr W40 (Or.inr sz_ca)).wr W45 (Or.inr sz_ca)).wr W47 (Or.inr sz_ca)).wr W48 (Or.inr sz_ca)) A48 hfg48 ga za (by rw [e2]; exact hnc) (Or.inr ⟨by decide, by rw [e3]; exact hsp34, by rw [e4]; exact hnc, Or.inl ⟨rfl, trivial⟩, e5, Or.inl ⟨rfl, trivial⟩, by rw [e6]; exact hq, by rw [e7, e6]; exact hvc, by rw [e8, e6], rfl⟩) ⟨Or.inr ⟨rfl, by rw [e9]; exact hsp44⟩, by decide, Or.inl ⟨(h_sl.resolve_left c403), e10, rfl⟩⟩
     · -- pc 329: not sa = (0 : Int32)
      refine own_g (own_F T37 m 332 #[iv i0, iv i1, iv i2, iv i3, iv i4, iv i5, iv v1, iv sl, iv att, iv sc, iv sb, iv sa, iv qc, iv nc, iv vc, iv tc, rv ca, iv 6, .unset, .unset, .unset] []) (fun _ z_ => XS.ifNo X37.here hx rfl (hb hby at_329) rfl ((if0 _ _).trans (feq c329).1) z_) ?_
      refine own_g (own_F T37 m 334 #[iv i0, iv i1, iv i2, iv i3, iv i4, iv i5, iv v1, iv sl, iv att, iv sc, iv sb, iv sa, iv qc, iv nc, iv vc, iv tc, rv ca, iv 6, .unset, .unset, .unset] [(.ref ca)]) (fun _ z_ => XS.aload X37.here hx rfl (hb hby at_332) rfl rfl z_) ?_
      refine own_g (own_F T37 m 336 #[iv i0, iv i1, iv i2, iv i3, iv i4, iv i5, iv v1, iv sl, iv att, iv sc, iv sb, iv sa, iv qc, iv nc, iv vc, iv tc, rv ca, iv 6, .unset, .unset, .unset] [(.int 6), (.ref ca)]) (fun _ z_ => XS.iload X37.here hx rfl (hb hby at_334) rfl z_) ?_
      refine own_g (own_F T37 m 337 #[iv i0, iv i1, iv i2, iv i3, iv i4, iv i5, iv v1, iv sl, iv att, iv sc, iv sb, iv sa, iv qc, iv nc, iv vc, iv tc, rv ca, iv 6, .unset, .unset, .unset] [(.int i3), (.int 6), (.ref ca)]) (fun _ z_ => XS.iloadN X37.here hx rfl (hb hby at_336) rfl z_) ?_
      refine own_g (own_F T37 m 339 #[iv i0, iv i1, iv i2, iv i3, iv i4, iv i5, iv v1, iv sl, iv att, iv sc, iv sb, iv sa, iv qc, iv nc, iv vc, iv tc, rv ca, iv 6, .unset, .unset, .unset] [(.int 6), (.int i3), (.int 6), (.ref ca)]) (fun _ z_ => XS.bipush X37.here hx rfl (hb hby at_337) z_) ?_
      refine own_g (own_F T37 m 340 #[iv i0, iv i1, iv i2, iv i3, iv i4, iv i5, iv v1, iv sl, iv att, iv sc, iv sb, iv sa, iv qc, iv nc, iv vc, iv tc, rv ca, iv 6, .unset, .unset, .unset] [(.int ((i3.toUInt32 >>> ((6 : Int32) &&& 31).toUInt32).toInt32)), (.int 6), (.ref ca)]) (fun _ z_ => XS.iushr X37.here hx rfl (hb hby at_339) rfl z_) ?_
      refine own_g (own_F T37 m 342 #[iv i0, iv i1, iv i2, iv i3, iv i4, iv i5, iv v1, iv sl, iv att, iv sc, iv sb, iv sa, iv qc, iv nc, iv vc, iv tc, rv ca, iv 6, .unset, .unset, .unset] [(.int v1), (.int ((i3.toUInt32 >>> ((6 : Int32) &&& 31).toUInt32).toInt32)), (.int 6), (.ref ca)]) (fun _ z_ => XS.iload X37.here hx rfl (hb hby at_340) rfl z_) ?_
      refine own_callS (y := (⟨"com/example/cadmus/cadmus/StartTagEmptyPinLaw", "space", "(IZ)C"⟩ : MethodName)) X37 hx hZ hown (own_w hw 125) (own_w hw 126) (own_w hw 2) (own_w hw 127) (by decide) e37 (hM := own_space l Z a0 hw [] ((i3.toUInt32 >>> ((6 : Int32) &&& 31).toUInt32).toInt32) v1 h37 n0 (Nat.le_trans (Nat.le_trans (Nat.le_trans (Nat.le_trans (Nat.le_trans (Nat.le_trans zs22 (Nat.le_of_eq W23.size.symm)) (Nat.le_of_eq W24.size.symm)) (Nat.le_of_eq W25.size.symm)) (Nat.le_of_eq W35.size.symm)) (Nat.le_of_eq W36.size.symm)) (Nat.le_of_eq W37.size.symm))) (W := 2) (pc := 342) (Ls := #[iv i0, iv i1, iv i2, iv i3, iv i4, iv i5, iv v1, iv sl, iv att, iv sc, iv sb, iv sa, iv qc, iv nc, iv vc, iv tc, rv ca, iv 6, .unset, .unset, .unset]) (argsL := [(.int ((i3.toUInt32 >>> ((6 : Int32) &&& 31).toUInt32).toInt32)), (.int v1)]) (rest := [(.int 6), (.ref ca)]) (st0 := [(.int v1), (.int ((i3.toUInt32 >>> ((6 : Int32) &&& 31).toUInt32).toInt32)), (.int 6), (.ref ca)]) (by rw [hml]; rfl) (lenOf own_pd28 rfl) rfl (Nat.le_of_eq rfl) (hb hby at_342) (by decide) (by decide) (by decide) (by decide) ?_
      intro v49 T49 L49 s X49 hZ hown hI49 hvm49 hhp49 hWw49 hQ49
      obtain ⟨s49, rfl, hsp49, rsp49, Nq49, hh49⟩ := hQ49
      have N49 := Fr.app N37 Nq49
      show own_Ends p e below s _ _ _ (own_F T49 m 345 #[iv i0, iv i1, iv i2, iv i3, iv i4, iv i5, iv v1, iv sl, iv att, iv sc, iv sb, iv sa, iv qc, iv nc, iv vc, iv tc, rv ca, iv 6, .unset, .unset, .unset] [(.int s49), (.int 6), (.ref ca)])
      refine own_cast X49 hx hZ hh49 A37 6 rfl (by decide) s49 (own_narC rsp49) (hb hby at_345) ?_
      intro T50 h50 X50 e50 W50 A50
      have N50 := Fr.snoc X50 N49 ga
      obtain ⟨g50, hg50⟩ : ∃ gq_ : Nat → Int32, gq_ = fun q_ => if q_ = 6 then s49 else g37 q_ := ⟨_, rfl⟩
      have A50 : own_A Z h50 ca .char 16 (fun q_ => .int (g50 q_)) := by rw [hg50]; exact A50
      show own_Ends p e below s _ _ _ (own_F T50 m 346 #[iv i0, iv i1, iv i2, iv i3, iv i4, iv i5, iv v1, iv sl, iv att, iv sc, iv sb, iv sa, iv qc, iv nc, iv vc, iv tc, rv ca, iv 6, .unset, .unset, .unset] [])
      have hfg50 := own_rng hfg37 rsp49 hg50
      refine own_g (own_F T50 m 349 #[iv i0, iv i1, iv i2, iv i3, iv i4, iv i5, iv v1, iv sl, iv att, iv sc, iv sb, iv sa, iv qc, iv nc, iv vc, iv tc, rv ca, iv 7, .unset, .unset, .unset] []) (fun _ z_ => XS.iinc X50.here hx rfl (hb hby at_346) rfl (l' := #[iv i0, iv i1, iv i2, iv i3, iv i4, iv i5, iv v1, iv sl, iv att, iv sc, iv sb, iv sa, iv qc, iv nc, iv vc, iv tc, rv ca, iv 7, .unset, .unset, .unset]) rfl z_) ?_
      refine own_g (own_F T50 m 351 #[iv i0, iv i1, iv i2, iv i3, iv i4, iv i5, iv v1, iv sl, iv att, iv sc, iv sb, iv sa, iv qc, iv nc, iv vc, iv tc, rv ca, iv 7, .unset, .unset, .unset] [(.ref ca)]) (fun _ z_ => XS.aload X50.here hx rfl (hb hby at_349) rfl rfl z_) ?_
      refine own_g (own_F T50 m 353 #[iv i0, iv i1, iv i2, iv i3, iv i4, iv i5, iv v1, iv sl, iv att, iv sc, iv sb, iv sa, iv qc, iv nc, iv vc, iv tc, rv ca, iv 7, .unset, .unset, .unset] [(.int 7), (.ref ca)]) (fun _ z_ => XS.iload X50.here hx rfl (hb hby at_351) rfl z_) ?_
      refine own_g (own_F T50 m 355 #[iv i0, iv i1, iv i2, iv i3, iv i4, iv i5, iv v1, iv sl, iv att, iv sc, iv sb, iv sa, iv qc, iv nc, iv vc, iv tc, rv ca, iv 7, .unset, .unset, .unset] [(.int qc), (.int 7), (.ref ca)]) (fun _ z_ => XS.iload X50.here hx rfl (hb hby at_353) rfl z_) ?_
      refine own_cast X50 hx hZ e50 A50 7 rfl (by decide) qc (own_narC rqc) (hb hby at_355) ?_
      intro T51 h51 X51 e51 W51 A51
      have N51 := Fr.snoc X51 N50 ga
      obtain ⟨g51, hg51⟩ : ∃ gq_ : Nat → Int32, gq_ = fun q_ => if q_ = 7 then qc else g50 q_ := ⟨_, rfl⟩
      have A51 : own_A Z h51 ca .char 16 (fun q_ => .int (g51 q_)) := by rw [hg51]; exact A51
      show own_Ends p e below s _ _ _ (own_F T51 m 356 #[iv i0, iv i1, iv i2, iv i3, iv i4, iv i5, iv v1, iv sl, iv att, iv sc, iv sb, iv sa, iv qc, iv nc, iv vc, iv tc, rv ca, iv 7, .unset, .unset, .unset] [])
      have hfg51 := own_rng hfg50 rqc hg51
      refine own_g (own_F T51 m 359 #[iv i0, iv i1, iv i2, iv i3, iv i4, iv i5, iv v1, iv sl, iv att, iv sc, iv sb, iv sa, iv qc, iv nc, iv vc, iv tc, rv ca, iv 8, .unset, .unset, .unset] []) (fun _ z_ => XS.iinc X51.here hx rfl (hb hby at_356) rfl (l' := #[iv i0, iv i1, iv i2, iv i3, iv i4, iv i5, iv v1, iv sl, iv att, iv sc, iv sb, iv sa, iv qc, iv nc, iv vc, iv tc, rv ca, iv 8, .unset, .unset, .unset]) rfl z_) ?_
      refine own_g (own_F T51 m 361 #[iv i0, iv i1, iv i2, iv i3, iv i4, iv i5, iv v1, iv sl, iv att, iv sc, iv sb, iv sa, iv qc, iv nc, iv vc, iv tc, rv ca, iv 8, .unset, .unset, .unset] [(.ref ca)]) (fun _ z_ => XS.aload X51.here hx rfl (hb hby at_359) rfl rfl z_) ?_
      refine own_g (own_F T51 m 363 #[iv i0, iv i1, iv i2, iv i3, iv i4, iv i5, iv v1, iv sl, iv att, iv sc, iv sb, iv sa, iv qc, iv nc, iv vc, iv tc, rv ca, iv 8, .unset, .unset, .unset] [(.int 8), (.ref ca)]) (fun _ z_ => XS.iload X51.here hx rfl (hb hby at_361) rfl z_) ?_
      refine own_g (own_F T51 m 365 #[iv i0, iv i1, iv i2, iv i3, iv i4, iv i5, iv v1, iv sl, iv att, iv sc, iv sb, iv sa, iv qc, iv nc, iv vc, iv tc, rv ca, iv 8, .unset, .unset, .unset] [(.int vc), (.int 8), (.ref ca)]) (fun _ z_ => XS.iload X51.here hx rfl (hb hby at_363) rfl z_) ?_
      refine own_cast X51 hx hZ e51 A51 8 rfl (by decide) vc (own_narC rvc) (hb hby at_365) ?_
      intro T52 h52 X52 e52 W52 A52
      have N52 := Fr.snoc X52 N51 ga
      obtain ⟨g52, hg52⟩ : ∃ gq_ : Nat → Int32, gq_ = fun q_ => if q_ = 8 then vc else g51 q_ := ⟨_, rfl⟩
      have A52 : own_A Z h52 ca .char 16 (fun q_ => .int (g52 q_)) := by rw [hg52]; exact A52
      show own_Ends p e below s _ _ _ (own_F T52 m 366 #[iv i0, iv i1, iv i2, iv i3, iv i4, iv i5, iv v1, iv sl, iv att, iv sc, iv sb, iv sa, iv qc, iv nc, iv vc, iv tc, rv ca, iv 8, .unset, .unset, .unset] [])
      have hfg52 := own_rng hfg51 rvc hg52
      refine own_g (own_F T52 m 369 #[iv i0, iv i1, iv i2, iv i3, iv i4, iv i5, iv v1, iv sl, iv att, iv sc, iv sb, iv sa, iv qc, iv nc, iv vc, iv tc, rv ca, iv 9, .unset, .unset, .unset] []) (fun _ z_ => XS.iinc X52.here hx rfl (hb hby at_366) rfl (l' := #[iv i0, iv i1, iv i2, iv i3, iv i4, iv i5, iv v1, iv sl, iv att, iv sc, iv sb, iv sa, iv qc, iv nc, iv vc, iv tc, rv ca, iv 9, .unset, .unset, .unset]) rfl z_) ?_
      refine own_g (own_F T52 m 371 #[iv i0, iv i1, iv i2, iv i3, iv i4, iv i5, iv v1, iv sl, iv att, iv sc, iv sb, iv sa, iv qc, iv nc, iv vc, iv tc, rv ca, iv 9, .unset, .unset, .unset] [(.ref ca)]) (fun _ z_ => XS.aload X52.here hx rfl (hb hby at_369) rfl rfl z_) ?_
      refine own_g (own_F T52 m 373 #[iv i0, iv i1, iv i2, iv i3, iv i4, iv i5, iv v1, iv sl, iv att, iv sc, iv sb, iv sa, iv qc, iv nc, iv vc, iv tc, rv ca, iv 9, .unset, .unset, .unset] [(.int 9), (.ref ca)]) (fun _ z_ => XS.iload X52.here hx rfl (hb hby at_371) rfl z_) ?_
      refine own_g (own_F T52 m 375 #[iv i0, iv i1, iv i2, iv i3, iv i4, iv i5, iv v1, iv sl, iv att, iv sc, iv sb, iv sa, iv qc, iv nc, iv vc, iv tc, rv ca, iv 9, .unset, .unset, .unset] [(.int qc), (.int 9), (.ref ca)]) (fun _ z_ => XS.iload X52.here hx rfl (hb hby at_373) rfl z_) ?_
      refine own_cast X52 hx hZ e52 A52 9 rfl (by decide) qc (own_narC rqc) (hb hby at_375) ?_
      intro T53 h53 X53 e53 W53 A53
      have N53 := Fr.snoc X53 N52 ga
      obtain ⟨g53, hg53⟩ : ∃ gq_ : Nat → Int32, gq_ = fun q_ => if q_ = 9 then qc else g52 q_ := ⟨_, rfl⟩
      have A53 : own_A Z h53 ca .char 16 (fun q_ => .int (g53 q_)) := by rw [hg53]; exact A53
      show own_Ends p e below s _ _ _ (own_F T53 m 376 #[iv i0, iv i1, iv i2, iv i3, iv i4, iv i5, iv v1, iv sl, iv att, iv sc, iv sb, iv sa, iv qc, iv nc, iv vc, iv tc, rv ca, iv 9, .unset, .unset, .unset] [])
      have hfg53 := own_rng hfg52 rqc hg53
      refine own_g (own_F T53 m 379 #[iv i0, iv i1, iv i2, iv i3, iv i4, iv i5, iv v1, iv sl, iv att, iv sc, iv sb, iv sa, iv qc, iv nc, iv vc, iv tc, rv ca, iv 10, .unset, .unset, .unset] []) (fun _ z_ => XS.iinc X53.here hx rfl (hb hby at_376) rfl (l' := #[iv i0, iv i1, iv i2, iv i3, iv i4, iv i5, iv v1, iv sl, iv att, iv sc, iv sb, iv sa, iv qc, iv nc, iv vc, iv tc, rv ca, iv 10, .unset, .unset, .unset]) rfl z_) ?_
      refine own_g (own_F T53 m 381 #[iv i0, iv i1, iv i2, iv i3, iv i4, iv i5, iv v1, iv sl, iv att, iv sc, iv sb, iv sa, iv qc, iv nc, iv vc, iv tc, rv ca, iv 10, .unset, .unset, .unset] [(.int sc)]) (fun _ z_ => XS.iload X53.here hx rfl (hb hby at_379) rfl z_) ?_
      by_cases c381 : sc = (0 : Int32)
      · -- pc 381: sc = (0 : Int32)
       refine own_g (own_F T53 m 401 #[iv i0, iv i1, iv i2, iv i3, iv i4, iv i5, iv v1, iv sl, iv att, iv sc, iv sb, iv sa, iv qc, iv nc, iv vc, iv tc, rv ca, iv 10, .unset, .unset, .unset] []) (fun _ z_ => XS.ifYes X53.here hx rfl (pc0 := 381) (pc' := 401) rfl (hb hby at_381) rfl ((if0 _ _).trans (teq c381).1) (by decide) (by decide) z_) ?_
       refine own_g (own_F T53 m 403 #[iv i0, iv i1, iv i2, iv i3, iv i4, iv i5, iv v1, iv sl, iv att, iv sc, iv sb, iv sa, iv qc, iv nc, iv vc, iv tc, rv ca, iv 10, .unset, .unset, .unset] [(.int sl)]) (fun _ z_ => XS.iload X53.here hx rfl (hb hby at_401) rfl z_) ?_
       by_cases c403 : sl = (0 : Int32)
       · -- pc 403: sl = (0 : Int32)
        refine own_g (own_F T53 m 416 #[iv i0, iv i1, iv i2, iv i3, iv i4, iv i5, iv v1, iv sl, iv att, iv sc, iv sb, iv sa, iv qc, iv nc, iv vc, iv tc, rv ca, iv 10, .unset, .unset, .unset] []) (fun _ z_ => XS.ifYes X53.here hx rfl (pc0 := 403) (pc' := 416) rfl (hb hby at_403) rfl ((if0 _ _).trans (teq c403).1) (by decide) (by decide) z_) ?_
        refine own_g (own_F T53 m 418 #[iv i0, iv i1, iv i2, iv i3, iv i4, iv i5, iv v1, iv sl, iv att, iv sc, iv sb, iv sa, iv qc, iv nc, iv vc, iv tc, rv ca, iv 10, .unset, .unset, .unset] [(.ref ca)]) (fun _ z_ => XS.aload X53.here hx rfl (hb hby at_416) rfl rfl z_) ?_
        refine own_g (own_F T53 m 420 #[iv i0, iv i1, iv i2, iv i3, iv i4, iv i5, iv v1, iv sl, iv att, iv sc, iv sb, iv sa, iv qc, iv nc, iv vc, iv tc, rv ca, iv 10, .unset, .unset, .unset] [(.int 10), (.ref ca)]) (fun _ z_ => XS.iload X53.here hx rfl (hb hby at_418) rfl z_) ?_
        refine own_g (own_F T53 m 422 #[iv i0, iv i1, iv i2, iv i3, iv i4, iv i5, iv v1, iv sl, iv att, iv sc, iv sb, iv sa, iv qc, iv nc, iv vc, iv tc, rv ca, iv 10, .unset, .unset, .unset] [(.int 62), (.int 10), (.ref ca)]) (fun _ z_ => XS.bipush X53.here hx rfl (hb hby at_420) z_) ?_
        refine own_cast X53 hx hZ e53 A53 10 rfl (by decide) (62 : Int32) rfl (hb hby at_422) ?_
        intro T54 h54 X54 e54 W54 A54
        have N54 := Fr.snoc X54 N53 ga
        obtain ⟨g54, hg54⟩ : ∃ gq_ : Nat → Int32, gq_ = fun q_ => if q_ = 10 then (62 : Int32) else g53 q_ := ⟨_, rfl⟩
        have A54 : own_A Z h54 ca .char 16 (fun q_ => .int (g54 q_)) := by rw [hg54]; exact A54
        show own_Ends p e below s _ _ _ (own_F T54 m 423 #[iv i0, iv i1, iv i2, iv i3, iv i4, iv i5, iv v1, iv sl, iv att, iv sc, iv sb, iv sa, iv qc, iv nc, iv vc, iv tc, rv ca, iv 10, .unset, .unset, .unset] [])
        have hfg54 := own_rng hfg53 (by decide) hg54
        refine own_g (own_F T54 m 426 #[iv i0, iv i1, iv i2, iv i3, iv i4, iv i5, iv v1, iv sl, iv att, iv sc, iv sb, iv sa, iv qc, iv nc, iv vc, iv tc, rv ca, iv 11, .unset, .unset, .unset] []) (fun _ z_ => XS.iinc X54.here hx rfl (hb hby at_423) rfl (l' := #[iv i0, iv i1, iv i2, iv i3, iv i4, iv i5, iv v1, iv sl, iv att, iv sc, iv sb, iv sa, iv qc, iv nc, iv vc, iv tc, rv ca, iv 11, .unset, .unset, .unset]) rfl z_) ?_
        have e2 : g54 2 = nc := by simp only [hg54, hg53, hg52, hg51, hg50, hg37, hg36, hg35, hg25, hg24, hg23]; rfl
        have e3 : g54 3 = s34 := by simp only [hg54, hg53, hg52, hg51, hg50, hg37, hg36, hg35, hg25, hg24, hg23]; rfl
        have e4 : g54 4 = nc := by simp only [hg54, hg53, hg52, hg51, hg50, hg37, hg36, hg35, hg25, hg24, hg23]; rfl
        have e5 : g54 5 = (61 : Int32) := by simp only [hg54, hg53, hg52, hg51, hg50, hg37, hg36, hg35, hg25, hg24, hg23]; rfl
        have e6 : g54 6 = s49 := by simp only [hg54, hg53, hg52, hg51, hg50, hg37, hg36, hg35, hg25, hg24, hg23]; rfl
        have e7 : g54 7 = qc := by simp only [hg54, hg53, hg52, hg51, hg50, hg37, hg36, hg35, hg25, hg24, hg23]; rfl
        have e8 : g54 8 = vc := by simp only [hg54, hg53, hg52, hg51, hg50, hg37, hg36, hg35, hg25, hg24, hg23]; rfl
        have e9 : g54 9 = qc := by simp only [hg54, hg53, hg52, hg51, hg50, hg37, hg36, hg35, hg25, hg24, hg23]; rfl
        have e10 : g54 10 = (62 : Int32) := by simp only [hg54, hg53, hg52, hg51, hg50, hg37, hg36, hg35, hg25, hg24, hg23]; rfl
        exact J426 ca g54 (11 : Int32) 10 10 5 7 v1 sl qc nc vc tc att sc sb sa T54 _ _ s hZ hown X54 e54 N54 (Nat.le_trans (Nat.le_trans (Nat.le_trans (Nat.le_trans (Nat.le_trans (Nat.le_trans (Nat.le_trans (Nat.le_trans (Nat.le_trans (Nat.le_trans (Nat.le_trans zs22 (Nat.le_of_eq W23.size.symm)) (Nat.le_of_eq W24.size.symm)) (Nat.le_of_eq W25.size.symm)) (Nat.le_of_eq W35.size.symm)) (Nat.le_of_eq W36.size.symm)) (Nat.le_of_eq W37.size.symm)) (Nat.le_of_eq W50.size.symm)) (Nat.le_of_eq W51.size.symm)) (Nat.le_of_eq W52.size.symm)) (Nat.le_of_eq W53.size.symm)) (Nat.le_of_eq W54.size.symm)) (Nat.le_trans (Nat.le_trans (Nat.le_trans (Nat.le_trans (Nat.le_trans (Nat.le_trans (Nat.le_trans (Nat.le_trans (Nat.le_trans (Nat.le_trans (Nat.le_trans zz22 (Nat.le_of_eq W23.size.symm)) (Nat.le_of_eq W24.size.symm)) (Nat.le_of_eq W25.size.symm)) (Nat.le_of_eq W35.size.symm)) (Nat.le_of_eq W36.size.symm)) (Nat.le_of_eq W37.size.symm)) (Nat.le_of_eq W50.size.symm)) (Nat.le_of_eq W51.size.symm)) (Nat.le_of_eq W52.size.symm)) (Nat.le_of_eq W53.size.symm)) (Nat.le_of_eq W54.size.symm)) (((((((((((K22.wr W23 (Or.inr sz_ca)).wr W24 (Or.inr sz_ca)).wr W25 (Or.inr sz_ca)).wr W35 (Or.inr sz_ca)).wr W36 (Or.inr sz_ca)).wr W37 (Or.inr sz_ca)).wr W50 (Or.inr sz_ca)).wr W51 (Or.inr sz_ca)).wr W52 (Or.inr sz_ca)).wr W53 (Or.inr sz_ca)).wr W54 (Or.inr sz_ca)) A54 hfg54 ga za (by rw [e2]; exact hnc) (Or.inr ⟨by decide, by rw [e3]; exact hsp34, by rw [e4]; exact hnc, Or.inl ⟨rfl, trivial⟩, e5, Or.inr ⟨rfl, by rw [e6]; exact hsp49⟩, by rw [e7]; exact hq, by rw [e8, e7]; exact hvc, by rw [e9, e7], rfl⟩) ⟨Or.inl ⟨rfl, trivial⟩, by decide, Or.inr ⟨c403, e10, rfl⟩⟩
       · -- pc 403: not sl = (0 : Int32)
        refine own_g (own_F T53 m 406 #[iv i0, iv i1, iv i2, iv i3, iv i4, iv i5, iv v1, iv sl, iv att, iv sc, iv sb, iv sa, iv qc, iv nc, iv vc, iv tc, rv ca, iv 10, .unset, .unset, .unset] []) (fun _ z_ => XS.ifNo X53.here hx rfl (hb hby at_403) rfl ((if0 _ _).trans (feq c403).1) z_) ?_
        refine own_g (own_F T53 m 408 #[iv i0, iv i1, iv i2, iv i3, iv i4, iv i5, iv v1, iv sl, iv att, iv sc, iv sb, iv sa, iv qc, iv nc, iv vc, iv tc, rv ca, iv 10, .unset, .unset, .unset] [(.ref ca)]) (fun _ z_ => XS.aload X53.here hx rfl (hb hby at_406) rfl rfl z_) ?_
        refine own_g (own_F T53 m 410 #[iv i0, iv i1, iv i2, iv i3, iv i4, iv i5, iv v1, iv sl, iv att, iv sc, iv sb, iv sa, iv qc, iv nc, iv vc, iv tc, rv ca, iv 10, .unset, .unset, .unset] [(.int 10), (.ref ca)]) (fun _ z_ => XS.iload X53.here hx rfl (hb hby at_408) rfl z_) ?_
        refine own_g (own_F T53 m 412 #[iv i0, iv i1, iv i2, iv i3, iv i4, iv i5, iv v1, iv sl, iv att, iv sc, iv sb, iv sa, iv qc, iv nc, iv vc, iv tc, rv ca, iv 10, .unset, .unset, .unset] [(.int 47), (.int 10), (.ref ca)]) (fun _ z_ => XS.bipush X53.here hx rfl (hb hby at_410) z_) ?_
        refine own_cast X53 hx hZ e53 A53 10 rfl (by decide) (47 : Int32) rfl (hb hby at_412) ?_
        intro T55 h55 X55 e55 W55 A55
        have N55 := Fr.snoc X55 N53 ga
        obtain ⟨g55, hg55⟩ : ∃ gq_ : Nat → Int32, gq_ = fun q_ => if q_ = 10 then (47 : Int32) else g53 q_ := ⟨_, rfl⟩
        have A55 : own_A Z h55 ca .char 16 (fun q_ => .int (g55 q_)) := by rw [hg55]; exact A55
        show own_Ends p e below s _ _ _ (own_F T55 m 413 #[iv i0, iv i1, iv i2, iv i3, iv i4, iv i5, iv v1, iv sl, iv att, iv sc, iv sb, iv sa, iv qc, iv nc, iv vc, iv tc, rv ca, iv 10, .unset, .unset, .unset] [])
        have hfg55 := own_rng hfg53 (by decide) hg55
        refine own_g (own_F T55 m 416 #[iv i0, iv i1, iv i2, iv i3, iv i4, iv i5, iv v1, iv sl, iv att, iv sc, iv sb, iv sa, iv qc, iv nc, iv vc, iv tc, rv ca, iv 11, .unset, .unset, .unset] []) (fun _ z_ => XS.iinc X55.here hx rfl (hb hby at_413) rfl (l' := #[iv i0, iv i1, iv i2, iv i3, iv i4, iv i5, iv v1, iv sl, iv att, iv sc, iv sb, iv sa, iv qc, iv nc, iv vc, iv tc, rv ca, iv 11, .unset, .unset, .unset]) rfl z_) ?_
        refine own_g (own_F T55 m 418 #[iv i0, iv i1, iv i2, iv i3, iv i4, iv i5, iv v1, iv sl, iv att, iv sc, iv sb, iv sa, iv qc, iv nc, iv vc, iv tc, rv ca, iv 11, .unset, .unset, .unset] [(.ref ca)]) (fun _ z_ => XS.aload X55.here hx rfl (hb hby at_416) rfl rfl z_) ?_
        refine own_g (own_F T55 m 420 #[iv i0, iv i1, iv i2, iv i3, iv i4, iv i5, iv v1, iv sl, iv att, iv sc, iv sb, iv sa, iv qc, iv nc, iv vc, iv tc, rv ca, iv 11, .unset, .unset, .unset] [(.int 11), (.ref ca)]) (fun _ z_ => XS.iload X55.here hx rfl (hb hby at_418) rfl z_) ?_
        refine own_g (own_F T55 m 422 #[iv i0, iv i1, iv i2, iv i3, iv i4, iv i5, iv v1, iv sl, iv att, iv sc, iv sb, iv sa, iv qc, iv nc, iv vc, iv tc, rv ca, iv 11, .unset, .unset, .unset] [(.int 62), (.int 11), (.ref ca)]) (fun _ z_ => XS.bipush X55.here hx rfl (hb hby at_420) z_) ?_
        refine own_cast X55 hx hZ e55 A55 11 rfl (by decide) (62 : Int32) rfl (hb hby at_422) ?_
        intro T56 h56 X56 e56 W56 A56
        have N56 := Fr.snoc X56 N55 ga
        obtain ⟨g56, hg56⟩ : ∃ gq_ : Nat → Int32, gq_ = fun q_ => if q_ = 11 then (62 : Int32) else g55 q_ := ⟨_, rfl⟩
        have A56 : own_A Z h56 ca .char 16 (fun q_ => .int (g56 q_)) := by rw [hg56]; exact A56
        show own_Ends p e below s _ _ _ (own_F T56 m 423 #[iv i0, iv i1, iv i2, iv i3, iv i4, iv i5, iv v1, iv sl, iv att, iv sc, iv sb, iv sa, iv qc, iv nc, iv vc, iv tc, rv ca, iv 11, .unset, .unset, .unset] [])
        have hfg56 := own_rng hfg55 (by decide) hg56
        refine own_g (own_F T56 m 426 #[iv i0, iv i1, iv i2, iv i3, iv i4, iv i5, iv v1, iv sl, iv att, iv sc, iv sb, iv sa, iv qc, iv nc, iv vc, iv tc, rv ca, iv 12, .unset, .unset, .unset] []) (fun _ z_ => XS.iinc X56.here hx rfl (hb hby at_423) rfl (l' := #[iv i0, iv i1, iv i2, iv i3, iv i4, iv i5, iv v1, iv sl, iv att, iv sc, iv sb, iv sa, iv qc, iv nc, iv vc, iv tc, rv ca, iv 12, .unset, .unset, .unset]) rfl z_) ?_
        have e2 : g56 2 = nc := by simp only [hg56, hg55, hg53, hg52, hg51, hg50, hg37, hg36, hg35, hg25, hg24, hg23]; rfl
        have e3 : g56 3 = s34 := by simp only [hg56, hg55, hg53, hg52, hg51, hg50, hg37, hg36, hg35, hg25, hg24, hg23]; rfl
        have e4 : g56 4 = nc := by simp only [hg56, hg55, hg53, hg52, hg51, hg50, hg37, hg36, hg35, hg25, hg24, hg23]; rfl
        have e5 : g56 5 = (61 : Int32) := by simp only [hg56, hg55, hg53, hg52, hg51, hg50, hg37, hg36, hg35, hg25, hg24, hg23]; rfl
        have e6 : g56 6 = s49 := by simp only [hg56, hg55, hg53, hg52, hg51, hg50, hg37, hg36, hg35, hg25, hg24, hg23]; rfl
        have e7 : g56 7 = qc := by simp only [hg56, hg55, hg53, hg52, hg51, hg50, hg37, hg36, hg35, hg25, hg24, hg23]; rfl
        have e8 : g56 8 = vc := by simp only [hg56, hg55, hg53, hg52, hg51, hg50, hg37, hg36, hg35, hg25, hg24, hg23]; rfl
        have e9 : g56 9 = qc := by simp only [hg56, hg55, hg53, hg52, hg51, hg50, hg37, hg36, hg35, hg25, hg24, hg23]; rfl
        have e10 : g56 10 = (47 : Int32) := by simp only [hg56, hg55, hg53, hg52, hg51, hg50, hg37, hg36, hg35, hg25, hg24, hg23]; rfl
        have e11 : g56 11 = (62 : Int32) := by simp only [hg56, hg55, hg53, hg52, hg51, hg50, hg37, hg36, hg35, hg25, hg24, hg23]; rfl
        exact J426 ca g56 (12 : Int32) 10 10 5 7 v1 sl qc nc vc tc att sc sb sa T56 _ _ s hZ hown X56 e56 N56 (Nat.le_trans (Nat.le_trans (Nat.le_trans (Nat.le_trans (Nat.le_trans (Nat.le_trans (Nat.le_trans (Nat.le_trans (Nat.le_trans (Nat.le_trans (Nat.le_trans (Nat.le_trans zs22 (Nat.le_of_eq W23.size.symm)) (Nat.le_of_eq W24.size.symm)) (Nat.le_of_eq W25.size.symm)) (Nat.le_of_eq W35.size.symm)) (Nat.le_of_eq W36.size.symm)) (Nat.le_of_eq W37.size.symm)) (Nat.le_of_eq W50.size.symm)) (Nat.le_of_eq W51.size.symm)) (Nat.le_of_eq W52.size.symm)) (Nat.le_of_eq W53.size.symm)) (Nat.le_of_eq W55.size.symm)) (Nat.le_of_eq W56.size.symm)) (Nat.le_trans (Nat.le_trans (Nat.le_trans (Nat.le_trans (Nat.le_trans (Nat.le_trans (Nat.le_trans (Nat.le_trans (Nat.le_trans (Nat.le_trans (Nat.le_trans (Nat.le_trans zz22 (Nat.le_of_eq W23.size.symm)) (Nat.le_of_eq W24.size.symm)) (Nat.le_of_eq W25.size.symm)) (Nat.le_of_eq W35.size.symm)) (Nat.le_of_eq W36.size.symm)) (Nat.le_of_eq W37.size.symm)) (Nat.le_of_eq W50.size.symm)) (Nat.le_of_eq W51.size.symm)) (Nat.le_of_eq W52.size.symm)) (Nat.le_of_eq W53.size.symm)) (Nat.le_of_eq W55.size.symm)) (Nat.le_of_eq W56.size.symm)) ((((((((((((K22.wr W23 (Or.inr sz_ca)).wr W24 (Or.inr sz_ca)).wr W25 (Or.inr sz_ca)).wr W35 (Or.inr sz_ca)).wr W36 (Or.inr sz_ca)).wr W37 (Or.inr sz_ca)).wr W50 (Or.inr sz_ca)).wr W51 (Or.inr sz_ca)).wr W52 (Or.inr sz_ca)).wr W53 (Or.inr sz_ca)).wr W55 (Or.inr sz_ca)).wr W56 (Or.inr sz_ca)) A56 hfg56 ga za (by rw [e2]; exact hnc) (Or.inr ⟨by decide, by rw [e3]; exact hsp34, by rw [e4]; exact hnc, Or.inl ⟨rfl, trivial⟩, e5, Or.inr ⟨rfl, by rw [e6]; exact hsp49⟩, by rw [e7]; exact hq, by rw [e8, e7]; exact hvc, by rw [e9, e7], rfl⟩) ⟨Or.inl ⟨rfl, trivial⟩, by decide, Or.inl ⟨(h_sl.resolve_left c403), e10, rfl⟩⟩
      · -- pc 381: not sc = (0 : Int32)
       refine own_g (own_F T53 m 384 #[iv i0, iv i1, iv i2, iv i3, iv i4, iv i5, iv v1, iv sl, iv att, iv sc, iv sb, iv sa, iv qc, iv nc, iv vc, iv tc, rv ca, iv 10, .unset, .unset, .unset] []) (fun _ z_ => XS.ifNo X53.here hx rfl (hb hby at_381) rfl ((if0 _ _).trans (feq c381).1) z_) ?_
       refine own_g (own_F T53 m 386 #[iv i0, iv i1, iv i2, iv i3, iv i4, iv i5, iv v1, iv sl, iv att, iv sc, iv sb, iv sa, iv qc, iv nc, iv vc, iv tc, rv ca, iv 10, .unset, .unset, .unset] [(.ref ca)]) (fun _ z_ => XS.aload X53.here hx rfl (hb hby at_384) rfl rfl z_) ?_
       refine own_g (own_F T53 m 388 #[iv i0, iv i1, iv i2, iv i3, iv i4, iv i5, iv v1, iv sl, iv att, iv sc, iv sb, iv sa, iv qc, iv nc, iv vc, iv tc, rv ca, iv 10, .unset, .unset, .unset] [(.int 10), (.ref ca)]) (fun _ z_ => XS.iload X53.here hx rfl (hb hby at_386) rfl z_) ?_
       refine own_g (own_F T53 m 389 #[iv i0, iv i1, iv i2, iv i3, iv i4, iv i5, iv v1, iv sl, iv att, iv sc, iv sb, iv sa, iv qc, iv nc, iv vc, iv tc, rv ca, iv 10, .unset, .unset, .unset] [(.int i3), (.int 10), (.ref ca)]) (fun _ z_ => XS.iloadN X53.here hx rfl (hb hby at_388) rfl z_) ?_
       refine own_g (own_F T53 m 391 #[iv i0, iv i1, iv i2, iv i3, iv i4, iv i5, iv v1, iv sl, iv att, iv sc, iv sb, iv sa, iv qc, iv nc, iv vc, iv tc, rv ca, iv 10, .unset, .unset, .unset] [(.int 9), (.int i3), (.int 10), (.ref ca)]) (fun _ z_ => XS.bipush X53.here hx rfl (hb hby at_389) z_) ?_
       refine own_g (own_F T53 m 392 #[iv i0, iv i1, iv i2, iv i3, iv i4, iv i5, iv v1, iv sl, iv att, iv sc, iv sb, iv sa, iv qc, iv nc, iv vc, iv tc, rv ca, iv 10, .unset, .unset, .unset] [(.int ((i3.toUInt32 >>> ((9 : Int32) &&& 31).toUInt32).toInt32)), (.int 10), (.ref ca)]) (fun _ z_ => XS.iushr X53.here hx rfl (hb hby at_391) rfl z_) ?_
       refine own_g (own_F T53 m 394 #[iv i0, iv i1, iv i2, iv i3, iv i4, iv i5, iv v1, iv sl, iv att, iv sc, iv sb, iv sa, iv qc, iv nc, iv vc, iv tc, rv ca, iv 10, .unset, .unset, .unset] [(.int v1), (.int ((i3.toUInt32 >>> ((9 : Int32) &&& 31).toUInt32).toInt32)), (.int 10), (.ref ca)]) (fun _ z_ => XS.iload X53.here hx rfl (hb hby at_392) rfl z_) ?_
       refine own_callS (y := (⟨"com/example/cadmus/cadmus/StartTagEmptyPinLaw", "space", "(IZ)C"⟩ : MethodName)) X53 hx hZ hown (own_w hw 125) (own_w hw 126) (own_w hw 2) (own_w hw 127) (by decide) e53 (hM := own_space l Z a0 hw [] ((i3.toUInt32 >>> ((9 : Int32) &&& 31).toUInt32).toInt32) v1 h53 n0 (Nat.le_trans (Nat.le_trans (Nat.le_trans (Nat.le_trans (Nat.le_trans (Nat.le_trans (Nat.le_trans (Nat.le_trans (Nat.le_trans (Nat.le_trans zs22 (Nat.le_of_eq W23.size.symm)) (Nat.le_of_eq W24.size.symm)) (Nat.le_of_eq W25.size.symm)) (Nat.le_of_eq W35.size.symm)) (Nat.le_of_eq W36.size.symm)) (Nat.le_of_eq W37.size.symm)) (Nat.le_of_eq W50.size.symm)) (Nat.le_of_eq W51.size.symm)) (Nat.le_of_eq W52.size.symm)) (Nat.le_of_eq W53.size.symm))) (W := 2) (pc := 394) (Ls := #[iv i0, iv i1, iv i2, iv i3, iv i4, iv i5, iv v1, iv sl, iv att, iv sc, iv sb, iv sa, iv qc, iv nc, iv vc, iv tc, rv ca, iv 10, .unset, .unset, .unset]) (argsL := [(.int ((i3.toUInt32 >>> ((9 : Int32) &&& 31).toUInt32).toInt32)), (.int v1)]) (rest := [(.int 10), (.ref ca)]) (st0 := [(.int v1), (.int ((i3.toUInt32 >>> ((9 : Int32) &&& 31).toUInt32).toInt32)), (.int 10), (.ref ca)]) (by rw [hml]; rfl) (lenOf own_pd28 rfl) rfl (Nat.le_of_eq rfl) (hb hby at_394) (by decide) (by decide) (by decide) (by decide) ?_
       intro v57 T57 L57 s X57 hZ hown hI57 hvm57 hhp57 hWw57 hQ57
       obtain ⟨s57, rfl, hsp57, rsp57, Nq57, hh57⟩ := hQ57
       have N57 := Fr.app N53 Nq57
       show own_Ends p e below s _ _ _ (own_F T57 m 397 #[iv i0, iv i1, iv i2, iv i3, iv i4, iv i5, iv v1, iv sl, iv att, iv sc, iv sb, iv sa, iv qc, iv nc, iv vc, iv tc, rv ca, iv 10, .unset, .unset, .unset] [(.int s57), (.int 10), (.ref ca)])
       refine own_cast X57 hx hZ hh57 A53 10 rfl (by decide) s57 (own_narC rsp57) (hb hby at_397) ?_
       intro T58 h58 X58 e58 W58 A58
       have N58 := Fr.snoc X58 N57 ga
       obtain ⟨g58, hg58⟩ : ∃ gq_ : Nat → Int32, gq_ = fun q_ => if q_ = 10 then s57 else g53 q_ := ⟨_, rfl⟩
       have A58 : own_A Z h58 ca .char 16 (fun q_ => .int (g58 q_)) := by rw [hg58]; exact A58
       show own_Ends p e below s _ _ _ (own_F T58 m 398 #[iv i0, iv i1, iv i2, iv i3, iv i4, iv i5, iv v1, iv sl, iv att, iv sc, iv sb, iv sa, iv qc, iv nc, iv vc, iv tc, rv ca, iv 10, .unset, .unset, .unset] [])
       have hfg58 := own_rng hfg53 rsp57 hg58
       refine own_g (own_F T58 m 401 #[iv i0, iv i1, iv i2, iv i3, iv i4, iv i5, iv v1, iv sl, iv att, iv sc, iv sb, iv sa, iv qc, iv nc, iv vc, iv tc, rv ca, iv 11, .unset, .unset, .unset] []) (fun _ z_ => XS.iinc X58.here hx rfl (hb hby at_398) rfl (l' := #[iv i0, iv i1, iv i2, iv i3, iv i4, iv i5, iv v1, iv sl, iv att, iv sc, iv sb, iv sa, iv qc, iv nc, iv vc, iv tc, rv ca, iv 11, .unset, .unset, .unset]) rfl z_) ?_
       refine own_g (own_F T58 m 403 #[iv i0, iv i1, iv i2, iv i3, iv i4, iv i5, iv v1, iv sl, iv att, iv sc, iv sb, iv sa, iv qc, iv nc, iv vc, iv tc, rv ca, iv 11, .unset, .unset, .unset] [(.int sl)]) (fun _ z_ => XS.iload X58.here hx rfl (hb hby at_401) rfl z_) ?_
       by_cases c403 : sl = (0 : Int32)
       · -- pc 403: sl = (0 : Int32)
        refine own_g (own_F T58 m 416 #[iv i0, iv i1, iv i2, iv i3, iv i4, iv i5, iv v1, iv sl, iv att, iv sc, iv sb, iv sa, iv qc, iv nc, iv vc, iv tc, rv ca, iv 11, .unset, .unset, .unset] []) (fun _ z_ => XS.ifYes X58.here hx rfl (pc0 := 403) (pc' := 416) rfl (hb hby at_403) rfl ((if0 _ _).trans (teq c403).1) (by decide) (by decide) z_) ?_
        refine own_g (own_F T58 m 418 #[iv i0, iv i1, iv i2, iv i3, iv i4, iv i5, iv v1, iv sl, iv att, iv sc, iv sb, iv sa, iv qc, iv nc, iv vc, iv tc, rv ca, iv 11, .unset, .unset, .unset] [(.ref ca)]) (fun _ z_ => XS.aload X58.here hx rfl (hb hby at_416) rfl rfl z_) ?_
        refine own_g (own_F T58 m 420 #[iv i0, iv i1, iv i2, iv i3, iv i4, iv i5, iv v1, iv sl, iv att, iv sc, iv sb, iv sa, iv qc, iv nc, iv vc, iv tc, rv ca, iv 11, .unset, .unset, .unset] [(.int 11), (.ref ca)]) (fun _ z_ => XS.iload X58.here hx rfl (hb hby at_418) rfl z_) ?_
        refine own_g (own_F T58 m 422 #[iv i0, iv i1, iv i2, iv i3, iv i4, iv i5, iv v1, iv sl, iv att, iv sc, iv sb, iv sa, iv qc, iv nc, iv vc, iv tc, rv ca, iv 11, .unset, .unset, .unset] [(.int 62), (.int 11), (.ref ca)]) (fun _ z_ => XS.bipush X58.here hx rfl (hb hby at_420) z_) ?_
        refine own_cast X58 hx hZ e58 A58 11 rfl (by decide) (62 : Int32) rfl (hb hby at_422) ?_
        intro T59 h59 X59 e59 W59 A59
        have N59 := Fr.snoc X59 N58 ga
        obtain ⟨g59, hg59⟩ : ∃ gq_ : Nat → Int32, gq_ = fun q_ => if q_ = 11 then (62 : Int32) else g58 q_ := ⟨_, rfl⟩
        have A59 : own_A Z h59 ca .char 16 (fun q_ => .int (g59 q_)) := by rw [hg59]; exact A59
        show own_Ends p e below s _ _ _ (own_F T59 m 423 #[iv i0, iv i1, iv i2, iv i3, iv i4, iv i5, iv v1, iv sl, iv att, iv sc, iv sb, iv sa, iv qc, iv nc, iv vc, iv tc, rv ca, iv 11, .unset, .unset, .unset] [])
        have hfg59 := own_rng hfg58 (by decide) hg59
        refine own_g (own_F T59 m 426 #[iv i0, iv i1, iv i2, iv i3, iv i4, iv i5, iv v1, iv sl, iv att, iv sc, iv sb, iv sa, iv qc, iv nc, iv vc, iv tc, rv ca, iv 12, .unset, .unset, .unset] []) (fun _ z_ => XS.iinc X59.here hx rfl (hb hby at_423) rfl (l' := #[iv i0, iv i1, iv i2, iv i3, iv i4, iv i5, iv v1, iv sl, iv att, iv sc, iv sb, iv sa, iv qc, iv nc, iv vc, iv tc, rv ca, iv 12, .unset, .unset, .unset]) rfl z_) ?_
        have e2 : g59 2 = nc := by simp only [hg59, hg58, hg53, hg52, hg51, hg50, hg37, hg36, hg35, hg25, hg24, hg23]; rfl
        have e3 : g59 3 = s34 := by simp only [hg59, hg58, hg53, hg52, hg51, hg50, hg37, hg36, hg35, hg25, hg24, hg23]; rfl
        have e4 : g59 4 = nc := by simp only [hg59, hg58, hg53, hg52, hg51, hg50, hg37, hg36, hg35, hg25, hg24, hg23]; rfl
        have e5 : g59 5 = (61 : Int32) := by simp only [hg59, hg58, hg53, hg52, hg51, hg50, hg37, hg36, hg35, hg25, hg24, hg23]; rfl
        have e6 : g59 6 = s49 := by simp only [hg59, hg58, hg53, hg52, hg51, hg50, hg37, hg36, hg35, hg25, hg24, hg23]; rfl
        have e7 : g59 7 = qc := by simp only [hg59, hg58, hg53, hg52, hg51, hg50, hg37, hg36, hg35, hg25, hg24, hg23]; rfl
        have e8 : g59 8 = vc := by simp only [hg59, hg58, hg53, hg52, hg51, hg50, hg37, hg36, hg35, hg25, hg24, hg23]; rfl
        have e9 : g59 9 = qc := by simp only [hg59, hg58, hg53, hg52, hg51, hg50, hg37, hg36, hg35, hg25, hg24, hg23]; rfl
        have e10 : g59 10 = s57 := by simp only [hg59, hg58, hg53, hg52, hg51, hg50, hg37, hg36, hg35, hg25, hg24, hg23]; rfl
        have e11 : g59 11 = (62 : Int32) := by simp only [hg59, hg58, hg53, hg52, hg51, hg50, hg37, hg36, hg35, hg25, hg24, hg23]; rfl
        exact J426 ca g59 (12 : Int32) 10 11 5 7 v1 sl qc nc vc tc att sc sb sa T59 _ _ s hZ hown X59 e59 N59 (Nat.le_trans (Nat.le_trans (Nat.le_trans (Nat.le_trans (Nat.le_trans (Nat.le_trans (Nat.le_trans (Nat.le_trans (Nat.le_trans (Nat.le_trans (Nat.le_trans (Nat.le_trans zs22 (Nat.le_of_eq W23.size.symm)) (Nat.le_of_eq W24.size.symm)) (Nat.le_of_eq W25.size.symm)) (Nat.le_of_eq W35.size.symm)) (Nat.le_of_eq W36.size.symm)) (Nat.le_of_eq W37.size.symm)) (Nat.le_of_eq W50.size.symm)) (Nat.le_of_eq W51.size.symm)) (Nat.le_of_eq W52.size.symm)) (Nat.le_of_eq W53.size.symm)) (Nat.le_of_eq W58.size.symm)) (Nat.le_of_eq W59.size.symm)) (Nat.le_trans (Nat.le_trans (Nat.le_trans (Nat.le_trans (Nat.le_trans (Nat.le_trans (Nat.le_trans (Nat.le_trans (Nat.le_trans (Nat.le_trans (Nat.le_trans (Nat.le_trans zz22 (Nat.le_of_eq W23.size.symm)) (Nat.le_of_eq W24.size.symm)) (Nat.le_of_eq W25.size.symm)) (Nat.le_of_eq W35.size.symm)) (Nat.le_of_eq W36.size.symm)) (Nat.le_of_eq W37.size.symm)) (Nat.le_of_eq W50.size.symm)) (Nat.le_of_eq W51.size.symm)) (Nat.le_of_eq W52.size.symm)) (Nat.le_of_eq W53.size.symm)) (Nat.le_of_eq W58.size.symm)) (Nat.le_of_eq W59.size.symm)) ((((((((((((K22.wr W23 (Or.inr sz_ca)).wr W24 (Or.inr sz_ca)).wr W25 (Or.inr sz_ca)).wr W35 (Or.inr sz_ca)).wr W36 (Or.inr sz_ca)).wr W37 (Or.inr sz_ca)).wr W50 (Or.inr sz_ca)).wr W51 (Or.inr sz_ca)).wr W52 (Or.inr sz_ca)).wr W53 (Or.inr sz_ca)).wr W58 (Or.inr sz_ca)).wr W59 (Or.inr sz_ca)) A59 hfg59 ga za (by rw [e2]; exact hnc) (Or.inr ⟨by decide, by rw [e3]; exact hsp34, by rw [e4]; exact hnc, Or.inl ⟨rfl, trivial⟩, e5, Or.inr ⟨rfl, by rw [e6]; exact hsp49⟩, by rw [e7]; exact hq, by rw [e8, e7]; exact hvc, by rw [e9, e7], rfl⟩) ⟨Or.inr ⟨rfl, by rw [e10]; exact hsp57⟩, by decide, Or.inr ⟨c403, e11, rfl⟩⟩
       · -- pc 403: not sl = (0 : Int32)
        refine own_g (own_F T58 m 406 #[iv i0, iv i1, iv i2, iv i3, iv i4, iv i5, iv v1, iv sl, iv att, iv sc, iv sb, iv sa, iv qc, iv nc, iv vc, iv tc, rv ca, iv 11, .unset, .unset, .unset] []) (fun _ z_ => XS.ifNo X58.here hx rfl (hb hby at_403) rfl ((if0 _ _).trans (feq c403).1) z_) ?_
        refine own_g (own_F T58 m 408 #[iv i0, iv i1, iv i2, iv i3, iv i4, iv i5, iv v1, iv sl, iv att, iv sc, iv sb, iv sa, iv qc, iv nc, iv vc, iv tc, rv ca, iv 11, .unset, .unset, .unset] [(.ref ca)]) (fun _ z_ => XS.aload X58.here hx rfl (hb hby at_406) rfl rfl z_) ?_
        refine own_g (own_F T58 m 410 #[iv i0, iv i1, iv i2, iv i3, iv i4, iv i5, iv v1, iv sl, iv att, iv sc, iv sb, iv sa, iv qc, iv nc, iv vc, iv tc, rv ca, iv 11, .unset, .unset, .unset] [(.int 11), (.ref ca)]) (fun _ z_ => XS.iload X58.here hx rfl (hb hby at_408) rfl z_) ?_
        refine own_g (own_F T58 m 412 #[iv i0, iv i1, iv i2, iv i3, iv i4, iv i5, iv v1, iv sl, iv att, iv sc, iv sb, iv sa, iv qc, iv nc, iv vc, iv tc, rv ca, iv 11, .unset, .unset, .unset] [(.int 47), (.int 11), (.ref ca)]) (fun _ z_ => XS.bipush X58.here hx rfl (hb hby at_410) z_) ?_
        refine own_cast X58 hx hZ e58 A58 11 rfl (by decide) (47 : Int32) rfl (hb hby at_412) ?_
        intro T60 h60 X60 e60 W60 A60
        have N60 := Fr.snoc X60 N58 ga
        obtain ⟨g60, hg60⟩ : ∃ gq_ : Nat → Int32, gq_ = fun q_ => if q_ = 11 then (47 : Int32) else g58 q_ := ⟨_, rfl⟩
        have A60 : own_A Z h60 ca .char 16 (fun q_ => .int (g60 q_)) := by rw [hg60]; exact A60
        show own_Ends p e below s _ _ _ (own_F T60 m 413 #[iv i0, iv i1, iv i2, iv i3, iv i4, iv i5, iv v1, iv sl, iv att, iv sc, iv sb, iv sa, iv qc, iv nc, iv vc, iv tc, rv ca, iv 11, .unset, .unset, .unset] [])
        have hfg60 := own_rng hfg58 (by decide) hg60
        refine own_g (own_F T60 m 416 #[iv i0, iv i1, iv i2, iv i3, iv i4, iv i5, iv v1, iv sl, iv att, iv sc, iv sb, iv sa, iv qc, iv nc, iv vc, iv tc, rv ca, iv 12, .unset, .unset, .unset] []) (fun _ z_ => XS.iinc X60.here hx rfl (hb hby at_413) rfl (l' := #[iv i0, iv i1, iv i2, iv i3, iv i4, iv i5, iv v1, iv sl, iv att, iv sc, iv sb, iv sa, iv qc, iv nc, iv vc, iv tc, rv ca, iv 12, .unset, .unset, .unset]) rfl z_) ?_
        refine own_g (own_F T60 m 418 #[iv i0, iv i1, iv i2, iv i3, iv i4, iv i5, iv v1, iv sl, iv att, iv sc, iv sb, iv sa, iv qc, iv nc, iv vc, iv tc, rv ca, iv 12, .unset, .unset, .unset] [(.ref ca)]) (fun _ z_ => XS.aload X60.here hx rfl (hb hby at_416) rfl rfl z_) ?_
        refine own_g (own_F T60 m 420 #[iv i0, iv i1, iv i2, iv i3, iv i4, iv i5, iv v1, iv sl, iv att, iv sc, iv sb, iv sa, iv qc, iv nc, iv vc, iv tc, rv ca, iv 12, .unset, .unset, .unset] [(.int 12), (.ref ca)]) (fun _ z_ => XS.iload X60.here hx rfl (hb hby at_418) rfl z_) ?_
        refine own_g (own_F T60 m 422 #[iv i0, iv i1, iv i2, iv i3, iv i4, iv i5, iv v1, iv sl, iv att, iv sc, iv sb, iv sa, iv qc, iv nc, iv vc, iv tc, rv ca, iv 12, .unset, .unset, .unset] [(.int 62), (.int 12), (.ref ca)]) (fun _ z_ => XS.bipush X60.here hx rfl (hb hby at_420) z_) ?_
        refine own_cast X60 hx hZ e60 A60 12 rfl (by decide) (62 : Int32) rfl (hb hby at_422) ?_
        intro T61 h61 X61 e61 W61 A61
        have N61 := Fr.snoc X61 N60 ga
        obtain ⟨g61, hg61⟩ : ∃ gq_ : Nat → Int32, gq_ = fun q_ => if q_ = 12 then (62 : Int32) else g60 q_ := ⟨_, rfl⟩
        have A61 : own_A Z h61 ca .char 16 (fun q_ => .int (g61 q_)) := by rw [hg61]; exact A61
        show own_Ends p e below s _ _ _ (own_F T61 m 423 #[iv i0, iv i1, iv i2, iv i3, iv i4, iv i5, iv v1, iv sl, iv att, iv sc, iv sb, iv sa, iv qc, iv nc, iv vc, iv tc, rv ca, iv 12, .unset, .unset, .unset] [])
        have hfg61 := own_rng hfg60 (by decide) hg61
        refine own_g (own_F T61 m 426 #[iv i0, iv i1, iv i2, iv i3, iv i4, iv i5, iv v1, iv sl, iv att, iv sc, iv sb, iv sa, iv qc, iv nc, iv vc, iv tc, rv ca, iv 13, .unset, .unset, .unset] []) (fun _ z_ => XS.iinc X61.here hx rfl (hb hby at_423) rfl (l' := #[iv i0, iv i1, iv i2, iv i3, iv i4, iv i5, iv v1, iv sl, iv att, iv sc, iv sb, iv sa, iv qc, iv nc, iv vc, iv tc, rv ca, iv 13, .unset, .unset, .unset]) rfl z_) ?_
        have e2 : g61 2 = nc := by simp only [hg61, hg60, hg58, hg53, hg52, hg51, hg50, hg37, hg36, hg35, hg25, hg24, hg23]; rfl
        have e3 : g61 3 = s34 := by simp only [hg61, hg60, hg58, hg53, hg52, hg51, hg50, hg37, hg36, hg35, hg25, hg24, hg23]; rfl
        have e4 : g61 4 = nc := by simp only [hg61, hg60, hg58, hg53, hg52, hg51, hg50, hg37, hg36, hg35, hg25, hg24, hg23]; rfl
        have e5 : g61 5 = (61 : Int32) := by simp only [hg61, hg60, hg58, hg53, hg52, hg51, hg50, hg37, hg36, hg35, hg25, hg24, hg23]; rfl
        have e6 : g61 6 = s49 := by simp only [hg61, hg60, hg58, hg53, hg52, hg51, hg50, hg37, hg36, hg35, hg25, hg24, hg23]; rfl
        have e7 : g61 7 = qc := by simp only [hg61, hg60, hg58, hg53, hg52, hg51, hg50, hg37, hg36, hg35, hg25, hg24, hg23]; rfl
        have e8 : g61 8 = vc := by simp only [hg61, hg60, hg58, hg53, hg52, hg51, hg50, hg37, hg36, hg35, hg25, hg24, hg23]; rfl
        have e9 : g61 9 = qc := by simp only [hg61, hg60, hg58, hg53, hg52, hg51, hg50, hg37, hg36, hg35, hg25, hg24, hg23]; rfl
        have e10 : g61 10 = s57 := by simp only [hg61, hg60, hg58, hg53, hg52, hg51, hg50, hg37, hg36, hg35, hg25, hg24, hg23]; rfl
        have e11 : g61 11 = (47 : Int32) := by simp only [hg61, hg60, hg58, hg53, hg52, hg51, hg50, hg37, hg36, hg35, hg25, hg24, hg23]; rfl
        have e12 : g61 12 = (62 : Int32) := by simp only [hg61, hg60, hg58, hg53, hg52, hg51, hg50, hg37, hg36, hg35, hg25, hg24, hg23]; rfl
        exact J426 ca g61 (13 : Int32) 10 11 5 7 v1 sl qc nc vc tc att sc sb sa T61 _ _ s hZ hown X61 e61 N61 (Nat.le_trans (Nat.le_trans (Nat.le_trans (Nat.le_trans (Nat.le_trans (Nat.le_trans (Nat.le_trans (Nat.le_trans (Nat.le_trans (Nat.le_trans (Nat.le_trans (Nat.le_trans (Nat.le_trans zs22 (Nat.le_of_eq W23.size.symm)) (Nat.le_of_eq W24.size.symm)) (Nat.le_of_eq W25.size.symm)) (Nat.le_of_eq W35.size.symm)) (Nat.le_of_eq W36.size.symm)) (Nat.le_of_eq W37.size.symm)) (Nat.le_of_eq W50.size.symm)) (Nat.le_of_eq W51.size.symm)) (Nat.le_of_eq W52.size.symm)) (Nat.le_of_eq W53.size.symm)) (Nat.le_of_eq W58.size.symm)) (Nat.le_of_eq W60.size.symm)) (Nat.le_of_eq W61.size.symm)) (Nat.le_trans (Nat.le_trans (Nat.le_trans (Nat.le_trans (Nat.le_trans (Nat.le_trans (Nat.le_trans (Nat.le_trans (Nat.le_trans (Nat.le_trans (Nat.le_trans (Nat.le_trans (Nat.le_trans zz22 (Nat.le_of_eq W23.size.symm)) (Nat.le_of_eq W24.size.symm)) (Nat.le_of_eq W25.size.symm)) (Nat.le_of_eq W35.size.symm)) (Nat.le_of_eq W36.size.symm)) (Nat.le_of_eq W37.size.symm)) (Nat.le_of_eq W50.size.symm)) (Nat.le_of_eq W51.size.symm)) (Nat.le_of_eq W52.size.symm)) (Nat.le_of_eq W53.size.symm)) (Nat.le_of_eq W58.size.symm)) (Nat.le_of_eq W60.size.symm)) (Nat.le_of_eq W61.size.symm)) (((((((((((((K22.wr W23 (Or.inr sz_ca)).wr W24 (Or.inr sz_ca)).wr W25 (Or.inr sz_ca)).wr W35 (Or.inr sz_ca)).wr W36 (Or.inr sz_ca)).wr W37 (Or.inr sz_ca)).wr W50 (Or.inr sz_ca)).wr W51 (Or.inr sz_ca)).wr W52 (Or.inr sz_ca)).wr W53 (Or.inr sz_ca)).wr W58 (Or.inr sz_ca)).wr W60 (Or.inr sz_ca)).wr W61 (Or.inr sz_ca)) A61 hfg61 ga za (by rw [e2]; exact hnc) (Or.inr ⟨by decide, by rw [e3]; exact hsp34, by rw [e4]; exact hnc, Or.inl ⟨rfl, trivial⟩, e5, Or.inr ⟨rfl, by rw [e6]; exact hsp49⟩, by rw [e7]; exact hq, by rw [e8, e7]; exact hvc, by rw [e9, e7], rfl⟩) ⟨Or.inr ⟨rfl, by rw [e10]; exact hsp57⟩, by decide, Or.inl ⟨(h_sl.resolve_left c403), e11, rfl⟩⟩
    · -- pc 298: not sb = (0 : Int32)
     refine own_g (own_F T36 m 301 #[iv i0, iv i1, iv i2, iv i3, iv i4, iv i5, iv v1, iv sl, iv att, iv sc, iv sb, iv sa, iv qc, iv nc, iv vc, iv tc, rv ca, iv 5, .unset, .unset, .unset] []) (fun _ z_ => XS.ifNo X36.here hx rfl (hb hby at_298) rfl ((if0 _ _).trans (feq c298).1) z_) ?_
     refine own_g (own_F T36 m 303 #[iv i0, iv i1, iv i2, iv i3, iv i4, iv i5, iv v1, iv sl, iv att, iv sc, iv sb, iv sa, iv qc, iv nc, iv vc, iv tc, rv ca, iv 5, .unset, .unset, .unset] [(.ref ca)]) (fun _ z_ => XS.aload X36.here hx rfl (hb hby at_301) rfl rfl z_) ?_
     refine own_g (own_F T36 m 305 #[iv i0, iv i1, iv i2, iv i3, iv i4, iv i5, iv v1, iv sl, iv att, iv sc, iv sb, iv sa, iv qc, iv nc, iv vc, iv tc, rv ca, iv 5, .unset, .unset, .unset] [(.int 5), (.ref ca)]) (fun _ z_ => XS.iload X36.here hx rfl (hb hby at_303) rfl z_) ?_
     refine own_g (own_F T36 m 306 #[iv i0, iv i1, iv i2, iv i3, iv i4, iv i5, iv v1, iv sl, iv att, iv sc, iv sb, iv sa, iv qc, iv nc, iv vc, iv tc, rv ca, iv 5, .unset, .unset, .unset] [(.int i3), (.int 5), (.ref ca)]) (fun _ z_ => XS.iloadN X36.here hx rfl (hb hby at_305) rfl z_) ?_
     refine own_g (own_F T36 m 307 #[iv i0, iv i1, iv i2, iv i3, iv i4, iv i5, iv v1, iv sl, iv att, iv sc, iv sb, iv sa, iv qc, iv nc, iv vc, iv tc, rv ca, iv 5, .unset, .unset, .unset] [(.int 3), (.int i3), (.int 5), (.ref ca)]) (fun _ z_ => XS.iconst X36.here hx rfl (hb hby at_306) z_) ?_
     refine own_g (own_F T36 m 308 #[iv i0, iv i1, iv i2, iv i3, iv i4, iv i5, iv v1, iv sl, iv att, iv sc, iv sb, iv sa, iv qc, iv nc, iv vc, iv tc, rv ca, iv 5, .unset, .unset, .unset] [(.int ((i3.toUInt32 >>> ((3 : Int32) &&& 31).toUInt32).toInt32)), (.int 5), (.ref ca)]) (fun _ z_ => XS.iushr X36.here hx rfl (hb hby at_307) rfl z_) ?_
     refine own_g (own_F T36 m 310 #[iv i0, iv i1, iv i2, iv i3, iv i4, iv i5, iv v1, iv sl, iv att, iv sc, iv sb, iv sa, iv qc, iv nc, iv vc, iv tc, rv ca, iv 5, .unset, .unset, .unset] [(.int v1), (.int ((i3.toUInt32 >>> ((3 : Int32) &&& 31).toUInt32).toInt32)), (.int 5), (.ref ca)]) (fun _ z_ => XS.iload X36.here hx rfl (hb hby at_308) rfl z_) ?_
     refine own_callS (y := (⟨"com/example/cadmus/cadmus/StartTagEmptyPinLaw", "space", "(IZ)C"⟩ : MethodName)) X36 hx hZ hown (own_w hw 125) (own_w hw 126) (own_w hw 2) (own_w hw 127) (by decide) e36 (hM := own_space l Z a0 hw [] ((i3.toUInt32 >>> ((3 : Int32) &&& 31).toUInt32).toInt32) v1 h36 n0 (Nat.le_trans (Nat.le_trans (Nat.le_trans (Nat.le_trans (Nat.le_trans zs22 (Nat.le_of_eq W23.size.symm)) (Nat.le_of_eq W24.size.symm)) (Nat.le_of_eq W25.size.symm)) (Nat.le_of_eq W35.size.symm)) (Nat.le_of_eq W36.size.symm))) (W := 2) (pc := 310) (Ls := #[iv i0, iv i1, iv i2, iv i3, iv i4, iv i5, iv v1, iv sl, iv att, iv sc, iv sb, iv sa, iv qc, iv nc, iv vc, iv tc, rv ca, iv 5, .unset, .unset, .unset]) (argsL := [(.int ((i3.toUInt32 >>> ((3 : Int32) &&& 31).toUInt32).toInt32)), (.int v1)]) (rest := [(.int 5), (.ref ca)]) (st0 := [(.int v1), (.int ((i3.toUInt32 >>> ((3 : Int32) &&& 31).toUInt32).toInt32)), (.int 5), (.ref ca)]) (by rw [hml]; rfl) (lenOf own_pd28 rfl) rfl (Nat.le_of_eq rfl) (hb hby at_310) (by decide) (by decide) (by decide) (by decide) ?_
     intro v62 T62 L62 s X62 hZ hown hI62 hvm62 hhp62 hWw62 hQ62
     obtain ⟨s62, rfl, hsp62, rsp62, Nq62, hh62⟩ := hQ62
     have N62 := Fr.app N36 Nq62
     show own_Ends p e below s _ _ _ (own_F T62 m 313 #[iv i0, iv i1, iv i2, iv i3, iv i4, iv i5, iv v1, iv sl, iv att, iv sc, iv sb, iv sa, iv qc, iv nc, iv vc, iv tc, rv ca, iv 5, .unset, .unset, .unset] [(.int s62), (.int 5), (.ref ca)])
     refine own_cast X62 hx hZ hh62 A36 5 rfl (by decide) s62 (own_narC rsp62) (hb hby at_313) ?_
     intro T63 h63 X63 e63 W63 A63
     have N63 := Fr.snoc X63 N62 ga
     obtain ⟨g63, hg63⟩ : ∃ gq_ : Nat → Int32, gq_ = fun q_ => if q_ = 5 then s62 else g36 q_ := ⟨_, rfl⟩
     have A63 : own_A Z h63 ca .char 16 (fun q_ => .int (g63 q_)) := by rw [hg63]; exact A63
     show own_Ends p e below s _ _ _ (own_F T63 m 314 #[iv i0, iv i1, iv i2, iv i3, iv i4, iv i5, iv v1, iv sl, iv att, iv sc, iv sb, iv sa, iv qc, iv nc, iv vc, iv tc, rv ca, iv 5, .unset, .unset, .unset] [])
     have hfg63 := own_rng hfg36 rsp62 hg63
     refine own_g (own_F T63 m 317 #[iv i0, iv i1, iv i2, iv i3, iv i4, iv i5, iv v1, iv sl, iv att, iv sc, iv sb, iv sa, iv qc, iv nc, iv vc, iv tc, rv ca, iv 6, .unset, .unset, .unset] []) (fun _ z_ => XS.iinc X63.here hx rfl (hb hby at_314) rfl (l' := #[iv i0, iv i1, iv i2, iv i3, iv i4, iv i5, iv v1, iv sl, iv att, iv sc, iv sb, iv sa, iv qc, iv nc, iv vc, iv tc, rv ca, iv 6, .unset, .unset, .unset]) rfl z_) ?_
     refine own_g (own_F T63 m 319 #[iv i0, iv i1, iv i2, iv i3, iv i4, iv i5, iv v1, iv sl, iv att, iv sc, iv sb, iv sa, iv qc, iv nc, iv vc, iv tc, rv ca, iv 6, .unset, .unset, .unset] [(.ref ca)]) (fun _ z_ => XS.aload X63.here hx rfl (hb hby at_317) rfl rfl z_) ?_
     refine own_g (own_F T63 m 321 #[iv i0, iv i1, iv i2, iv i3, iv i4, iv i5, iv v1, iv sl, iv att, iv sc, iv sb, iv sa, iv qc, iv nc, iv vc, iv tc, rv ca, iv 6, .unset, .unset, .unset] [(.int 6), (.ref ca)]) (fun _ z_ => XS.iload X63.here hx rfl (hb hby at_319) rfl z_) ?_
     refine own_g (own_F T63 m 323 #[iv i0, iv i1, iv i2, iv i3, iv i4, iv i5, iv v1, iv sl, iv att, iv sc, iv sb, iv sa, iv qc, iv nc, iv vc, iv tc, rv ca, iv 6, .unset, .unset, .unset] [(.int 61), (.int 6), (.ref ca)]) (fun _ z_ => XS.bipush X63.here hx rfl (hb hby at_321) z_) ?_
     refine own_cast X63 hx hZ e63 A63 6 rfl (by decide) (61 : Int32) rfl (hb hby at_323) ?_
     intro T64 h64 X64 e64 W64 A64
     have N64 := Fr.snoc X64 N63 ga
     obtain ⟨g64, hg64⟩ : ∃ gq_ : Nat → Int32, gq_ = fun q_ => if q_ = 6 then (61 : Int32) else g63 q_ := ⟨_, rfl⟩
     have A64 : own_A Z h64 ca .char 16 (fun q_ => .int (g64 q_)) := by rw [hg64]; exact A64
     show own_Ends p e below s _ _ _ (own_F T64 m 324 #[iv i0, iv i1, iv i2, iv i3, iv i4, iv i5, iv v1, iv sl, iv att, iv sc, iv sb, iv sa, iv qc, iv nc, iv vc, iv tc, rv ca, iv 6, .unset, .unset, .unset] [])
     have hfg64 := own_rng hfg63 (by decide) hg64
     refine own_g (own_F T64 m 327 #[iv i0, iv i1, iv i2, iv i3, iv i4, iv i5, iv v1, iv sl, iv att, iv sc, iv sb, iv sa, iv qc, iv nc, iv vc, iv tc, rv ca, iv 7, .unset, .unset, .unset] []) (fun _ z_ => XS.iinc X64.here hx rfl (hb hby at_324) rfl (l' := #[iv i0, iv i1, iv i2, iv i3, iv i4, iv i5, iv v1, iv sl, iv att, iv sc, iv sb, iv sa, iv qc, iv nc, iv vc, iv tc, rv ca, iv 7, .unset, .unset, .unset]) rfl z_) ?_
     refine own_g (own_F T64 m 329 #[iv i0, iv i1, iv i2, iv i3, iv i4, iv i5, iv v1, iv sl, iv att, iv sc, iv sb, iv sa, iv qc, iv nc, iv vc, iv tc, rv ca, iv 7, .unset, .unset, .unset] [(.int sa)]) (fun _ z_ => XS.iload X64.here hx rfl (hb hby at_327) rfl z_) ?_
     by_cases c329 : sa = (0 : Int32)
     · -- pc 329: sa = (0 : Int32)
      refine own_g (own_F T64 m 349 #[iv i0, iv i1, iv i2, iv i3, iv i4, iv i5, iv v1, iv sl, iv att, iv sc, iv sb, iv sa, iv qc, iv nc, iv vc, iv tc, rv ca, iv 7, .unset, .unset, .unset] []) (fun _ z_ => XS.ifYes X64.here hx rfl (pc0 := 329) (pc' := 349) rfl (hb hby at_329) rfl ((if0 _ _).trans (teq c329).1) (by decide) (by decide) z_) ?_
      refine own_g (own_F T64 m 351 #[iv i0, iv i1, iv i2, iv i3, iv i4, iv i5, iv v1, iv sl, iv att, iv sc, iv sb, iv sa, iv qc, iv nc, iv vc, iv tc, rv ca, iv 7, .unset, .unset, .unset] [(.ref ca)]) (fun _ z_ => XS.aload X64.here hx rfl (hb hby at_349) rfl rfl z_) ?_
      refine own_g (own_F T64 m 353 #[iv i0, iv i1, iv i2, iv i3, iv i4, iv i5, iv v1, iv sl, iv att, iv sc, iv sb, iv sa, iv qc, iv nc, iv vc, iv tc, rv ca, iv 7, .unset, .unset, .unset] [(.int 7), (.ref ca)]) (fun _ z_ => XS.iload X64.here hx rfl (hb hby at_351) rfl z_) ?_
      refine own_g (own_F T64 m 355 #[iv i0, iv i1, iv i2, iv i3, iv i4, iv i5, iv v1, iv sl, iv att, iv sc, iv sb, iv sa, iv qc, iv nc, iv vc, iv tc, rv ca, iv 7, .unset, .unset, .unset] [(.int qc), (.int 7), (.ref ca)]) (fun _ z_ => XS.iload X64.here hx rfl (hb hby at_353) rfl z_) ?_
      refine own_cast X64 hx hZ e64 A64 7 rfl (by decide) qc (own_narC rqc) (hb hby at_355) ?_
      intro T65 h65 X65 e65 W65 A65
      have N65 := Fr.snoc X65 N64 ga
      obtain ⟨g65, hg65⟩ : ∃ gq_ : Nat → Int32, gq_ = fun q_ => if q_ = 7 then qc else g64 q_ := ⟨_, rfl⟩
      have A65 : own_A Z h65 ca .char 16 (fun q_ => .int (g65 q_)) := by rw [hg65]; exact A65
      show own_Ends p e below s _ _ _ (own_F T65 m 356 #[iv i0, iv i1, iv i2, iv i3, iv i4, iv i5, iv v1, iv sl, iv att, iv sc, iv sb, iv sa, iv qc, iv nc, iv vc, iv tc, rv ca, iv 7, .unset, .unset, .unset] [])
      have hfg65 := own_rng hfg64 rqc hg65
      refine own_g (own_F T65 m 359 #[iv i0, iv i1, iv i2, iv i3, iv i4, iv i5, iv v1, iv sl, iv att, iv sc, iv sb, iv sa, iv qc, iv nc, iv vc, iv tc, rv ca, iv 8, .unset, .unset, .unset] []) (fun _ z_ => XS.iinc X65.here hx rfl (hb hby at_356) rfl (l' := #[iv i0, iv i1, iv i2, iv i3, iv i4, iv i5, iv v1, iv sl, iv att, iv sc, iv sb, iv sa, iv qc, iv nc, iv vc, iv tc, rv ca, iv 8, .unset, .unset, .unset]) rfl z_) ?_
      refine own_g (own_F T65 m 361 #[iv i0, iv i1, iv i2, iv i3, iv i4, iv i5, iv v1, iv sl, iv att, iv sc, iv sb, iv sa, iv qc, iv nc, iv vc, iv tc, rv ca, iv 8, .unset, .unset, .unset] [(.ref ca)]) (fun _ z_ => XS.aload X65.here hx rfl (hb hby at_359) rfl rfl z_) ?_
      refine own_g (own_F T65 m 363 #[iv i0, iv i1, iv i2, iv i3, iv i4, iv i5, iv v1, iv sl, iv att, iv sc, iv sb, iv sa, iv qc, iv nc, iv vc, iv tc, rv ca, iv 8, .unset, .unset, .unset] [(.int 8), (.ref ca)]) (fun _ z_ => XS.iload X65.here hx rfl (hb hby at_361) rfl z_) ?_
      refine own_g (own_F T65 m 365 #[iv i0, iv i1, iv i2, iv i3, iv i4, iv i5, iv v1, iv sl, iv att, iv sc, iv sb, iv sa, iv qc, iv nc, iv vc, iv tc, rv ca, iv 8, .unset, .unset, .unset] [(.int vc), (.int 8), (.ref ca)]) (fun _ z_ => XS.iload X65.here hx rfl (hb hby at_363) rfl z_) ?_
      refine own_cast X65 hx hZ e65 A65 8 rfl (by decide) vc (own_narC rvc) (hb hby at_365) ?_
      intro T66 h66 X66 e66 W66 A66
      have N66 := Fr.snoc X66 N65 ga
      obtain ⟨g66, hg66⟩ : ∃ gq_ : Nat → Int32, gq_ = fun q_ => if q_ = 8 then vc else g65 q_ := ⟨_, rfl⟩
      have A66 : own_A Z h66 ca .char 16 (fun q_ => .int (g66 q_)) := by rw [hg66]; exact A66
      show own_Ends p e below s _ _ _ (own_F T66 m 366 #[iv i0, iv i1, iv i2, iv i3, iv i4, iv i5, iv v1, iv sl, iv att, iv sc, iv sb, iv sa, iv qc, iv nc, iv vc, iv tc, rv ca, iv 8, .unset, .unset, .unset] [])
      have hfg66 := own_rng hfg65 rvc hg66
      refine own_g (own_F T66 m 369 #[iv i0, iv i1, iv i2, iv i3, iv i4, iv i5, iv v1, iv sl, iv att, iv sc, iv sb, iv sa, iv qc, iv nc, iv vc, iv tc, rv ca, iv 9, .unset, .unset, .unset] []) (fun _ z_ => XS.iinc X66.here hx rfl (hb hby at_366) rfl (l' := #[iv i0, iv i1, iv i2, iv i3, iv i4, iv i5, iv v1, iv sl, iv att, iv sc, iv sb, iv sa, iv qc, iv nc, iv vc, iv tc, rv ca, iv 9, .unset, .unset, .unset]) rfl z_) ?_
      refine own_g (own_F T66 m 371 #[iv i0, iv i1, iv i2, iv i3, iv i4, iv i5, iv v1, iv sl, iv att, iv sc, iv sb, iv sa, iv qc, iv nc, iv vc, iv tc, rv ca, iv 9, .unset, .unset, .unset] [(.ref ca)]) (fun _ z_ => XS.aload X66.here hx rfl (hb hby at_369) rfl rfl z_) ?_
      refine own_g (own_F T66 m 373 #[iv i0, iv i1, iv i2, iv i3, iv i4, iv i5, iv v1, iv sl, iv att, iv sc, iv sb, iv sa, iv qc, iv nc, iv vc, iv tc, rv ca, iv 9, .unset, .unset, .unset] [(.int 9), (.ref ca)]) (fun _ z_ => XS.iload X66.here hx rfl (hb hby at_371) rfl z_) ?_
      refine own_g (own_F T66 m 375 #[iv i0, iv i1, iv i2, iv i3, iv i4, iv i5, iv v1, iv sl, iv att, iv sc, iv sb, iv sa, iv qc, iv nc, iv vc, iv tc, rv ca, iv 9, .unset, .unset, .unset] [(.int qc), (.int 9), (.ref ca)]) (fun _ z_ => XS.iload X66.here hx rfl (hb hby at_373) rfl z_) ?_
      refine own_cast X66 hx hZ e66 A66 9 rfl (by decide) qc (own_narC rqc) (hb hby at_375) ?_
      intro T67 h67 X67 e67 W67 A67
      have N67 := Fr.snoc X67 N66 ga
      obtain ⟨g67, hg67⟩ : ∃ gq_ : Nat → Int32, gq_ = fun q_ => if q_ = 9 then qc else g66 q_ := ⟨_, rfl⟩
      have A67 : own_A Z h67 ca .char 16 (fun q_ => .int (g67 q_)) := by rw [hg67]; exact A67
      show own_Ends p e below s _ _ _ (own_F T67 m 376 #[iv i0, iv i1, iv i2, iv i3, iv i4, iv i5, iv v1, iv sl, iv att, iv sc, iv sb, iv sa, iv qc, iv nc, iv vc, iv tc, rv ca, iv 9, .unset, .unset, .unset] [])
      have hfg67 := own_rng hfg66 rqc hg67
      refine own_g (own_F T67 m 379 #[iv i0, iv i1, iv i2, iv i3, iv i4, iv i5, iv v1, iv sl, iv att, iv sc, iv sb, iv sa, iv qc, iv nc, iv vc, iv tc, rv ca, iv 10, .unset, .unset, .unset] []) (fun _ z_ => XS.iinc X67.here hx rfl (hb hby at_376) rfl (l' := #[iv i0, iv i1, iv i2, iv i3, iv i4, iv i5, iv v1, iv sl, iv att, iv sc, iv sb, iv sa, iv qc, iv nc, iv vc, iv tc, rv ca, iv 10, .unset, .unset, .unset]) rfl z_) ?_
      refine own_g (own_F T67 m 381 #[iv i0, iv i1, iv i2, iv i3, iv i4, iv i5, iv v1, iv sl, iv att, iv sc, iv sb, iv sa, iv qc, iv nc, iv vc, iv tc, rv ca, iv 10, .unset, .unset, .unset] [(.int sc)]) (fun _ z_ => XS.iload X67.here hx rfl (hb hby at_379) rfl z_) ?_
      by_cases c381 : sc = (0 : Int32)
      · -- pc 381: sc = (0 : Int32)
       refine own_g (own_F T67 m 401 #[iv i0, iv i1, iv i2, iv i3, iv i4, iv i5, iv v1, iv sl, iv att, iv sc, iv sb, iv sa, iv qc, iv nc, iv vc, iv tc, rv ca, iv 10, .unset, .unset, .unset] []) (fun _ z_ => XS.ifYes X67.here hx rfl (pc0 := 381) (pc' := 401) rfl (hb hby at_381) rfl ((if0 _ _).trans (teq c381).1) (by decide) (by decide) z_) ?_
       refine own_g (own_F T67 m 403 #[iv i0, iv i1, iv i2, iv i3, iv i4, iv i5, iv v1, iv sl, iv att, iv sc, iv sb, iv sa, iv qc, iv nc, iv vc, iv tc, rv ca, iv 10, .unset, .unset, .unset] [(.int sl)]) (fun _ z_ => XS.iload X67.here hx rfl (hb hby at_401) rfl z_) ?_
       by_cases c403 : sl = (0 : Int32)
       · -- pc 403: sl = (0 : Int32)
        refine own_g (own_F T67 m 416 #[iv i0, iv i1, iv i2, iv i3, iv i4, iv i5, iv v1, iv sl, iv att, iv sc, iv sb, iv sa, iv qc, iv nc, iv vc, iv tc, rv ca, iv 10, .unset, .unset, .unset] []) (fun _ z_ => XS.ifYes X67.here hx rfl (pc0 := 403) (pc' := 416) rfl (hb hby at_403) rfl ((if0 _ _).trans (teq c403).1) (by decide) (by decide) z_) ?_
        refine own_g (own_F T67 m 418 #[iv i0, iv i1, iv i2, iv i3, iv i4, iv i5, iv v1, iv sl, iv att, iv sc, iv sb, iv sa, iv qc, iv nc, iv vc, iv tc, rv ca, iv 10, .unset, .unset, .unset] [(.ref ca)]) (fun _ z_ => XS.aload X67.here hx rfl (hb hby at_416) rfl rfl z_) ?_
        refine own_g (own_F T67 m 420 #[iv i0, iv i1, iv i2, iv i3, iv i4, iv i5, iv v1, iv sl, iv att, iv sc, iv sb, iv sa, iv qc, iv nc, iv vc, iv tc, rv ca, iv 10, .unset, .unset, .unset] [(.int 10), (.ref ca)]) (fun _ z_ => XS.iload X67.here hx rfl (hb hby at_418) rfl z_) ?_
        refine own_g (own_F T67 m 422 #[iv i0, iv i1, iv i2, iv i3, iv i4, iv i5, iv v1, iv sl, iv att, iv sc, iv sb, iv sa, iv qc, iv nc, iv vc, iv tc, rv ca, iv 10, .unset, .unset, .unset] [(.int 62), (.int 10), (.ref ca)]) (fun _ z_ => XS.bipush X67.here hx rfl (hb hby at_420) z_) ?_
        refine own_cast X67 hx hZ e67 A67 10 rfl (by decide) (62 : Int32) rfl (hb hby at_422) ?_
        intro T68 h68 X68 e68 W68 A68
        have N68 := Fr.snoc X68 N67 ga
        obtain ⟨g68, hg68⟩ : ∃ gq_ : Nat → Int32, gq_ = fun q_ => if q_ = 10 then (62 : Int32) else g67 q_ := ⟨_, rfl⟩
        have A68 : own_A Z h68 ca .char 16 (fun q_ => .int (g68 q_)) := by rw [hg68]; exact A68
        show own_Ends p e below s _ _ _ (own_F T68 m 423 #[iv i0, iv i1, iv i2, iv i3, iv i4, iv i5, iv v1, iv sl, iv att, iv sc, iv sb, iv sa, iv qc, iv nc, iv vc, iv tc, rv ca, iv 10, .unset, .unset, .unset] [])
        have hfg68 := own_rng hfg67 (by decide) hg68
        refine own_g (own_F T68 m 426 #[iv i0, iv i1, iv i2, iv i3, iv i4, iv i5, iv v1, iv sl, iv att, iv sc, iv sb, iv sa, iv qc, iv nc, iv vc, iv tc, rv ca, iv 11, .unset, .unset, .unset] []) (fun _ z_ => XS.iinc X68.here hx rfl (hb hby at_423) rfl (l' := #[iv i0, iv i1, iv i2, iv i3, iv i4, iv i5, iv v1, iv sl, iv att, iv sc, iv sb, iv sa, iv qc, iv nc, iv vc, iv tc, rv ca, iv 11, .unset, .unset, .unset]) rfl z_) ?_
        have e2 : g68 2 = nc := by simp only [hg68, hg67, hg66, hg65, hg64, hg63, hg36, hg35, hg25, hg24, hg23]; rfl
        have e3 : g68 3 = s34 := by simp only [hg68, hg67, hg66, hg65, hg64, hg63, hg36, hg35, hg25, hg24, hg23]; rfl
        have e4 : g68 4 = nc := by simp only [hg68, hg67, hg66, hg65, hg64, hg63, hg36, hg35, hg25, hg24, hg23]; rfl
        have e5 : g68 5 = s62 := by simp only [hg68, hg67, hg66, hg65, hg64, hg63, hg36, hg35, hg25, hg24, hg23]; rfl
        have e6 : g68 6 = (61 : Int32) := by simp only [hg68, hg67, hg66, hg65, hg64, hg63, hg36, hg35, hg25, hg24, hg23]; rfl
        have e7 : g68 7 = qc := by simp only [hg68, hg67, hg66, hg65, hg64, hg63, hg36, hg35, hg25, hg24, hg23]; rfl
        have e8 : g68 8 = vc := by simp only [hg68, hg67, hg66, hg65, hg64, hg63, hg36, hg35, hg25, hg24, hg23]; rfl
        have e9 : g68 9 = qc := by simp only [hg68, hg67, hg66, hg65, hg64, hg63, hg36, hg35, hg25, hg24, hg23]; rfl
        have e10 : g68 10 = (62 : Int32) := by simp only [hg68, hg67, hg66, hg65, hg64, hg63, hg36, hg35, hg25, hg24, hg23]; rfl
        exact J426 ca g68 (11 : Int32) 10 10 6 7 v1 sl qc nc vc tc att sc sb sa T68 _ _ s hZ hown X68 e68 N68 (Nat.le_trans (Nat.le_trans (Nat.le_trans (Nat.le_trans (Nat.le_trans (Nat.le_trans (Nat.le_trans (Nat.le_trans (Nat.le_trans (Nat.le_trans (Nat.le_trans zs22 (Nat.le_of_eq W23.size.symm)) (Nat.le_of_eq W24.size.symm)) (Nat.le_of_eq W25.size.symm)) (Nat.le_of_eq W35.size.symm)) (Nat.le_of_eq W36.size.symm)) (Nat.le_of_eq W63.size.symm)) (Nat.le_of_eq W64.size.symm)) (Nat.le_of_eq W65.size.symm)) (Nat.le_of_eq W66.size.symm)) (Nat.le_of_eq W67.size.symm)) (Nat.le_of_eq W68.size.symm)) (Nat.le_trans (Nat.le_trans (Nat.le_trans (Nat.le_trans (Nat.le_trans (Nat.le_trans (Nat.le_trans (Nat.le_trans (Nat.le_trans (Nat.le_trans (Nat.le_trans zz22 (Nat.le_of_eq W23.size.symm)) (Nat.le_of_eq W24.size.symm)) (Nat.le_of_eq W25.size.symm)) (Nat.le_of_eq W35.size.symm)) (Nat.le_of_eq W36.size.symm)) (Nat.le_of_eq W63.size.symm)) (Nat.le_of_eq W64.size.symm)) (Nat.le_of_eq W65.size.symm)) (Nat.le_of_eq W66.size.symm)) (Nat.le_of_eq W67.size.symm)) (Nat.le_of_eq W68.size.symm)) (((((((((((K22.wr W23 (Or.inr sz_ca)).wr W24 (Or.inr sz_ca)).wr W25 (Or.inr sz_ca)).wr W35 (Or.inr sz_ca)).wr W36 (Or.inr sz_ca)).wr W63 (Or.inr sz_ca)).wr W64 (Or.inr sz_ca)).wr W65 (Or.inr sz_ca)).wr W66 (Or.inr sz_ca)).wr W67 (Or.inr sz_ca)).wr W68 (Or.inr sz_ca)) A68 hfg68 ga za (by rw [e2]; exact hnc) (Or.inr ⟨by decide, by rw [e3]; exact hsp34, by rw [e4]; exact hnc, Or.inr ⟨rfl, by rw [e5]; exact hsp62⟩, e6, Or.inl ⟨rfl, trivial⟩, by rw [e7]; exact hq, by rw [e8, e7]; exact hvc, by rw [e9, e7], rfl⟩) ⟨Or.inl ⟨rfl, trivial⟩, by decide, Or.inr ⟨c403, e10, rfl⟩⟩
       · -- pc 403: not sl = (0 : Int32)
        refine own_g (own_F T67 m 406 #[iv i0, iv i1, iv i2, iv i3, iv i4, iv i5, iv v1, iv sl, iv att, iv sc, iv sb, iv sa, iv qc, iv nc, iv vc, iv tc, rv ca, iv 10, .unset, .unset, .unset] []) (fun _ z_ => XS.ifNo X67.here hx rfl (hb hby at_403) rfl ((if0 _ _).trans (feq c403).1) z_) ?_
        refine own_g (own_F T67 m 408 #[iv i0, iv i1, iv i2, iv i3, iv i4, iv i5, iv v1, iv sl, iv att, iv sc, iv sb, iv sa, iv qc, iv nc, iv vc, iv tc, rv ca, iv 10, .unset, .unset, .unset] [(.ref ca)]) (fun _ z_ => XS.aload X67.here hx rfl (hb hby at_406) rfl rfl z_) ?_
        refine own_g (own_F T67 m 410 #[iv i0, iv i1, iv i2, iv i3, iv i4, iv i5, iv v1, iv sl, iv att, iv sc, iv sb, iv sa, iv qc, iv nc, iv vc, iv tc, rv ca, iv 10, .unset, .unset, .unset] [(.int 10), (.ref ca)]) (fun _ z_ => XS.iload X67.here hx rfl (hb hby at_408) rfl z_) ?_
        refine own_g (own_F T67 m 412 #[iv i0, iv i1, iv i2, iv i3, iv i4, iv i5, iv v1, iv sl, iv att, iv sc, iv sb, iv sa, iv qc, iv nc, iv vc, iv tc, rv ca, iv 10, .unset, .unset, .unset] [(.int 47), (.int 10), (.ref ca)]) (fun _ z_ => XS.bipush X67.here hx rfl (hb hby at_410) z_) ?_
        refine own_cast X67 hx hZ e67 A67 10 rfl (by decide) (47 : Int32) rfl (hb hby at_412) ?_
        intro T69 h69 X69 e69 W69 A69
        have N69 := Fr.snoc X69 N67 ga
        obtain ⟨g69, hg69⟩ : ∃ gq_ : Nat → Int32, gq_ = fun q_ => if q_ = 10 then (47 : Int32) else g67 q_ := ⟨_, rfl⟩
        have A69 : own_A Z h69 ca .char 16 (fun q_ => .int (g69 q_)) := by rw [hg69]; exact A69
        show own_Ends p e below s _ _ _ (own_F T69 m 413 #[iv i0, iv i1, iv i2, iv i3, iv i4, iv i5, iv v1, iv sl, iv att, iv sc, iv sb, iv sa, iv qc, iv nc, iv vc, iv tc, rv ca, iv 10, .unset, .unset, .unset] [])
        have hfg69 := own_rng hfg67 (by decide) hg69
        refine own_g (own_F T69 m 416 #[iv i0, iv i1, iv i2, iv i3, iv i4, iv i5, iv v1, iv sl, iv att, iv sc, iv sb, iv sa, iv qc, iv nc, iv vc, iv tc, rv ca, iv 11, .unset, .unset, .unset] []) (fun _ z_ => XS.iinc X69.here hx rfl (hb hby at_413) rfl (l' := #[iv i0, iv i1, iv i2, iv i3, iv i4, iv i5, iv v1, iv sl, iv att, iv sc, iv sb, iv sa, iv qc, iv nc, iv vc, iv tc, rv ca, iv 11, .unset, .unset, .unset]) rfl z_) ?_
        refine own_g (own_F T69 m 418 #[iv i0, iv i1, iv i2, iv i3, iv i4, iv i5, iv v1, iv sl, iv att, iv sc, iv sb, iv sa, iv qc, iv nc, iv vc, iv tc, rv ca, iv 11, .unset, .unset, .unset] [(.ref ca)]) (fun _ z_ => XS.aload X69.here hx rfl (hb hby at_416) rfl rfl z_) ?_
        refine own_g (own_F T69 m 420 #[iv i0, iv i1, iv i2, iv i3, iv i4, iv i5, iv v1, iv sl, iv att, iv sc, iv sb, iv sa, iv qc, iv nc, iv vc, iv tc, rv ca, iv 11, .unset, .unset, .unset] [(.int 11), (.ref ca)]) (fun _ z_ => XS.iload X69.here hx rfl (hb hby at_418) rfl z_) ?_
        refine own_g (own_F T69 m 422 #[iv i0, iv i1, iv i2, iv i3, iv i4, iv i5, iv v1, iv sl, iv att, iv sc, iv sb, iv sa, iv qc, iv nc, iv vc, iv tc, rv ca, iv 11, .unset, .unset, .unset] [(.int 62), (.int 11), (.ref ca)]) (fun _ z_ => XS.bipush X69.here hx rfl (hb hby at_420) z_) ?_
        refine own_cast X69 hx hZ e69 A69 11 rfl (by decide) (62 : Int32) rfl (hb hby at_422) ?_
        intro T70 h70 X70 e70 W70 A70
        have N70 := Fr.snoc X70 N69 ga
        obtain ⟨g70, hg70⟩ : ∃ gq_ : Nat → Int32, gq_ = fun q_ => if q_ = 11 then (62 : Int32) else g69 q_ := ⟨_, rfl⟩
        have A70 : own_A Z h70 ca .char 16 (fun q_ => .int (g70 q_)) := by rw [hg70]; exact A70
        show own_Ends p e below s _ _ _ (own_F T70 m 423 #[iv i0, iv i1, iv i2, iv i3, iv i4, iv i5, iv v1, iv sl, iv att, iv sc, iv sb, iv sa, iv qc, iv nc, iv vc, iv tc, rv ca, iv 11, .unset, .unset, .unset] [])
        have hfg70 := own_rng hfg69 (by decide) hg70
        refine own_g (own_F T70 m 426 #[iv i0, iv i1, iv i2, iv i3, iv i4, iv i5, iv v1, iv sl, iv att, iv sc, iv sb, iv sa, iv qc, iv nc, iv vc, iv tc, rv ca, iv 12, .unset, .unset, .unset] []) (fun _ z_ => XS.iinc X70.here hx rfl (hb hby at_423) rfl (l' := #[iv i0, iv i1, iv i2, iv i3, iv i4, iv i5, iv v1, iv sl, iv att, iv sc, iv sb, iv sa, iv qc, iv nc, iv vc, iv tc, rv ca, iv 12, .unset, .unset, .unset]) rfl z_) ?_
        have e2 : g70 2 = nc := by simp only [hg70, hg69, hg67, hg66, hg65, hg64, hg63, hg36, hg35, hg25, hg24, hg23]; rfl
        have e3 : g70 3 = s34 := by simp only [hg70, hg69, hg67, hg66, hg65, hg64, hg63, hg36, hg35, hg25, hg24, hg23]; rfl
        have e4 : g70 4 = nc := by simp only [hg70, hg69, hg67, hg66, hg65, hg64, hg63, hg36, hg35, hg25, hg24, hg23]; rfl
        have e5 : g70 5 = s62 := by simp only [hg70, hg69, hg67, hg66, hg65, hg64, hg63, hg36, hg35, hg25, hg24, hg23]; rfl
        have e6 : g70 6 = (61 : Int32) := by simp only [hg70, hg69, hg67, hg66, hg65, hg64, hg63, hg36, hg35, hg25, hg24, hg23]; rfl
        have e7 : g70 7 = qc := by simp only [hg70, hg69, hg67, hg66, hg65, hg64, hg63, hg36, hg35, hg25, hg24, hg23]; rfl
        have e8 : g70 8 = vc := by simp only [hg70, hg69, hg67, hg66, hg65, hg64, hg63, hg36, hg35, hg25, hg24, hg23]; rfl
        have e9 : g70 9 = qc := by simp only [hg70, hg69, hg67, hg66, hg65, hg64, hg63, hg36, hg35, hg25, hg24, hg23]; rfl
        have e10 : g70 10 = (47 : Int32) := by simp only [hg70, hg69, hg67, hg66, hg65, hg64, hg63, hg36, hg35, hg25, hg24, hg23]; rfl
        have e11 : g70 11 = (62 : Int32) := by simp only [hg70, hg69, hg67, hg66, hg65, hg64, hg63, hg36, hg35, hg25, hg24, hg23]; rfl
        exact J426 ca g70 (12 : Int32) 10 10 6 7 v1 sl qc nc vc tc att sc sb sa T70 _ _ s hZ hown X70 e70 N70 (Nat.le_trans (Nat.le_trans (Nat.le_trans (Nat.le_trans (Nat.le_trans (Nat.le_trans (Nat.le_trans (Nat.le_trans (Nat.le_trans (Nat.le_trans (Nat.le_trans (Nat.le_trans zs22 (Nat.le_of_eq W23.size.symm)) (Nat.le_of_eq W24.size.symm)) (Nat.le_of_eq W25.size.symm)) (Nat.le_of_eq W35.size.symm)) (Nat.le_of_eq W36.size.symm)) (Nat.le_of_eq W63.size.symm)) (Nat.le_of_eq W64.size.symm)) (Nat.le_of_eq W65.size.symm)) (Nat.le_of_eq W66.size.symm)) (Nat.le_of_eq W67.size.symm)) (Nat.le_of_eq W69.size.symm)) (Nat.le_of_eq W70.size.symm)) (Nat.le_trans (Nat.le_trans (Nat.le_trans (Nat.le_trans (Nat.le_trans (Nat.le_trans (Nat.le_trans (Nat.le_trans (Nat.le_trans (Nat.le_trans (Nat.le_trans (Nat.le_trans zz22 (Nat.le_of_eq W23.size.symm)) (Nat.le_of_eq W24.size.symm)) (Nat.le_of_eq W25.size.symm)) (Nat.le_of_eq W35.size.symm)) (Nat.le_of_eq W36.size.symm)) (Nat.le_of_eq W63.size.symm)) (Nat.le_of_eq W64.size.symm)) (Nat.le_of_eq W65.size.symm)) (Nat.le_of_eq W66.size.symm)) (Nat.le_of_eq W67.size.symm)) (Nat.le_of_eq W69.size.symm)) (Nat.le_of_eq W70.size.symm)) ((((((((((((K22.wr W23 (Or.inr sz_ca)).wr W24 (Or.inr sz_ca)).wr W25 (Or.inr sz_ca)).wr W35 (Or.inr sz_ca)).wr W36 (Or.inr sz_ca)).wr W63 (Or.inr sz_ca)).wr W64 (Or.inr sz_ca)).wr W65 (Or.inr sz_ca)).wr W66 (Or.inr sz_ca)).wr W67 (Or.inr sz_ca)).wr W69 (Or.inr sz_ca)).wr W70 (Or.inr sz_ca)) A70 hfg70 ga za (by rw [e2]; exact hnc) (Or.inr ⟨by decide, by rw [e3]; exact hsp34, by rw [e4]; exact hnc, Or.inr ⟨rfl, by rw [e5]; exact hsp62⟩, e6, Or.inl ⟨rfl, trivial⟩, by rw [e7]; exact hq, by rw [e8, e7]; exact hvc, by rw [e9, e7], rfl⟩) ⟨Or.inl ⟨rfl, trivial⟩, by decide, Or.inl ⟨(h_sl.resolve_left c403), e10, rfl⟩⟩
      · -- pc 381: not sc = (0 : Int32)
       refine own_g (own_F T67 m 384 #[iv i0, iv i1, iv i2, iv i3, iv i4, iv i5, iv v1, iv sl, iv att, iv sc, iv sb, iv sa, iv qc, iv nc, iv vc, iv tc, rv ca, iv 10, .unset, .unset, .unset] []) (fun _ z_ => XS.ifNo X67.here hx rfl (hb hby at_381) rfl ((if0 _ _).trans (feq c381).1) z_) ?_
       refine own_g (own_F T67 m 386 #[iv i0, iv i1, iv i2, iv i3, iv i4, iv i5, iv v1, iv sl, iv att, iv sc, iv sb, iv sa, iv qc, iv nc, iv vc, iv tc, rv ca, iv 10, .unset, .unset, .unset] [(.ref ca)]) (fun _ z_ => XS.aload X67.here hx rfl (hb hby at_384) rfl rfl z_) ?_
       refine own_g (own_F T67 m 388 #[iv i0, iv i1, iv i2, iv i3, iv i4, iv i5, iv v1, iv sl, iv att, iv sc, iv sb, iv sa, iv qc, iv nc, iv vc, iv tc, rv ca, iv 10, .unset, .unset, .unset] [(.int 10), (.ref ca)]) (fun _ z_ => XS.iload X67.here hx rfl (hb hby at_386) rfl z_) ?_
       refine own_g (own_F T67 m 389 #[iv i0, iv i1, iv i2, iv i3, iv i4, iv i5, iv v1, iv sl, iv att, iv sc, iv sb, iv sa, iv qc, iv nc, iv vc, iv tc, rv ca, iv 10, .unset, .unset, .unset] [(.int i3), (.int 10), (.ref ca)]) (fun _ z_ => XS.iloadN X67.here hx rfl (hb hby at_388) rfl z_) ?_
       refine own_g (own_F T67 m 391 #[iv i0, iv i1, iv i2, iv i3, iv i4, iv i5, iv v1, iv sl, iv att, iv sc, iv sb, iv sa, iv qc, iv nc, iv vc, iv tc, rv ca, iv 10, .unset, .unset, .unset] [(.int 9), (.int i3), (.int 10), (.ref ca)]) (fun _ z_ => XS.bipush X67.here hx rfl (hb hby at_389) z_) ?_
       refine own_g (own_F T67 m 392 #[iv i0, iv i1, iv i2, iv i3, iv i4, iv i5, iv v1, iv sl, iv att, iv sc, iv sb, iv sa, iv qc, iv nc, iv vc, iv tc, rv ca, iv 10, .unset, .unset, .unset] [(.int ((i3.toUInt32 >>> ((9 : Int32) &&& 31).toUInt32).toInt32)), (.int 10), (.ref ca)]) (fun _ z_ => XS.iushr X67.here hx rfl (hb hby at_391) rfl z_) ?_
       refine own_g (own_F T67 m 394 #[iv i0, iv i1, iv i2, iv i3, iv i4, iv i5, iv v1, iv sl, iv att, iv sc, iv sb, iv sa, iv qc, iv nc, iv vc, iv tc, rv ca, iv 10, .unset, .unset, .unset] [(.int v1), (.int ((i3.toUInt32 >>> ((9 : Int32) &&& 31).toUInt32).toInt32)), (.int 10), (.ref ca)]) (fun _ z_ => XS.iload X67.here hx rfl (hb hby at_392) rfl z_) ?_
       refine own_callS (y := (⟨"com/example/cadmus/cadmus/StartTagEmptyPinLaw", "space", "(IZ)C"⟩ : MethodName)) X67 hx hZ hown (own_w hw 125) (own_w hw 126) (own_w hw 2) (own_w hw 127) (by decide) e67 (hM := own_space l Z a0 hw [] ((i3.toUInt32 >>> ((9 : Int32) &&& 31).toUInt32).toInt32) v1 h67 n0 (Nat.le_trans (Nat.le_trans (Nat.le_trans (Nat.le_trans (Nat.le_trans (Nat.le_trans (Nat.le_trans (Nat.le_trans (Nat.le_trans (Nat.le_trans zs22 (Nat.le_of_eq W23.size.symm)) (Nat.le_of_eq W24.size.symm)) (Nat.le_of_eq W25.size.symm)) (Nat.le_of_eq W35.size.symm)) (Nat.le_of_eq W36.size.symm)) (Nat.le_of_eq W63.size.symm)) (Nat.le_of_eq W64.size.symm)) (Nat.le_of_eq W65.size.symm)) (Nat.le_of_eq W66.size.symm)) (Nat.le_of_eq W67.size.symm))) (W := 2) (pc := 394) (Ls := #[iv i0, iv i1, iv i2, iv i3, iv i4, iv i5, iv v1, iv sl, iv att, iv sc, iv sb, iv sa, iv qc, iv nc, iv vc, iv tc, rv ca, iv 10, .unset, .unset, .unset]) (argsL := [(.int ((i3.toUInt32 >>> ((9 : Int32) &&& 31).toUInt32).toInt32)), (.int v1)]) (rest := [(.int 10), (.ref ca)]) (st0 := [(.int v1), (.int ((i3.toUInt32 >>> ((9 : Int32) &&& 31).toUInt32).toInt32)), (.int 10), (.ref ca)]) (by rw [hml]; rfl) (lenOf own_pd28 rfl) rfl (Nat.le_of_eq rfl) (hb hby at_394) (by decide) (by decide) (by decide) (by decide) ?_
       intro v71 T71 L71 s X71 hZ hown hI71 hvm71 hhp71 hWw71 hQ71
       obtain ⟨s71, rfl, hsp71, rsp71, Nq71, hh71⟩ := hQ71
       have N71 := Fr.app N67 Nq71
       show own_Ends p e below s _ _ _ (own_F T71 m 397 #[iv i0, iv i1, iv i2, iv i3, iv i4, iv i5, iv v1, iv sl, iv att, iv sc, iv sb, iv sa, iv qc, iv nc, iv vc, iv tc, rv ca, iv 10, .unset, .unset, .unset] [(.int s71), (.int 10), (.ref ca)])
       refine own_cast X71 hx hZ hh71 A67 10 rfl (by decide) s71 (own_narC rsp71) (hb hby at_397) ?_
       intro T72 h72 X72 e72 W72 A72
       have N72 := Fr.snoc X72 N71 ga
       obtain ⟨g72, hg72⟩ : ∃ gq_ : Nat → Int32, gq_ = fun q_ => if q_ = 10 then s71 else g67 q_ := ⟨_, rfl⟩
       have A72 : own_A Z h72 ca .char 16 (fun q_ => .int (g72 q_)) := by rw [hg72]; exact A72
       show own_Ends p e below s _ _ _ (own_F T72 m 398 #[iv i0, iv i1, iv i2, iv i3, iv i4, iv i5, iv v1, iv sl, iv att, iv sc, iv sb, iv sa, iv qc, iv nc, iv vc, iv tc, rv ca, iv 10, .unset, .unset, .unset] [])
       have hfg72 := own_rng hfg67 rsp71 hg72
       refine own_g (own_F T72 m 401 #[iv i0, iv i1, iv i2, iv i3, iv i4, iv i5, iv v1, iv sl, iv att, iv sc, iv sb, iv sa, iv qc, iv nc, iv vc, iv tc, rv ca, iv 11, .unset, .unset, .unset] []) (fun _ z_ => XS.iinc X72.here hx rfl (hb hby at_398) rfl (l' := #[iv i0, iv i1, iv i2, iv i3, iv i4, iv i5, iv v1, iv sl, iv att, iv sc, iv sb, iv sa, iv qc, iv nc, iv vc, iv tc, rv ca, iv 11, .unset, .unset, .unset]) rfl z_) ?_
       refine own_g (own_F T72 m 403 #[iv i0, iv i1, iv i2, iv i3, iv i4, iv i5, iv v1, iv sl, iv att, iv sc, iv sb, iv sa, iv qc, iv nc, iv vc, iv tc, rv ca, iv 11, .unset, .unset, .unset] [(.int sl)]) (fun _ z_ => XS.iload X72.here hx rfl (hb hby at_401) rfl z_) ?_
       by_cases c403 : sl = (0 : Int32)
       · -- pc 403: sl = (0 : Int32)
        refine own_g (own_F T72 m 416 #[iv i0, iv i1, iv i2, iv i3, iv i4, iv i5, iv v1, iv sl, iv att, iv sc, iv sb, iv sa, iv qc, iv nc, iv vc, iv tc, rv ca, iv 11, .unset, .unset, .unset] []) (fun _ z_ => XS.ifYes X72.here hx rfl (pc0 := 403) (pc' := 416) rfl (hb hby at_403) rfl ((if0 _ _).trans (teq c403).1) (by decide) (by decide) z_) ?_
        refine own_g (own_F T72 m 418 #[iv i0, iv i1, iv i2, iv i3, iv i4, iv i5, iv v1, iv sl, iv att, iv sc, iv sb, iv sa, iv qc, iv nc, iv vc, iv tc, rv ca, iv 11, .unset, .unset, .unset] [(.ref ca)]) (fun _ z_ => XS.aload X72.here hx rfl (hb hby at_416) rfl rfl z_) ?_
        refine own_g (own_F T72 m 420 #[iv i0, iv i1, iv i2, iv i3, iv i4, iv i5, iv v1, iv sl, iv att, iv sc, iv sb, iv sa, iv qc, iv nc, iv vc, iv tc, rv ca, iv 11, .unset, .unset, .unset] [(.int 11), (.ref ca)]) (fun _ z_ => XS.iload X72.here hx rfl (hb hby at_418) rfl z_) ?_
        refine own_g (own_F T72 m 422 #[iv i0, iv i1, iv i2, iv i3, iv i4, iv i5, iv v1, iv sl, iv att, iv sc, iv sb, iv sa, iv qc, iv nc, iv vc, iv tc, rv ca, iv 11, .unset, .unset, .unset] [(.int 62), (.int 11), (.ref ca)]) (fun _ z_ => XS.bipush X72.here hx rfl (hb hby at_420) z_) ?_
        refine own_cast X72 hx hZ e72 A72 11 rfl (by decide) (62 : Int32) rfl (hb hby at_422) ?_
        intro T73 h73 X73 e73 W73 A73
        have N73 := Fr.snoc X73 N72 ga
        obtain ⟨g73, hg73⟩ : ∃ gq_ : Nat → Int32, gq_ = fun q_ => if q_ = 11 then (62 : Int32) else g72 q_ := ⟨_, rfl⟩
        have A73 : own_A Z h73 ca .char 16 (fun q_ => .int (g73 q_)) := by rw [hg73]; exact A73
        show own_Ends p e below s _ _ _ (own_F T73 m 423 #[iv i0, iv i1, iv i2, iv i3, iv i4, iv i5, iv v1, iv sl, iv att, iv sc, iv sb, iv sa, iv qc, iv nc, iv vc, iv tc, rv ca, iv 11, .unset, .unset, .unset] [])
        have hfg73 := own_rng hfg72 (by decide) hg73
        refine own_g (own_F T73 m 426 #[iv i0, iv i1, iv i2, iv i3, iv i4, iv i5, iv v1, iv sl, iv att, iv sc, iv sb, iv sa, iv qc, iv nc, iv vc, iv tc, rv ca, iv 12, .unset, .unset, .unset] []) (fun _ z_ => XS.iinc X73.here hx rfl (hb hby at_423) rfl (l' := #[iv i0, iv i1, iv i2, iv i3, iv i4, iv i5, iv v1, iv sl, iv att, iv sc, iv sb, iv sa, iv qc, iv nc, iv vc, iv tc, rv ca, iv 12, .unset, .unset, .unset]) rfl z_) ?_
        have e2 : g73 2 = nc := by simp only [hg73, hg72, hg67, hg66, hg65, hg64, hg63, hg36, hg35, hg25, hg24, hg23]; rfl
        have e3 : g73 3 = s34 := by simp only [hg73, hg72, hg67, hg66, hg65, hg64, hg63, hg36, hg35, hg25, hg24, hg23]; rfl
        have e4 : g73 4 = nc := by simp only [hg73, hg72, hg67, hg66, hg65, hg64, hg63, hg36, hg35, hg25, hg24, hg23]; rfl
        have e5 : g73 5 = s62 := by simp only [hg73, hg72, hg67, hg66, hg65, hg64, hg63, hg36, hg35, hg25, hg24, hg23]; rfl
        have e6 : g73 6 = (61 : Int32) := by simp only [hg73, hg72, hg67, hg66, hg65, hg64, hg63, hg36, hg35, hg25, hg24, hg23]; rfl
        have e7 : g73 7 = qc := by simp only [hg73, hg72, hg67, hg66, hg65, hg64, hg63, hg36, hg35, hg25, hg24, hg23]; rfl
        have e8 : g73 8 = vc := by simp only [hg73, hg72, hg67, hg66, hg65, hg64, hg63, hg36, hg35, hg25, hg24, hg23]; rfl
        have e9 : g73 9 = qc := by simp only [hg73, hg72, hg67, hg66, hg65, hg64, hg63, hg36, hg35, hg25, hg24, hg23]; rfl
        have e10 : g73 10 = s71 := by simp only [hg73, hg72, hg67, hg66, hg65, hg64, hg63, hg36, hg35, hg25, hg24, hg23]; rfl
        have e11 : g73 11 = (62 : Int32) := by simp only [hg73, hg72, hg67, hg66, hg65, hg64, hg63, hg36, hg35, hg25, hg24, hg23]; rfl
        exact J426 ca g73 (12 : Int32) 10 11 6 7 v1 sl qc nc vc tc att sc sb sa T73 _ _ s hZ hown X73 e73 N73 (Nat.le_trans (Nat.le_trans (Nat.le_trans (Nat.le_trans (Nat.le_trans (Nat.le_trans (Nat.le_trans (Nat.le_trans (Nat.le_trans (Nat.le_trans (Nat.le_trans (Nat.le_trans zs22 (Nat.le_of_eq W23.size.symm)) (Nat.le_of_eq W24.size.symm)) (Nat.le_of_eq W25.size.symm)) (Nat.le_of_eq W35.size.symm)) (Nat.le_of_eq W36.size.symm)) (Nat.le_of_eq W63.size.symm)) (Nat.le_of_eq W64.size.symm)) (Nat.le_of_eq W65.size.symm)) (Nat.le_of_eq W66.size.symm)) (Nat.le_of_eq W67.size.symm)) (Nat.le_of_eq W72.size.symm)) (Nat.le_of_eq W73.size.symm)) (Nat.le_trans (Nat.le_trans (Nat.le_trans (Nat.le_trans (Nat.le_trans (Nat.le_trans (Nat.le_trans (Nat.le_trans (Nat.le_trans (Nat.le_trans (Nat.le_trans (Nat.le_trans zz22 (Nat.le_of_eq W23.size.symm)) (Nat.le_of_eq W24.size.symm)) (Nat.le_of_eq W25.size.symm)) (Nat.le_of_eq W35.size.symm)) (Nat.le_of_eq W36.size.symm)) (Nat.le_of_eq W63.size.symm)) (Nat.le_of_eq W64.size.symm)) (Nat.le_of_eq W65.size.symm)) (Nat.le_of_eq W66.size.symm)) (Nat.le_of_eq W67.size.symm)) (Nat.le_of_eq W72.size.symm)) (Nat.le_of_eq W73.size.symm)) ((((((((((((K22.wr W23 (Or.inr sz_ca)).wr W24 (Or.inr sz_ca)).wr W25 (Or.inr sz_ca)).wr W35 (Or.inr sz_ca)).wr W36 (Or.inr sz_ca)).wr W63 (Or.inr sz_ca)).wr W64 (Or.inr sz_ca)).wr W65 (Or.inr sz_ca)).wr W66 (Or.inr sz_ca)).wr W67 (Or.inr sz_ca)).wr W72 (Or.inr sz_ca)).wr W73 (Or.inr sz_ca)) A73 hfg73 ga za (by rw [e2]; exact hnc) (Or.inr ⟨by decide, by rw [e3]; exact hsp34, by rw [e4]; exact hnc, Or.inr ⟨rfl, by rw [e5]; exact hsp62⟩, e6, Or.inl ⟨rfl, trivial⟩, by rw [e7]; exact hq, by rw [e8, e7]; exact hvc, by rw [e9, e7], rfl⟩) ⟨Or.inr ⟨rfl, by rw [e10]; exact hsp71⟩, by decide, Or.inr ⟨c403, e11, rfl⟩⟩
       · -- pc 403: not sl = (0 : Int32)
        refine own_g (own_F T72 m 406 #[iv i0, iv i1, iv i2, iv i3, iv i4, iv i5, iv v1, iv sl, iv att, iv sc, iv sb, iv sa, iv qc, iv nc, iv vc, iv tc, rv ca, iv 11, .unset, .unset, .unset] []) (fun _ z_ => XS.ifNo X72.here hx rfl (hb hby at_403) rfl ((if0 _ _).trans (feq c403).1) z_) ?_
        refine own_g (own_F T72 m 408 #[iv i0, iv i1, iv i2, iv i3, iv i4, iv i5, iv v1, iv sl, iv att, iv sc, iv sb, iv sa, iv qc, iv nc, iv vc, iv tc, rv ca, iv 11, .unset, .unset, .unset] [(.ref ca)]) (fun _ z_ => XS.aload X72.here hx rfl (hb hby at_406) rfl rfl z_) ?_
        refine own_g (own_F T72 m 410 #[iv i0, iv i1, iv i2, iv i3, iv i4, iv i5, iv v1, iv sl, iv att, iv sc, iv sb, iv sa, iv qc, iv nc, iv vc, iv tc, rv ca, iv 11, .unset, .unset, .unset] [(.int 11), (.ref ca)]) (fun _ z_ => XS.iload X72.here hx rfl (hb hby at_408) rfl z_) ?_
        refine own_g (own_F T72 m 412 #[iv i0, iv i1, iv i2, iv i3, iv i4, iv i5, iv v1, iv sl, iv att, iv sc, iv sb, iv sa, iv qc, iv nc, iv vc, iv tc, rv ca, iv 11, .unset, .unset, .unset] [(.int 47), (.int 11), (.ref ca)]) (fun _ z_ => XS.bipush X72.here hx rfl (hb hby at_410) z_) ?_
        refine own_cast X72 hx hZ e72 A72 11 rfl (by decide) (47 : Int32) rfl (hb hby at_412) ?_
        intro T74 h74 X74 e74 W74 A74
        have N74 := Fr.snoc X74 N72 ga
        obtain ⟨g74, hg74⟩ : ∃ gq_ : Nat → Int32, gq_ = fun q_ => if q_ = 11 then (47 : Int32) else g72 q_ := ⟨_, rfl⟩
        have A74 : own_A Z h74 ca .char 16 (fun q_ => .int (g74 q_)) := by rw [hg74]; exact A74
        show own_Ends p e below s _ _ _ (own_F T74 m 413 #[iv i0, iv i1, iv i2, iv i3, iv i4, iv i5, iv v1, iv sl, iv att, iv sc, iv sb, iv sa, iv qc, iv nc, iv vc, iv tc, rv ca, iv 11, .unset, .unset, .unset] [])
        have hfg74 := own_rng hfg72 (by decide) hg74
        refine own_g (own_F T74 m 416 #[iv i0, iv i1, iv i2, iv i3, iv i4, iv i5, iv v1, iv sl, iv att, iv sc, iv sb, iv sa, iv qc, iv nc, iv vc, iv tc, rv ca, iv 12, .unset, .unset, .unset] []) (fun _ z_ => XS.iinc X74.here hx rfl (hb hby at_413) rfl (l' := #[iv i0, iv i1, iv i2, iv i3, iv i4, iv i5, iv v1, iv sl, iv att, iv sc, iv sb, iv sa, iv qc, iv nc, iv vc, iv tc, rv ca, iv 12, .unset, .unset, .unset]) rfl z_) ?_
        refine own_g (own_F T74 m 418 #[iv i0, iv i1, iv i2, iv i3, iv i4, iv i5, iv v1, iv sl, iv att, iv sc, iv sb, iv sa, iv qc, iv nc, iv vc, iv tc, rv ca, iv 12, .unset, .unset, .unset] [(.ref ca)]) (fun _ z_ => XS.aload X74.here hx rfl (hb hby at_416) rfl rfl z_) ?_
        refine own_g (own_F T74 m 420 #[iv i0, iv i1, iv i2, iv i3, iv i4, iv i5, iv v1, iv sl, iv att, iv sc, iv sb, iv sa, iv qc, iv nc, iv vc, iv tc, rv ca, iv 12, .unset, .unset, .unset] [(.int 12), (.ref ca)]) (fun _ z_ => XS.iload X74.here hx rfl (hb hby at_418) rfl z_) ?_
        refine own_g (own_F T74 m 422 #[iv i0, iv i1, iv i2, iv i3, iv i4, iv i5, iv v1, iv sl, iv att, iv sc, iv sb, iv sa, iv qc, iv nc, iv vc, iv tc, rv ca, iv 12, .unset, .unset, .unset] [(.int 62), (.int 12), (.ref ca)]) (fun _ z_ => XS.bipush X74.here hx rfl (hb hby at_420) z_) ?_
        refine own_cast X74 hx hZ e74 A74 12 rfl (by decide) (62 : Int32) rfl (hb hby at_422) ?_
        intro T75 h75 X75 e75 W75 A75
        have N75 := Fr.snoc X75 N74 ga
        obtain ⟨g75, hg75⟩ : ∃ gq_ : Nat → Int32, gq_ = fun q_ => if q_ = 12 then (62 : Int32) else g74 q_ := ⟨_, rfl⟩
        have A75 : own_A Z h75 ca .char 16 (fun q_ => .int (g75 q_)) := by rw [hg75]; exact A75
        show own_Ends p e below s _ _ _ (own_F T75 m 423 #[iv i0, iv i1, iv i2, iv i3, iv i4, iv i5, iv v1, iv sl, iv att, iv sc, iv sb, iv sa, iv qc, iv nc, iv vc, iv tc, rv ca, iv 12, .unset, .unset, .unset] [])
        have hfg75 := own_rng hfg74 (by decide) hg75
        refine own_g (own_F T75 m 426 #[iv i0, iv i1, iv i2, iv i3, iv i4, iv i5, iv v1, iv sl, iv att, iv sc, iv sb, iv sa, iv qc, iv nc, iv vc, iv tc, rv ca, iv 13, .unset, .unset, .unset] []) (fun _ z_ => XS.iinc X75.here hx rfl (hb hby at_423) rfl (l' := #[iv i0, iv i1, iv i2, iv i3, iv i4, iv i5, iv v1, iv sl, iv att, iv sc, iv sb, iv sa, iv qc, iv nc, iv vc, iv tc, rv ca, iv 13, .unset, .unset, .unset]) rfl z_) ?_
        have e2 : g75 2 = nc := by simp only [hg75, hg74, hg72, hg67, hg66, hg65, hg64, hg63, hg36, hg35, hg25, hg24, hg23]; rfl
        have e3 : g75 3 = s34 := by simp only [hg75, hg74, hg72, hg67, hg66, hg65, hg64, hg63, hg36, hg35, hg25, hg24, hg23]; rfl
        have e4 : g75 4 = nc := by simp only [hg75, hg74, hg72, hg67, hg66, hg65, hg64, hg63, hg36, hg35, hg25, hg24, hg23]; rfl
        have e5 : g75 5 = s62 := by simp only [hg75, hg74, hg72, hg67, hg66, hg65, hg64, hg63, hg36, hg35, hg25, hg24, hg23]; rfl
        have e6 : g75 6 = (61 : Int32) := by simp only [hg75, hg74, hg72, hg67, hg66, hg65, hg64, hg63, hg36, hg35, hg25, hg24, hg23]; rfl
        have e7 : g75 7 = qc := by simp only [hg75, hg74, hg72, hg67, hg66, hg65, hg64, hg63, hg36, hg35, hg25, hg24, hg23]; rfl
        have e8 : g75 8 = vc := by simp only [hg75, hg74, hg72, hg67, hg66, hg65, hg64, hg63, hg36, hg35, hg25, hg24, hg23]; rfl
        have e9 : g75 9 = qc := by simp only [hg75, hg74, hg72, hg67, hg66, hg65, hg64, hg63, hg36, hg35, hg25, hg24, hg23]; rfl
        have e10 : g75 10 = s71 := by simp only [hg75, hg74, hg72, hg67, hg66, hg65, hg64, hg63, hg36, hg35, hg25, hg24, hg23]; rfl
        have e11 : g75 11 = (47 : Int32) := by simp only [hg75, hg74, hg72, hg67, hg66, hg65, hg64, hg63, hg36, hg35, hg25, hg24, hg23]; rfl
        have e12 : g75 12 = (62 : Int32) := by simp only [hg75, hg74, hg72, hg67, hg66, hg65, hg64, hg63, hg36, hg35, hg25, hg24, hg23]; rfl
        exact J426 ca g75 (13 : Int32) 10 11 6 7 v1 sl qc nc vc tc att sc sb sa T75 _ _ s hZ hown X75 e75 N75 (Nat.le_trans (Nat.le_trans (Nat.le_trans (Nat.le_trans (Nat.le_trans (Nat.le_trans (Nat.le_trans (Nat.le_trans (Nat.le_trans (Nat.le_trans (Nat.le_trans (Nat.le_trans (Nat.le_trans zs22 (Nat.le_of_eq W23.size.symm)) (Nat.le_of_eq W24.size.symm)) (Nat.le_of_eq W25.size.symm)) (Nat.le_of_eq W35.size.symm)) (Nat.le_of_eq W36.size.symm)) (Nat.le_of_eq W63.size.symm)) (Nat.le_of_eq W64.size.symm)) (Nat.le_of_eq W65.size.symm)) (Nat.le_of_eq W66.size.symm)) (Nat.le_of_eq W67.size.symm)) (Nat.le_of_eq W72.size.symm)) (Nat.le_of_eq W74.size.symm)) (Nat.le_of_eq W75.size.symm)) (Nat.le_trans (Nat.le_trans (Nat.le_trans (Nat.le_trans (Nat.le_trans (Nat.le_trans (Nat.le_trans (Nat.le_trans (Nat.le_trans (Nat.le_trans (Nat.le_trans (Nat.le_trans (Nat.le_trans zz22 (Nat.le_of_eq W23.size.symm)) (Nat.le_of_eq W24.size.symm)) (Nat.le_of_eq W25.size.symm)) (Nat.le_of_eq W35.size.symm)) (Nat.le_of_eq W36.size.symm)) (Nat.le_of_eq W63.size.symm)) (Nat.le_of_eq W64.size.symm)) (Nat.le_of_eq W65.size.symm)) (Nat.le_of_eq W66.size.symm)) (Nat.le_of_eq W67.size.symm)) (Nat.le_of_eq W72.size.symm)) (Nat.le_of_eq W74.size.symm)) (Nat.le_of_eq W75.size.symm)) (((((((((((((K22.wr W23 (Or.inr sz_ca)).wr W24 (Or.inr sz_ca)).wr W25 (Or.inr sz_ca)).wr W35 (Or.inr sz_ca)).wr W36 (Or.inr sz_ca)).wr W63 (Or.inr sz_ca)).wr W64 (Or.inr sz_ca)).wr W65 (Or.inr sz_ca)).wr W66 (Or.inr sz_ca)).wr W67 (Or.inr sz_ca)).wr W72 (Or.inr sz_ca)).wr W74 (Or.inr sz_ca)).wr W75 (Or.inr sz_ca)) A75 hfg75 ga za (by rw [e2]; exact hnc) (Or.inr ⟨by decide, by rw [e3]; exact hsp34, by rw [e4]; exact hnc, Or.inr ⟨rfl, by rw [e5]; exact hsp62⟩, e6, Or.inl ⟨rfl, trivial⟩, by rw [e7]; exact hq, by rw [e8, e7]; exact hvc, by rw [e9, e7], rfl⟩) ⟨Or.inr ⟨rfl, by rw [e10]; exact hsp71⟩, by decide, Or.inl ⟨(h_sl.resolve_left c403), e11, rfl⟩⟩
     · -- pc 329: not sa = (0 : Int32)
      refine own_g (own_F T64 m 332 #[iv i0, iv i1, iv i2, iv i3, iv i4, iv i5, iv v1, iv sl, iv att, iv sc, iv sb, iv sa, iv qc, iv nc, iv vc, iv tc, rv ca, iv 7, .unset, .unset, .unset] []) (fun _ z_ => XS.ifNo X64.here hx rfl (hb hby at_329) rfl ((if0 _ _).trans (feq c329).1) z_) ?_
      refine own_g (own_F T64 m 334 #[iv i0, iv i1, iv i2, iv i3, iv i4, iv i5, iv v1, iv sl, iv att, iv sc, iv sb, iv sa, iv qc, iv nc, iv vc, iv tc, rv ca, iv 7, .unset, .unset, .unset] [(.ref ca)]) (fun _ z_ => XS.aload X64.here hx rfl (hb hby at_332) rfl rfl z_) ?_
      refine own_g (own_F T64 m 336 #[iv i0, iv i1, iv i2, iv i3, iv i4, iv i5, iv v1, iv sl, iv att, iv sc, iv sb, iv sa, iv qc, iv nc, iv vc, iv tc, rv ca, iv 7, .unset, .unset, .unset] [(.int 7), (.ref ca)]) (fun _ z_ => XS.iload X64.here hx rfl (hb hby at_334) rfl z_) ?_
      refine own_g (own_F T64 m 337 #[iv i0, iv i1, iv i2, iv i3, iv i4, iv i5, iv v1, iv sl, iv att, iv sc, iv sb, iv sa, iv qc, iv nc, iv vc, iv tc, rv ca, iv 7, .unset, .unset, .unset] [(.int i3), (.int 7), (.ref ca)]) (fun _ z_ => XS.iloadN X64.here hx rfl (hb hby at_336) rfl z_) ?_
      refine own_g (own_F T64 m 339 #[iv i0, iv i1, iv i2, iv i3, iv i4, iv i5, iv v1, iv sl, iv att, iv sc, iv sb, iv sa, iv qc, iv nc, iv vc, iv tc, rv ca, iv 7, .unset, .unset, .unset] [(.int 6), (.int i3), (.int 7), (.ref ca)]) (fun _ z_ => XS.bipush X64.here hx rfl (hb hby at_337) z_) ?_
      refine own_g (own_F T64 m 340 #[iv i0, iv i1, iv i2, iv i3, iv i4, iv i5, iv v1, iv sl, iv att, iv sc, iv sb, iv sa, iv qc, iv nc, iv vc, iv tc, rv ca, iv 7, .unset, .unset, .unset] [(.int ((i3.toUInt32 >>> ((6 : Int32) &&& 31).toUInt32).toInt32)), (.int 7), (.ref ca)]) (fun _ z_ => XS.iushr X64.here hx rfl (hb hby at_339) rfl z_) ?_
      refine own_g (own_F T64 m 342 #[iv i0, iv i1, iv i2, iv i3, iv i4, iv i5, iv v1, iv sl, iv att, iv sc, iv sb, iv sa, iv qc, iv nc, iv vc, iv tc, rv ca, iv 7, .unset, .unset, .unset] [(.int v1), (.int ((i3.toUInt32 >>> ((6 : Int32) &&& 31).toUInt32).toInt32)), (.int 7), (.ref ca)]) (fun _ z_ => XS.iload X64.here hx rfl (hb hby at_340) rfl z_) ?_
      refine own_callS (y := (⟨"com/example/cadmus/cadmus/StartTagEmptyPinLaw", "space", "(IZ)C"⟩ : MethodName)) X64 hx hZ hown (own_w hw 125) (own_w hw 126) (own_w hw 2) (own_w hw 127) (by decide) e64 (hM := own_space l Z a0 hw [] ((i3.toUInt32 >>> ((6 : Int32) &&& 31).toUInt32).toInt32) v1 h64 n0 (Nat.le_trans (Nat.le_trans (Nat.le_trans (Nat.le_trans (Nat.le_trans (Nat.le_trans (Nat.le_trans zs22 (Nat.le_of_eq W23.size.symm)) (Nat.le_of_eq W24.size.symm)) (Nat.le_of_eq W25.size.symm)) (Nat.le_of_eq W35.size.symm)) (Nat.le_of_eq W36.size.symm)) (Nat.le_of_eq W63.size.symm)) (Nat.le_of_eq W64.size.symm))) (W := 2) (pc := 342) (Ls := #[iv i0, iv i1, iv i2, iv i3, iv i4, iv i5, iv v1, iv sl, iv att, iv sc, iv sb, iv sa, iv qc, iv nc, iv vc, iv tc, rv ca, iv 7, .unset, .unset, .unset]) (argsL := [(.int ((i3.toUInt32 >>> ((6 : Int32) &&& 31).toUInt32).toInt32)), (.int v1)]) (rest := [(.int 7), (.ref ca)]) (st0 := [(.int v1), (.int ((i3.toUInt32 >>> ((6 : Int32) &&& 31).toUInt32).toInt32)), (.int 7), (.ref ca)]) (by rw [hml]; rfl) (lenOf own_pd28 rfl) rfl (Nat.le_of_eq rfl) (hb hby at_342) (by decide) (by decide) (by decide) (by decide) ?_
      intro v76 T76 L76 s X76 hZ hown hI76 hvm76 hhp76 hWw76 hQ76
      obtain ⟨s76, rfl, hsp76, rsp76, Nq76, hh76⟩ := hQ76
      have N76 := Fr.app N64 Nq76
      show own_Ends p e below s _ _ _ (own_F T76 m 345 #[iv i0, iv i1, iv i2, iv i3, iv i4, iv i5, iv v1, iv sl, iv att, iv sc, iv sb, iv sa, iv qc, iv nc, iv vc, iv tc, rv ca, iv 7, .unset, .unset, .unset] [(.int s76), (.int 7), (.ref ca)])
      refine own_cast X76 hx hZ hh76 A64 7 rfl (by decide) s76 (own_narC rsp76) (hb hby at_345) ?_
      intro T77 h77 X77 e77 W77 A77
      have N77 := Fr.snoc X77 N76 ga
      obtain ⟨g77, hg77⟩ : ∃ gq_ : Nat → Int32, gq_ = fun q_ => if q_ = 7 then s76 else g64 q_ := ⟨_, rfl⟩
      have A77 : own_A Z h77 ca .char 16 (fun q_ => .int (g77 q_)) := by rw [hg77]; exact A77
      show own_Ends p e below s _ _ _ (own_F T77 m 346 #[iv i0, iv i1, iv i2, iv i3, iv i4, iv i5, iv v1, iv sl, iv att, iv sc, iv sb, iv sa, iv qc, iv nc, iv vc, iv tc, rv ca, iv 7, .unset, .unset, .unset] [])
      have hfg77 := own_rng hfg64 rsp76 hg77
      refine own_g (own_F T77 m 349 #[iv i0, iv i1, iv i2, iv i3, iv i4, iv i5, iv v1, iv sl, iv att, iv sc, iv sb, iv sa, iv qc, iv nc, iv vc, iv tc, rv ca, iv 8, .unset, .unset, .unset] []) (fun _ z_ => XS.iinc X77.here hx rfl (hb hby at_346) rfl (l' := #[iv i0, iv i1, iv i2, iv i3, iv i4, iv i5, iv v1, iv sl, iv att, iv sc, iv sb, iv sa, iv qc, iv nc, iv vc, iv tc, rv ca, iv 8, .unset, .unset, .unset]) rfl z_) ?_
      refine own_g (own_F T77 m 351 #[iv i0, iv i1, iv i2, iv i3, iv i4, iv i5, iv v1, iv sl, iv att, iv sc, iv sb, iv sa, iv qc, iv nc, iv vc, iv tc, rv ca, iv 8, .unset, .unset, .unset] [(.ref ca)]) (fun _ z_ => XS.aload X77.here hx rfl (hb hby at_349) rfl rfl z_) ?_
      refine own_g (own_F T77 m 353 #[iv i0, iv i1, iv i2, iv i3, iv i4, iv i5, iv v1, iv sl, iv att, iv sc, iv sb, iv sa, iv qc, iv nc, iv vc, iv tc, rv ca, iv 8, .unset, .unset, .unset] [(.int 8), (.ref ca)]) (fun _ z_ => XS.iload X77.here hx rfl (hb hby at_351) rfl z_) ?_
      refine own_g (own_F T77 m 355 #[iv i0, iv i1, iv i2, iv i3, iv i4, iv i5, iv v1, iv sl, iv att, iv sc, iv sb, iv sa, iv qc, iv nc, iv vc, iv tc, rv ca, iv 8, .unset, .unset, .unset] [(.int qc), (.int 8), (.ref ca)]) (fun _ z_ => XS.iload X77.here hx rfl (hb hby at_353) rfl z_) ?_
      refine own_cast X77 hx hZ e77 A77 8 rfl (by decide) qc (own_narC rqc) (hb hby at_355) ?_
      intro T78 h78 X78 e78 W78 A78
      have N78 := Fr.snoc X78 N77 ga
      obtain ⟨g78, hg78⟩ : ∃ gq_ : Nat → Int32, gq_ = fun q_ => if q_ = 8 then qc else g77 q_ := ⟨_, rfl⟩
      have A78 : own_A Z h78 ca .char 16 (fun q_ => .int (g78 q_)) := by rw [hg78]; exact A78
      show own_Ends p e below s _ _ _ (own_F T78 m 356 #[iv i0, iv i1, iv i2, iv i3, iv i4, iv i5, iv v1, iv sl, iv att, iv sc, iv sb, iv sa, iv qc, iv nc, iv vc, iv tc, rv ca, iv 8, .unset, .unset, .unset] [])
      have hfg78 := own_rng hfg77 rqc hg78
      refine own_g (own_F T78 m 359 #[iv i0, iv i1, iv i2, iv i3, iv i4, iv i5, iv v1, iv sl, iv att, iv sc, iv sb, iv sa, iv qc, iv nc, iv vc, iv tc, rv ca, iv 9, .unset, .unset, .unset] []) (fun _ z_ => XS.iinc X78.here hx rfl (hb hby at_356) rfl (l' := #[iv i0, iv i1, iv i2, iv i3, iv i4, iv i5, iv v1, iv sl, iv att, iv sc, iv sb, iv sa, iv qc, iv nc, iv vc, iv tc, rv ca, iv 9, .unset, .unset, .unset]) rfl z_) ?_
      refine own_g (own_F T78 m 361 #[iv i0, iv i1, iv i2, iv i3, iv i4, iv i5, iv v1, iv sl, iv att, iv sc, iv sb, iv sa, iv qc, iv nc, iv vc, iv tc, rv ca, iv 9, .unset, .unset, .unset] [(.ref ca)]) (fun _ z_ => XS.aload X78.here hx rfl (hb hby at_359) rfl rfl z_) ?_
      refine own_g (own_F T78 m 363 #[iv i0, iv i1, iv i2, iv i3, iv i4, iv i5, iv v1, iv sl, iv att, iv sc, iv sb, iv sa, iv qc, iv nc, iv vc, iv tc, rv ca, iv 9, .unset, .unset, .unset] [(.int 9), (.ref ca)]) (fun _ z_ => XS.iload X78.here hx rfl (hb hby at_361) rfl z_) ?_
      refine own_g (own_F T78 m 365 #[iv i0, iv i1, iv i2, iv i3, iv i4, iv i5, iv v1, iv sl, iv att, iv sc, iv sb, iv sa, iv qc, iv nc, iv vc, iv tc, rv ca, iv 9, .unset, .unset, .unset] [(.int vc), (.int 9), (.ref ca)]) (fun _ z_ => XS.iload X78.here hx rfl (hb hby at_363) rfl z_) ?_
      refine own_cast X78 hx hZ e78 A78 9 rfl (by decide) vc (own_narC rvc) (hb hby at_365) ?_
      intro T79 h79 X79 e79 W79 A79
      have N79 := Fr.snoc X79 N78 ga
      obtain ⟨g79, hg79⟩ : ∃ gq_ : Nat → Int32, gq_ = fun q_ => if q_ = 9 then vc else g78 q_ := ⟨_, rfl⟩
      have A79 : own_A Z h79 ca .char 16 (fun q_ => .int (g79 q_)) := by rw [hg79]; exact A79
      show own_Ends p e below s _ _ _ (own_F T79 m 366 #[iv i0, iv i1, iv i2, iv i3, iv i4, iv i5, iv v1, iv sl, iv att, iv sc, iv sb, iv sa, iv qc, iv nc, iv vc, iv tc, rv ca, iv 9, .unset, .unset, .unset] [])
      have hfg79 := own_rng hfg78 rvc hg79
      refine own_g (own_F T79 m 369 #[iv i0, iv i1, iv i2, iv i3, iv i4, iv i5, iv v1, iv sl, iv att, iv sc, iv sb, iv sa, iv qc, iv nc, iv vc, iv tc, rv ca, iv 10, .unset, .unset, .unset] []) (fun _ z_ => XS.iinc X79.here hx rfl (hb hby at_366) rfl (l' := #[iv i0, iv i1, iv i2, iv i3, iv i4, iv i5, iv v1, iv sl, iv att, iv sc, iv sb, iv sa, iv qc, iv nc, iv vc, iv tc, rv ca, iv 10, .unset, .unset, .unset]) rfl z_) ?_
      refine own_g (own_F T79 m 371 #[iv i0, iv i1, iv i2, iv i3, iv i4, iv i5, iv v1, iv sl, iv att, iv sc, iv sb, iv sa, iv qc, iv nc, iv vc, iv tc, rv ca, iv 10, .unset, .unset, .unset] [(.ref ca)]) (fun _ z_ => XS.aload X79.here hx rfl (hb hby at_369) rfl rfl z_) ?_
      refine own_g (own_F T79 m 373 #[iv i0, iv i1, iv i2, iv i3, iv i4, iv i5, iv v1, iv sl, iv att, iv sc, iv sb, iv sa, iv qc, iv nc, iv vc, iv tc, rv ca, iv 10, .unset, .unset, .unset] [(.int 10), (.ref ca)]) (fun _ z_ => XS.iload X79.here hx rfl (hb hby at_371) rfl z_) ?_
      refine own_g (own_F T79 m 375 #[iv i0, iv i1, iv i2, iv i3, iv i4, iv i5, iv v1, iv sl, iv att, iv sc, iv sb, iv sa, iv qc, iv nc, iv vc, iv tc, rv ca, iv 10, .unset, .unset, .unset] [(.int qc), (.int 10), (.ref ca)]) (fun _ z_ => XS.iload X79.here hx rfl (hb hby at_373) rfl z_) ?_
      refine own_cast X79 hx hZ e79 A79 10 rfl (by decide) qc (own_narC rqc) (hb hby at_375) ?_
      intro T80 h80 X80 e80 W80 A80
      have N80 := Fr.snoc X80 N79 ga
      obtain ⟨g80, hg80⟩ : ∃ gq_ : Nat → Int32, gq_ = fun q_ => if q_ = 10 then qc else g79 q_ := ⟨_, rfl⟩
      have A80 : own_A Z h80 ca .char 16 (fun q_ => .int (g80 q_)) := by rw [hg80]; exact A80
      show own_Ends p e below s _ _ _ (own_F T80 m 376 #[iv i0, iv i1, iv i2, iv i3, iv i4, iv i5, iv v1, iv sl, iv att, iv sc, iv sb, iv sa, iv qc, iv nc, iv vc, iv tc, rv ca, iv 10, .unset, .unset, .unset] [])
      have hfg80 := own_rng hfg79 rqc hg80
      refine own_g (own_F T80 m 379 #[iv i0, iv i1, iv i2, iv i3, iv i4, iv i5, iv v1, iv sl, iv att, iv sc, iv sb, iv sa, iv qc, iv nc, iv vc, iv tc, rv ca, iv 11, .unset, .unset, .unset] []) (fun _ z_ => XS.iinc X80.here hx rfl (hb hby at_376) rfl (l' := #[iv i0, iv i1, iv i2, iv i3, iv i4, iv i5, iv v1, iv sl, iv att, iv sc, iv sb, iv sa, iv qc, iv nc, iv vc, iv tc, rv ca, iv 11, .unset, .unset, .unset]) rfl z_) ?_
      refine own_g (own_F T80 m 381 #[iv i0, iv i1, iv i2, iv i3, iv i4, iv i5, iv v1, iv sl, iv att, iv sc, iv sb, iv sa, iv qc, iv nc, iv vc, iv tc, rv ca, iv 11, .unset, .unset, .unset] [(.int sc)]) (fun _ z_ => XS.iload X80.here hx rfl (hb hby at_379) rfl z_) ?_
      by_cases c381 : sc = (0 : Int32)
      · -- pc 381: sc = (0 : Int32)
       refine own_g (own_F T80 m 401 #[iv i0, iv i1, iv i2, iv i3, iv i4, iv i5, iv v1, iv sl, iv att, iv sc, iv sb, iv sa, iv qc, iv nc, iv vc, iv tc, rv ca, iv 11, .unset, .unset, .unset] []) (fun _ z_ => XS.ifYes X80.here hx rfl (pc0 := 381) (pc' := 401) rfl (hb hby at_381) rfl ((if0 _ _).trans (teq c381).1) (by decide) (by decide) z_) ?_
       refine own_g (own_F T80 m 403 #[iv i0, iv i1, iv i2, iv i3, iv i4, iv i5, iv v1, iv sl, iv att, iv sc, iv sb, iv sa, iv qc, iv nc, iv vc, iv tc, rv ca, iv 11, .unset, .unset, .unset] [(.int sl)]) (fun _ z_ => XS.iload X80.here hx rfl (hb hby at_401) rfl z_) ?_
       by_cases c403 : sl = (0 : Int32)
       · -- pc 403: sl = (0 : Int32)
        refine own_g (own_F T80 m 416 #[iv i0, iv i1, iv i2, iv i3, iv i4, iv i5, iv v1, iv sl, iv att, iv sc, iv sb, iv sa, iv qc, iv nc, iv vc, iv tc, rv ca, iv 11, .unset, .unset, .unset] []) (fun _ z_ => XS.ifYes X80.here hx rfl (pc0 := 403) (pc' := 416) rfl (hb hby at_403) rfl ((if0 _ _).trans (teq c403).1) (by decide) (by decide) z_) ?_
        refine own_g (own_F T80 m 418 #[iv i0, iv i1, iv i2, iv i3, iv i4, iv i5, iv v1, iv sl, iv att, iv sc, iv sb, iv sa, iv qc, iv nc, iv vc, iv tc, rv ca, iv 11, .unset, .unset, .unset] [(.ref ca)]) (fun _ z_ => XS.aload X80.here hx rfl (hb hby at_416) rfl rfl z_) ?_
        refine own_g (own_F T80 m 420 #[iv i0, iv i1, iv i2, iv i3, iv i4, iv i5, iv v1, iv sl, iv att, iv sc, iv sb, iv sa, iv qc, iv nc, iv vc, iv tc, rv ca, iv 11, .unset, .unset, .unset] [(.int 11), (.ref ca)]) (fun _ z_ => XS.iload X80.here hx rfl (hb hby at_418) rfl z_) ?_
        refine own_g (own_F T80 m 422 #[iv i0, iv i1, iv i2, iv i3, iv i4, iv i5, iv v1, iv sl, iv att, iv sc, iv sb, iv sa, iv qc, iv nc, iv vc, iv tc, rv ca, iv 11, .unset, .unset, .unset] [(.int 62), (.int 11), (.ref ca)]) (fun _ z_ => XS.bipush X80.here hx rfl (hb hby at_420) z_) ?_
        refine own_cast X80 hx hZ e80 A80 11 rfl (by decide) (62 : Int32) rfl (hb hby at_422) ?_
        intro T81 h81 X81 e81 W81 A81
        have N81 := Fr.snoc X81 N80 ga
        obtain ⟨g81, hg81⟩ : ∃ gq_ : Nat → Int32, gq_ = fun q_ => if q_ = 11 then (62 : Int32) else g80 q_ := ⟨_, rfl⟩
        have A81 : own_A Z h81 ca .char 16 (fun q_ => .int (g81 q_)) := by rw [hg81]; exact A81
        show own_Ends p e below s _ _ _ (own_F T81 m 423 #[iv i0, iv i1, iv i2, iv i3, iv i4, iv i5, iv v1, iv sl, iv att, iv sc, iv sb, iv sa, iv qc, iv nc, iv vc, iv tc, rv ca, iv 11, .unset, .unset, .unset] [])
        have hfg81 := own_rng hfg80 (by decide) hg81
        refine own_g (own_F T81 m 426 #[iv i0, iv i1, iv i2, iv i3, iv i4, iv i5, iv v1, iv sl, iv att, iv sc, iv sb, iv sa, iv qc, iv nc, iv vc, iv tc, rv ca, iv 12, .unset, .unset, .unset] []) (fun _ z_ => XS.iinc X81.here hx rfl (hb hby at_423) rfl (l' := #[iv i0, iv i1, iv i2, iv i3, iv i4, iv i5, iv v1, iv sl, iv att, iv sc, iv sb, iv sa, iv qc, iv nc, iv vc, iv tc, rv ca, iv 12, .unset, .unset, .unset]) rfl z_) ?_
        have e2 : g81 2 = nc := by simp only [hg81, hg80, hg79, hg78, hg77, hg64, hg63, hg36, hg35, hg25, hg24, hg23]; rfl
        have e3 : g81 3 = s34 := by simp only [hg81, hg80, hg79, hg78, hg77, hg64, hg63, hg36, hg35, hg25, hg24, hg23]; rfl
        have e4 : g81 4 = nc := by simp only [hg81, hg80, hg79, hg78, hg77, hg64, hg63, hg36, hg35, hg25, hg24, hg23]; rfl
        have e5 : g81 5 = s62 := by simp only [hg81, hg80, hg79, hg78, hg77, hg64, hg63, hg36, hg35, hg25, hg24, hg23]; rfl
        have e6 : g81 6 = (61 : Int32) := by simp only [hg81, hg80, hg79, hg78, hg77, hg64, hg63, hg36, hg35, hg25, hg24, hg23]; rfl
        have e7 : g81 7 = s76 := by simp only [hg81, hg80, hg79, hg78, hg77, hg64, hg63, hg36, hg35, hg25, hg24, hg23]; rfl
        have e8 : g81 8 = qc := by simp only [hg81, hg80, hg79, hg78, hg77, hg64, hg63, hg36, hg35, hg25, hg24, hg23]; rfl
        have e9 : g81 9 = vc := by simp only [hg81, hg80, hg79, hg78, hg77, hg64, hg63, hg36, hg35, hg25, hg24, hg23]; rfl
        have e10 : g81 10 = qc := by simp only [hg81, hg80, hg79, hg78, hg77, hg64, hg63, hg36, hg35, hg25, hg24, hg23]; rfl
        have e11 : g81 11 = (62 : Int32) := by simp only [hg81, hg80, hg79, hg78, hg77, hg64, hg63, hg36, hg35, hg25, hg24, hg23]; rfl
        exact J426 ca g81 (12 : Int32) 11 11 6 8 v1 sl qc nc vc tc att sc sb sa T81 _ _ s hZ hown X81 e81 N81 (Nat.le_trans (Nat.le_trans (Nat.le_trans (Nat.le_trans (Nat.le_trans (Nat.le_trans (Nat.le_trans (Nat.le_trans (Nat.le_trans (Nat.le_trans (Nat.le_trans (Nat.le_trans zs22 (Nat.le_of_eq W23.size.symm)) (Nat.le_of_eq W24.size.symm)) (Nat.le_of_eq W25.size.symm)) (Nat.le_of_eq W35.size.symm)) (Nat.le_of_eq W36.size.symm)) (Nat.le_of_eq W63.size.symm)) (Nat.le_of_eq W64.size.symm)) (Nat.le_of_eq W77.size.symm)) (Nat.le_of_eq W78.size.symm)) (Nat.le_of_eq W79.size.symm)) (Nat.le_of_eq W80.size.symm)) (Nat.le_of_eq W81.size.symm)) (Nat.le_trans (Nat.le_trans (Nat.le_trans (Nat.le_trans (Nat.le_trans (Nat.le_trans (Nat.le_trans (Nat.le_trans (Nat.le_trans (Nat.le_trans (Nat.le_trans (Nat.le_trans zz22 (Nat.le_of_eq W23.size.symm)) (Nat.le_of_eq W24.size.symm)) (Nat.le_of_eq W25.size.symm)) (Nat.le_of_eq W35.size.symm)) (Nat.le_of_eq W36.size.symm)) (Nat.le_of_eq W63.size.symm)) (Nat.le_of_eq W64.size.symm)) (Nat.le_of_eq W77.size.symm)) (Nat.le_of_eq W78.size.symm)) (Nat.le_of_eq W79.size.symm)) (Nat.le_of_eq W80.size.symm)) (Nat.le_of_eq W81.size.symm)) ((((((((((((K22.wr W23 (Or.inr sz_ca)).wr W24 (Or.inr sz_ca)).wr W25 (Or.inr sz_ca)).wr W35 (Or.inr sz_ca)).wr W36 (Or.inr sz_ca)).wr W63 (Or.inr sz_ca)).wr W64 (Or.inr sz_ca)).wr W77 (Or.inr sz_ca)).wr W78 (Or.inr sz_ca)).wr W79 (Or.inr sz_ca)).wr W80 (Or.inr sz_ca)).wr W81 (Or.inr sz_ca)) A81 hfg81 ga za (by rw [e2]; exact hnc) (Or.inr ⟨by decide, by rw [e3]; exact hsp34, by rw [e4]; exact hnc, Or.inr ⟨rfl, by rw [e5]; exact hsp62⟩, e6, Or.inr ⟨rfl, by rw [e7]; exact hsp76⟩, by rw [e8]; exact hq, by rw [e9, e8]; exact hvc, by rw [e10, e8], rfl⟩) ⟨Or.inl ⟨rfl, trivial⟩, by decide, Or.inr ⟨c403, e11, rfl⟩⟩
       · -- pc 403: not sl = (0 : Int32)
        refine own_g (own_F T80 m 406 #[iv i0, iv i1, iv i2, iv i3, iv i4, iv i5, iv v1, iv sl, iv att, iv sc, iv sb, iv sa, iv qc, iv nc, iv vc, iv tc, rv ca, iv 11, .unset, .unset, .unset] []) (fun _ z_ => XS.ifNo X80.here hx rfl (hb hby at_403) rfl ((if0 _ _).trans (feq c403).1) z_) ?_
        refine own_g (own_F T80 m 408 #[iv i0, iv i1, iv i2, iv i3, iv i4, iv i5, iv v1, iv sl, iv att, iv sc, iv sb, iv sa, iv qc, iv nc, iv vc, iv tc, rv ca, iv 11, .unset, .unset, .unset] [(.ref ca)]) (fun _ z_ => XS.aload X80.here hx rfl (hb hby at_406) rfl rfl z_) ?_
        refine own_g (own_F T80 m 410 #[iv i0, iv i1, iv i2, iv i3, iv i4, iv i5, iv v1, iv sl, iv att, iv sc, iv sb, iv sa, iv qc, iv nc, iv vc, iv tc, rv ca, iv 11, .unset, .unset, .unset] [(.int 11), (.ref ca)]) (fun _ z_ => XS.iload X80.here hx rfl (hb hby at_408) rfl z_) ?_
        refine own_g (own_F T80 m 412 #[iv i0, iv i1, iv i2, iv i3, iv i4, iv i5, iv v1, iv sl, iv att, iv sc, iv sb, iv sa, iv qc, iv nc, iv vc, iv tc, rv ca, iv 11, .unset, .unset, .unset] [(.int 47), (.int 11), (.ref ca)]) (fun _ z_ => XS.bipush X80.here hx rfl (hb hby at_410) z_) ?_
        refine own_cast X80 hx hZ e80 A80 11 rfl (by decide) (47 : Int32) rfl (hb hby at_412) ?_
        intro T82 h82 X82 e82 W82 A82
        have N82 := Fr.snoc X82 N80 ga
        obtain ⟨g82, hg82⟩ : ∃ gq_ : Nat → Int32, gq_ = fun q_ => if q_ = 11 then (47 : Int32) else g80 q_ := ⟨_, rfl⟩
        have A82 : own_A Z h82 ca .char 16 (fun q_ => .int (g82 q_)) := by rw [hg82]; exact A82
        show own_Ends p e below s _ _ _ (own_F T82 m 413 #[iv i0, iv i1, iv i2, iv i3, iv i4, iv i5, iv v1, iv sl, iv att, iv sc, iv sb, iv sa, iv qc, iv nc, iv vc, iv tc, rv ca, iv 11, .unset, .unset, .unset] [])
        have hfg82 := own_rng hfg80 (by decide) hg82
        refine own_g (own_F T82 m 416 #[iv i0, iv i1, iv i2, iv i3, iv i4, iv i5, iv v1, iv sl, iv att, iv sc, iv sb, iv sa, iv qc, iv nc, iv vc, iv tc, rv ca, iv 12, .unset, .unset, .unset] []) (fun _ z_ => XS.iinc X82.here hx rfl (hb hby at_413) rfl (l' := #[iv i0, iv i1, iv i2, iv i3, iv i4, iv i5, iv v1, iv sl, iv att, iv sc, iv sb, iv sa, iv qc, iv nc, iv vc, iv tc, rv ca, iv 12, .unset, .unset, .unset]) rfl z_) ?_
        refine own_g (own_F T82 m 418 #[iv i0, iv i1, iv i2, iv i3, iv i4, iv i5, iv v1, iv sl, iv att, iv sc, iv sb, iv sa, iv qc, iv nc, iv vc, iv tc, rv ca, iv 12, .unset, .unset, .unset] [(.ref ca)]) (fun _ z_ => XS.aload X82.here hx rfl (hb hby at_416) rfl rfl z_) ?_
        refine own_g (own_F T82 m 420 #[iv i0, iv i1, iv i2, iv i3, iv i4, iv i5, iv v1, iv sl, iv att, iv sc, iv sb, iv sa, iv qc, iv nc, iv vc, iv tc, rv ca, iv 12, .unset, .unset, .unset] [(.int 12), (.ref ca)]) (fun _ z_ => XS.iload X82.here hx rfl (hb hby at_418) rfl z_) ?_
        refine own_g (own_F T82 m 422 #[iv i0, iv i1, iv i2, iv i3, iv i4, iv i5, iv v1, iv sl, iv att, iv sc, iv sb, iv sa, iv qc, iv nc, iv vc, iv tc, rv ca, iv 12, .unset, .unset, .unset] [(.int 62), (.int 12), (.ref ca)]) (fun _ z_ => XS.bipush X82.here hx rfl (hb hby at_420) z_) ?_
        refine own_cast X82 hx hZ e82 A82 12 rfl (by decide) (62 : Int32) rfl (hb hby at_422) ?_
        intro T83 h83 X83 e83 W83 A83
        have N83 := Fr.snoc X83 N82 ga
        obtain ⟨g83, hg83⟩ : ∃ gq_ : Nat → Int32, gq_ = fun q_ => if q_ = 12 then (62 : Int32) else g82 q_ := ⟨_, rfl⟩
        have A83 : own_A Z h83 ca .char 16 (fun q_ => .int (g83 q_)) := by rw [hg83]; exact A83
        show own_Ends p e below s _ _ _ (own_F T83 m 423 #[iv i0, iv i1, iv i2, iv i3, iv i4, iv i5, iv v1, iv sl, iv att, iv sc, iv sb, iv sa, iv qc, iv nc, iv vc, iv tc, rv ca, iv 12, .unset, .unset, .unset] [])
        have hfg83 := own_rng hfg82 (by decide) hg83
        refine own_g (own_F T83 m 426 #[iv i0, iv i1, iv i2, iv i3, iv i4, iv i5, iv v1, iv sl, iv att, iv sc, iv sb, iv sa, iv qc, iv nc, iv vc, iv tc, rv ca, iv 13, .unset, .unset, .unset] []) (fun _ z_ => XS.iinc X83.here hx rfl (hb hby at_423) rfl (l' := #[iv i0, iv i1, iv i2, iv i3, iv i4, iv i5, iv v1, iv sl, iv att, iv sc, iv sb, iv sa, iv qc, iv nc, iv vc, iv tc, rv ca, iv 13, .unset, .unset, .unset]) rfl z_) ?_
        have e2 : g83 2 = nc := by simp only [hg83, hg82, hg80, hg79, hg78, hg77, hg64, hg63, hg36, hg35, hg25, hg24, hg23]; rfl
        have e3 : g83 3 = s34 := by simp only [hg83, hg82, hg80, hg79, hg78, hg77, hg64, hg63, hg36, hg35, hg25, hg24, hg23]; rfl
        have e4 : g83 4 = nc := by simp only [hg83, hg82, hg80, hg79, hg78, hg77, hg64, hg63, hg36, hg35, hg25, hg24, hg23]; rfl
        have e5 : g83 5 = s62 := by simp only [hg83, hg82, hg80, hg79, hg78, hg77, hg64, hg63, hg36, hg35, hg25, hg24, hg23]; rfl
        have e6 : g83 6 = (61 : Int32) := by simp only [hg83, hg82, hg80, hg79, hg78, hg77, hg64, hg63, hg36, hg35, hg25, hg24, hg23]; rfl
        have e7 : g83 7 = s76 := by simp only [hg83, hg82, hg80, hg79, hg78, hg77, hg64, hg63, hg36, hg35, hg25, hg24, hg23]; rfl
        have e8 : g83 8 = qc := by simp only [hg83, hg82, hg80, hg79, hg78, hg77, hg64, hg63, hg36, hg35, hg25, hg24, hg23]; rfl
        have e9 : g83 9 = vc := by simp only [hg83, hg82, hg80, hg79, hg78, hg77, hg64, hg63, hg36, hg35, hg25, hg24, hg23]; rfl
        have e10 : g83 10 = qc := by simp only [hg83, hg82, hg80, hg79, hg78, hg77, hg64, hg63, hg36, hg35, hg25, hg24, hg23]; rfl
        have e11 : g83 11 = (47 : Int32) := by simp only [hg83, hg82, hg80, hg79, hg78, hg77, hg64, hg63, hg36, hg35, hg25, hg24, hg23]; rfl
        have e12 : g83 12 = (62 : Int32) := by simp only [hg83, hg82, hg80, hg79, hg78, hg77, hg64, hg63, hg36, hg35, hg25, hg24, hg23]; rfl
        exact J426 ca g83 (13 : Int32) 11 11 6 8 v1 sl qc nc vc tc att sc sb sa T83 _ _ s hZ hown X83 e83 N83 (Nat.le_trans (Nat.le_trans (Nat.le_trans (Nat.le_trans (Nat.le_trans (Nat.le_trans (Nat.le_trans (Nat.le_trans (Nat.le_trans (Nat.le_trans (Nat.le_trans (Nat.le_trans (Nat.le_trans zs22 (Nat.le_of_eq W23.size.symm)) (Nat.le_of_eq W24.size.symm)) (Nat.le_of_eq W25.size.symm)) (Nat.le_of_eq W35.size.symm)) (Nat.le_of_eq W36.size.symm)) (Nat.le_of_eq W63.size.symm)) (Nat.le_of_eq W64.size.symm)) (Nat.le_of_eq W77.size.symm)) (Nat.le_of_eq W78.size.symm)) (Nat.le_of_eq W79.size.symm)) (Nat.le_of_eq W80.size.symm)) (Nat.le_of_eq W82.size.symm)) (Nat.le_of_eq W83.size.symm)) (Nat.le_trans (Nat.le_trans (Nat.le_trans (Nat.le_trans (Nat.le_trans (Nat.le_trans (Nat.le_trans (Nat.le_trans (Nat.le_trans (Nat.le_trans (Nat.le_trans (Nat.le_trans (Nat.le_trans zz22 (Nat.le_of_eq W23.size.symm)) (Nat.le_of_eq W24.size.symm)) (Nat.le_of_eq W25.size.symm)) (Nat.le_of_eq W35.size.symm)) (Nat.le_of_eq W36.size.symm)) (Nat.le_of_eq W63.size.symm)) (Nat.le_of_eq W64.size.symm)) (Nat.le_of_eq W77.size.symm)) (Nat.le_of_eq W78.size.symm)) (Nat.le_of_eq W79.size.symm)) (Nat.le_of_eq W80.size.symm)) (Nat.le_of_eq W82.size.symm)) (Nat.le_of_eq W83.size.symm)) (((((((((((((K22.wr W23 (Or.inr sz_ca)).wr W24 (Or.inr sz_ca)).wr W25 (Or.inr sz_ca)).wr W35 (Or.inr sz_ca)).wr W36 (Or.inr sz_ca)).wr W63 (Or.inr sz_ca)).wr W64 (Or.inr sz_ca)).wr W77 (Or.inr sz_ca)).wr W78 (Or.inr sz_ca)).wr W79 (Or.inr sz_ca)).wr W80 (Or.inr sz_ca)).wr W82 (Or.inr sz_ca)).wr W83 (Or.inr sz_ca)) A83 hfg83 ga za (by rw [e2]; exact hnc) (Or.inr ⟨by decide, by rw [e3]; exact hsp34, by rw [e4]; exact hnc, Or.inr ⟨rfl, by rw [e5]; exact hsp62⟩, e6, Or.inr ⟨rfl, by rw [e7]; exact hsp76⟩, by rw [e8]; exact hq, by rw [e9, e8]; exact hvc, by rw [e10, e8], rfl⟩) ⟨Or.inl ⟨rfl, trivial⟩, by decide, Or.inl ⟨(h_sl.resolve_left c403), e11, rfl⟩⟩
      · -- pc 381: not sc = (0 : Int32)
       refine own_g (own_F T80 m 384 #[iv i0, iv i1, iv i2, iv i3, iv i4, iv i5, iv v1, iv sl, iv att, iv sc, iv sb, iv sa, iv qc, iv nc, iv vc, iv tc, rv ca, iv 11, .unset, .unset, .unset] []) (fun _ z_ => XS.ifNo X80.here hx rfl (hb hby at_381) rfl ((if0 _ _).trans (feq c381).1) z_) ?_
       refine own_g (own_F T80 m 386 #[iv i0, iv i1, iv i2, iv i3, iv i4, iv i5, iv v1, iv sl, iv att, iv sc, iv sb, iv sa, iv qc, iv nc, iv vc, iv tc, rv ca, iv 11, .unset, .unset, .unset] [(.ref ca)]) (fun _ z_ => XS.aload X80.here hx rfl (hb hby at_384) rfl rfl z_) ?_
       refine own_g (own_F T80 m 388 #[iv i0, iv i1, iv i2, iv i3, iv i4, iv i5, iv v1, iv sl, iv att, iv sc, iv sb, iv sa, iv qc, iv nc, iv vc, iv tc, rv ca, iv 11, .unset, .unset, .unset] [(.int 11), (.ref ca)]) (fun _ z_ => XS.iload X80.here hx rfl (hb hby at_386) rfl z_) ?_
       refine own_g (own_F T80 m 389 #[iv i0, iv i1, iv i2, iv i3, iv i4, iv i5, iv v1, iv sl, iv att, iv sc, iv sb, iv sa, iv qc, iv nc, iv vc, iv tc, rv ca, iv 11, .unset, .unset, .unset] [(.int i3), (.int 11), (.ref ca)]) (fun _ z_ => XS.iloadN X80.here hx rfl (hb hby at_388) rfl z_) ?_
       refine own_g (own_F T80 m 391 #[iv i0, iv i1, iv i2, iv i3, iv i4, iv i5, iv v1, iv sl, iv att, iv sc, iv sb, iv sa, iv qc, iv nc, iv vc, iv tc, rv ca, iv 11, .unset, .unset, .unset] [(.int 9), (.int i3), (.int 11), (.ref ca)]) (fun _ z_ => XS.bipush X80.here hx rfl (hb hby at_389) z_) ?_
       refine own_g (own_F T80 m 392 #[iv i0, iv i1, iv i2, iv i3, iv i4, iv i5, iv v1, iv sl, iv att, iv sc, iv sb, iv sa, iv qc, iv nc, iv vc, iv tc, rv ca, iv 11, .unset, .unset, .unset] [(.int ((i3.toUInt32 >>> ((9 : Int32) &&& 31).toUInt32).toInt32)), (.int 11), (.ref ca)]) (fun _ z_ => XS.iushr X80.here hx rfl (hb hby at_391) rfl z_) ?_
       refine own_g (own_F T80 m 394 #[iv i0, iv i1, iv i2, iv i3, iv i4, iv i5, iv v1, iv sl, iv att, iv sc, iv sb, iv sa, iv qc, iv nc, iv vc, iv tc, rv ca, iv 11, .unset, .unset, .unset] [(.int v1), (.int ((i3.toUInt32 >>> ((9 : Int32) &&& 31).toUInt32).toInt32)), (.int 11), (.ref ca)]) (fun _ z_ => XS.iload X80.here hx rfl (hb hby at_392) rfl z_) ?_
       refine own_callS (y := (⟨"com/example/cadmus/cadmus/StartTagEmptyPinLaw", "space", "(IZ)C"⟩ : MethodName)) X80 hx hZ hown (own_w hw 125) (own_w hw 126) (own_w hw 2) (own_w hw 127) (by decide) e80 (hM := own_space l Z a0 hw [] ((i3.toUInt32 >>> ((9 : Int32) &&& 31).toUInt32).toInt32) v1 h80 n0 (Nat.le_trans (Nat.le_trans (Nat.le_trans (Nat.le_trans (Nat.le_trans (Nat.le_trans (Nat.le_trans (Nat.le_trans (Nat.le_trans (Nat.le_trans (Nat.le_trans zs22 (Nat.le_of_eq W23.size.symm)) (Nat.le_of_eq W24.size.symm)) (Nat.le_of_eq W25.size.symm)) (Nat.le_of_eq W35.size.symm)) (Nat.le_of_eq W36.size.symm)) (Nat.le_of_eq W63.size.symm)) (Nat.le_of_eq W64.size.symm)) (Nat.le_of_eq W77.size.symm)) (Nat.le_of_eq W78.size.symm)) (Nat.le_of_eq W79.size.symm)) (Nat.le_of_eq W80.size.symm))) (W := 2) (pc := 394) (Ls := #[iv i0, iv i1, iv i2, iv i3, iv i4, iv i5, iv v1, iv sl, iv att, iv sc, iv sb, iv sa, iv qc, iv nc, iv vc, iv tc, rv ca, iv 11, .unset, .unset, .unset]) (argsL := [(.int ((i3.toUInt32 >>> ((9 : Int32) &&& 31).toUInt32).toInt32)), (.int v1)]) (rest := [(.int 11), (.ref ca)]) (st0 := [(.int v1), (.int ((i3.toUInt32 >>> ((9 : Int32) &&& 31).toUInt32).toInt32)), (.int 11), (.ref ca)]) (by rw [hml]; rfl) (lenOf own_pd28 rfl) rfl (Nat.le_of_eq rfl) (hb hby at_394) (by decide) (by decide) (by decide) (by decide) ?_
       intro v84 T84 L84 s X84 hZ hown hI84 hvm84 hhp84 hWw84 hQ84
       obtain ⟨s84, rfl, hsp84, rsp84, Nq84, hh84⟩ := hQ84
       have N84 := Fr.app N80 Nq84
       show own_Ends p e below s _ _ _ (own_F T84 m 397 #[iv i0, iv i1, iv i2, iv i3, iv i4, iv i5, iv v1, iv sl, iv att, iv sc, iv sb, iv sa, iv qc, iv nc, iv vc, iv tc, rv ca, iv 11, .unset, .unset, .unset] [(.int s84), (.int 11), (.ref ca)])
       refine own_cast X84 hx hZ hh84 A80 11 rfl (by decide) s84 (own_narC rsp84) (hb hby at_397) ?_
       intro T85 h85 X85 e85 W85 A85
       have N85 := Fr.snoc X85 N84 ga
       obtain ⟨g85, hg85⟩ : ∃ gq_ : Nat → Int32, gq_ = fun q_ => if q_ = 11 then s84 else g80 q_ := ⟨_, rfl⟩
       have A85 : own_A Z h85 ca .char 16 (fun q_ => .int (g85 q_)) := by rw [hg85]; exact A85
       show own_Ends p e below s _ _ _ (own_F T85 m 398 #[iv i0, iv i1, iv i2, iv i3, iv i4, iv i5, iv v1, iv sl, iv att, iv sc, iv sb, iv sa, iv qc, iv nc, iv vc, iv tc, rv ca, iv 11, .unset, .unset, .unset] [])
       have hfg85 := own_rng hfg80 rsp84 hg85
       refine own_g (own_F T85 m 401 #[iv i0, iv i1, iv i2, iv i3, iv i4, iv i5, iv v1, iv sl, iv att, iv sc, iv sb, iv sa, iv qc, iv nc, iv vc, iv tc, rv ca, iv 12, .unset, .unset, .unset] []) (fun _ z_ => XS.iinc X85.here hx rfl (hb hby at_398) rfl (l' := #[iv i0, iv i1, iv i2, iv i3, iv i4, iv i5, iv v1, iv sl, iv att, iv sc, iv sb, iv sa, iv qc, iv nc, iv vc, iv tc, rv ca, iv 12, .unset, .unset, .unset]) rfl z_) ?_
       refine own_g (own_F T85 m 403 #[iv i0, iv i1, iv i2, iv i3, iv i4, iv i5, iv v1, iv sl, iv att, iv sc, iv sb, iv sa, iv qc, iv nc, iv vc, iv tc, rv ca, iv 12, .unset, .unset, .unset] [(.int sl)]) (fun _ z_ => XS.iload X85.here hx rfl (hb hby at_401) rfl z_) ?_
       by_cases c403 : sl = (0 : Int32)
       · -- pc 403: sl = (0 : Int32)
        refine own_g (own_F T85 m 416 #[iv i0, iv i1, iv i2, iv i3, iv i4, iv i5, iv v1, iv sl, iv att, iv sc, iv sb, iv sa, iv qc, iv nc, iv vc, iv tc, rv ca, iv 12, .unset, .unset, .unset] []) (fun _ z_ => XS.ifYes X85.here hx rfl (pc0 := 403) (pc' := 416) rfl (hb hby at_403) rfl ((if0 _ _).trans (teq c403).1) (by decide) (by decide) z_) ?_
        refine own_g (own_F T85 m 418 #[iv i0, iv i1, iv i2, iv i3, iv i4, iv i5, iv v1, iv sl, iv att, iv sc, iv sb, iv sa, iv qc, iv nc, iv vc, iv tc, rv ca, iv 12, .unset, .unset, .unset] [(.ref ca)]) (fun _ z_ => XS.aload X85.here hx rfl (hb hby at_416) rfl rfl z_) ?_
        refine own_g (own_F T85 m 420 #[iv i0, iv i1, iv i2, iv i3, iv i4, iv i5, iv v1, iv sl, iv att, iv sc, iv sb, iv sa, iv qc, iv nc, iv vc, iv tc, rv ca, iv 12, .unset, .unset, .unset] [(.int 12), (.ref ca)]) (fun _ z_ => XS.iload X85.here hx rfl (hb hby at_418) rfl z_) ?_
        refine own_g (own_F T85 m 422 #[iv i0, iv i1, iv i2, iv i3, iv i4, iv i5, iv v1, iv sl, iv att, iv sc, iv sb, iv sa, iv qc, iv nc, iv vc, iv tc, rv ca, iv 12, .unset, .unset, .unset] [(.int 62), (.int 12), (.ref ca)]) (fun _ z_ => XS.bipush X85.here hx rfl (hb hby at_420) z_) ?_
        refine own_cast X85 hx hZ e85 A85 12 rfl (by decide) (62 : Int32) rfl (hb hby at_422) ?_
        intro T86 h86 X86 e86 W86 A86
        have N86 := Fr.snoc X86 N85 ga
        obtain ⟨g86, hg86⟩ : ∃ gq_ : Nat → Int32, gq_ = fun q_ => if q_ = 12 then (62 : Int32) else g85 q_ := ⟨_, rfl⟩
        have A86 : own_A Z h86 ca .char 16 (fun q_ => .int (g86 q_)) := by rw [hg86]; exact A86
        show own_Ends p e below s _ _ _ (own_F T86 m 423 #[iv i0, iv i1, iv i2, iv i3, iv i4, iv i5, iv v1, iv sl, iv att, iv sc, iv sb, iv sa, iv qc, iv nc, iv vc, iv tc, rv ca, iv 12, .unset, .unset, .unset] [])
        have hfg86 := own_rng hfg85 (by decide) hg86
        refine own_g (own_F T86 m 426 #[iv i0, iv i1, iv i2, iv i3, iv i4, iv i5, iv v1, iv sl, iv att, iv sc, iv sb, iv sa, iv qc, iv nc, iv vc, iv tc, rv ca, iv 13, .unset, .unset, .unset] []) (fun _ z_ => XS.iinc X86.here hx rfl (hb hby at_423) rfl (l' := #[iv i0, iv i1, iv i2, iv i3, iv i4, iv i5, iv v1, iv sl, iv att, iv sc, iv sb, iv sa, iv qc, iv nc, iv vc, iv tc, rv ca, iv 13, .unset, .unset, .unset]) rfl z_) ?_
        have e2 : g86 2 = nc := by simp only [hg86, hg85, hg80, hg79, hg78, hg77, hg64, hg63, hg36, hg35, hg25, hg24, hg23]; rfl
        have e3 : g86 3 = s34 := by simp only [hg86, hg85, hg80, hg79, hg78, hg77, hg64, hg63, hg36, hg35, hg25, hg24, hg23]; rfl
        have e4 : g86 4 = nc := by simp only [hg86, hg85, hg80, hg79, hg78, hg77, hg64, hg63, hg36, hg35, hg25, hg24, hg23]; rfl
        have e5 : g86 5 = s62 := by simp only [hg86, hg85, hg80, hg79, hg78, hg77, hg64, hg63, hg36, hg35, hg25, hg24, hg23]; rfl
        have e6 : g86 6 = (61 : Int32) := by simp only [hg86, hg85, hg80, hg79, hg78, hg77, hg64, hg63, hg36, hg35, hg25, hg24, hg23]; rfl
        have e7 : g86 7 = s76 := by simp only [hg86, hg85, hg80, hg79, hg78, hg77, hg64, hg63, hg36, hg35, hg25, hg24, hg23]; rfl
        have e8 : g86 8 = qc := by simp only [hg86, hg85, hg80, hg79, hg78, hg77, hg64, hg63, hg36, hg35, hg25, hg24, hg23]; rfl
        have e9 : g86 9 = vc := by simp only [hg86, hg85, hg80, hg79, hg78, hg77, hg64, hg63, hg36, hg35, hg25, hg24, hg23]; rfl
        have e10 : g86 10 = qc := by simp only [hg86, hg85, hg80, hg79, hg78, hg77, hg64, hg63, hg36, hg35, hg25, hg24, hg23]; rfl
        have e11 : g86 11 = s84 := by simp only [hg86, hg85, hg80, hg79, hg78, hg77, hg64, hg63, hg36, hg35, hg25, hg24, hg23]; rfl
        have e12 : g86 12 = (62 : Int32) := by simp only [hg86, hg85, hg80, hg79, hg78, hg77, hg64, hg63, hg36, hg35, hg25, hg24, hg23]; rfl
        exact J426 ca g86 (13 : Int32) 11 12 6 8 v1 sl qc nc vc tc att sc sb sa T86 _ _ s hZ hown X86 e86 N86 (Nat.le_trans (Nat.le_trans (Nat.le_trans (Nat.le_trans (Nat.le_trans (Nat.le_trans (Nat.le_trans (Nat.le_trans (Nat.le_trans (Nat.le_trans (Nat.le_trans (Nat.le_trans (Nat.le_trans zs22 (Nat.le_of_eq W23.size.symm)) (Nat.le_of_eq W24.size.symm)) (Nat.le_of_eq W25.size.symm)) (Nat.le_of_eq W35.size.symm)) (Nat.le_of_eq W36.size.symm)) (Nat.le_of_eq W63.size.symm)) (Nat.le_of_eq W64.size.symm)) (Nat.le_of_eq W77.size.symm)) (Nat.le_of_eq W78.size.symm)) (Nat.le_of_eq W79.size.symm)) (Nat.le_of_eq W80.size.symm)) (Nat.le_of_eq W85.size.symm)) (Nat.le_of_eq W86.size.symm)) (Nat.le_trans (Nat.le_trans (Nat.le_trans (Nat.le_trans (Nat.le_trans (Nat.le_trans (Nat.le_trans (Nat.le_trans (Nat.le_trans (Nat.le_trans (Nat.le_trans (Nat.le_trans (Nat.le_trans zz22 (Nat.le_of_eq W23.size.symm)) (Nat.le_of_eq W24.size.symm)) (Nat.le_of_eq W25.size.symm)) (Nat.le_of_eq W35.size.symm)) (Nat.le_of_eq W36.size.symm)) (Nat.le_of_eq W63.size.symm)) (Nat.le_of_eq W64.size.symm)) (Nat.le_of_eq W77.size.symm)) (Nat.le_of_eq W78.size.symm)) (Nat.le_of_eq W79.size.symm)) (Nat.le_of_eq W80.size.symm)) (Nat.le_of_eq W85.size.symm)) (Nat.le_of_eq W86.size.symm)) (((((((((((((K22.wr W23 (Or.inr sz_ca)).wr W24 (Or.inr sz_ca)).wr W25 (Or.inr sz_ca)).wr W35 (Or.inr sz_ca)).wr W36 (Or.inr sz_ca)).wr W63 (Or.inr sz_ca)).wr W64 (Or.inr sz_ca)).wr W77 (Or.inr sz_ca)).wr W78 (Or.inr sz_ca)).wr W79 (Or.inr sz_ca)).wr W80 (Or.inr sz_ca)).wr W85 (Or.inr sz_ca)).wr W86 (Or.inr sz_ca)) A86 hfg86 ga za (by rw [e2]; exact hnc) (Or.inr ⟨by decide, by rw [e3]; exact hsp34, by rw [e4]; exact hnc, Or.inr ⟨rfl, by rw [e5]; exact hsp62⟩, e6, Or.inr ⟨rfl, by rw [e7]; exact hsp76⟩, by rw [e8]; exact hq, by rw [e9, e8]; exact hvc, by rw [e10, e8], rfl⟩) ⟨Or.inr ⟨rfl, by rw [e11]; exact hsp84⟩, by decide, Or.inr ⟨c403, e12, rfl⟩⟩
       · -- pc 403: not sl = (0 : Int32)
        refine own_g (own_F T85 m 406 #[iv i0, iv i1, iv i2, iv i3, iv i4, iv i5, iv v1, iv sl, iv att, iv sc, iv sb, iv sa, iv qc, iv nc, iv vc, iv tc, rv ca, iv 12, .unset, .unset, .unset] []) (fun _ z_ => XS.ifNo X85.here hx rfl (hb hby at_403) rfl ((if0 _ _).trans (feq c403).1) z_) ?_
        refine own_g (own_F T85 m 408 #[iv i0, iv i1, iv i2, iv i3, iv i4, iv i5, iv v1, iv sl, iv att, iv sc, iv sb, iv sa, iv qc, iv nc, iv vc, iv tc, rv ca, iv 12, .unset, .unset, .unset] [(.ref ca)]) (fun _ z_ => XS.aload X85.here hx rfl (hb hby at_406) rfl rfl z_) ?_
        refine own_g (own_F T85 m 410 #[iv i0, iv i1, iv i2, iv i3, iv i4, iv i5, iv v1, iv sl, iv att, iv sc, iv sb, iv sa, iv qc, iv nc, iv vc, iv tc, rv ca, iv 12, .unset, .unset, .unset] [(.int 12), (.ref ca)]) (fun _ z_ => XS.iload X85.here hx rfl (hb hby at_408) rfl z_) ?_
        refine own_g (own_F T85 m 412 #[iv i0, iv i1, iv i2, iv i3, iv i4, iv i5, iv v1, iv sl, iv att, iv sc, iv sb, iv sa, iv qc, iv nc, iv vc, iv tc, rv ca, iv 12, .unset, .unset, .unset] [(.int 47), (.int 12), (.ref ca)]) (fun _ z_ => XS.bipush X85.here hx rfl (hb hby at_410) z_) ?_
        refine own_cast X85 hx hZ e85 A85 12 rfl (by decide) (47 : Int32) rfl (hb hby at_412) ?_
        intro T87 h87 X87 e87 W87 A87
        have N87 := Fr.snoc X87 N85 ga
        obtain ⟨g87, hg87⟩ : ∃ gq_ : Nat → Int32, gq_ = fun q_ => if q_ = 12 then (47 : Int32) else g85 q_ := ⟨_, rfl⟩
        have A87 : own_A Z h87 ca .char 16 (fun q_ => .int (g87 q_)) := by rw [hg87]; exact A87
        show own_Ends p e below s _ _ _ (own_F T87 m 413 #[iv i0, iv i1, iv i2, iv i3, iv i4, iv i5, iv v1, iv sl, iv att, iv sc, iv sb, iv sa, iv qc, iv nc, iv vc, iv tc, rv ca, iv 12, .unset, .unset, .unset] [])
        have hfg87 := own_rng hfg85 (by decide) hg87
        refine own_g (own_F T87 m 416 #[iv i0, iv i1, iv i2, iv i3, iv i4, iv i5, iv v1, iv sl, iv att, iv sc, iv sb, iv sa, iv qc, iv nc, iv vc, iv tc, rv ca, iv 13, .unset, .unset, .unset] []) (fun _ z_ => XS.iinc X87.here hx rfl (hb hby at_413) rfl (l' := #[iv i0, iv i1, iv i2, iv i3, iv i4, iv i5, iv v1, iv sl, iv att, iv sc, iv sb, iv sa, iv qc, iv nc, iv vc, iv tc, rv ca, iv 13, .unset, .unset, .unset]) rfl z_) ?_
        refine own_g (own_F T87 m 418 #[iv i0, iv i1, iv i2, iv i3, iv i4, iv i5, iv v1, iv sl, iv att, iv sc, iv sb, iv sa, iv qc, iv nc, iv vc, iv tc, rv ca, iv 13, .unset, .unset, .unset] [(.ref ca)]) (fun _ z_ => XS.aload X87.here hx rfl (hb hby at_416) rfl rfl z_) ?_
        refine own_g (own_F T87 m 420 #[iv i0, iv i1, iv i2, iv i3, iv i4, iv i5, iv v1, iv sl, iv att, iv sc, iv sb, iv sa, iv qc, iv nc, iv vc, iv tc, rv ca, iv 13, .unset, .unset, .unset] [(.int 13), (.ref ca)]) (fun _ z_ => XS.iload X87.here hx rfl (hb hby at_418) rfl z_) ?_
        refine own_g (own_F T87 m 422 #[iv i0, iv i1, iv i2, iv i3, iv i4, iv i5, iv v1, iv sl, iv att, iv sc, iv sb, iv sa, iv qc, iv nc, iv vc, iv tc, rv ca, iv 13, .unset, .unset, .unset] [(.int 62), (.int 13), (.ref ca)]) (fun _ z_ => XS.bipush X87.here hx rfl (hb hby at_420) z_) ?_
        refine own_cast X87 hx hZ e87 A87 13 rfl (by decide) (62 : Int32) rfl (hb hby at_422) ?_
        intro T88 h88 X88 e88 W88 A88
        have N88 := Fr.snoc X88 N87 ga
        obtain ⟨g88, hg88⟩ : ∃ gq_ : Nat → Int32, gq_ = fun q_ => if q_ = 13 then (62 : Int32) else g87 q_ := ⟨_, rfl⟩
        have A88 : own_A Z h88 ca .char 16 (fun q_ => .int (g88 q_)) := by rw [hg88]; exact A88
        show own_Ends p e below s _ _ _ (own_F T88 m 423 #[iv i0, iv i1, iv i2, iv i3, iv i4, iv i5, iv v1, iv sl, iv att, iv sc, iv sb, iv sa, iv qc, iv nc, iv vc, iv tc, rv ca, iv 13, .unset, .unset, .unset] [])
        have hfg88 := own_rng hfg87 (by decide) hg88
        refine own_g (own_F T88 m 426 #[iv i0, iv i1, iv i2, iv i3, iv i4, iv i5, iv v1, iv sl, iv att, iv sc, iv sb, iv sa, iv qc, iv nc, iv vc, iv tc, rv ca, iv 14, .unset, .unset, .unset] []) (fun _ z_ => XS.iinc X88.here hx rfl (hb hby at_423) rfl (l' := #[iv i0, iv i1, iv i2, iv i3, iv i4, iv i5, iv v1, iv sl, iv att, iv sc, iv sb, iv sa, iv qc, iv nc, iv vc, iv tc, rv ca, iv 14, .unset, .unset, .unset]) rfl z_) ?_
        have e2 : g88 2 = nc := by simp only [hg88, hg87, hg85, hg80, hg79, hg78, hg77, hg64, hg63, hg36, hg35, hg25, hg24, hg23]; rfl
        have e3 : g88 3 = s34 := by simp only [hg88, hg87, hg85, hg80, hg79, hg78, hg77, hg64, hg63, hg36, hg35, hg25, hg24, hg23]; rfl
        have e4 : g88 4 = nc := by simp only [hg88, hg87, hg85, hg80, hg79, hg78, hg77, hg64, hg63, hg36, hg35, hg25, hg24, hg23]; rfl
        have e5 : g88 5 = s62 := by simp only [hg88, hg87, hg85, hg80, hg79, hg78, hg77, hg64, hg63, hg36, hg35, hg25, hg24, hg23]; rfl
        have e6 : g88 6 = (61 : Int32) := by simp only [hg88, hg87, hg85, hg80, hg79, hg78, hg77, hg64, hg63, hg36, hg35, hg25, hg24, hg23]; rfl
        have e7 : g88 7 = s76 := by simp only [hg88, hg87, hg85, hg80, hg79, hg78, hg77, hg64, hg63, hg36, hg35, hg25, hg24, hg23]; rfl
        have e8 : g88 8 = qc := by simp only [hg88, hg87, hg85, hg80, hg79, hg78, hg77, hg64, hg63, hg36, hg35, hg25, hg24, hg23]; rfl
        have e9 : g88 9 = vc := by simp only [hg88, hg87, hg85, hg80, hg79, hg78, hg77, hg64, hg63, hg36, hg35, hg25, hg24, hg23]; rfl
        have e10 : g88 10 = qc := by simp only [hg88, hg87, hg85, hg80, hg79, hg78, hg77, hg64, hg63, hg36, hg35, hg25, hg24, hg23]; rfl
        have e11 : g88 11 = s84 := by simp only [hg88, hg87, hg85, hg80, hg79, hg78, hg77, hg64, hg63, hg36, hg35, hg25, hg24, hg23]; rfl
        have e12 : g88 12 = (47 : Int32) := by simp only [hg88, hg87, hg85, hg80, hg79, hg78, hg77, hg64, hg63, hg36, hg35, hg25, hg24, hg23]; rfl
        have e13 : g88 13 = (62 : Int32) := by simp only [hg88, hg87, hg85, hg80, hg79, hg78, hg77, hg64, hg63, hg36, hg35, hg25, hg24, hg23]; rfl
        exact J426 ca g88 (14 : Int32) 11 12 6 8 v1 sl qc nc vc tc att sc sb sa T88 _ _ s hZ hown X88 e88 N88 (Nat.le_trans (Nat.le_trans (Nat.le_trans (Nat.le_trans (Nat.le_trans (Nat.le_trans (Nat.le_trans (Nat.le_trans (Nat.le_trans (Nat.le_trans (Nat.le_trans (Nat.le_trans (Nat.le_trans (Nat.le_trans zs22 (Nat.le_of_eq W23.size.symm)) (Nat.le_of_eq W24.size.symm)) (Nat.le_of_eq W25.size.symm)) (Nat.le_of_eq W35.size.symm)) (Nat.le_of_eq W36.size.symm)) (Nat.le_of_eq W63.size.symm)) (Nat.le_of_eq W64.size.symm)) (Nat.le_of_eq W77.size.symm)) (Nat.le_of_eq W78.size.symm)) (Nat.le_of_eq W79.size.symm)) (Nat.le_of_eq W80.size.symm)) (Nat.le_of_eq W85.size.symm)) (Nat.le_of_eq W87.size.symm)) (Nat.le_of_eq W88.size.symm)) (Nat.le_trans (Nat.le_trans (Nat.le_trans (Nat.le_trans (Nat.le_trans (Nat.le_trans (Nat.le_trans (Nat.le_trans (Nat.le_trans (Nat.le_trans (Nat.le_trans (Nat.le_trans (Nat.le_trans (Nat.le_trans zz22 (Nat.le_of_eq W23.size.symm)) (Nat.le_of_eq W24.size.symm)) (Nat.le_of_eq W25.size.symm)) (Nat.le_of_eq W35.size.symm)) (Nat.le_of_eq W36.size.symm)) (Nat.le_of_eq W63.size.symm)) (Nat.le_of_eq W64.size.symm)) (Nat.le_of_eq W77.size.symm)) (Nat.le_of_eq W78.size.symm)) (Nat.le_of_eq W79.size.symm)) (Nat.le_of_eq W80.size.symm)) (Nat.le_of_eq W85.size.symm)) (Nat.le_of_eq W87.size.symm)) (Nat.le_of_eq W88.size.symm)) ((((((((((((((K22.wr W23 (Or.inr sz_ca)).wr W24 (Or.inr sz_ca)).wr W25 (Or.inr sz_ca)).wr W35 (Or.inr sz_ca)).wr W36 (Or.inr sz_ca)).wr W63 (Or.inr sz_ca)).wr W64 (Or.inr sz_ca)).wr W77 (Or.inr sz_ca)).wr W78 (Or.inr sz_ca)).wr W79 (Or.inr sz_ca)).wr W80 (Or.inr sz_ca)).wr W85 (Or.inr sz_ca)).wr W87 (Or.inr sz_ca)).wr W88 (Or.inr sz_ca)) A88 hfg88 ga za (by rw [e2]; exact hnc) (Or.inr ⟨by decide, by rw [e3]; exact hsp34, by rw [e4]; exact hnc, Or.inr ⟨rfl, by rw [e5]; exact hsp62⟩, e6, Or.inr ⟨rfl, by rw [e7]; exact hsp76⟩, by rw [e8]; exact hq, by rw [e9, e8]; exact hvc, by rw [e10, e8], rfl⟩) ⟨Or.inr ⟨rfl, by rw [e11]; exact hsp84⟩, by decide, Or.inl ⟨(h_sl.resolve_left c403), e12, rfl⟩⟩
  have J97 : ∀ (v1 : Int32) (sl : Int32) (att : Int32) (sc : Int32) (sb : Int32) (sa : Int32) (h_v1 : v1 = 0 ∨ v1 = 1) (h_sl : sl = 0 ∨ sl = 1) (h_att : att = 0 ∨ att = 1) (h_sc : sc = 0 ∨ sc = 1) (h_sb : sb = 0 ∨ sb = 1) (h_sa : sa = 0 ∨ sa = 1) (qc : Int32) (hq : qc = (34 : Int32) ∨ qc = (39 : Int32)), own_Ends p e below s ((fun v h L _ => v = some (.int 1) ∧ Fr n0 L), []) room_1.cells room_1.slots (own_F T0 m 97 #[iv i0, iv i1, iv i2, iv i3, iv i4, iv i5, iv v1, iv sl, iv att, iv sc, iv sb, iv sa, iv qc, .unset, .unset, .unset, .unset, .unset, .unset, .unset, .unset] []) := by
   intro v1 sl att sc sb sa h_v1 h_sl h_att h_sc h_sb h_sa qc hq
   refine own_g (own_F T0 m 98 #[iv i0, iv i1, iv i2, iv i3, iv i4, iv i5, iv v1, iv sl, iv att, iv sc, iv sb, iv sa, iv qc, .unset, .unset, .unset, .unset, .unset, .unset, .unset, .unset] [(.int i1)]) (fun _ z_ => XS.iloadN X0.here hx rfl (hb hby at_97) rfl z_) ?_
   refine own_callS (y := (⟨"com/example/cadmus/cadmus/StartTagEmptyPinLaw", "nameChar", "(I)C"⟩ : MethodName)) X0 hx hZ hown (own_w hw 0) (own_w hw 1) (own_w hw 2) (own_w hw 3) (by decide) e0 (hM := own_nc l Z a0 hw [] i1 h0 n0 Z0) (W := 0) (pc := 98) (Ls := #[iv i0, iv i1, iv i2, iv i3, iv i4, iv i5, iv v1, iv sl, iv att, iv sc, iv sb, iv sa, iv qc, .unset, .unset, .unset, .unset, .unset, .unset, .unset, .unset]) (argsL := [(.int i1)]) (rest := []) (st0 := [(.int i1)]) (by rw [hml]; rfl) (lenOf own_pd21 rfl) rfl (Nat.le_of_eq rfl) (hb hby at_98) (by decide) (by decide) (by decide) (by decide) ?_
   intro v89 T89 L89 s X89 hZ hown hI89 hvm89 hhp89 hWw89 hQ89
   obtain ⟨nc, rfl, hnc, rnc, Nq89, hh89⟩ := hQ89
   have N89 := Fr.app N0 Nq89
   show own_Ends p e below s _ _ _ (own_F T89 m 101 #[iv i0, iv i1, iv i2, iv i3, iv i4, iv i5, iv v1, iv sl, iv att, iv sc, iv sb, iv sa, iv qc, .unset, .unset, .unset, .unset, .unset, .unset, .unset, .unset] [(.int nc)])
   refine own_g (own_F T89 m 103 #[iv i0, iv i1, iv i2, iv i3, iv i4, iv i5, iv v1, iv sl, iv att, iv sc, iv sb, iv sa, iv qc, iv nc, .unset, .unset, .unset, .unset, .unset, .unset, .unset] []) (fun _ z_ => XS.istore X89.here hx rfl (hb hby at_101) rfl (l' := #[iv i0, iv i1, iv i2, iv i3, iv i4, iv i5, iv v1, iv sl, iv att, iv sc, iv sb, iv sa, iv qc, iv nc, .unset, .unset, .unset, .unset, .unset, .unset, .unset]) rfl z_) ?_
   refine own_g (own_F T89 m 104 #[iv i0, iv i1, iv i2, iv i3, iv i4, iv i5, iv v1, iv sl, iv att, iv sc, iv sb, iv sa, iv qc, iv nc, .unset, .unset, .unset, .unset, .unset, .unset, .unset] [(.int i2)]) (fun _ z_ => XS.iloadN X89.here hx rfl (hb hby at_103) rfl z_) ?_
   refine own_g (own_F T89 m 107 #[iv i0, iv i1, iv i2, iv i3, iv i4, iv i5, iv v1, iv sl, iv att, iv sc, iv sb, iv sa, iv qc, iv nc, .unset, .unset, .unset, .unset, .unset, .unset, .unset] [(.int 255), (.int i2)]) (fun _ z_ => XS.sipush X89.here hx rfl (hb hby at_104) z_) ?_
   refine own_g (own_F T89 m 108 #[iv i0, iv i1, iv i2, iv i3, iv i4, iv i5, iv v1, iv sl, iv att, iv sc, iv sb, iv sa, iv qc, iv nc, .unset, .unset, .unset, .unset, .unset, .unset, .unset] [(.int (i2 &&& (255 : Int32)))]) (fun _ z_ => XS.iand X89.here hx rfl (hb hby at_107) rfl z_) ?_
   refine own_g (own_F T89 m 109 #[iv i0, iv i1, iv i2, iv i3, iv i4, iv i5, iv v1, iv sl, iv att, iv sc, iv sb, iv sa, iv qc, iv nc, .unset, .unset, .unset, .unset, .unset, .unset, .unset] [(.int ((i2 &&& (255 : Int32)).toUInt32.toUInt16.toUInt32.toInt32))]) (fun _ z_ => XS.i2c X89.here hx rfl (hb hby at_108) rfl z_) ?_
   refine own_g (own_F T89 m 111 #[iv i0, iv i1, iv i2, iv i3, iv i4, iv i5, iv v1, iv sl, iv att, iv sc, iv sb, iv sa, iv qc, iv nc, iv ((i2 &&& (255 : Int32)).toUInt32.toUInt16.toUInt32.toInt32), .unset, .unset, .unset, .unset, .unset, .unset] []) (fun _ z_ => XS.istore X89.here hx rfl (hb hby at_109) rfl (l' := #[iv i0, iv i1, iv i2, iv i3, iv i4, iv i5, iv v1, iv sl, iv att, iv sc, iv sb, iv sa, iv qc, iv nc, iv ((i2 &&& (255 : Int32)).toUInt32.toUInt16.toUInt32.toInt32), .unset, .unset, .unset, .unset, .unset, .unset]) rfl z_) ?_
   generalize gv : ((i2 &&& (255 : Int32)).toUInt32.toUInt16.toUInt32.toInt32) = v0
   have rv0 : 0 ≤ v0.toInt ∧ v0.toInt ≤ 65535 := by rw [← gv]; exact own_i2cr _
   have J136 : ∀ (vc : Int32) (T90 : State) (lc90 : List Loc) (hp90 : Heap) (s : State) (hZ : Z.Warmed39 s.vm) (hown : s.vm.findClass "com/example/cadmus/cadmus/StartTagEmptyPinLaw" = some m.cls) (X90 : Stand p l e room_1 s m #[(.int i0), (.int i1), (.int i2), (.int i3), (.int i4), (.int i5)] below meth c T90 lc90 0 0) (e90 : T90.heap = hp90) (N90 : Fr n0 lc90) (zs90 : n0 ≤ hp90.size) (zz90 : h0.size ≤ hp90.size) (K90 : Keep h0 hp90 []) (hvc : ¬ vc = qc) (rvc : 0 ≤ vc.toInt ∧ vc.toInt ≤ 65535), own_Ends p e below s ((fun v h L _ => v = some (.int 1) ∧ Fr n0 L), []) room_1.cells room_1.slots (own_F T90 m 136 #[iv i0, iv i1, iv i2, iv i3, iv i4, iv i5, iv v1, iv sl, iv att, iv sc, iv sb, iv sa, iv qc, iv nc, iv vc, .unset, .unset, .unset, .unset, .unset, .unset] []) := by
    intro vc T90 lc90 hp90 s hZ hown X90 e90 N90 zs90 zz90 K90 hvc rvc
    refine own_g (own_F T90 m 138 #[iv i0, iv i1, iv i2, iv i3, iv i4, iv i5, iv v1, iv sl, iv att, iv sc, iv sb, iv sa, iv qc, iv nc, iv vc, .unset, .unset, .unset, .unset, .unset, .unset] [(.int i4)]) (fun _ z_ => XS.iload X90.here hx rfl (hb hby at_136) rfl z_) ?_
    refine own_g (own_F T90 m 141 #[iv i0, iv i1, iv i2, iv i3, iv i4, iv i5, iv v1, iv sl, iv att, iv sc, iv sb, iv sa, iv qc, iv nc, iv vc, .unset, .unset, .unset, .unset, .unset, .unset] [(.int 255), (.int i4)]) (fun _ z_ => XS.sipush X90.here hx rfl (hb hby at_138) z_) ?_
    refine own_g (own_F T90 m 142 #[iv i0, iv i1, iv i2, iv i3, iv i4, iv i5, iv v1, iv sl, iv att, iv sc, iv sb, iv sa, iv qc, iv nc, iv vc, .unset, .unset, .unset, .unset, .unset, .unset] [(.int (i4 &&& (255 : Int32)))]) (fun _ z_ => XS.iand X90.here hx rfl (hb hby at_141) rfl z_) ?_
    refine own_g (own_F T90 m 143 #[iv i0, iv i1, iv i2, iv i3, iv i4, iv i5, iv v1, iv sl, iv att, iv sc, iv sb, iv sa, iv qc, iv nc, iv vc, .unset, .unset, .unset, .unset, .unset, .unset] [(.int ((i4 &&& (255 : Int32)).toUInt32.toUInt16.toUInt32.toInt32))]) (fun _ z_ => XS.i2c X90.here hx rfl (hb hby at_142) rfl z_) ?_
    refine own_g (own_F T90 m 145 #[iv i0, iv i1, iv i2, iv i3, iv i4, iv i5, iv v1, iv sl, iv att, iv sc, iv sb, iv sa, iv qc, iv nc, iv vc, iv ((i4 &&& (255 : Int32)).toUInt32.toUInt16.toUInt32.toInt32), .unset, .unset, .unset, .unset, .unset] []) (fun _ z_ => XS.istore X90.here hx rfl (hb hby at_143) rfl (l' := #[iv i0, iv i1, iv i2, iv i3, iv i4, iv i5, iv v1, iv sl, iv att, iv sc, iv sb, iv sa, iv qc, iv nc, iv vc, iv ((i4 &&& (255 : Int32)).toUInt32.toUInt16.toUInt32.toInt32), .unset, .unset, .unset, .unset, .unset]) rfl z_) ?_
    refine own_g (own_F T90 m 147 #[iv i0, iv i1, iv i2, iv i3, iv i4, iv i5, iv v1, iv sl, iv att, iv sc, iv sb, iv sa, iv qc, iv nc, iv vc, iv ((i4 &&& (255 : Int32)).toUInt32.toUInt16.toUInt32.toInt32), .unset, .unset, .unset, .unset, .unset] [(.int 16)]) (fun _ z_ => XS.bipush X90.here hx rfl (hb hby at_145) z_) ?_
    refine own_newA X90 hx hZ .char rfl (own_w hw 4) e90 (hb hby at_147) 16 rfl 16 (by decide) (by decide) (by decide) (by decide) ?_
    intro T91 h91 b91 X91 e91 E91 g91 A91
    have sz_b91 : h0.size ≤ b91 := Nat.le_trans zz90 (Nat.le_of_eq g91.symm)
    have ge_b91 : n0 ≤ b91 := Nat.le_trans zs90 (Nat.le_of_eq g91.symm)
    have A91 : own_A Z h91 b91 .char 16 (fun q_ => .int ((fun _ => (0 : Int32)) q_)) := A91
    show own_Ends p e below s _ _ _ (own_F T91 m 149 #[iv i0, iv i1, iv i2, iv i3, iv i4, iv i5, iv v1, iv sl, iv att, iv sc, iv sb, iv sa, iv qc, iv nc, iv vc, iv ((i4 &&& (255 : Int32)).toUInt32.toUInt16.toUInt32.toInt32), .unset, .unset, .unset, .unset, .unset] [(.ref b91)])
    refine own_g (own_F T91 m 150 #[iv i0, iv i1, iv i2, iv i3, iv i4, iv i5, iv v1, iv sl, iv att, iv sc, iv sb, iv sa, iv qc, iv nc, iv vc, iv ((i4 &&& (255 : Int32)).toUInt32.toUInt16.toUInt32.toInt32), .unset, .unset, .unset, .unset, .unset] [(.ref b91), (.ref b91)]) (fun _ z_ => XS.dup X91.here hx rfl (hb hby at_149) rfl rfl z_) ?_
    refine own_g (own_F T91 m 151 #[iv i0, iv i1, iv i2, iv i3, iv i4, iv i5, iv v1, iv sl, iv att, iv sc, iv sb, iv sa, iv qc, iv nc, iv vc, iv ((i4 &&& (255 : Int32)).toUInt32.toUInt16.toUInt32.toInt32), .unset, .unset, .unset, .unset, .unset] [(.int 0), (.ref b91), (.ref b91)]) (fun _ z_ => XS.iconst X91.here hx rfl (hb hby at_150) z_) ?_
    refine own_g (own_F T91 m 153 #[iv i0, iv i1, iv i2, iv i3, iv i4, iv i5, iv v1, iv sl, iv att, iv sc, iv sb, iv sa, iv qc, iv nc, iv vc, iv ((i4 &&& (255 : Int32)).toUInt32.toUInt16.toUInt32.toInt32), .unset, .unset, .unset, .unset, .unset] [(.int ((i4 &&& (255 : Int32)).toUInt32.toUInt16.toUInt32.toInt32)), (.int 0), (.ref b91), (.ref b91)]) (fun _ z_ => XS.iload X91.here hx rfl (hb hby at_151) rfl z_) ?_
    refine own_cast X91 hx hZ e91 A91 0 rfl (by decide) ((i4 &&& (255 : Int32)).toUInt32.toUInt16.toUInt32.toInt32) (own_narI' _) (hb hby at_153) ?_
    intro T92 h92 X92 e92 W92 A92
    have N92 := Fr.snoc X92 N90 ge_b91
    obtain ⟨g92, hg92⟩ : ∃ gq_ : Nat → Int32, gq_ = fun q_ => if q_ = 0 then ((i4 &&& (255 : Int32)).toUInt32.toUInt16.toUInt32.toInt32) else (fun _ => (0 : Int32)) q_ := ⟨_, rfl⟩
    have A92 : own_A Z h92 b91 .char 16 (fun q_ => .int (g92 q_)) := by rw [hg92]; exact A92
    show own_Ends p e below s _ _ _ (own_F T92 m 154 #[iv i0, iv i1, iv i2, iv i3, iv i4, iv i5, iv v1, iv sl, iv att, iv sc, iv sb, iv sa, iv qc, iv nc, iv vc, iv ((i4 &&& (255 : Int32)).toUInt32.toUInt16.toUInt32.toInt32), .unset, .unset, .unset, .unset, .unset] [(.ref b91)])
    have hfg92 := own_rng (n := 16) (fun i _ => by decide) (own_i2cr _) hg92
    refine own_g (own_F T92 m 155 #[iv i0, iv i1, iv i2, iv i3, iv i4, iv i5, iv v1, iv sl, iv att, iv sc, iv sb, iv sa, iv qc, iv nc, iv vc, iv ((i4 &&& (255 : Int32)).toUInt32.toUInt16.toUInt32.toInt32), .unset, .unset, .unset, .unset, .unset] [(.ref b91), (.ref b91)]) (fun _ z_ => XS.dup X92.here hx rfl (hb hby at_154) rfl rfl z_) ?_
    refine own_g (own_F T92 m 156 #[iv i0, iv i1, iv i2, iv i3, iv i4, iv i5, iv v1, iv sl, iv att, iv sc, iv sb, iv sa, iv qc, iv nc, iv vc, iv ((i4 &&& (255 : Int32)).toUInt32.toUInt16.toUInt32.toInt32), .unset, .unset, .unset, .unset, .unset] [(.int 1), (.ref b91), (.ref b91)]) (fun _ z_ => XS.iconst X92.here hx rfl (hb hby at_155) z_) ?_
    refine own_g (own_F T92 m 158 #[iv i0, iv i1, iv i2, iv i3, iv i4, iv i5, iv v1, iv sl, iv att, iv sc, iv sb, iv sa, iv qc, iv nc, iv vc, iv ((i4 &&& (255 : Int32)).toUInt32.toUInt16.toUInt32.toInt32), .unset, .unset, .unset, .unset, .unset] [(.int ((i4 &&& (255 : Int32)).toUInt32.toUInt16.toUInt32.toInt32)), (.int 1), (.ref b91), (.ref b91)]) (fun _ z_ => XS.iload X92.here hx rfl (hb hby at_156) rfl z_) ?_
    refine own_cast X92 hx hZ e92 A92 1 rfl (by decide) ((i4 &&& (255 : Int32)).toUInt32.toUInt16.toUInt32.toInt32) (own_narI' _) (hb hby at_158) ?_
    intro T93 h93 X93 e93 W93 A93
    have N93 := Fr.snoc X93 N92 ge_b91
    obtain ⟨g93, hg93⟩ : ∃ gq_ : Nat → Int32, gq_ = fun q_ => if q_ = 1 then ((i4 &&& (255 : Int32)).toUInt32.toUInt16.toUInt32.toInt32) else g92 q_ := ⟨_, rfl⟩
    have A93 : own_A Z h93 b91 .char 16 (fun q_ => .int (g93 q_)) := by rw [hg93]; exact A93
    show own_Ends p e below s _ _ _ (own_F T93 m 159 #[iv i0, iv i1, iv i2, iv i3, iv i4, iv i5, iv v1, iv sl, iv att, iv sc, iv sb, iv sa, iv qc, iv nc, iv vc, iv ((i4 &&& (255 : Int32)).toUInt32.toUInt16.toUInt32.toInt32), .unset, .unset, .unset, .unset, .unset] [(.ref b91)])
    have hfg93 := own_rng (n := 16) hfg92 (own_i2cr _) hg93
    refine own_g (own_F T93 m 160 #[iv i0, iv i1, iv i2, iv i3, iv i4, iv i5, iv v1, iv sl, iv att, iv sc, iv sb, iv sa, iv qc, iv nc, iv vc, iv ((i4 &&& (255 : Int32)).toUInt32.toUInt16.toUInt32.toInt32), .unset, .unset, .unset, .unset, .unset] [(.ref b91), (.ref b91)]) (fun _ z_ => XS.dup X93.here hx rfl (hb hby at_159) rfl rfl z_) ?_
    refine own_g (own_F T93 m 161 #[iv i0, iv i1, iv i2, iv i3, iv i4, iv i5, iv v1, iv sl, iv att, iv sc, iv sb, iv sa, iv qc, iv nc, iv vc, iv ((i4 &&& (255 : Int32)).toUInt32.toUInt16.toUInt32.toInt32), .unset, .unset, .unset, .unset, .unset] [(.int 2), (.ref b91), (.ref b91)]) (fun _ z_ => XS.iconst X93.here hx rfl (hb hby at_160) z_) ?_
    refine own_g (own_F T93 m 163 #[iv i0, iv i1, iv i2, iv i3, iv i4, iv i5, iv v1, iv sl, iv att, iv sc, iv sb, iv sa, iv qc, iv nc, iv vc, iv ((i4 &&& (255 : Int32)).toUInt32.toUInt16.toUInt32.toInt32), .unset, .unset, .unset, .unset, .unset] [(.int ((i4 &&& (255 : Int32)).toUInt32.toUInt16.toUInt32.toInt32)), (.int 2), (.ref b91), (.ref b91)]) (fun _ z_ => XS.iload X93.here hx rfl (hb hby at_161) rfl z_) ?_
    refine own_cast X93 hx hZ e93 A93 2 rfl (by decide) ((i4 &&& (255 : Int32)).toUInt32.toUInt16.toUInt32.toInt32) (own_narI' _) (hb hby at_163) ?_
    intro T94 h94 X94 e94 W94 A94
    have N94 := Fr.snoc X94 N93 ge_b91
    obtain ⟨g94, hg94⟩ : ∃ gq_ : Nat → Int32, gq_ = fun q_ => if q_ = 2 then ((i4 &&& (255 : Int32)).toUInt32.toUInt16.toUInt32.toInt32) else g93 q_ := ⟨_, rfl⟩
    have A94 : own_A Z h94 b91 .char 16 (fun q_ => .int (g94 q_)) := by rw [hg94]; exact A94
    show own_Ends p e below s _ _ _ (own_F T94 m 164 #[iv i0, iv i1, iv i2, iv i3, iv i4, iv i5, iv v1, iv sl, iv att, iv sc, iv sb, iv sa, iv qc, iv nc, iv vc, iv ((i4 &&& (255 : Int32)).toUInt32.toUInt16.toUInt32.toInt32), .unset, .unset, .unset, .unset, .unset] [(.ref b91)])
    have hfg94 := own_rng (n := 16) hfg93 (own_i2cr _) hg94
    refine own_g (own_F T94 m 165 #[iv i0, iv i1, iv i2, iv i3, iv i4, iv i5, iv v1, iv sl, iv att, iv sc, iv sb, iv sa, iv qc, iv nc, iv vc, iv ((i4 &&& (255 : Int32)).toUInt32.toUInt16.toUInt32.toInt32), .unset, .unset, .unset, .unset, .unset] [(.ref b91), (.ref b91)]) (fun _ z_ => XS.dup X94.here hx rfl (hb hby at_164) rfl rfl z_) ?_
    refine own_g (own_F T94 m 166 #[iv i0, iv i1, iv i2, iv i3, iv i4, iv i5, iv v1, iv sl, iv att, iv sc, iv sb, iv sa, iv qc, iv nc, iv vc, iv ((i4 &&& (255 : Int32)).toUInt32.toUInt16.toUInt32.toInt32), .unset, .unset, .unset, .unset, .unset] [(.int 3), (.ref b91), (.ref b91)]) (fun _ z_ => XS.iconst X94.here hx rfl (hb hby at_165) z_) ?_
    refine own_g (own_F T94 m 168 #[iv i0, iv i1, iv i2, iv i3, iv i4, iv i5, iv v1, iv sl, iv att, iv sc, iv sb, iv sa, iv qc, iv nc, iv vc, iv ((i4 &&& (255 : Int32)).toUInt32.toUInt16.toUInt32.toInt32), .unset, .unset, .unset, .unset, .unset] [(.int ((i4 &&& (255 : Int32)).toUInt32.toUInt16.toUInt32.toInt32)), (.int 3), (.ref b91), (.ref b91)]) (fun _ z_ => XS.iload X94.here hx rfl (hb hby at_166) rfl z_) ?_
    refine own_cast X94 hx hZ e94 A94 3 rfl (by decide) ((i4 &&& (255 : Int32)).toUInt32.toUInt16.toUInt32.toInt32) (own_narI' _) (hb hby at_168) ?_
    intro T95 h95 X95 e95 W95 A95
    have N95 := Fr.snoc X95 N94 ge_b91
    obtain ⟨g95, hg95⟩ : ∃ gq_ : Nat → Int32, gq_ = fun q_ => if q_ = 3 then ((i4 &&& (255 : Int32)).toUInt32.toUInt16.toUInt32.toInt32) else g94 q_ := ⟨_, rfl⟩
    have A95 : own_A Z h95 b91 .char 16 (fun q_ => .int (g95 q_)) := by rw [hg95]; exact A95
    show own_Ends p e below s _ _ _ (own_F T95 m 169 #[iv i0, iv i1, iv i2, iv i3, iv i4, iv i5, iv v1, iv sl, iv att, iv sc, iv sb, iv sa, iv qc, iv nc, iv vc, iv ((i4 &&& (255 : Int32)).toUInt32.toUInt16.toUInt32.toInt32), .unset, .unset, .unset, .unset, .unset] [(.ref b91)])
    have hfg95 := own_rng (n := 16) hfg94 (own_i2cr _) hg95
    refine own_g (own_F T95 m 170 #[iv i0, iv i1, iv i2, iv i3, iv i4, iv i5, iv v1, iv sl, iv att, iv sc, iv sb, iv sa, iv qc, iv nc, iv vc, iv ((i4 &&& (255 : Int32)).toUInt32.toUInt16.toUInt32.toInt32), .unset, .unset, .unset, .unset, .unset] [(.ref b91), (.ref b91)]) (fun _ z_ => XS.dup X95.here hx rfl (hb hby at_169) rfl rfl z_) ?_
    refine own_g (own_F T95 m 171 #[iv i0, iv i1, iv i2, iv i3, iv i4, iv i5, iv v1, iv sl, iv att, iv sc, iv sb, iv sa, iv qc, iv nc, iv vc, iv ((i4 &&& (255 : Int32)).toUInt32.toUInt16.toUInt32.toInt32), .unset, .unset, .unset, .unset, .unset] [(.int 4), (.ref b91), (.ref b91)]) (fun _ z_ => XS.iconst X95.here hx rfl (hb hby at_170) z_) ?_
    refine own_g (own_F T95 m 173 #[iv i0, iv i1, iv i2, iv i3, iv i4, iv i5, iv v1, iv sl, iv att, iv sc, iv sb, iv sa, iv qc, iv nc, iv vc, iv ((i4 &&& (255 : Int32)).toUInt32.toUInt16.toUInt32.toInt32), .unset, .unset, .unset, .unset, .unset] [(.int ((i4 &&& (255 : Int32)).toUInt32.toUInt16.toUInt32.toInt32)), (.int 4), (.ref b91), (.ref b91)]) (fun _ z_ => XS.iload X95.here hx rfl (hb hby at_171) rfl z_) ?_
    refine own_cast X95 hx hZ e95 A95 4 rfl (by decide) ((i4 &&& (255 : Int32)).toUInt32.toUInt16.toUInt32.toInt32) (own_narI' _) (hb hby at_173) ?_
    intro T96 h96 X96 e96 W96 A96
    have N96 := Fr.snoc X96 N95 ge_b91
    obtain ⟨g96, hg96⟩ : ∃ gq_ : Nat → Int32, gq_ = fun q_ => if q_ = 4 then ((i4 &&& (255 : Int32)).toUInt32.toUInt16.toUInt32.toInt32) else g95 q_ := ⟨_, rfl⟩
    have A96 : own_A Z h96 b91 .char 16 (fun q_ => .int (g96 q_)) := by rw [hg96]; exact A96
    show own_Ends p e below s _ _ _ (own_F T96 m 174 #[iv i0, iv i1, iv i2, iv i3, iv i4, iv i5, iv v1, iv sl, iv att, iv sc, iv sb, iv sa, iv qc, iv nc, iv vc, iv ((i4 &&& (255 : Int32)).toUInt32.toUInt16.toUInt32.toInt32), .unset, .unset, .unset, .unset, .unset] [(.ref b91)])
    have hfg96 := own_rng (n := 16) hfg95 (own_i2cr _) hg96
    refine own_g (own_F T96 m 175 #[iv i0, iv i1, iv i2, iv i3, iv i4, iv i5, iv v1, iv sl, iv att, iv sc, iv sb, iv sa, iv qc, iv nc, iv vc, iv ((i4 &&& (255 : Int32)).toUInt32.toUInt16.toUInt32.toInt32), .unset, .unset, .unset, .unset, .unset] [(.ref b91), (.ref b91)]) (fun _ z_ => XS.dup X96.here hx rfl (hb hby at_174) rfl rfl z_) ?_
    refine own_g (own_F T96 m 176 #[iv i0, iv i1, iv i2, iv i3, iv i4, iv i5, iv v1, iv sl, iv att, iv sc, iv sb, iv sa, iv qc, iv nc, iv vc, iv ((i4 &&& (255 : Int32)).toUInt32.toUInt16.toUInt32.toInt32), .unset, .unset, .unset, .unset, .unset] [(.int 5), (.ref b91), (.ref b91)]) (fun _ z_ => XS.iconst X96.here hx rfl (hb hby at_175) z_) ?_
    refine own_g (own_F T96 m 178 #[iv i0, iv i1, iv i2, iv i3, iv i4, iv i5, iv v1, iv sl, iv att, iv sc, iv sb, iv sa, iv qc, iv nc, iv vc, iv ((i4 &&& (255 : Int32)).toUInt32.toUInt16.toUInt32.toInt32), .unset, .unset, .unset, .unset, .unset] [(.int ((i4 &&& (255 : Int32)).toUInt32.toUInt16.toUInt32.toInt32)), (.int 5), (.ref b91), (.ref b91)]) (fun _ z_ => XS.iload X96.here hx rfl (hb hby at_176) rfl z_) ?_
    refine own_cast X96 hx hZ e96 A96 5 rfl (by decide) ((i4 &&& (255 : Int32)).toUInt32.toUInt16.toUInt32.toInt32) (own_narI' _) (hb hby at_178) ?_
    intro T97 h97 X97 e97 W97 A97
    have N97 := Fr.snoc X97 N96 ge_b91
    obtain ⟨g97, hg97⟩ : ∃ gq_ : Nat → Int32, gq_ = fun q_ => if q_ = 5 then ((i4 &&& (255 : Int32)).toUInt32.toUInt16.toUInt32.toInt32) else g96 q_ := ⟨_, rfl⟩
    have A97 : own_A Z h97 b91 .char 16 (fun q_ => .int (g97 q_)) := by rw [hg97]; exact A97
    show own_Ends p e below s _ _ _ (own_F T97 m 179 #[iv i0, iv i1, iv i2, iv i3, iv i4, iv i5, iv v1, iv sl, iv att, iv sc, iv sb, iv sa, iv qc, iv nc, iv vc, iv ((i4 &&& (255 : Int32)).toUInt32.toUInt16.toUInt32.toInt32), .unset, .unset, .unset, .unset, .unset] [(.ref b91)])
    have hfg97 := own_rng (n := 16) hfg96 (own_i2cr _) hg97
    refine own_g (own_F T97 m 180 #[iv i0, iv i1, iv i2, iv i3, iv i4, iv i5, iv v1, iv sl, iv att, iv sc, iv sb, iv sa, iv qc, iv nc, iv vc, iv ((i4 &&& (255 : Int32)).toUInt32.toUInt16.toUInt32.toInt32), .unset, .unset, .unset, .unset, .unset] [(.ref b91), (.ref b91)]) (fun _ z_ => XS.dup X97.here hx rfl (hb hby at_179) rfl rfl z_) ?_
    refine own_g (own_F T97 m 182 #[iv i0, iv i1, iv i2, iv i3, iv i4, iv i5, iv v1, iv sl, iv att, iv sc, iv sb, iv sa, iv qc, iv nc, iv vc, iv ((i4 &&& (255 : Int32)).toUInt32.toUInt16.toUInt32.toInt32), .unset, .unset, .unset, .unset, .unset] [(.int 6), (.ref b91), (.ref b91)]) (fun _ z_ => XS.bipush X97.here hx rfl (hb hby at_180) z_) ?_
    refine own_g (own_F T97 m 184 #[iv i0, iv i1, iv i2, iv i3, iv i4, iv i5, iv v1, iv sl, iv att, iv sc, iv sb, iv sa, iv qc, iv nc, iv vc, iv ((i4 &&& (255 : Int32)).toUInt32.toUInt16.toUInt32.toInt32), .unset, .unset, .unset, .unset, .unset] [(.int ((i4 &&& (255 : Int32)).toUInt32.toUInt16.toUInt32.toInt32)), (.int 6), (.ref b91), (.ref b91)]) (fun _ z_ => XS.iload X97.here hx rfl (hb hby at_182) rfl z_) ?_
    refine own_cast X97 hx hZ e97 A97 6 rfl (by decide) ((i4 &&& (255 : Int32)).toUInt32.toUInt16.toUInt32.toInt32) (own_narI' _) (hb hby at_184) ?_
    intro T98 h98 X98 e98 W98 A98
    have N98 := Fr.snoc X98 N97 ge_b91
    obtain ⟨g98, hg98⟩ : ∃ gq_ : Nat → Int32, gq_ = fun q_ => if q_ = 6 then ((i4 &&& (255 : Int32)).toUInt32.toUInt16.toUInt32.toInt32) else g97 q_ := ⟨_, rfl⟩
    have A98 : own_A Z h98 b91 .char 16 (fun q_ => .int (g98 q_)) := by rw [hg98]; exact A98
    show own_Ends p e below s _ _ _ (own_F T98 m 185 #[iv i0, iv i1, iv i2, iv i3, iv i4, iv i5, iv v1, iv sl, iv att, iv sc, iv sb, iv sa, iv qc, iv nc, iv vc, iv ((i4 &&& (255 : Int32)).toUInt32.toUInt16.toUInt32.toInt32), .unset, .unset, .unset, .unset, .unset] [(.ref b91)])
    have hfg98 := own_rng (n := 16) hfg97 (own_i2cr _) hg98
    refine own_g (own_F T98 m 186 #[iv i0, iv i1, iv i2, iv i3, iv i4, iv i5, iv v1, iv sl, iv att, iv sc, iv sb, iv sa, iv qc, iv nc, iv vc, iv ((i4 &&& (255 : Int32)).toUInt32.toUInt16.toUInt32.toInt32), .unset, .unset, .unset, .unset, .unset] [(.ref b91), (.ref b91)]) (fun _ z_ => XS.dup X98.here hx rfl (hb hby at_185) rfl rfl z_) ?_
    refine own_g (own_F T98 m 188 #[iv i0, iv i1, iv i2, iv i3, iv i4, iv i5, iv v1, iv sl, iv att, iv sc, iv sb, iv sa, iv qc, iv nc, iv vc, iv ((i4 &&& (255 : Int32)).toUInt32.toUInt16.toUInt32.toInt32), .unset, .unset, .unset, .unset, .unset] [(.int 7), (.ref b91), (.ref b91)]) (fun _ z_ => XS.bipush X98.here hx rfl (hb hby at_186) z_) ?_
    refine own_g (own_F T98 m 190 #[iv i0, iv i1, iv i2, iv i3, iv i4, iv i5, iv v1, iv sl, iv att, iv sc, iv sb, iv sa, iv qc, iv nc, iv vc, iv ((i4 &&& (255 : Int32)).toUInt32.toUInt16.toUInt32.toInt32), .unset, .unset, .unset, .unset, .unset] [(.int ((i4 &&& (255 : Int32)).toUInt32.toUInt16.toUInt32.toInt32)), (.int 7), (.ref b91), (.ref b91)]) (fun _ z_ => XS.iload X98.here hx rfl (hb hby at_188) rfl z_) ?_
    refine own_cast X98 hx hZ e98 A98 7 rfl (by decide) ((i4 &&& (255 : Int32)).toUInt32.toUInt16.toUInt32.toInt32) (own_narI' _) (hb hby at_190) ?_
    intro T99 h99 X99 e99 W99 A99
    have N99 := Fr.snoc X99 N98 ge_b91
    obtain ⟨g99, hg99⟩ : ∃ gq_ : Nat → Int32, gq_ = fun q_ => if q_ = 7 then ((i4 &&& (255 : Int32)).toUInt32.toUInt16.toUInt32.toInt32) else g98 q_ := ⟨_, rfl⟩
    have A99 : own_A Z h99 b91 .char 16 (fun q_ => .int (g99 q_)) := by rw [hg99]; exact A99
    show own_Ends p e below s _ _ _ (own_F T99 m 191 #[iv i0, iv i1, iv i2, iv i3, iv i4, iv i5, iv v1, iv sl, iv att, iv sc, iv sb, iv sa, iv qc, iv nc, iv vc, iv ((i4 &&& (255 : Int32)).toUInt32.toUInt16.toUInt32.toInt32), .unset, .unset, .unset, .unset, .unset] [(.ref b91)])
    have hfg99 := own_rng (n := 16) hfg98 (own_i2cr _) hg99
    refine own_g (own_F T99 m 192 #[iv i0, iv i1, iv i2, iv i3, iv i4, iv i5, iv v1, iv sl, iv att, iv sc, iv sb, iv sa, iv qc, iv nc, iv vc, iv ((i4 &&& (255 : Int32)).toUInt32.toUInt16.toUInt32.toInt32), .unset, .unset, .unset, .unset, .unset] [(.ref b91), (.ref b91)]) (fun _ z_ => XS.dup X99.here hx rfl (hb hby at_191) rfl rfl z_) ?_
    refine own_g (own_F T99 m 194 #[iv i0, iv i1, iv i2, iv i3, iv i4, iv i5, iv v1, iv sl, iv att, iv sc, iv sb, iv sa, iv qc, iv nc, iv vc, iv ((i4 &&& (255 : Int32)).toUInt32.toUInt16.toUInt32.toInt32), .unset, .unset, .unset, .unset, .unset] [(.int 8), (.ref b91), (.ref b91)]) (fun _ z_ => XS.bipush X99.here hx rfl (hb hby at_192) z_) ?_
    refine own_g (own_F T99 m 196 #[iv i0, iv i1, iv i2, iv i3, iv i4, iv i5, iv v1, iv sl, iv att, iv sc, iv sb, iv sa, iv qc, iv nc, iv vc, iv ((i4 &&& (255 : Int32)).toUInt32.toUInt16.toUInt32.toInt32), .unset, .unset, .unset, .unset, .unset] [(.int ((i4 &&& (255 : Int32)).toUInt32.toUInt16.toUInt32.toInt32)), (.int 8), (.ref b91), (.ref b91)]) (fun _ z_ => XS.iload X99.here hx rfl (hb hby at_194) rfl z_) ?_
    refine own_cast X99 hx hZ e99 A99 8 rfl (by decide) ((i4 &&& (255 : Int32)).toUInt32.toUInt16.toUInt32.toInt32) (own_narI' _) (hb hby at_196) ?_
    intro T100 h100 X100 e100 W100 A100
    have N100 := Fr.snoc X100 N99 ge_b91
    obtain ⟨g100, hg100⟩ : ∃ gq_ : Nat → Int32, gq_ = fun q_ => if q_ = 8 then ((i4 &&& (255 : Int32)).toUInt32.toUInt16.toUInt32.toInt32) else g99 q_ := ⟨_, rfl⟩
    have A100 : own_A Z h100 b91 .char 16 (fun q_ => .int (g100 q_)) := by rw [hg100]; exact A100
    show own_Ends p e below s _ _ _ (own_F T100 m 197 #[iv i0, iv i1, iv i2, iv i3, iv i4, iv i5, iv v1, iv sl, iv att, iv sc, iv sb, iv sa, iv qc, iv nc, iv vc, iv ((i4 &&& (255 : Int32)).toUInt32.toUInt16.toUInt32.toInt32), .unset, .unset, .unset, .unset, .unset] [(.ref b91)])
    have hfg100 := own_rng (n := 16) hfg99 (own_i2cr _) hg100
    refine own_g (own_F T100 m 198 #[iv i0, iv i1, iv i2, iv i3, iv i4, iv i5, iv v1, iv sl, iv att, iv sc, iv sb, iv sa, iv qc, iv nc, iv vc, iv ((i4 &&& (255 : Int32)).toUInt32.toUInt16.toUInt32.toInt32), .unset, .unset, .unset, .unset, .unset] [(.ref b91), (.ref b91)]) (fun _ z_ => XS.dup X100.here hx rfl (hb hby at_197) rfl rfl z_) ?_
    refine own_g (own_F T100 m 200 #[iv i0, iv i1, iv i2, iv i3, iv i4, iv i5, iv v1, iv sl, iv att, iv sc, iv sb, iv sa, iv qc, iv nc, iv vc, iv ((i4 &&& (255 : Int32)).toUInt32.toUInt16.toUInt32.toInt32), .unset, .unset, .unset, .unset, .unset] [(.int 9), (.ref b91), (.ref b91)]) (fun _ z_ => XS.bipush X100.here hx rfl (hb hby at_198) z_) ?_
    refine own_g (own_F T100 m 202 #[iv i0, iv i1, iv i2, iv i3, iv i4, iv i5, iv v1, iv sl, iv att, iv sc, iv sb, iv sa, iv qc, iv nc, iv vc, iv ((i4 &&& (255 : Int32)).toUInt32.toUInt16.toUInt32.toInt32), .unset, .unset, .unset, .unset, .unset] [(.int ((i4 &&& (255 : Int32)).toUInt32.toUInt16.toUInt32.toInt32)), (.int 9), (.ref b91), (.ref b91)]) (fun _ z_ => XS.iload X100.here hx rfl (hb hby at_200) rfl z_) ?_
    refine own_cast X100 hx hZ e100 A100 9 rfl (by decide) ((i4 &&& (255 : Int32)).toUInt32.toUInt16.toUInt32.toInt32) (own_narI' _) (hb hby at_202) ?_
    intro T101 h101 X101 e101 W101 A101
    have N101 := Fr.snoc X101 N100 ge_b91
    obtain ⟨g101, hg101⟩ : ∃ gq_ : Nat → Int32, gq_ = fun q_ => if q_ = 9 then ((i4 &&& (255 : Int32)).toUInt32.toUInt16.toUInt32.toInt32) else g100 q_ := ⟨_, rfl⟩
    have A101 : own_A Z h101 b91 .char 16 (fun q_ => .int (g101 q_)) := by rw [hg101]; exact A101
    show own_Ends p e below s _ _ _ (own_F T101 m 203 #[iv i0, iv i1, iv i2, iv i3, iv i4, iv i5, iv v1, iv sl, iv att, iv sc, iv sb, iv sa, iv qc, iv nc, iv vc, iv ((i4 &&& (255 : Int32)).toUInt32.toUInt16.toUInt32.toInt32), .unset, .unset, .unset, .unset, .unset] [(.ref b91)])
    have hfg101 := own_rng (n := 16) hfg100 (own_i2cr _) hg101
    refine own_g (own_F T101 m 204 #[iv i0, iv i1, iv i2, iv i3, iv i4, iv i5, iv v1, iv sl, iv att, iv sc, iv sb, iv sa, iv qc, iv nc, iv vc, iv ((i4 &&& (255 : Int32)).toUInt32.toUInt16.toUInt32.toInt32), .unset, .unset, .unset, .unset, .unset] [(.ref b91), (.ref b91)]) (fun _ z_ => XS.dup X101.here hx rfl (hb hby at_203) rfl rfl z_) ?_
    refine own_g (own_F T101 m 206 #[iv i0, iv i1, iv i2, iv i3, iv i4, iv i5, iv v1, iv sl, iv att, iv sc, iv sb, iv sa, iv qc, iv nc, iv vc, iv ((i4 &&& (255 : Int32)).toUInt32.toUInt16.toUInt32.toInt32), .unset, .unset, .unset, .unset, .unset] [(.int 10), (.ref b91), (.ref b91)]) (fun _ z_ => XS.bipush X101.here hx rfl (hb hby at_204) z_) ?_
    refine own_g (own_F T101 m 208 #[iv i0, iv i1, iv i2, iv i3, iv i4, iv i5, iv v1, iv sl, iv att, iv sc, iv sb, iv sa, iv qc, iv nc, iv vc, iv ((i4 &&& (255 : Int32)).toUInt32.toUInt16.toUInt32.toInt32), .unset, .unset, .unset, .unset, .unset] [(.int ((i4 &&& (255 : Int32)).toUInt32.toUInt16.toUInt32.toInt32)), (.int 10), (.ref b91), (.ref b91)]) (fun _ z_ => XS.iload X101.here hx rfl (hb hby at_206) rfl z_) ?_
    refine own_cast X101 hx hZ e101 A101 10 rfl (by decide) ((i4 &&& (255 : Int32)).toUInt32.toUInt16.toUInt32.toInt32) (own_narI' _) (hb hby at_208) ?_
    intro T102 h102 X102 e102 W102 A102
    have N102 := Fr.snoc X102 N101 ge_b91
    obtain ⟨g102, hg102⟩ : ∃ gq_ : Nat → Int32, gq_ = fun q_ => if q_ = 10 then ((i4 &&& (255 : Int32)).toUInt32.toUInt16.toUInt32.toInt32) else g101 q_ := ⟨_, rfl⟩
    have A102 : own_A Z h102 b91 .char 16 (fun q_ => .int (g102 q_)) := by rw [hg102]; exact A102
    show own_Ends p e below s _ _ _ (own_F T102 m 209 #[iv i0, iv i1, iv i2, iv i3, iv i4, iv i5, iv v1, iv sl, iv att, iv sc, iv sb, iv sa, iv qc, iv nc, iv vc, iv ((i4 &&& (255 : Int32)).toUInt32.toUInt16.toUInt32.toInt32), .unset, .unset, .unset, .unset, .unset] [(.ref b91)])
    have hfg102 := own_rng (n := 16) hfg101 (own_i2cr _) hg102
    refine own_g (own_F T102 m 210 #[iv i0, iv i1, iv i2, iv i3, iv i4, iv i5, iv v1, iv sl, iv att, iv sc, iv sb, iv sa, iv qc, iv nc, iv vc, iv ((i4 &&& (255 : Int32)).toUInt32.toUInt16.toUInt32.toInt32), .unset, .unset, .unset, .unset, .unset] [(.ref b91), (.ref b91)]) (fun _ z_ => XS.dup X102.here hx rfl (hb hby at_209) rfl rfl z_) ?_
    refine own_g (own_F T102 m 212 #[iv i0, iv i1, iv i2, iv i3, iv i4, iv i5, iv v1, iv sl, iv att, iv sc, iv sb, iv sa, iv qc, iv nc, iv vc, iv ((i4 &&& (255 : Int32)).toUInt32.toUInt16.toUInt32.toInt32), .unset, .unset, .unset, .unset, .unset] [(.int 11), (.ref b91), (.ref b91)]) (fun _ z_ => XS.bipush X102.here hx rfl (hb hby at_210) z_) ?_
    refine own_g (own_F T102 m 214 #[iv i0, iv i1, iv i2, iv i3, iv i4, iv i5, iv v1, iv sl, iv att, iv sc, iv sb, iv sa, iv qc, iv nc, iv vc, iv ((i4 &&& (255 : Int32)).toUInt32.toUInt16.toUInt32.toInt32), .unset, .unset, .unset, .unset, .unset] [(.int ((i4 &&& (255 : Int32)).toUInt32.toUInt16.toUInt32.toInt32)), (.int 11), (.ref b91), (.ref b91)]) (fun _ z_ => XS.iload X102.here hx rfl (hb hby at_212) rfl z_) ?_
    refine own_cast X102 hx hZ e102 A102 11 rfl (by decide) ((i4 &&& (255 : Int32)).toUInt32.toUInt16.toUInt32.toInt32) (own_narI' _) (hb hby at_214) ?_
    intro T103 h103 X103 e103 W103 A103
    have N103 := Fr.snoc X103 N102 ge_b91
    obtain ⟨g103, hg103⟩ : ∃ gq_ : Nat → Int32, gq_ = fun q_ => if q_ = 11 then ((i4 &&& (255 : Int32)).toUInt32.toUInt16.toUInt32.toInt32) else g102 q_ := ⟨_, rfl⟩
    have A103 : own_A Z h103 b91 .char 16 (fun q_ => .int (g103 q_)) := by rw [hg103]; exact A103
    show own_Ends p e below s _ _ _ (own_F T103 m 215 #[iv i0, iv i1, iv i2, iv i3, iv i4, iv i5, iv v1, iv sl, iv att, iv sc, iv sb, iv sa, iv qc, iv nc, iv vc, iv ((i4 &&& (255 : Int32)).toUInt32.toUInt16.toUInt32.toInt32), .unset, .unset, .unset, .unset, .unset] [(.ref b91)])
    have hfg103 := own_rng (n := 16) hfg102 (own_i2cr _) hg103
    refine own_g (own_F T103 m 216 #[iv i0, iv i1, iv i2, iv i3, iv i4, iv i5, iv v1, iv sl, iv att, iv sc, iv sb, iv sa, iv qc, iv nc, iv vc, iv ((i4 &&& (255 : Int32)).toUInt32.toUInt16.toUInt32.toInt32), .unset, .unset, .unset, .unset, .unset] [(.ref b91), (.ref b91)]) (fun _ z_ => XS.dup X103.here hx rfl (hb hby at_215) rfl rfl z_) ?_
    refine own_g (own_F T103 m 218 #[iv i0, iv i1, iv i2, iv i3, iv i4, iv i5, iv v1, iv sl, iv att, iv sc, iv sb, iv sa, iv qc, iv nc, iv vc, iv ((i4 &&& (255 : Int32)).toUInt32.toUInt16.toUInt32.toInt32), .unset, .unset, .unset, .unset, .unset] [(.int 12), (.ref b91), (.ref b91)]) (fun _ z_ => XS.bipush X103.here hx rfl (hb hby at_216) z_) ?_
    refine own_g (own_F T103 m 220 #[iv i0, iv i1, iv i2, iv i3, iv i4, iv i5, iv v1, iv sl, iv att, iv sc, iv sb, iv sa, iv qc, iv nc, iv vc, iv ((i4 &&& (255 : Int32)).toUInt32.toUInt16.toUInt32.toInt32), .unset, .unset, .unset, .unset, .unset] [(.int ((i4 &&& (255 : Int32)).toUInt32.toUInt16.toUInt32.toInt32)), (.int 12), (.ref b91), (.ref b91)]) (fun _ z_ => XS.iload X103.here hx rfl (hb hby at_218) rfl z_) ?_
    refine own_cast X103 hx hZ e103 A103 12 rfl (by decide) ((i4 &&& (255 : Int32)).toUInt32.toUInt16.toUInt32.toInt32) (own_narI' _) (hb hby at_220) ?_
    intro T104 h104 X104 e104 W104 A104
    have N104 := Fr.snoc X104 N103 ge_b91
    obtain ⟨g104, hg104⟩ : ∃ gq_ : Nat → Int32, gq_ = fun q_ => if q_ = 12 then ((i4 &&& (255 : Int32)).toUInt32.toUInt16.toUInt32.toInt32) else g103 q_ := ⟨_, rfl⟩
    have A104 : own_A Z h104 b91 .char 16 (fun q_ => .int (g104 q_)) := by rw [hg104]; exact A104
    show own_Ends p e below s _ _ _ (own_F T104 m 221 #[iv i0, iv i1, iv i2, iv i3, iv i4, iv i5, iv v1, iv sl, iv att, iv sc, iv sb, iv sa, iv qc, iv nc, iv vc, iv ((i4 &&& (255 : Int32)).toUInt32.toUInt16.toUInt32.toInt32), .unset, .unset, .unset, .unset, .unset] [(.ref b91)])
    have hfg104 := own_rng (n := 16) hfg103 (own_i2cr _) hg104
    refine own_g (own_F T104 m 222 #[iv i0, iv i1, iv i2, iv i3, iv i4, iv i5, iv v1, iv sl, iv att, iv sc, iv sb, iv sa, iv qc, iv nc, iv vc, iv ((i4 &&& (255 : Int32)).toUInt32.toUInt16.toUInt32.toInt32), .unset, .unset, .unset, .unset, .unset] [(.ref b91), (.ref b91)]) (fun _ z_ => XS.dup X104.here hx rfl (hb hby at_221) rfl rfl z_) ?_
    refine own_g (own_F T104 m 224 #[iv i0, iv i1, iv i2, iv i3, iv i4, iv i5, iv v1, iv sl, iv att, iv sc, iv sb, iv sa, iv qc, iv nc, iv vc, iv ((i4 &&& (255 : Int32)).toUInt32.toUInt16.toUInt32.toInt32), .unset, .unset, .unset, .unset, .unset] [(.int 13), (.ref b91), (.ref b91)]) (fun _ z_ => XS.bipush X104.here hx rfl (hb hby at_222) z_) ?_
    refine own_g (own_F T104 m 226 #[iv i0, iv i1, iv i2, iv i3, iv i4, iv i5, iv v1, iv sl, iv att, iv sc, iv sb, iv sa, iv qc, iv nc, iv vc, iv ((i4 &&& (255 : Int32)).toUInt32.toUInt16.toUInt32.toInt32), .unset, .unset, .unset, .unset, .unset] [(.int ((i4 &&& (255 : Int32)).toUInt32.toUInt16.toUInt32.toInt32)), (.int 13), (.ref b91), (.ref b91)]) (fun _ z_ => XS.iload X104.here hx rfl (hb hby at_224) rfl z_) ?_
    refine own_cast X104 hx hZ e104 A104 13 rfl (by decide) ((i4 &&& (255 : Int32)).toUInt32.toUInt16.toUInt32.toInt32) (own_narI' _) (hb hby at_226) ?_
    intro T105 h105 X105 e105 W105 A105
    have N105 := Fr.snoc X105 N104 ge_b91
    obtain ⟨g105, hg105⟩ : ∃ gq_ : Nat → Int32, gq_ = fun q_ => if q_ = 13 then ((i4 &&& (255 : Int32)).toUInt32.toUInt16.toUInt32.toInt32) else g104 q_ := ⟨_, rfl⟩
    have A105 : own_A Z h105 b91 .char 16 (fun q_ => .int (g105 q_)) := by rw [hg105]; exact A105
    show own_Ends p e below s _ _ _ (own_F T105 m 227 #[iv i0, iv i1, iv i2, iv i3, iv i4, iv i5, iv v1, iv sl, iv att, iv sc, iv sb, iv sa, iv qc, iv nc, iv vc, iv ((i4 &&& (255 : Int32)).toUInt32.toUInt16.toUInt32.toInt32), .unset, .unset, .unset, .unset, .unset] [(.ref b91)])
    have hfg105 := own_rng (n := 16) hfg104 (own_i2cr _) hg105
    refine own_g (own_F T105 m 228 #[iv i0, iv i1, iv i2, iv i3, iv i4, iv i5, iv v1, iv sl, iv att, iv sc, iv sb, iv sa, iv qc, iv nc, iv vc, iv ((i4 &&& (255 : Int32)).toUInt32.toUInt16.toUInt32.toInt32), .unset, .unset, .unset, .unset, .unset] [(.ref b91), (.ref b91)]) (fun _ z_ => XS.dup X105.here hx rfl (hb hby at_227) rfl rfl z_) ?_
    refine own_g (own_F T105 m 230 #[iv i0, iv i1, iv i2, iv i3, iv i4, iv i5, iv v1, iv sl, iv att, iv sc, iv sb, iv sa, iv qc, iv nc, iv vc, iv ((i4 &&& (255 : Int32)).toUInt32.toUInt16.toUInt32.toInt32), .unset, .unset, .unset, .unset, .unset] [(.int 14), (.ref b91), (.ref b91)]) (fun _ z_ => XS.bipush X105.here hx rfl (hb hby at_228) z_) ?_
    refine own_g (own_F T105 m 232 #[iv i0, iv i1, iv i2, iv i3, iv i4, iv i5, iv v1, iv sl, iv att, iv sc, iv sb, iv sa, iv qc, iv nc, iv vc, iv ((i4 &&& (255 : Int32)).toUInt32.toUInt16.toUInt32.toInt32), .unset, .unset, .unset, .unset, .unset] [(.int ((i4 &&& (255 : Int32)).toUInt32.toUInt16.toUInt32.toInt32)), (.int 14), (.ref b91), (.ref b91)]) (fun _ z_ => XS.iload X105.here hx rfl (hb hby at_230) rfl z_) ?_
    refine own_cast X105 hx hZ e105 A105 14 rfl (by decide) ((i4 &&& (255 : Int32)).toUInt32.toUInt16.toUInt32.toInt32) (own_narI' _) (hb hby at_232) ?_
    intro T106 h106 X106 e106 W106 A106
    have N106 := Fr.snoc X106 N105 ge_b91
    obtain ⟨g106, hg106⟩ : ∃ gq_ : Nat → Int32, gq_ = fun q_ => if q_ = 14 then ((i4 &&& (255 : Int32)).toUInt32.toUInt16.toUInt32.toInt32) else g105 q_ := ⟨_, rfl⟩
    have A106 : own_A Z h106 b91 .char 16 (fun q_ => .int (g106 q_)) := by rw [hg106]; exact A106
    show own_Ends p e below s _ _ _ (own_F T106 m 233 #[iv i0, iv i1, iv i2, iv i3, iv i4, iv i5, iv v1, iv sl, iv att, iv sc, iv sb, iv sa, iv qc, iv nc, iv vc, iv ((i4 &&& (255 : Int32)).toUInt32.toUInt16.toUInt32.toInt32), .unset, .unset, .unset, .unset, .unset] [(.ref b91)])
    have hfg106 := own_rng (n := 16) hfg105 (own_i2cr _) hg106
    refine own_g (own_F T106 m 234 #[iv i0, iv i1, iv i2, iv i3, iv i4, iv i5, iv v1, iv sl, iv att, iv sc, iv sb, iv sa, iv qc, iv nc, iv vc, iv ((i4 &&& (255 : Int32)).toUInt32.toUInt16.toUInt32.toInt32), .unset, .unset, .unset, .unset, .unset] [(.ref b91), (.ref b91)]) (fun _ z_ => XS.dup X106.here hx rfl (hb hby at_233) rfl rfl z_) ?_
    refine own_g (own_F T106 m 236 #[iv i0, iv i1, iv i2, iv i3, iv i4, iv i5, iv v1, iv sl, iv att, iv sc, iv sb, iv sa, iv qc, iv nc, iv vc, iv ((i4 &&& (255 : Int32)).toUInt32.toUInt16.toUInt32.toInt32), .unset, .unset, .unset, .unset, .unset] [(.int 15), (.ref b91), (.ref b91)]) (fun _ z_ => XS.bipush X106.here hx rfl (hb hby at_234) z_) ?_
    refine own_g (own_F T106 m 238 #[iv i0, iv i1, iv i2, iv i3, iv i4, iv i5, iv v1, iv sl, iv att, iv sc, iv sb, iv sa, iv qc, iv nc, iv vc, iv ((i4 &&& (255 : Int32)).toUInt32.toUInt16.toUInt32.toInt32), .unset, .unset, .unset, .unset, .unset] [(.int ((i4 &&& (255 : Int32)).toUInt32.toUInt16.toUInt32.toInt32)), (.int 15), (.ref b91), (.ref b91)]) (fun _ z_ => XS.iload X106.here hx rfl (hb hby at_236) rfl z_) ?_
    refine own_cast X106 hx hZ e106 A106 15 rfl (by decide) ((i4 &&& (255 : Int32)).toUInt32.toUInt16.toUInt32.toInt32) (own_narI' _) (hb hby at_238) ?_
    intro T107 h107 X107 e107 W107 A107
    have N107 := Fr.snoc X107 N106 ge_b91
    obtain ⟨g107, hg107⟩ : ∃ gq_ : Nat → Int32, gq_ = fun q_ => if q_ = 15 then ((i4 &&& (255 : Int32)).toUInt32.toUInt16.toUInt32.toInt32) else g106 q_ := ⟨_, rfl⟩
    have A107 : own_A Z h107 b91 .char 16 (fun q_ => .int (g107 q_)) := by rw [hg107]; exact A107
    show own_Ends p e below s _ _ _ (own_F T107 m 239 #[iv i0, iv i1, iv i2, iv i3, iv i4, iv i5, iv v1, iv sl, iv att, iv sc, iv sb, iv sa, iv qc, iv nc, iv vc, iv ((i4 &&& (255 : Int32)).toUInt32.toUInt16.toUInt32.toInt32), .unset, .unset, .unset, .unset, .unset] [(.ref b91)])
    have hfg107 := own_rng (n := 16) hfg106 (own_i2cr _) hg107
    refine own_g (own_F T107 m 241 #[iv i0, iv i1, iv i2, iv i3, iv i4, iv i5, iv v1, iv sl, iv att, iv sc, iv sb, iv sa, iv qc, iv nc, iv vc, iv ((i4 &&& (255 : Int32)).toUInt32.toUInt16.toUInt32.toInt32), rv b91, .unset, .unset, .unset, .unset] []) (fun _ z_ => XS.astore X107.here hx rfl (hb hby at_239) rfl rfl (l' := #[iv i0, iv i1, iv i2, iv i3, iv i4, iv i5, iv v1, iv sl, iv att, iv sc, iv sb, iv sa, iv qc, iv nc, iv vc, iv ((i4 &&& (255 : Int32)).toUInt32.toUInt16.toUInt32.toInt32), rv b91, .unset, .unset, .unset, .unset]) rfl z_) ?_
    exact J241 b91 g107 v1 sl qc nc vc ((i4 &&& (255 : Int32)).toUInt32.toUInt16.toUInt32.toInt32) att sc sb sa T107 _ _ s hZ hown X107 e107 N107 (Nat.le_trans (Nat.le_trans (Nat.le_trans (Nat.le_trans (Nat.le_trans (Nat.le_trans (Nat.le_trans (Nat.le_trans (Nat.le_trans (Nat.le_trans (Nat.le_trans (Nat.le_trans (Nat.le_trans (Nat.le_trans (Nat.le_trans (Nat.le_trans (Nat.le_trans zs90 E91.1) (Nat.le_of_eq W92.size.symm)) (Nat.le_of_eq W93.size.symm)) (Nat.le_of_eq W94.size.symm)) (Nat.le_of_eq W95.size.symm)) (Nat.le_of_eq W96.size.symm)) (Nat.le_of_eq W97.size.symm)) (Nat.le_of_eq W98.size.symm)) (Nat.le_of_eq W99.size.symm)) (Nat.le_of_eq W100.size.symm)) (Nat.le_of_eq W101.size.symm)) (Nat.le_of_eq W102.size.symm)) (Nat.le_of_eq W103.size.symm)) (Nat.le_of_eq W104.size.symm)) (Nat.le_of_eq W105.size.symm)) (Nat.le_of_eq W106.size.symm)) (Nat.le_of_eq W107.size.symm)) (Nat.le_trans (Nat.le_trans (Nat.le_trans (Nat.le_trans (Nat.le_trans (Nat.le_trans (Nat.le_trans (Nat.le_trans (Nat.le_trans (Nat.le_trans (Nat.le_trans (Nat.le_trans (Nat.le_trans (Nat.le_trans (Nat.le_trans (Nat.le_trans (Nat.le_trans zz90 E91.1) (Nat.le_of_eq W92.size.symm)) (Nat.le_of_eq W93.size.symm)) (Nat.le_of_eq W94.size.symm)) (Nat.le_of_eq W95.size.symm)) (Nat.le_of_eq W96.size.symm)) (Nat.le_of_eq W97.size.symm)) (Nat.le_of_eq W98.size.symm)) (Nat.le_of_eq W99.size.symm)) (Nat.le_of_eq W100.size.symm)) (Nat.le_of_eq W101.size.symm)) (Nat.le_of_eq W102.size.symm)) (Nat.le_of_eq W103.size.symm)) (Nat.le_of_eq W104.size.symm)) (Nat.le_of_eq W105.size.symm)) (Nat.le_of_eq W106.size.symm)) (Nat.le_of_eq W107.size.symm)) (((((((((((((((((K90.ext E91).wr W92 (Or.inr sz_b91)).wr W93 (Or.inr sz_b91)).wr W94 (Or.inr sz_b91)).wr W95 (Or.inr sz_b91)).wr W96 (Or.inr sz_b91)).wr W97 (Or.inr sz_b91)).wr W98 (Or.inr sz_b91)).wr W99 (Or.inr sz_b91)).wr W100 (Or.inr sz_b91)).wr W101 (Or.inr sz_b91)).wr W102 (Or.inr sz_b91)).wr W103 (Or.inr sz_b91)).wr W104 (Or.inr sz_b91)).wr W105 (Or.inr sz_b91)).wr W106 (Or.inr sz_b91)).wr W107 (Or.inr sz_b91)) A107 hfg107 ge_b91 sz_b91 hq hnc rnc hvc rvc h_v1 h_sl h_att h_sc h_sb h_sa
   refine own_g (own_F T89 m 113 #[iv i0, iv i1, iv i2, iv i3, iv i4, iv i5, iv v1, iv sl, iv att, iv sc, iv sb, iv sa, iv qc, iv nc, iv v0, .unset, .unset, .unset, .unset, .unset, .unset] [(.int v0)]) (fun _ z_ => XS.iload X89.here hx rfl (hb hby at_111) rfl z_) ?_
   refine own_g (own_F T89 m 115 #[iv i0, iv i1, iv i2, iv i3, iv i4, iv i5, iv v1, iv sl, iv att, iv sc, iv sb, iv sa, iv qc, iv nc, iv v0, .unset, .unset, .unset, .unset, .unset, .unset] [(.int qc), (.int v0)]) (fun _ z_ => XS.iload X89.here hx rfl (hb hby at_113) rfl z_) ?_
   by_cases c115 : v0 = qc
   · -- pc 115: v0 = qc
    refine own_g (own_F T89 m 132 #[iv i0, iv i1, iv i2, iv i3, iv i4, iv i5, iv v1, iv sl, iv att, iv sc, iv sb, iv sa, iv qc, iv nc, iv v0, .unset, .unset, .unset, .unset, .unset, .unset] []) (fun _ z_ => XS.icmpYes X89.here hx rfl (pc0 := 115) (pc' := 132) rfl (hb hby at_115) rfl (teq c115).1 (by decide) (by decide) z_) ?_
    refine own_g (own_F T89 m 134 #[iv i0, iv i1, iv i2, iv i3, iv i4, iv i5, iv v1, iv sl, iv att, iv sc, iv sb, iv sa, iv qc, iv nc, iv v0, .unset, .unset, .unset, .unset, .unset, .unset] [(.int 120)]) (fun _ z_ => XS.bipush X89.here hx rfl (hb hby at_132) z_) ?_
    refine own_g (own_F T89 m 136 #[iv i0, iv i1, iv i2, iv i3, iv i4, iv i5, iv v1, iv sl, iv att, iv sc, iv sb, iv sa, iv qc, iv nc, iv 120, .unset, .unset, .unset, .unset, .unset, .unset] []) (fun _ z_ => XS.istore X89.here hx rfl (hb hby at_134) rfl (l' := #[iv i0, iv i1, iv i2, iv i3, iv i4, iv i5, iv v1, iv sl, iv att, iv sc, iv sb, iv sa, iv qc, iv nc, iv 120, .unset, .unset, .unset, .unset, .unset, .unset]) rfl z_) ?_
    exact J136 (120 : Int32) T89 _ _ s hZ hown X89 hh89 N89 Z0 (Nat.le_refl h0.size) (Keep.refl _ _) (by rcases hq with rfl | rfl <;> decide) (by decide)
   · -- pc 115: not v0 = qc
    refine own_g (own_F T89 m 118 #[iv i0, iv i1, iv i2, iv i3, iv i4, iv i5, iv v1, iv sl, iv att, iv sc, iv sb, iv sa, iv qc, iv nc, iv v0, .unset, .unset, .unset, .unset, .unset, .unset] []) (fun _ z_ => XS.icmpNo X89.here hx rfl (hb hby at_115) rfl (feq c115).1 z_) ?_
    refine own_g (own_F T89 m 120 #[iv i0, iv i1, iv i2, iv i3, iv i4, iv i5, iv v1, iv sl, iv att, iv sc, iv sb, iv sa, iv qc, iv nc, iv v0, .unset, .unset, .unset, .unset, .unset, .unset] [(.int v0)]) (fun _ z_ => XS.iload X89.here hx rfl (hb hby at_118) rfl z_) ?_
    refine own_g (own_F T89 m 122 #[iv i0, iv i1, iv i2, iv i3, iv i4, iv i5, iv v1, iv sl, iv att, iv sc, iv sb, iv sa, iv qc, iv nc, iv v0, .unset, .unset, .unset, .unset, .unset, .unset] [(.int 60), (.int v0)]) (fun _ z_ => XS.bipush X89.here hx rfl (hb hby at_120) z_) ?_
    by_cases c122 : v0 = (60 : Int32)
    · -- pc 122: v0 = (60 : Int32)
     refine own_g (own_F T89 m 132 #[iv i0, iv i1, iv i2, iv i3, iv i4, iv i5, iv v1, iv sl, iv att, iv sc, iv sb, iv sa, iv qc, iv nc, iv v0, .unset, .unset, .unset, .unset, .unset, .unset] []) (fun _ z_ => XS.icmpYes X89.here hx rfl (pc0 := 122) (pc' := 132) rfl (hb hby at_122) rfl (teq c122).1 (by decide) (by decide) z_) ?_
     refine own_g (own_F T89 m 134 #[iv i0, iv i1, iv i2, iv i3, iv i4, iv i5, iv v1, iv sl, iv att, iv sc, iv sb, iv sa, iv qc, iv nc, iv v0, .unset, .unset, .unset, .unset, .unset, .unset] [(.int 120)]) (fun _ z_ => XS.bipush X89.here hx rfl (hb hby at_132) z_) ?_
     refine own_g (own_F T89 m 136 #[iv i0, iv i1, iv i2, iv i3, iv i4, iv i5, iv v1, iv sl, iv att, iv sc, iv sb, iv sa, iv qc, iv nc, iv 120, .unset, .unset, .unset, .unset, .unset, .unset] []) (fun _ z_ => XS.istore X89.here hx rfl (hb hby at_134) rfl (l' := #[iv i0, iv i1, iv i2, iv i3, iv i4, iv i5, iv v1, iv sl, iv att, iv sc, iv sb, iv sa, iv qc, iv nc, iv 120, .unset, .unset, .unset, .unset, .unset, .unset]) rfl z_) ?_
     exact J136 (120 : Int32) T89 _ _ s hZ hown X89 hh89 N89 Z0 (Nat.le_refl h0.size) (Keep.refl _ _) (by rcases hq with rfl | rfl <;> decide) (by decide)
    · -- pc 122: not v0 = (60 : Int32)
     refine own_g (own_F T89 m 125 #[iv i0, iv i1, iv i2, iv i3, iv i4, iv i5, iv v1, iv sl, iv att, iv sc, iv sb, iv sa, iv qc, iv nc, iv v0, .unset, .unset, .unset, .unset, .unset, .unset] []) (fun _ z_ => XS.icmpNo X89.here hx rfl (hb hby at_122) rfl (feq c122).1 z_) ?_
     refine own_g (own_F T89 m 127 #[iv i0, iv i1, iv i2, iv i3, iv i4, iv i5, iv v1, iv sl, iv att, iv sc, iv sb, iv sa, iv qc, iv nc, iv v0, .unset, .unset, .unset, .unset, .unset, .unset] [(.int v0)]) (fun _ z_ => XS.iload X89.here hx rfl (hb hby at_125) rfl z_) ?_
     refine own_g (own_F T89 m 129 #[iv i0, iv i1, iv i2, iv i3, iv i4, iv i5, iv v1, iv sl, iv att, iv sc, iv sb, iv sa, iv qc, iv nc, iv v0, .unset, .unset, .unset, .unset, .unset, .unset] [(.int 38), (.int v0)]) (fun _ z_ => XS.bipush X89.here hx rfl (hb hby at_127) z_) ?_
     by_cases c129 : v0 = (38 : Int32)
     · -- pc 129: v0 = (38 : Int32)
      refine own_g (own_F T89 m 132 #[iv i0, iv i1, iv i2, iv i3, iv i4, iv i5, iv v1, iv sl, iv att, iv sc, iv sb, iv sa, iv qc, iv nc, iv v0, .unset, .unset, .unset, .unset, .unset, .unset] []) (fun _ z_ => XS.icmpNo X89.here hx rfl (hb hby at_129) rfl (teq c129).2 z_) ?_
      refine own_g (own_F T89 m 134 #[iv i0, iv i1, iv i2, iv i3, iv i4, iv i5, iv v1, iv sl, iv att, iv sc, iv sb, iv sa, iv qc, iv nc, iv v0, .unset, .unset, .unset, .unset, .unset, .unset] [(.int 120)]) (fun _ z_ => XS.bipush X89.here hx rfl (hb hby at_132) z_) ?_
      refine own_g (own_F T89 m 136 #[iv i0, iv i1, iv i2, iv i3, iv i4, iv i5, iv v1, iv sl, iv att, iv sc, iv sb, iv sa, iv qc, iv nc, iv 120, .unset, .unset, .unset, .unset, .unset, .unset] []) (fun _ z_ => XS.istore X89.here hx rfl (hb hby at_134) rfl (l' := #[iv i0, iv i1, iv i2, iv i3, iv i4, iv i5, iv v1, iv sl, iv att, iv sc, iv sb, iv sa, iv qc, iv nc, iv 120, .unset, .unset, .unset, .unset, .unset, .unset]) rfl z_) ?_
      exact J136 (120 : Int32) T89 _ _ s hZ hown X89 hh89 N89 Z0 (Nat.le_refl h0.size) (Keep.refl _ _) (by rcases hq with rfl | rfl <;> decide) (by decide)
     · -- pc 129: not v0 = (38 : Int32)
      refine own_g (own_F T89 m 136 #[iv i0, iv i1, iv i2, iv i3, iv i4, iv i5, iv v1, iv sl, iv att, iv sc, iv sb, iv sa, iv qc, iv nc, iv v0, .unset, .unset, .unset, .unset, .unset, .unset] []) (fun _ z_ => XS.icmpYes X89.here hx rfl (pc0 := 129) (pc' := 136) rfl (hb hby at_129) rfl (feq c129).2 (by decide) (by decide) z_) ?_
      exact J136 v0 T89 _ _ s hZ hown X89 hh89 N89 Z0 (Nat.le_refl h0.size) (Keep.refl _ _) c115 rv0
  have F6 : ∀ (v1 : Int32) (sl : Int32) (att : Int32) (sc : Int32) (sb : Int32) (sa : Int32) (h_v1 : v1 = 0 ∨ v1 = 1) (h_sl : sl = 0 ∨ sl = 1) (h_att : att = 0 ∨ att = 1) (h_sc : sc = 0 ∨ sc = 1) (h_sb : sb = 0 ∨ sb = 1) (h_sa : sa = 0 ∨ sa = 1) , own_Ends p e below s ((fun v h L _ => v = some (.int 1) ∧ Fr n0 L), []) room_1.cells room_1.slots (own_F T0 m 81 #[iv i0, iv i1, iv i2, iv i3, iv i4, iv i5, iv v1, iv sl, iv att, iv sc, iv sb, iv sa, .unset, .unset, .unset, .unset, .unset, .unset, .unset, .unset, .unset] []) := by
   intro v1 sl att sc sb sa h_v1 h_sl h_att h_sc h_sb h_sa 
   refine own_g (own_F T0 m 82 #[iv i0, iv i1, iv i2, iv i3, iv i4, iv i5, iv v1, iv sl, iv att, iv sc, iv sb, iv sa, .unset, .unset, .unset, .unset, .unset, .unset, .unset, .unset, .unset] [(.int i0)]) (fun _ z_ => XS.iloadN X0.here hx rfl (hb hby at_81) rfl z_) ?_
   refine own_g (own_F T0 m 84 #[iv i0, iv i1, iv i2, iv i3, iv i4, iv i5, iv v1, iv sl, iv att, iv sc, iv sb, iv sa, .unset, .unset, .unset, .unset, .unset, .unset, .unset, .unset, .unset] [(.int 64), (.int i0)]) (fun _ z_ => XS.bipush X0.here hx rfl (hb hby at_82) z_) ?_
   refine own_g (own_F T0 m 85 #[iv i0, iv i1, iv i2, iv i3, iv i4, iv i5, iv v1, iv sl, iv att, iv sc, iv sb, iv sa, .unset, .unset, .unset, .unset, .unset, .unset, .unset, .unset, .unset] [(.int (i0 &&& (64 : Int32)))]) (fun _ z_ => XS.iand X0.here hx rfl (hb hby at_84) rfl z_) ?_
   by_cases c85 : (i0 &&& (64 : Int32)) = (0 : Int32)
   · -- pc 85: (i0 &&& (64 : Int32)) = (0 : Int32)
    refine own_g (own_F T0 m 93 #[iv i0, iv i1, iv i2, iv i3, iv i4, iv i5, iv v1, iv sl, iv att, iv sc, iv sb, iv sa, .unset, .unset, .unset, .unset, .unset, .unset, .unset, .unset, .unset] []) (fun _ z_ => XS.ifYes X0.here hx rfl (pc0 := 85) (pc' := 93) rfl (hb hby at_85) rfl ((if0 _ _).trans (teq c85).1) (by decide) (by decide) z_) ?_
    refine own_g (own_F T0 m 95 #[iv i0, iv i1, iv i2, iv i3, iv i4, iv i5, iv v1, iv sl, iv att, iv sc, iv sb, iv sa, .unset, .unset, .unset, .unset, .unset, .unset, .unset, .unset, .unset] [(.int 34)]) (fun _ z_ => XS.bipush X0.here hx rfl (hb hby at_93) z_) ?_
    refine own_g (own_F T0 m 97 #[iv i0, iv i1, iv i2, iv i3, iv i4, iv i5, iv v1, iv sl, iv att, iv sc, iv sb, iv sa, iv 34, .unset, .unset, .unset, .unset, .unset, .unset, .unset, .unset] []) (fun _ z_ => XS.istore X0.here hx rfl (hb hby at_95) rfl (l' := #[iv i0, iv i1, iv i2, iv i3, iv i4, iv i5, iv v1, iv sl, iv att, iv sc, iv sb, iv sa, iv 34, .unset, .unset, .unset, .unset, .unset, .unset, .unset, .unset]) rfl z_) ?_
    exact J97 v1 sl att sc sb sa h_v1 h_sl h_att h_sc h_sb h_sa (34 : Int32) (Or.inl rfl)
   · -- pc 85: not (i0 &&& (64 : Int32)) = (0 : Int32)
    refine own_g (own_F T0 m 88 #[iv i0, iv i1, iv i2, iv i3, iv i4, iv i5, iv v1, iv sl, iv att, iv sc, iv sb, iv sa, .unset, .unset, .unset, .unset, .unset, .unset, .unset, .unset, .unset] []) (fun _ z_ => XS.ifNo X0.here hx rfl (hb hby at_85) rfl ((if0 _ _).trans (feq c85).1) z_) ?_
    refine own_g (own_F T0 m 90 #[iv i0, iv i1, iv i2, iv i3, iv i4, iv i5, iv v1, iv sl, iv att, iv sc, iv sb, iv sa, .unset, .unset, .unset, .unset, .unset, .unset, .unset, .unset, .unset] [(.int 39)]) (fun _ z_ => XS.bipush X0.here hx rfl (hb hby at_88) z_) ?_
    refine own_g (own_F T0 m 95 #[iv i0, iv i1, iv i2, iv i3, iv i4, iv i5, iv v1, iv sl, iv att, iv sc, iv sb, iv sa, .unset, .unset, .unset, .unset, .unset, .unset, .unset, .unset, .unset] [(.int 39)]) (fun _ z_ => XS.goto X0.here hx rfl (pc0 := 90) (pc' := 95) rfl (hb hby at_90) (by decide) (by decide) z_) ?_
    refine own_g (own_F T0 m 97 #[iv i0, iv i1, iv i2, iv i3, iv i4, iv i5, iv v1, iv sl, iv att, iv sc, iv sb, iv sa, iv 39, .unset, .unset, .unset, .unset, .unset, .unset, .unset, .unset] []) (fun _ z_ => XS.istore X0.here hx rfl (hb hby at_95) rfl (l' := #[iv i0, iv i1, iv i2, iv i3, iv i4, iv i5, iv v1, iv sl, iv att, iv sc, iv sb, iv sa, iv 39, .unset, .unset, .unset, .unset, .unset, .unset, .unset, .unset]) rfl z_) ?_
    exact J97 v1 sl att sc sb sa h_v1 h_sl h_att h_sc h_sb h_sa (39 : Int32) (Or.inr rfl)
  have F5 : ∀ (v1 : Int32) (sl : Int32) (att : Int32) (sc : Int32) (sb : Int32) (h_v1 : v1 = 0 ∨ v1 = 1) (h_sl : sl = 0 ∨ sl = 1) (h_att : att = 0 ∨ att = 1) (h_sc : sc = 0 ∨ sc = 1) (h_sb : sb = 0 ∨ sb = 1) , own_Ends p e below s ((fun v h L _ => v = some (.int 1) ∧ Fr n0 L), []) room_1.cells room_1.slots (own_F T0 m 67 #[iv i0, iv i1, iv i2, iv i3, iv i4, iv i5, iv v1, iv sl, iv att, iv sc, iv sb, .unset, .unset, .unset, .unset, .unset, .unset, .unset, .unset, .unset, .unset] []) := by
   intro v1 sl att sc sb h_v1 h_sl h_att h_sc h_sb 
   refine own_g (own_F T0 m 68 #[iv i0, iv i1, iv i2, iv i3, iv i4, iv i5, iv v1, iv sl, iv att, iv sc, iv sb, .unset, .unset, .unset, .unset, .unset, .unset, .unset, .unset, .unset, .unset] [(.int i0)]) (fun _ z_ => XS.iloadN X0.here hx rfl (hb hby at_67) rfl z_) ?_
   refine own_g (own_F T0 m 70 #[iv i0, iv i1, iv i2, iv i3, iv i4, iv i5, iv v1, iv sl, iv att, iv sc, iv sb, .unset, .unset, .unset, .unset, .unset, .unset, .unset, .unset, .unset, .unset] [(.int 32), (.int i0)]) (fun _ z_ => XS.bipush X0.here hx rfl (hb hby at_68) z_) ?_
   refine own_g (own_F T0 m 71 #[iv i0, iv i1, iv i2, iv i3, iv i4, iv i5, iv v1, iv sl, iv att, iv sc, iv sb, .unset, .unset, .unset, .unset, .unset, .unset, .unset, .unset, .unset, .unset] [(.int (i0 &&& (32 : Int32)))]) (fun _ z_ => XS.iand X0.here hx rfl (hb hby at_70) rfl z_) ?_
   by_cases c71 : (i0 &&& (32 : Int32)) = (0 : Int32)
   · -- pc 71: (i0 &&& (32 : Int32)) = (0 : Int32)
    refine own_g (own_F T0 m 78 #[iv i0, iv i1, iv i2, iv i3, iv i4, iv i5, iv v1, iv sl, iv att, iv sc, iv sb, .unset, .unset, .unset, .unset, .unset, .unset, .unset, .unset, .unset, .unset] []) (fun _ z_ => XS.ifYes X0.here hx rfl (pc0 := 71) (pc' := 78) rfl (hb hby at_71) rfl ((if0 _ _).trans (teq c71).1) (by decide) (by decide) z_) ?_
    refine own_g (own_F T0 m 79 #[iv i0, iv i1, iv i2, iv i3, iv i4, iv i5, iv v1, iv sl, iv att, iv sc, iv sb, .unset, .unset, .unset, .unset, .unset, .unset, .unset, .unset, .unset, .unset] [(.int 0)]) (fun _ z_ => XS.iconst X0.here hx rfl (hb hby at_78) z_) ?_
    refine own_g (own_F T0 m 81 #[iv i0, iv i1, iv i2, iv i3, iv i4, iv i5, iv v1, iv sl, iv att, iv sc, iv sb, iv 0, .unset, .unset, .unset, .unset, .unset, .unset, .unset, .unset, .unset] []) (fun _ z_ => XS.istore X0.here hx rfl (hb hby at_79) rfl (l' := #[iv i0, iv i1, iv i2, iv i3, iv i4, iv i5, iv v1, iv sl, iv att, iv sc, iv sb, iv 0, .unset, .unset, .unset, .unset, .unset, .unset, .unset, .unset, .unset]) rfl z_) ?_
    exact F6 v1 sl att sc sb (0 : Int32) h_v1 h_sl h_att h_sc h_sb (Or.inl rfl)
   · -- pc 71: not (i0 &&& (32 : Int32)) = (0 : Int32)
    refine own_g (own_F T0 m 74 #[iv i0, iv i1, iv i2, iv i3, iv i4, iv i5, iv v1, iv sl, iv att, iv sc, iv sb, .unset, .unset, .unset, .unset, .unset, .unset, .unset, .unset, .unset, .unset] []) (fun _ z_ => XS.ifNo X0.here hx rfl (hb hby at_71) rfl ((if0 _ _).trans (feq c71).1) z_) ?_
    refine own_g (own_F T0 m 75 #[iv i0, iv i1, iv i2, iv i3, iv i4, iv i5, iv v1, iv sl, iv att, iv sc, iv sb, .unset, .unset, .unset, .unset, .unset, .unset, .unset, .unset, .unset, .unset] [(.int 1)]) (fun _ z_ => XS.iconst X0.here hx rfl (hb hby at_74) z_) ?_
    refine own_g (own_F T0 m 79 #[iv i0, iv i1, iv i2, iv i3, iv i4, iv i5, iv v1, iv sl, iv att, iv sc, iv sb, .unset, .unset, .unset, .unset, .unset, .unset, .unset, .unset, .unset, .unset] [(.int 1)]) (fun _ z_ => XS.goto X0.here hx rfl (pc0 := 75) (pc' := 79) rfl (hb hby at_75) (by decide) (by decide) z_) ?_
    refine own_g (own_F T0 m 81 #[iv i0, iv i1, iv i2, iv i3, iv i4, iv i5, iv v1, iv sl, iv att, iv sc, iv sb, iv 1, .unset, .unset, .unset, .unset, .unset, .unset, .unset, .unset, .unset] []) (fun _ z_ => XS.istore X0.here hx rfl (hb hby at_79) rfl (l' := #[iv i0, iv i1, iv i2, iv i3, iv i4, iv i5, iv v1, iv sl, iv att, iv sc, iv sb, iv 1, .unset, .unset, .unset, .unset, .unset, .unset, .unset, .unset, .unset]) rfl z_) ?_
    exact F6 v1 sl att sc sb (1 : Int32) h_v1 h_sl h_att h_sc h_sb (Or.inr rfl)
  have F4 : ∀ (v1 : Int32) (sl : Int32) (att : Int32) (sc : Int32) (h_v1 : v1 = 0 ∨ v1 = 1) (h_sl : sl = 0 ∨ sl = 1) (h_att : att = 0 ∨ att = 1) (h_sc : sc = 0 ∨ sc = 1) , own_Ends p e below s ((fun v h L _ => v = some (.int 1) ∧ Fr n0 L), []) room_1.cells room_1.slots (own_F T0 m 53 #[iv i0, iv i1, iv i2, iv i3, iv i4, iv i5, iv v1, iv sl, iv att, iv sc, .unset, .unset, .unset, .unset, .unset, .unset, .unset, .unset, .unset, .unset, .unset] []) := by
   intro v1 sl att sc h_v1 h_sl h_att h_sc 
   refine own_g (own_F T0 m 54 #[iv i0, iv i1, iv i2, iv i3, iv i4, iv i5, iv v1, iv sl, iv att, iv sc, .unset, .unset, .unset, .unset, .unset, .unset, .unset, .unset, .unset, .unset, .unset] [(.int i0)]) (fun _ z_ => XS.iloadN X0.here hx rfl (hb hby at_53) rfl z_) ?_
   refine own_g (own_F T0 m 56 #[iv i0, iv i1, iv i2, iv i3, iv i4, iv i5, iv v1, iv sl, iv att, iv sc, .unset, .unset, .unset, .unset, .unset, .unset, .unset, .unset, .unset, .unset, .unset] [(.int 16), (.int i0)]) (fun _ z_ => XS.bipush X0.here hx rfl (hb hby at_54) z_) ?_
   refine own_g (own_F T0 m 57 #[iv i0, iv i1, iv i2, iv i3, iv i4, iv i5, iv v1, iv sl, iv att, iv sc, .unset, .unset, .unset, .unset, .unset, .unset, .unset, .unset, .unset, .unset, .unset] [(.int (i0 &&& (16 : Int32)))]) (fun _ z_ => XS.iand X0.here hx rfl (hb hby at_56) rfl z_) ?_
   by_cases c57 : (i0 &&& (16 : Int32)) = (0 : Int32)
   · -- pc 57: (i0 &&& (16 : Int32)) = (0 : Int32)
    refine own_g (own_F T0 m 64 #[iv i0, iv i1, iv i2, iv i3, iv i4, iv i5, iv v1, iv sl, iv att, iv sc, .unset, .unset, .unset, .unset, .unset, .unset, .unset, .unset, .unset, .unset, .unset] []) (fun _ z_ => XS.ifYes X0.here hx rfl (pc0 := 57) (pc' := 64) rfl (hb hby at_57) rfl ((if0 _ _).trans (teq c57).1) (by decide) (by decide) z_) ?_
    refine own_g (own_F T0 m 65 #[iv i0, iv i1, iv i2, iv i3, iv i4, iv i5, iv v1, iv sl, iv att, iv sc, .unset, .unset, .unset, .unset, .unset, .unset, .unset, .unset, .unset, .unset, .unset] [(.int 0)]) (fun _ z_ => XS.iconst X0.here hx rfl (hb hby at_64) z_) ?_
    refine own_g (own_F T0 m 67 #[iv i0, iv i1, iv i2, iv i3, iv i4, iv i5, iv v1, iv sl, iv att, iv sc, iv 0, .unset, .unset, .unset, .unset, .unset, .unset, .unset, .unset, .unset, .unset] []) (fun _ z_ => XS.istore X0.here hx rfl (hb hby at_65) rfl (l' := #[iv i0, iv i1, iv i2, iv i3, iv i4, iv i5, iv v1, iv sl, iv att, iv sc, iv 0, .unset, .unset, .unset, .unset, .unset, .unset, .unset, .unset, .unset, .unset]) rfl z_) ?_
    exact F5 v1 sl att sc (0 : Int32) h_v1 h_sl h_att h_sc (Or.inl rfl)
   · -- pc 57: not (i0 &&& (16 : Int32)) = (0 : Int32)
    refine own_g (own_F T0 m 60 #[iv i0, iv i1, iv i2, iv i3, iv i4, iv i5, iv v1, iv sl, iv att, iv sc, .unset, .unset, .unset, .unset, .unset, .unset, .unset, .unset, .unset, .unset, .unset] []) (fun _ z_ => XS.ifNo X0.here hx rfl (hb hby at_57) rfl ((if0 _ _).trans (feq c57).1) z_) ?_
    refine own_g (own_F T0 m 61 #[iv i0, iv i1, iv i2, iv i3, iv i4, iv i5, iv v1, iv sl, iv att, iv sc, .unset, .unset, .unset, .unset, .unset, .unset, .unset, .unset, .unset, .unset, .unset] [(.int 1)]) (fun _ z_ => XS.iconst X0.here hx rfl (hb hby at_60) z_) ?_
    refine own_g (own_F T0 m 65 #[iv i0, iv i1, iv i2, iv i3, iv i4, iv i5, iv v1, iv sl, iv att, iv sc, .unset, .unset, .unset, .unset, .unset, .unset, .unset, .unset, .unset, .unset, .unset] [(.int 1)]) (fun _ z_ => XS.goto X0.here hx rfl (pc0 := 61) (pc' := 65) rfl (hb hby at_61) (by decide) (by decide) z_) ?_
    refine own_g (own_F T0 m 67 #[iv i0, iv i1, iv i2, iv i3, iv i4, iv i5, iv v1, iv sl, iv att, iv sc, iv 1, .unset, .unset, .unset, .unset, .unset, .unset, .unset, .unset, .unset, .unset] []) (fun _ z_ => XS.istore X0.here hx rfl (hb hby at_65) rfl (l' := #[iv i0, iv i1, iv i2, iv i3, iv i4, iv i5, iv v1, iv sl, iv att, iv sc, iv 1, .unset, .unset, .unset, .unset, .unset, .unset, .unset, .unset, .unset, .unset]) rfl z_) ?_
    exact F5 v1 sl att sc (1 : Int32) h_v1 h_sl h_att h_sc (Or.inr rfl)
  have F3 : ∀ (v1 : Int32) (sl : Int32) (att : Int32) (h_v1 : v1 = 0 ∨ v1 = 1) (h_sl : sl = 0 ∨ sl = 1) (h_att : att = 0 ∨ att = 1) , own_Ends p e below s ((fun v h L _ => v = some (.int 1) ∧ Fr n0 L), []) room_1.cells room_1.slots (own_F T0 m 39 #[iv i0, iv i1, iv i2, iv i3, iv i4, iv i5, iv v1, iv sl, iv att, .unset, .unset, .unset, .unset, .unset, .unset, .unset, .unset, .unset, .unset, .unset, .unset] []) := by
   intro v1 sl att h_v1 h_sl h_att 
   refine own_g (own_F T0 m 40 #[iv i0, iv i1, iv i2, iv i3, iv i4, iv i5, iv v1, iv sl, iv att, .unset, .unset, .unset, .unset, .unset, .unset, .unset, .unset, .unset, .unset, .unset, .unset] [(.int i0)]) (fun _ z_ => XS.iloadN X0.here hx rfl (hb hby at_39) rfl z_) ?_
   refine own_g (own_F T0 m 42 #[iv i0, iv i1, iv i2, iv i3, iv i4, iv i5, iv v1, iv sl, iv att, .unset, .unset, .unset, .unset, .unset, .unset, .unset, .unset, .unset, .unset, .unset, .unset] [(.int 8), (.int i0)]) (fun _ z_ => XS.bipush X0.here hx rfl (hb hby at_40) z_) ?_
   refine own_g (own_F T0 m 43 #[iv i0, iv i1, iv i2, iv i3, iv i4, iv i5, iv v1, iv sl, iv att, .unset, .unset, .unset, .unset, .unset, .unset, .unset, .unset, .unset, .unset, .unset, .unset] [(.int (i0 &&& (8 : Int32)))]) (fun _ z_ => XS.iand X0.here hx rfl (hb hby at_42) rfl z_) ?_
   by_cases c43 : (i0 &&& (8 : Int32)) = (0 : Int32)
   · -- pc 43: (i0 &&& (8 : Int32)) = (0 : Int32)
    refine own_g (own_F T0 m 50 #[iv i0, iv i1, iv i2, iv i3, iv i4, iv i5, iv v1, iv sl, iv att, .unset, .unset, .unset, .unset, .unset, .unset, .unset, .unset, .unset, .unset, .unset, .unset] []) (fun _ z_ => XS.ifYes X0.here hx rfl (pc0 := 43) (pc' := 50) rfl (hb hby at_43) rfl ((if0 _ _).trans (teq c43).1) (by decide) (by decide) z_) ?_
    refine own_g (own_F T0 m 51 #[iv i0, iv i1, iv i2, iv i3, iv i4, iv i5, iv v1, iv sl, iv att, .unset, .unset, .unset, .unset, .unset, .unset, .unset, .unset, .unset, .unset, .unset, .unset] [(.int 0)]) (fun _ z_ => XS.iconst X0.here hx rfl (hb hby at_50) z_) ?_
    refine own_g (own_F T0 m 53 #[iv i0, iv i1, iv i2, iv i3, iv i4, iv i5, iv v1, iv sl, iv att, iv 0, .unset, .unset, .unset, .unset, .unset, .unset, .unset, .unset, .unset, .unset, .unset] []) (fun _ z_ => XS.istore X0.here hx rfl (hb hby at_51) rfl (l' := #[iv i0, iv i1, iv i2, iv i3, iv i4, iv i5, iv v1, iv sl, iv att, iv 0, .unset, .unset, .unset, .unset, .unset, .unset, .unset, .unset, .unset, .unset, .unset]) rfl z_) ?_
    exact F4 v1 sl att (0 : Int32) h_v1 h_sl h_att (Or.inl rfl)
   · -- pc 43: not (i0 &&& (8 : Int32)) = (0 : Int32)
    refine own_g (own_F T0 m 46 #[iv i0, iv i1, iv i2, iv i3, iv i4, iv i5, iv v1, iv sl, iv att, .unset, .unset, .unset, .unset, .unset, .unset, .unset, .unset, .unset, .unset, .unset, .unset] []) (fun _ z_ => XS.ifNo X0.here hx rfl (hb hby at_43) rfl ((if0 _ _).trans (feq c43).1) z_) ?_
    refine own_g (own_F T0 m 47 #[iv i0, iv i1, iv i2, iv i3, iv i4, iv i5, iv v1, iv sl, iv att, .unset, .unset, .unset, .unset, .unset, .unset, .unset, .unset, .unset, .unset, .unset, .unset] [(.int 1)]) (fun _ z_ => XS.iconst X0.here hx rfl (hb hby at_46) z_) ?_
    refine own_g (own_F T0 m 51 #[iv i0, iv i1, iv i2, iv i3, iv i4, iv i5, iv v1, iv sl, iv att, .unset, .unset, .unset, .unset, .unset, .unset, .unset, .unset, .unset, .unset, .unset, .unset] [(.int 1)]) (fun _ z_ => XS.goto X0.here hx rfl (pc0 := 47) (pc' := 51) rfl (hb hby at_47) (by decide) (by decide) z_) ?_
    refine own_g (own_F T0 m 53 #[iv i0, iv i1, iv i2, iv i3, iv i4, iv i5, iv v1, iv sl, iv att, iv 1, .unset, .unset, .unset, .unset, .unset, .unset, .unset, .unset, .unset, .unset, .unset] []) (fun _ z_ => XS.istore X0.here hx rfl (hb hby at_51) rfl (l' := #[iv i0, iv i1, iv i2, iv i3, iv i4, iv i5, iv v1, iv sl, iv att, iv 1, .unset, .unset, .unset, .unset, .unset, .unset, .unset, .unset, .unset, .unset, .unset]) rfl z_) ?_
    exact F4 v1 sl att (1 : Int32) h_v1 h_sl h_att (Or.inr rfl)
  have F2 : ∀ (v1 : Int32) (sl : Int32) (h_v1 : v1 = 0 ∨ v1 = 1) (h_sl : sl = 0 ∨ sl = 1) , own_Ends p e below s ((fun v h L _ => v = some (.int 1) ∧ Fr n0 L), []) room_1.cells room_1.slots (own_F T0 m 26 #[iv i0, iv i1, iv i2, iv i3, iv i4, iv i5, iv v1, iv sl, .unset, .unset, .unset, .unset, .unset, .unset, .unset, .unset, .unset, .unset, .unset, .unset, .unset] []) := by
   intro v1 sl h_v1 h_sl 
   refine own_g (own_F T0 m 27 #[iv i0, iv i1, iv i2, iv i3, iv i4, iv i5, iv v1, iv sl, .unset, .unset, .unset, .unset, .unset, .unset, .unset, .unset, .unset, .unset, .unset, .unset, .unset] [(.int i0)]) (fun _ z_ => XS.iloadN X0.here hx rfl (hb hby at_26) rfl z_) ?_
   refine own_g (own_F T0 m 28 #[iv i0, iv i1, iv i2, iv i3, iv i4, iv i5, iv v1, iv sl, .unset, .unset, .unset, .unset, .unset, .unset, .unset, .unset, .unset, .unset, .unset, .unset, .unset] [(.int 4), (.int i0)]) (fun _ z_ => XS.iconst X0.here hx rfl (hb hby at_27) z_) ?_
   refine own_g (own_F T0 m 29 #[iv i0, iv i1, iv i2, iv i3, iv i4, iv i5, iv v1, iv sl, .unset, .unset, .unset, .unset, .unset, .unset, .unset, .unset, .unset, .unset, .unset, .unset, .unset] [(.int (i0 &&& (4 : Int32)))]) (fun _ z_ => XS.iand X0.here hx rfl (hb hby at_28) rfl z_) ?_
   by_cases c29 : (i0 &&& (4 : Int32)) = (0 : Int32)
   · -- pc 29: (i0 &&& (4 : Int32)) = (0 : Int32)
    refine own_g (own_F T0 m 36 #[iv i0, iv i1, iv i2, iv i3, iv i4, iv i5, iv v1, iv sl, .unset, .unset, .unset, .unset, .unset, .unset, .unset, .unset, .unset, .unset, .unset, .unset, .unset] []) (fun _ z_ => XS.ifYes X0.here hx rfl (pc0 := 29) (pc' := 36) rfl (hb hby at_29) rfl ((if0 _ _).trans (teq c29).1) (by decide) (by decide) z_) ?_
    refine own_g (own_F T0 m 37 #[iv i0, iv i1, iv i2, iv i3, iv i4, iv i5, iv v1, iv sl, .unset, .unset, .unset, .unset, .unset, .unset, .unset, .unset, .unset, .unset, .unset, .unset, .unset] [(.int 0)]) (fun _ z_ => XS.iconst X0.here hx rfl (hb hby at_36) z_) ?_
    refine own_g (own_F T0 m 39 #[iv i0, iv i1, iv i2, iv i3, iv i4, iv i5, iv v1, iv sl, iv 0, .unset, .unset, .unset, .unset, .unset, .unset, .unset, .unset, .unset, .unset, .unset, .unset] []) (fun _ z_ => XS.istore X0.here hx rfl (hb hby at_37) rfl (l' := #[iv i0, iv i1, iv i2, iv i3, iv i4, iv i5, iv v1, iv sl, iv 0, .unset, .unset, .unset, .unset, .unset, .unset, .unset, .unset, .unset, .unset, .unset, .unset]) rfl z_) ?_
    exact F3 v1 sl (0 : Int32) h_v1 h_sl (Or.inl rfl)
   · -- pc 29: not (i0 &&& (4 : Int32)) = (0 : Int32)
    refine own_g (own_F T0 m 32 #[iv i0, iv i1, iv i2, iv i3, iv i4, iv i5, iv v1, iv sl, .unset, .unset, .unset, .unset, .unset, .unset, .unset, .unset, .unset, .unset, .unset, .unset, .unset] []) (fun _ z_ => XS.ifNo X0.here hx rfl (hb hby at_29) rfl ((if0 _ _).trans (feq c29).1) z_) ?_
    refine own_g (own_F T0 m 33 #[iv i0, iv i1, iv i2, iv i3, iv i4, iv i5, iv v1, iv sl, .unset, .unset, .unset, .unset, .unset, .unset, .unset, .unset, .unset, .unset, .unset, .unset, .unset] [(.int 1)]) (fun _ z_ => XS.iconst X0.here hx rfl (hb hby at_32) z_) ?_
    refine own_g (own_F T0 m 37 #[iv i0, iv i1, iv i2, iv i3, iv i4, iv i5, iv v1, iv sl, .unset, .unset, .unset, .unset, .unset, .unset, .unset, .unset, .unset, .unset, .unset, .unset, .unset] [(.int 1)]) (fun _ z_ => XS.goto X0.here hx rfl (pc0 := 33) (pc' := 37) rfl (hb hby at_33) (by decide) (by decide) z_) ?_
    refine own_g (own_F T0 m 39 #[iv i0, iv i1, iv i2, iv i3, iv i4, iv i5, iv v1, iv sl, iv 1, .unset, .unset, .unset, .unset, .unset, .unset, .unset, .unset, .unset, .unset, .unset, .unset] []) (fun _ z_ => XS.istore X0.here hx rfl (hb hby at_37) rfl (l' := #[iv i0, iv i1, iv i2, iv i3, iv i4, iv i5, iv v1, iv sl, iv 1, .unset, .unset, .unset, .unset, .unset, .unset, .unset, .unset, .unset, .unset, .unset, .unset]) rfl z_) ?_
    exact F3 v1 sl (1 : Int32) h_v1 h_sl (Or.inr rfl)
  have F1 : ∀ (v1 : Int32) (h_v1 : v1 = 0 ∨ v1 = 1) , own_Ends p e below s ((fun v h L _ => v = some (.int 1) ∧ Fr n0 L), []) room_1.cells room_1.slots (own_F T0 m 13 #[iv i0, iv i1, iv i2, iv i3, iv i4, iv i5, iv v1, .unset, .unset, .unset, .unset, .unset, .unset, .unset, .unset, .unset, .unset, .unset, .unset, .unset, .unset] []) := by
   intro v1 h_v1 
   refine own_g (own_F T0 m 14 #[iv i0, iv i1, iv i2, iv i3, iv i4, iv i5, iv v1, .unset, .unset, .unset, .unset, .unset, .unset, .unset, .unset, .unset, .unset, .unset, .unset, .unset, .unset] [(.int i0)]) (fun _ z_ => XS.iloadN X0.here hx rfl (hb hby at_13) rfl z_) ?_
   refine own_g (own_F T0 m 15 #[iv i0, iv i1, iv i2, iv i3, iv i4, iv i5, iv v1, .unset, .unset, .unset, .unset, .unset, .unset, .unset, .unset, .unset, .unset, .unset, .unset, .unset, .unset] [(.int 2), (.int i0)]) (fun _ z_ => XS.iconst X0.here hx rfl (hb hby at_14) z_) ?_
   refine own_g (own_F T0 m 16 #[iv i0, iv i1, iv i2, iv i3, iv i4, iv i5, iv v1, .unset, .unset, .unset, .unset, .unset, .unset, .unset, .unset, .unset, .unset, .unset, .unset, .unset, .unset] [(.int (i0 &&& (2 : Int32)))]) (fun _ z_ => XS.iand X0.here hx rfl (hb hby at_15) rfl z_) ?_
   by_cases c16 : (i0 &&& (2 : Int32)) = (0 : Int32)
   · -- pc 16: (i0 &&& (2 : Int32)) = (0 : Int32)
    refine own_g (own_F T0 m 23 #[iv i0, iv i1, iv i2, iv i3, iv i4, iv i5, iv v1, .unset, .unset, .unset, .unset, .unset, .unset, .unset, .unset, .unset, .unset, .unset, .unset, .unset, .unset] []) (fun _ z_ => XS.ifYes X0.here hx rfl (pc0 := 16) (pc' := 23) rfl (hb hby at_16) rfl ((if0 _ _).trans (teq c16).1) (by decide) (by decide) z_) ?_
    refine own_g (own_F T0 m 24 #[iv i0, iv i1, iv i2, iv i3, iv i4, iv i5, iv v1, .unset, .unset, .unset, .unset, .unset, .unset, .unset, .unset, .unset, .unset, .unset, .unset, .unset, .unset] [(.int 0)]) (fun _ z_ => XS.iconst X0.here hx rfl (hb hby at_23) z_) ?_
    refine own_g (own_F T0 m 26 #[iv i0, iv i1, iv i2, iv i3, iv i4, iv i5, iv v1, iv 0, .unset, .unset, .unset, .unset, .unset, .unset, .unset, .unset, .unset, .unset, .unset, .unset, .unset] []) (fun _ z_ => XS.istore X0.here hx rfl (hb hby at_24) rfl (l' := #[iv i0, iv i1, iv i2, iv i3, iv i4, iv i5, iv v1, iv 0, .unset, .unset, .unset, .unset, .unset, .unset, .unset, .unset, .unset, .unset, .unset, .unset, .unset]) rfl z_) ?_
    exact F2 v1 (0 : Int32) h_v1 (Or.inl rfl)
   · -- pc 16: not (i0 &&& (2 : Int32)) = (0 : Int32)
    refine own_g (own_F T0 m 19 #[iv i0, iv i1, iv i2, iv i3, iv i4, iv i5, iv v1, .unset, .unset, .unset, .unset, .unset, .unset, .unset, .unset, .unset, .unset, .unset, .unset, .unset, .unset] []) (fun _ z_ => XS.ifNo X0.here hx rfl (hb hby at_16) rfl ((if0 _ _).trans (feq c16).1) z_) ?_
    refine own_g (own_F T0 m 20 #[iv i0, iv i1, iv i2, iv i3, iv i4, iv i5, iv v1, .unset, .unset, .unset, .unset, .unset, .unset, .unset, .unset, .unset, .unset, .unset, .unset, .unset, .unset] [(.int 1)]) (fun _ z_ => XS.iconst X0.here hx rfl (hb hby at_19) z_) ?_
    refine own_g (own_F T0 m 24 #[iv i0, iv i1, iv i2, iv i3, iv i4, iv i5, iv v1, .unset, .unset, .unset, .unset, .unset, .unset, .unset, .unset, .unset, .unset, .unset, .unset, .unset, .unset] [(.int 1)]) (fun _ z_ => XS.goto X0.here hx rfl (pc0 := 20) (pc' := 24) rfl (hb hby at_20) (by decide) (by decide) z_) ?_
    refine own_g (own_F T0 m 26 #[iv i0, iv i1, iv i2, iv i3, iv i4, iv i5, iv v1, iv 1, .unset, .unset, .unset, .unset, .unset, .unset, .unset, .unset, .unset, .unset, .unset, .unset, .unset] []) (fun _ z_ => XS.istore X0.here hx rfl (hb hby at_24) rfl (l' := #[iv i0, iv i1, iv i2, iv i3, iv i4, iv i5, iv v1, iv 1, .unset, .unset, .unset, .unset, .unset, .unset, .unset, .unset, .unset, .unset, .unset, .unset, .unset]) rfl z_) ?_
    exact F2 v1 (1 : Int32) h_v1 (Or.inr rfl)
  refine own_g (own_F T0 m 1 #[iv i0, iv i1, iv i2, iv i3, iv i4, iv i5, .unset, .unset, .unset, .unset, .unset, .unset, .unset, .unset, .unset, .unset, .unset, .unset, .unset, .unset, .unset] [(.int i0)]) (fun _ z_ => XS.iloadN X0.here hx rfl (hb hby at_0) rfl z_) ?_
  refine own_g (own_F T0 m 2 #[iv i0, iv i1, iv i2, iv i3, iv i4, iv i5, .unset, .unset, .unset, .unset, .unset, .unset, .unset, .unset, .unset, .unset, .unset, .unset, .unset, .unset, .unset] [(.int 1), (.int i0)]) (fun _ z_ => XS.iconst X0.here hx rfl (hb hby at_1) z_) ?_
  refine own_g (own_F T0 m 3 #[iv i0, iv i1, iv i2, iv i3, iv i4, iv i5, .unset, .unset, .unset, .unset, .unset, .unset, .unset, .unset, .unset, .unset, .unset, .unset, .unset, .unset, .unset] [(.int (i0 &&& (1 : Int32)))]) (fun _ z_ => XS.iand X0.here hx rfl (hb hby at_2) rfl z_) ?_
  by_cases c3 : (i0 &&& (1 : Int32)) = (0 : Int32)
  · -- pc 3: (i0 &&& (1 : Int32)) = (0 : Int32)
   refine own_g (own_F T0 m 10 #[iv i0, iv i1, iv i2, iv i3, iv i4, iv i5, .unset, .unset, .unset, .unset, .unset, .unset, .unset, .unset, .unset, .unset, .unset, .unset, .unset, .unset, .unset] []) (fun _ z_ => XS.ifYes X0.here hx rfl (pc0 := 3) (pc' := 10) rfl (hb hby at_3) rfl ((if0 _ _).trans (teq c3).1) (by decide) (by decide) z_) ?_
   refine own_g (own_F T0 m 11 #[iv i0, iv i1, iv i2, iv i3, iv i4, iv i5, .unset, .unset, .unset, .unset, .unset, .unset, .unset, .unset, .unset, .unset, .unset, .unset, .unset, .unset, .unset] [(.int 0)]) (fun _ z_ => XS.iconst X0.here hx rfl (hb hby at_10) z_) ?_
   refine own_g (own_F T0 m 13 #[iv i0, iv i1, iv i2, iv i3, iv i4, iv i5, iv 0, .unset, .unset, .unset, .unset, .unset, .unset, .unset, .unset, .unset, .unset, .unset, .unset, .unset, .unset] []) (fun _ z_ => XS.istore X0.here hx rfl (hb hby at_11) rfl (l' := #[iv i0, iv i1, iv i2, iv i3, iv i4, iv i5, iv 0, .unset, .unset, .unset, .unset, .unset, .unset, .unset, .unset, .unset, .unset, .unset, .unset, .unset, .unset]) rfl z_) ?_
   exact F1 (0 : Int32) (Or.inl rfl)
  · -- pc 3: not (i0 &&& (1 : Int32)) = (0 : Int32)
   refine own_g (own_F T0 m 6 #[iv i0, iv i1, iv i2, iv i3, iv i4, iv i5, .unset, .unset, .unset, .unset, .unset, .unset, .unset, .unset, .unset, .unset, .unset, .unset, .unset, .unset, .unset] []) (fun _ z_ => XS.ifNo X0.here hx rfl (hb hby at_3) rfl ((if0 _ _).trans (feq c3).1) z_) ?_
   refine own_g (own_F T0 m 7 #[iv i0, iv i1, iv i2, iv i3, iv i4, iv i5, .unset, .unset, .unset, .unset, .unset, .unset, .unset, .unset, .unset, .unset, .unset, .unset, .unset, .unset, .unset] [(.int 1)]) (fun _ z_ => XS.iconst X0.here hx rfl (hb hby at_6) z_) ?_
   refine own_g (own_F T0 m 11 #[iv i0, iv i1, iv i2, iv i3, iv i4, iv i5, .unset, .unset, .unset, .unset, .unset, .unset, .unset, .unset, .unset, .unset, .unset, .unset, .unset, .unset, .unset] [(.int 1)]) (fun _ z_ => XS.goto X0.here hx rfl (pc0 := 7) (pc' := 11) rfl (hb hby at_7) (by decide) (by decide) z_) ?_
   refine own_g (own_F T0 m 13 #[iv i0, iv i1, iv i2, iv i3, iv i4, iv i5, iv 1, .unset, .unset, .unset, .unset, .unset, .unset, .unset, .unset, .unset, .unset, .unset, .unset, .unset, .unset] []) (fun _ z_ => XS.istore X0.here hx rfl (hb hby at_11) rfl (l' := #[iv i0, iv i1, iv i2, iv i3, iv i4, iv i5, iv 1, .unset, .unset, .unset, .unset, .unset, .unset, .unset, .unset, .unset, .unset, .unset, .unset, .unset, .unset]) rfl z_) ?_
   exact F1 (1 : Int32) (Or.inr rfl)
set_option maxRecDepth 65536 in
set_option maxHeartbeats 40000000 in
theorem comes_1 {Post : Tables → Env → Array Value → State → Outcome → State → Prop} (hpost : ∀ tb e args s v u, (limb_1_1.after args s (.returned v) u = true ∧ limb_1_2.after args s (.returned v) u = true ∧ True) → FramedW s (.returned v) u (Jvm.fieldLocs frame_1_writes args s ++ Jvm.arrayLocs frame_1_arrays args s ++ Jvm.staticLocs frame_1_statics s) 24 1280 → Post tb e args s (.returned v) u) :
    ArmFor flags0 classFile x code maxLocals ret World_1 tables_1 room_1 Calls_1 rest_1 Pre_1 Post := by
  intro l hfl _ _ p e ha hc hk s m args below hf hA hF happ hP
  obtain ⟨hcalls, hrest, hpre⟩ := hP
  obtain ⟨-, -, -, hnamed, -, -, -, hat⟩ := (Spec.applies_iff hf).mp happ
  obtain ⟨hg, hn⟩ := and_e (Cond.before_iff.mp (show (Jvm.Cond.and given_1 narrow_1).before args s = true from hpre))
  obtain ⟨hcount, hgg⟩ := and_e hg
  obtain ⟨hk0, hgg0⟩ := and_e hgg
  obtain ⟨hk1, hgg1⟩ := and_e hgg0
  obtain ⟨hk2, hgg2⟩ := and_e hgg1
  obtain ⟨hk3, hgg3⟩ := and_e hgg2
  obtain ⟨hk4, hk5⟩ := and_e hgg3
  obtain ⟨w0, w1, w2, w3, w4, w5, rfl⟩ : ∃ w0 w1 w2 w3 w4 w5 : Value, args = #[w0, w1, w2, w3, w4, w5] := by
    have hs : args.size = 6 := by simpa [Cond.value, given_1] using hcount
    obtain ⟨L⟩ := args
    match L, hs with
    | [w0, w1, w2, w3, w4, w5], _ => exact ⟨w0, w1, w2, w3, w4, w5, rfl⟩
  have hw := fun d (hd : d ∈ tables_1) => atoms_spec (ws := Jvm.Cond.code x code maxLocals ret :: tables_1) hat d (List.mem_cons_of_mem _ hd)
  have hfit : Fit s := fun {y c} hc i hi => by
    obtain ⟨ha, rfl⟩ := Array.getElem?_eq_some_iff.mp hc
    have q := List.all_eq_true.mp ((Array.all_eq_true_iff_forall_mem.mp hF) _ (Array.getElem_mem ha)) i (List.mem_range.mpr hi)
    simpa [Array.getElem?_eq_getElem hi] using q
  obtain ⟨i0, ei0⟩ := is_v hk0
  obtain rfl : w0 = (.int i0) := Option.some.inj ei0
  obtain ⟨i1, ei1⟩ := is_v hk1
  obtain rfl : w1 = (.int i1) := Option.some.inj ei1
  obtain ⟨i2, ei2⟩ := is_v hk2
  obtain rfl : w2 = (.int i2) := Option.some.inj ei2
  obtain ⟨i3, ei3⟩ := is_v hk3
  obtain rfl : w3 = (.int i3) := Option.some.inj ei3
  obtain ⟨i4, ei4⟩ := is_v hk4
  obtain rfl : w4 = (.int i4) := Option.some.inj ei4
  obtain ⟨i5, ei5⟩ := is_v hk5
  obtain rfl : w5 = (.int i5) := Option.some.inj ei5
  obtain ⟨hn0, hr0⟩ := and_e hn
  obtain ⟨hn1, hr1⟩ := and_e hr0
  obtain ⟨hn2, hn3⟩ := and_e hr1
  obtain ⟨a_XML_1_0, ev_XML_1_0⟩ := exa_v hn0
  have S_XML_1_0 : Sta s s.heap "com/example/cadmus/cadmus/XmlVersion" "XML_1_0" "Lcom/example/cadmus/cadmus/XmlVersion;" (.ref a_XML_1_0) := Sta.start ev_XML_1_0 (Or.inr ⟨(own_w hw 6), (own_w hw 7)⟩)
  have E_XML_1_0 : Exa s s.heap a_XML_1_0 "com/example/cadmus/cadmus/XmlVersion" := Exa.start ev_XML_1_0 hn0
  obtain ⟨a_XML_1_1, ev_XML_1_1⟩ := exa_v hn1
  have S_XML_1_1 : Sta s s.heap "com/example/cadmus/cadmus/XmlVersion" "XML_1_1" "Lcom/example/cadmus/cadmus/XmlVersion;" (.ref a_XML_1_1) := Sta.start ev_XML_1_1 (Or.inr ⟨(own_w hw 6), (own_w hw 90)⟩)
  have E_XML_1_1 : Exa s s.heap a_XML_1_1 "com/example/cadmus/cadmus/XmlVersion" := Exa.start ev_XML_1_1 hn1
  have O_XML_1_0 := own_fieldOf ev_XML_1_0 hn2
  have O_XML_1_1 := own_fieldOf ev_XML_1_1 hn3
  have ne_XML_1_0_XML_1_1 : a_XML_1_0 ≠ a_XML_1_1 := Fld.ne O_XML_1_0 O_XML_1_1 (fun q => absurd (Value.int.inj q) (by decide))
  obtain ⟨hsets, -⟩ := atoms_of jdkStatics_1 (by rw [← rest_1_c_eq]; exact hrest)
  obtain ⟨zc, evc⟩ := is_v (Cond.before_iff.mp (hsets _ (List.mem_of_getElem? (i := 1) rfl)))
  have S_cs : Sta s s.heap "java/lang/String" "COMPACT_STRINGS" "Z" (.int zc) := Sta.start evc (Or.inl (hsets _ (List.mem_of_getElem? (i := 0) rfl)))
  have hzc : ¬ zc = (0 : Int32) := fun q => by
    have h1 := not_v (Cond.before_iff.mp (hsets _ (List.mem_of_getElem? (i := 2) rfl)))
    rw [eq_i evc (Term.int_eval 0) (by rw [q])] at h1
    cases h1
  obtain ⟨sv, evs, hsv⟩ := isR_v (Cond.before_iff.mp (hsets _ (List.mem_of_getElem? (i := 8) rfl)))
  have S_sf : Sta s s.heap "jdk/internal/util/Preconditions" "SIOOBE_FORMATTER" "Ljava/util/function/BiFunction;" sv := Sta.start evs (Or.inl (hsets _ (List.mem_of_getElem? (i := 7) rfl)))
  have S_ad := Sta.start (own_eqi (Cond.before_iff.mp (hsets _ (List.mem_of_getElem? (i := 12) rfl)))) (Or.inl (hsets _ (List.mem_of_getElem? (i := 11) rfl)))
  have S_hi := Sta.start (own_eqi (Cond.before_iff.mp (hsets _ (List.mem_of_getElem? (i := 15) rfl)))) (Or.inl (hsets _ (List.mem_of_getElem? (i := 14) rfl)))
  have S_lo := Sta.start (own_eqi (Cond.before_iff.mp (hsets _ (List.mem_of_getElem? (i := 18) rfl)))) (Or.inl (hsets _ (List.mem_of_getElem? (i := 17) rfl)))
  obtain ⟨n, o, h1, h2, h3, _, L, rfl, ⟨rfl, N⟩, hq⟩ := own_law l s _ hw tables_1 i0 i1 i2 i3 i4 i5 a_XML_1_0 a_XML_1_1 zc sv hsv s.heap s.heap.size (Nat.le_refl _) S_XML_1_0 E_XML_1_0 S_XML_1_1 E_XML_1_1 ne_XML_1_0_XML_1_1 hzc S_cs S_sf S_ad S_hi S_lo p e ha hc hk s m _ below hf ((Spec.applies_iff_loose hf).mp happ).1 ⟨rfl, State.Warmed39.refl s, rfl, trivial⟩ trivial
  refine ⟨n, _, h1, h2, h3, hpost _ _ _ _ _ _ ⟨Cond.after_iff.mpr rfl, Cond.after_iff.mpr (eq_i res_at (Term.int_eval (1)) rfl), trivial⟩ ⟨hq.1.1, hq.1.2.1, hq.1.2.2.1, (hq.1.2.2.2.sift fun y hy => Or.inr (N y hy)).mono (by decide) (by decide)⟩⟩
theorem main_1_1 : Claimed_1_1 := comes_1 fun _ _ _ _ _ _ h hF => ⟨h.1, hF⟩
theorem main_1_2 : Claimed_1_2 := comes_1 fun _ _ _ _ _ _ h hF => ⟨h.2.1, hF⟩
end Jvm.Pilot.@@N@@
namespace Jvm.Pilot.@@N@@
open Jvm Jvm.ClassFile Sem Op Lib Jvm.Free Jvm.Stand Jvm.Pilot.@@N@@.Jvm.D
/-! MADE BY PROGRAM (witnessworld.py) out of the Statement's table words and the real class files: 24 classes; the members and pool entries that the words name. The judged class is class 1, her method 3. -/
namespace start1
open Jvm.ClassFile
def u (s : String) : CpInfo := .utf8 (stringToUtf16 s)
/-- a pool by its gaps: so many unusable entries, then the entry; so many at the end -/
def gap : Nat → List CpInfo → List CpInfo
  | 0, r => r
  | n + 1, r => .unusable :: gap n r
def poolList (es : List (Nat × CpInfo)) (last : Nat) : List CpInfo := es.foldr (fun e r => gap e.1 (e.2 :: r)) (gap last [])
def pool (es : List (Nat × CpInfo)) (last : Nat) : Array CpInfo := ⟨poolList es last⟩
def fileOf (pool : Array CpInfo) (this : Nat) (attrs : Array Attribute := #[]) (ms : Array MethodInfo := #[]) (fl : Nat := 33) (sup : Nat := 0) (ifs : Array Nat := #[]) (fds : Array FieldInfo := #[]) : ClassFile where
  minorVersion := 0
  majorVersion := 65
  constantPool := pool
  accessFlags := fl
  thisClass := this
  superClass := sup
  interfaces := ifs
  fields := fds
  methods := ms
  attributes := attrs
def plain (name : String) (sup : Option ClassId) : Class where
  name := name
  kind := .ordinary
  loader := none
  accessFlags := 33
  super := sup
  interfaces := #[]
  cf := none
  fields := #[]
  methods := #[]
  instanceTypes := #[]
  staticTypes := #[]
  resolved := #[]
  callSites := []
  init := .initialized
  statics := none
  mirror := none

def pool0 : Array CpInfo := pool [(5, u "<init>"), (0, u "()V"), (1, .class_ 10), (1, u "java/lang/Object")] 113

def k0c0 : Code := { maxStack := 0, maxLocals := 1, code := object_method_1_code, exceptionTable := #[], attributes := #[] }
def k0m0 : Method := { name := "<init>", desc := "()V", sig := { parameters := [], returnType := none }, accessFlags := 1, code := some k0c0 }
/-- java/lang/Object -/
def k0 : Class := { plain "java/lang/Object" none with
  accessFlags := 33
  interfaces := #[]
  cf := some (fileOf pool0 8 #[] #[{ accessFlags := 1, nameIndex := 5, descriptorIndex := 6, attributes := #[] }] 33 0 #[] #[])
  fields := #[]
  methods := #[k0m0]
  instanceTypes := #[]
  staticTypes := #[]
  resolved := Array.replicate 124 none
  statics := none }

def pool1 : Array CpInfo := pool [(2, .class_ 4), (1, u "java/lang/Object"), (0, u "<init>"), (0, u "()V"), (0, .integer 2147483647), (0, .methodref 9 10), (0, .class_ 11), (0, .nameAndType 12 13), (0, u "com/example/cadmus/cadmus/StartTagEmptyPinLaw"), (0, u "nameChar"), (0, u "(I)C"), (0, .methodref 9 15), (0, .nameAndType 16 17), (0, u "space"), (0, u "(IZ)C"), (0, .fieldref 19 20), (0, .class_ 21), (0, .nameAndType 22 23), (0, u "com/example/cadmus/cadmus/XmlVersion"), (0, u "XML_1_1"), (0, u "Lcom/example/cadmus/cadmus/XmlVersion;"), (0, .fieldref 19 25), (0, .nameAndType 26 23), (0, u "XML_1_0"), (0, .class_ 28), (0, u "com/example/cadmus/cadmus/Markup$StartTag"), (0, .methodref 27 30), (0, .nameAndType 5 31), (0, u "(Lcom/example/cadmus/cadmus/XmlVersion;)V"), (0, .class_ 33), (0, u "java/lang/String"), (0, .methodref 32 35), (0, .nameAndType 5 36), (0, u "([C)V"), (0, .methodref 27 38), (0, .nameAndType 39 40), (0, u "read"), (0, u "(Ljava/lang/String;I)Lcom/example/cadmus/cadmus/Markup$StartTag;"), (0, .methodref 27 42), (0, .nameAndType 43 44), (0, u "end"), (0, u "()I"), (0, .methodref 27 46), (0, .nameAndType 47 48), (0, u "empty"), (0, u "()Z"), (3, u "law"), (0, u "(IIIIII)Z")] 8

def k1m0 : Method := { name := "<init>", desc := "()V", sig := { parameters := [], returnType := none }, accessFlags := 1, code := none }
def k1c1 : Code := { maxStack := 2, maxLocals := 3, code := method_2_code, exceptionTable := #[], attributes := #[] }
def k1m1 : Method := { name := "space", desc := "(IZ)C", sig := { parameters := [.int, .boolean], returnType := some .char }, accessFlags := 10, code := some k1c1 }
def k1c2 : Code := { maxStack := 2, maxLocals := 2, code := method_3_code, exceptionTable := #[], attributes := #[] }
def k1m2 : Method := { name := "nameChar", desc := "(I)C", sig := { parameters := [.int], returnType := some .char }, accessFlags := 10, code := some k1c2 }
def k1c3 : Code := { maxStack := 4, maxLocals := 21, code := code, exceptionTable := #[], attributes := #[] }
def k1m3 : Method := { name := "law", desc := "(IIIIII)Z", sig := { parameters := [.int, .int, .int, .int, .int, .int], returnType := some .boolean }, accessFlags := 9, code := some k1c3 }
/-- com/example/cadmus/cadmus/StartTagEmptyPinLaw -/
def k1 : Class := { plain "com/example/cadmus/cadmus/StartTagEmptyPinLaw" (some 0) with
  accessFlags := 49
  interfaces := #[]
  cf := some (fileOf pool1 9 #[] #[{ accessFlags := 1, nameIndex := 5, descriptorIndex := 6, attributes := #[] }, { accessFlags := 10, nameIndex := 16, descriptorIndex := 17, attributes := #[] }, { accessFlags := 10, nameIndex := 12, descriptorIndex := 13, attributes := #[] }, { accessFlags := 9, nameIndex := 52, descriptorIndex := 53, attributes := #[] }] 49 2 #[] #[])
  fields := #[]
  methods := #[k1m0, k1m1, k1m2, k1m3]
  instanceTypes := #[]
  staticTypes := #[]
  resolved := Array.replicate 62 none
  statics := none }

def pool2 : Array CpInfo := pool [(1, .class_ 2), (0, u "java/lang/constant/Constable"), (0, .class_ 4), (0, u "java/lang/Object")] 6

/-- java/lang/constant/Constable -/
def k2 : Class := { plain "java/lang/constant/Constable" (some 0) with
  accessFlags := 1537
  interfaces := #[]
  cf := some (fileOf pool2 1 #[] #[] 1537 3 #[] #[])
  fields := #[]
  methods := #[]
  instanceTypes := #[]
  staticTypes := #[]
  resolved := Array.replicate 11 none
  statics := none }

def pool3 : Array CpInfo := pool [(1, .class_ 2), (0, u "java/lang/Comparable"), (0, .class_ 4), (0, u "java/lang/Object")] 7

/-- java/lang/Comparable -/
def k3 : Class := { plain "java/lang/Comparable" (some 0) with
  accessFlags := 1537
  interfaces := #[]
  cf := some (fileOf pool3 1 #[] #[] 1537 3 #[] #[])
  fields := #[]
  methods := #[]
  instanceTypes := #[]
  staticTypes := #[]
  resolved := Array.replicate 12 none
  statics := none }

def pool4 : Array CpInfo := pool [(1, .class_ 2), (0, u "java/io/Serializable"), (0, .class_ 4), (0, u "java/lang/Object")] 2

/-- java/io/Serializable -/
def k4 : Class := { plain "java/io/Serializable" (some 0) with
  accessFlags := 1537
  interfaces := #[]
  cf := some (fileOf pool4 1 #[] #[] 1537 3 #[] #[])
  fields := #[]
  methods := #[]
  instanceTypes := #[]
  staticTypes := #[]
  resolved := Array.replicate 7 none
  statics := none }

def pool5 : Array CpInfo := pool [(2, .class_ 4), (1, u "java/lang/Enum"), (0, u "name"), (0, u "Ljava/lang/String;"), (2, u "ordinal"), (0, u "I"), (1, .class_ 14), (1, u "java/lang/Object"), (4, u "hash"), (86, .class_ 108), (1, u "java/lang/Enum$EnumDesc"), (2, .class_ 112), (0, u "java/lang/constant/Constable"), (0, .class_ 114), (0, u "java/lang/Comparable"), (0, .class_ 116), (0, u "java/io/Serializable")] 87

/-- java/lang/Enum -/
def k5 : Class := { plain "java/lang/Enum" (some 0) with
  accessFlags := 1057
  interfaces := #[2, 3, 4]
  cf := some (fileOf pool5 2 #[.nestMembers #[106]] #[] 1057 12 #[111, 113, 115] #[{ accessFlags := 18, nameIndex := 5, descriptorIndex := 6, attributes := #[] }, { accessFlags := 18, nameIndex := 9, descriptorIndex := 10, attributes := #[] }, { accessFlags := 2, nameIndex := 19, descriptorIndex := 10, attributes := #[] }])
  fields := #[{ name := "name", type := (.object "java/lang/String"), accessFlags := 18, slot := 0, constantValue := 0 }, { name := "ordinal", type := .int, accessFlags := 18, slot := 1, constantValue := 0 }, { name := "hash", type := .int, accessFlags := 2, slot := 2, constantValue := 0 }]
  methods := #[]
  instanceTypes := #[(.object "java/lang/String"), .int, .int]
  staticTypes := #[]
  resolved := Array.replicate 204 none
  statics := none }

def pool6 : Array CpInfo := pool [(1, .class_ 2), (0, u "com/example/cadmus/cadmus/XmlVersion"), (2, u "XML_1_0"), (0, u "Lcom/example/cadmus/cadmus/XmlVersion;"), (0, .fieldref 1 8), (0, .nameAndType 9 6), (0, u "XML_1_1"), (2, u "$VALUES"), (0, u "[Lcom/example/cadmus/cadmus/XmlVersion;"), (6, .class_ 22), (1, u "java/lang/Enum"), (30, u "isSpace"), (0, u "(C)Z")] 5

def k6c0 : Code := { maxStack := 2, maxLocals := 2, code := prog_31_method_5_code, exceptionTable := #[], attributes := #[] }
def k6m0 : Method := { name := "isSpace", desc := "(C)Z", sig := { parameters := [.char], returnType := some .boolean }, accessFlags := 0, code := some k6c0 }
/-- com/example/cadmus/cadmus/XmlVersion -/
def k6 : Class := { plain "com/example/cadmus/cadmus/XmlVersion" (some 5) with
  accessFlags := 16432
  interfaces := #[]
  cf := some (fileOf pool6 1 #[] #[{ accessFlags := 0, nameIndex := 53, descriptorIndex := 54, attributes := #[] }] 16432 20 #[] #[{ accessFlags := 16409, nameIndex := 5, descriptorIndex := 6, attributes := #[] }, { accessFlags := 16409, nameIndex := 9, descriptorIndex := 6, attributes := #[] }, { accessFlags := 4122, nameIndex := 12, descriptorIndex := 13, attributes := #[] }])
  fields := #[{ name := "XML_1_0", type := (.object "com/example/cadmus/cadmus/XmlVersion"), accessFlags := 16409, slot := 0, constantValue := 0 }, { name := "XML_1_1", type := (.object "com/example/cadmus/cadmus/XmlVersion"), accessFlags := 16409, slot := 1, constantValue := 0 }, { name := "$VALUES", type := (.array (.object "com/example/cadmus/cadmus/XmlVersion")), accessFlags := 4122, slot := 2, constantValue := 0 }]
  methods := #[k6m0]
  instanceTypes := #[(.object "java/lang/String"), .int, .int]
  staticTypes := #[(.object "com/example/cadmus/cadmus/XmlVersion"), (.object "com/example/cadmus/cadmus/XmlVersion"), (.array (.object "com/example/cadmus/cadmus/XmlVersion"))]
  resolved := Array.replicate 60 none
  statics := some 0 }

def pool7 : Array CpInfo := pool [(2, .class_ 4), (1, u "com/example/cadmus/cadmus/Markup$StartTag"), (0, u "<init>"), (0, u "(Lcom/example/cadmus/cadmus/XmlVersion;)V"), (2, u "read"), (0, u "(Ljava/lang/String;I)Lcom/example/cadmus/cadmus/Markup$StartTag;"), (0, .methodref 12 13), (0, .class_ 14), (0, .nameAndType 5 15), (0, u "java/lang/Object"), (0, u "()V"), (0, .string 17), (0, u ""), (0, .fieldref 2 19), (0, .nameAndType 20 21), (0, u "lastName"), (0, u "Ljava/lang/String;"), (0, .fieldref 2 23), (0, .nameAndType 24 25), (0, u "version"), (0, u "Lcom/example/cadmus/cadmus/XmlVersion;"), (0, .fieldref 2 27), (0, .nameAndType 28 21), (0, u "text"), (0, .methodref 30 31), (0, .class_ 32), (0, .nameAndType 33 34), (0, u "com/example/cadmus/cadmus/Markup"), (0, u "nameEnd"), (0, u "(Ljava/lang/String;ILcom/example/cadmus/cadmus/XmlVersion;)I"), (0, .fieldref 2 36), (0, .nameAndType 37 38), (0, u "at"), (0, u "I"), (0, .fieldref 2 40), (0, .nameAndType 41 38), (0, u "attributesEnd"), (0, .methodref 30 43), (0, .nameAndType 44 34), (0, u "spaceEnd"), (0, .methodref 46 47), (0, .class_ 48), (0, .nameAndType 49 50), (0, u "java/lang/String"), (0, u "charAt"), (0, u "(I)C"), (0, .fieldref 2 52), (0, .nameAndType 53 38), (0, u "nameStart"), (0, .fieldref 2 55), (0, .nameAndType 33 38), (0, .fieldref 2 57), (0, .nameAndType 58 38), (0, u "valueStart"), (0, .methodref 30 60), (0, .nameAndType 61 62), (0, u "after"), (0, u "(Ljava/lang/String;CI)I"), (0, .fieldref 2 64), (0, .nameAndType 65 38), (0, u "valueEnd"), (3, u "()I"), (8, .methodref 2 79), (0, .nameAndType 80 81), (0, u "nextAttribute"), (0, u "()Z"), (0, .methodref 2 83), (0, .nameAndType 84 81), (0, u "empty"), (6, u "end")] 5

def k7c0 : Code := { maxStack := 2, maxLocals := 2, code := prog_11_method_2_code, exceptionTable := #[], attributes := #[] }
def k7m0 : Method := { name := "<init>", desc := "(Lcom/example/cadmus/cadmus/XmlVersion;)V", sig := { parameters := [(.object "com/example/cadmus/cadmus/XmlVersion")], returnType := none }, accessFlags := 0, code := some k7c0 }
def k7c1 : Code := { maxStack := 4, maxLocals := 3, code := prog_11_method_3_code, exceptionTable := #[], attributes := #[] }
def k7m1 : Method := { name := "read", desc := "(Ljava/lang/String;I)Lcom/example/cadmus/cadmus/Markup$StartTag;", sig := { parameters := [(.object "java/lang/String"), .int], returnType := some (.object "com/example/cadmus/cadmus/Markup$StartTag") }, accessFlags := 0, code := some k7c1 }
def k7c2 : Code := { maxStack := 5, maxLocals := 2, code := prog_11_method_4_code, exceptionTable := #[], attributes := #[] }
def k7m2 : Method := { name := "nextAttribute", desc := "()Z", sig := { parameters := [], returnType := some .boolean }, accessFlags := 0, code := some k7c2 }
def k7c3 : Code := { maxStack := 2, maxLocals := 1, code := prog_11_method_8_code, exceptionTable := #[], attributes := #[] }
def k7m3 : Method := { name := "end", desc := "()I", sig := { parameters := [], returnType := some .int }, accessFlags := 0, code := some k7c3 }
def k7c4 : Code := { maxStack := 2, maxLocals := 1, code := prog_11_method_9_code, exceptionTable := #[], attributes := #[] }
def k7m4 : Method := { name := "empty", desc := "()Z", sig := { parameters := [], returnType := some .boolean }, accessFlags := 0, code := some k7c4 }
/-- com/example/cadmus/cadmus/Markup$StartTag -/
def k7 : Class := { plain "com/example/cadmus/cadmus/Markup$StartTag" (some 0) with
  accessFlags := 32
  interfaces := #[]
  cf := some (fileOf pool7 2 #[.nestHost 30] #[{ accessFlags := 0, nameIndex := 5, descriptorIndex := 6, attributes := #[] }, { accessFlags := 0, nameIndex := 9, descriptorIndex := 10, attributes := #[] }, { accessFlags := 0, nameIndex := 80, descriptorIndex := 81, attributes := #[] }, { accessFlags := 0, nameIndex := 91, descriptorIndex := 69, attributes := #[] }, { accessFlags := 0, nameIndex := 84, descriptorIndex := 81, attributes := #[] }] 32 12 #[] #[{ accessFlags := 18, nameIndex := 24, descriptorIndex := 25, attributes := #[] }, { accessFlags := 2, nameIndex := 28, descriptorIndex := 21, attributes := #[] }, { accessFlags := 2, nameIndex := 37, descriptorIndex := 38, attributes := #[] }, { accessFlags := 2, nameIndex := 41, descriptorIndex := 38, attributes := #[] }, { accessFlags := 2, nameIndex := 53, descriptorIndex := 38, attributes := #[] }, { accessFlags := 2, nameIndex := 33, descriptorIndex := 38, attributes := #[] }, { accessFlags := 2, nameIndex := 58, descriptorIndex := 38, attributes := #[] }, { accessFlags := 2, nameIndex := 65, descriptorIndex := 38, attributes := #[] }, { accessFlags := 2, nameIndex := 20, descriptorIndex := 21, attributes := #[] }])
  fields := #[{ name := "version", type := (.object "com/example/cadmus/cadmus/XmlVersion"), accessFlags := 18, slot := 0, constantValue := 0 }, { name := "text", type := (.object "java/lang/String"), accessFlags := 2, slot := 1, constantValue := 0 }, { name := "at", type := .int, accessFlags := 2, slot := 2, constantValue := 0 }, { name := "attributesEnd", type := .int, accessFlags := 2, slot := 3, constantValue := 0 }, { name := "nameStart", type := .int, accessFlags := 2, slot := 4, constantValue := 0 }, { name := "nameEnd", type := .int, accessFlags := 2, slot := 5, constantValue := 0 }, { name := "valueStart", type := .int, accessFlags := 2, slot := 6, constantValue := 0 }, { name := "valueEnd", type := .int, accessFlags := 2, slot := 7, constantValue := 0 }, { name := "lastName", type := (.object "java/lang/String"), accessFlags := 2, slot := 8, constantValue := 0 }]
  methods := #[k7m0, k7m1, k7m2, k7m3, k7m4]
  instanceTypes := #[(.object "com/example/cadmus/cadmus/XmlVersion"), (.object "java/lang/String"), .int, .int, .int, .int, .int, .int, (.object "java/lang/String")]
  staticTypes := #[]
  resolved := Array.replicate 97 none
  statics := none }

def pool8 : Array CpInfo := pool [(2, .class_ 4), (1, u "java/lang/CharSequence"), (42, .class_ 48), (0, u "java/lang/CharSequence$1CodePointIterator"), (10, .class_ 60), (0, u "java/lang/CharSequence$1CharIterator"), (5, .class_ 67), (0, u "java/lang/Object")] 63

/-- java/lang/CharSequence -/
def k8 : Class := { plain "java/lang/CharSequence" (some 0) with
  accessFlags := 1537
  interfaces := #[]
  cf := some (fileOf pool8 2 #[.nestMembers #[47, 59]] #[] 1537 66 #[] #[])
  fields := #[]
  methods := #[]
  instanceTypes := #[]
  staticTypes := #[]
  resolved := Array.replicate 131 none
  statics := none }

def pool9 : Array CpInfo := pool [(1, .class_ 2), (0, u "java/lang/constant/ConstantDesc"), (0, .class_ 4), (0, u "java/lang/Object")] 32

/-- java/lang/constant/ConstantDesc -/
def k9 : Class := { plain "java/lang/constant/ConstantDesc" (some 0) with
  accessFlags := 1537
  interfaces := #[]
  cf := some (fileOf pool9 1 #[] #[] 1537 3 #[] #[])
  fields := #[]
  methods := #[]
  instanceTypes := #[]
  staticTypes := #[]
  resolved := Array.replicate 37 none
  statics := none }

def pool10 : Array CpInfo := pool [(1, .methodref 2 3), (0, .class_ 4), (0, .nameAndType 5 6), (0, u "java/lang/Object"), (0, u "<init>"), (0, u "()V"), (2, .fieldref 10 11), (0, .class_ 12), (0, .nameAndType 13 14), (0, u "java/lang/String"), (0, u "value"), (0, u "[B"), (0, .fieldref 10 16), (0, .nameAndType 17 18), (0, u "coder"), (0, u "B"), (2, u "hash"), (0, u "I"), (2, u "hashIsZero"), (0, u "Z"), (0, .methodref 10 28), (0, .nameAndType 5 29), (0, u "([CIILjava/lang/Void;)V"), (8, .fieldref 10 39), (0, .nameAndType 40 26), (0, u "COMPACT_STRINGS"), (1, .class_ 44), (1, u "java/lang/StringUTF16"), (0, u "compress"), (1, .methodref 42 48), (0, .nameAndType 49 50), (0, u "coderFromArrayLen"), (0, u "([BI)B"), (56, .class_ 109), (1, u "java/lang/StringLatin1"), (32, u "()Z"), (34, .methodref 42 178), (0, .nameAndType 45 179), (0, u "([CII)[B"), (154, u "()I"), (0, .methodref 10 336), (0, .nameAndType 17 337), (0, u "()B"), (25, u "([BI)C"), (27, u "(II)V"), (35, u "(I)C"), (64, .methodref 10 493), (0, .nameAndType 494 142), (0, u "isLatin1"), (0, .methodref 107 496), (0, .nameAndType 497 363), (0, u "charAt"), (0, .methodref 42 496), (2, u "checkIndex"), (3, .methodref 10 506), (0, .nameAndType 507 334), (0, u "length"), (5, u "checkFromToIndex"), (9, u "checkBoundsBeginEnd"), (0, u "(III)V"), (50, .class_ 576), (0, u "java/lang/CharSequence"), (22, u "CASE_INSENSITIVE_ORDER"), (0, u "Ljava/util/Comparator;"), (34, u "indexOf"), (0, u "(II)I"), (0, .methodref 107 638), (0, .nameAndType 635 639), (0, u "([BIII)I"), (0, .methodref 42 638), (369, u "([C)V"), (42, .fieldref 1054 1055), (0, .class_ 1056), (0, .nameAndType 1057 1058), (0, u "jdk/internal/util/Preconditions"), (0, u "SIOOBE_FORMATTER"), (0, u "Ljava/util/function/BiFunction;"), (0, .methodref 1054 1060), (0, .nameAndType 501 1061), (0, u "(IILjava/util/function/BiFunction;)I"), (0, .methodref 1054 1063), (0, .nameAndType 513 1064), (0, u "(IIILjava/util/function/BiFunction;)I"), (36, u "serialPersistentFields"), (0, u "[Ljava/io/ObjectStreamField;"), (0, .class_ 1104), (0, u "java/lang/String$CaseInsensitiveComparator"), (1, .class_ 1107), (0, u "java/io/Serializable"), (0, .class_ 1109), (0, u "java/lang/Comparable"), (0, .class_ 1111), (0, u "java/lang/constant/Constable"), (0, .class_ 1113), (0, u "java/lang/constant/ConstantDesc"), (2, u "serialVersionUID"), (0, u "J"), (3, u "REPL"), (0, u "C"), (2, u "LATIN1"), (1, u "UTF16")] 323

def k10m0 : Method := { name := "<init>", desc := "()V", sig := { parameters := [], returnType := none }, accessFlags := 1, code := none }
def k10c1 : Code := { maxStack := 5, maxLocals := 2, code := jdk_42_method_3_code, exceptionTable := #[], attributes := #[] }
def k10m1 : Method := { name := "<init>", desc := "([C)V", sig := { parameters := [(.array .char)], returnType := none }, accessFlags := 1, code := some k10c1 }
def k10c2 : Code := { maxStack := 2, maxLocals := 1, code := jdk_42_method_54_code, exceptionTable := #[], attributes := #[] }
def k10m2 : Method := { name := "length", desc := "()I", sig := { parameters := [], returnType := some .int }, accessFlags := 1, code := some k10c2 }
def k10c3 : Code := { maxStack := 2, maxLocals := 2, code := jdk_42_method_56_code, exceptionTable := #[], attributes := #[] }
def k10m3 : Method := { name := "charAt", desc := "(I)C", sig := { parameters := [.int], returnType := some .char }, accessFlags := 1, code := some k10c3 }
def k10c4 : Code := { maxStack := 4, maxLocals := 3, code := jdk_42_method_80_code, exceptionTable := #[], attributes := #[] }
def k10m4 : Method := { name := "indexOf", desc := "(II)I", sig := { parameters := [.int, .int], returnType := some .int }, accessFlags := 1, code := some k10c4 }
def k10c5 : Code := { maxStack := 4, maxLocals := 6, code := jdk_42_method_149_code, exceptionTable := #[], attributes := #[] }
def k10m5 : Method := { name := "<init>", desc := "([CIILjava/lang/Void;)V", sig := { parameters := [(.array .char), .int, .int, (.object "java/lang/Void")], returnType := none }, accessFlags := 2, code := some k10c5 }
def k10c6 : Code := { maxStack := 1, maxLocals := 1, code := jdk_42_method_152_code, exceptionTable := #[], attributes := #[] }
def k10m6 : Method := { name := "coder", desc := "()B", sig := { parameters := [], returnType := some .byte }, accessFlags := 0, code := some k10c6 }
def k10c7 : Code := { maxStack := 1, maxLocals := 1, code := jdk_42_method_154_code, exceptionTable := #[], attributes := #[] }
def k10m7 : Method := { name := "isLatin1", desc := "()Z", sig := { parameters := [], returnType := some .boolean }, accessFlags := 0, code := some k10c7 }
def k10c8 : Code := { maxStack := 3, maxLocals := 2, code := jdk_42_method_155_code, exceptionTable := #[], attributes := #[] }
def k10m8 : Method := { name := "checkIndex", desc := "(II)V", sig := { parameters := [.int, .int], returnType := none }, accessFlags := 8, code := some k10c8 }
def k10c9 : Code := { maxStack := 4, maxLocals := 3, code := jdk_42_method_158_code, exceptionTable := #[], attributes := #[] }
def k10m9 : Method := { name := "checkBoundsBeginEnd", desc := "(III)V", sig := { parameters := [.int, .int, .int], returnType := none }, accessFlags := 8, code := some k10c9 }
/-- java/lang/String -/
def k10 : Class := { plain "java/lang/String" (some 0) with
  accessFlags := 49
  interfaces := #[4, 3, 8, 2, 9]
  cf := some (fileOf pool10 10 #[.nestMembers #[1103]] #[{ accessFlags := 1, nameIndex := 5, descriptorIndex := 6, attributes := #[] }, { accessFlags := 1, nameIndex := 5, descriptorIndex := 1010, attributes := #[] }, { accessFlags := 1, nameIndex := 507, descriptorIndex := 334, attributes := #[] }, { accessFlags := 1, nameIndex := 497, descriptorIndex := 427, attributes := #[] }, { accessFlags := 1, nameIndex := 635, descriptorIndex := 636, attributes := #[] }, { accessFlags := 2, nameIndex := 5, descriptorIndex := 29, attributes := #[] }, { accessFlags := 0, nameIndex := 17, descriptorIndex := 337, attributes := #[] }, { accessFlags := 0, nameIndex := 494, descriptorIndex := 142, attributes := #[] }, { accessFlags := 8, nameIndex := 501, descriptorIndex := 391, attributes := #[] }, { accessFlags := 8, nameIndex := 523, descriptorIndex := 524, attributes := #[] }] 49 2 #[1106, 1108, 575, 1110, 1112] #[{ accessFlags := 18, nameIndex := 13, descriptorIndex := 14, attributes := #[] }, { accessFlags := 18, nameIndex := 17, descriptorIndex := 18, attributes := #[] }, { accessFlags := 2, nameIndex := 21, descriptorIndex := 22, attributes := #[] }, { accessFlags := 2, nameIndex := 25, descriptorIndex := 26, attributes := #[] }, { accessFlags := 26, nameIndex := 1116, descriptorIndex := 1117, attributes := #[] }, { accessFlags := 24, nameIndex := 40, descriptorIndex := 26, attributes := #[] }, { accessFlags := 26, nameIndex := 1101, descriptorIndex := 1102, attributes := #[] }, { accessFlags := 26, nameIndex := 1121, descriptorIndex := 1122, attributes := #[] }, { accessFlags := 25, nameIndex := 599, descriptorIndex := 600, attributes := #[] }, { accessFlags := 24, nameIndex := 1125, descriptorIndex := 18, attributes := #[] }, { accessFlags := 24, nameIndex := 1127, descriptorIndex := 18, attributes := #[] }])
  fields := #[{ name := "value", type := (.array .byte), accessFlags := 18, slot := 0, constantValue := 0 }, { name := "coder", type := .byte, accessFlags := 18, slot := 1, constantValue := 0 }, { name := "hash", type := .int, accessFlags := 2, slot := 2, constantValue := 0 }, { name := "hashIsZero", type := .boolean, accessFlags := 2, slot := 3, constantValue := 0 }, { name := "serialVersionUID", type := .long, accessFlags := 26, slot := 0, constantValue := 0 }, { name := "COMPACT_STRINGS", type := .boolean, accessFlags := 24, slot := 1, constantValue := 0 }, { name := "serialPersistentFields", type := (.array (.object "java/io/ObjectStreamField")), accessFlags := 26, slot := 2, constantValue := 0 }, { name := "REPL", type := .char, accessFlags := 26, slot := 3, constantValue := 0 }, { name := "CASE_INSENSITIVE_ORDER", type := (.object "java/util/Comparator"), accessFlags := 25, slot := 4, constantValue := 0 }, { name := "LATIN1", type := .byte, accessFlags := 24, slot := 5, constantValue := 0 }, { name := "UTF16", type := .byte, accessFlags := 24, slot := 6, constantValue := 0 }]
  methods := #[k10m0, k10m1, k10m2, k10m3, k10m4, k10m5, k10m6, k10m7, k10m8, k10m9]
  instanceTypes := #[(.array .byte), .byte, .int, .boolean]
  staticTypes := #[.long, .boolean, (.array (.object "java/io/ObjectStreamField")), .char, (.object "java/util/Comparator"), .byte, .byte]
  resolved := Array.replicate 1451 none
  statics := some 1 }

def pool11 : Array CpInfo := pool [(3, .class_ 4), (0, u "java/lang/String"), (1, .class_ 8), (1, u "java/lang/Object"), (0, u "<init>"), (0, u "()V"), (0, .methodref 12 13), (0, .class_ 14), (0, .nameAndType 15 16), (0, u "java/lang/StringUTF16"), (0, u "newBytesLength"), (0, u "(I)I"), (3, .integer 1073741823), (23, .fieldref 12 45), (0, .nameAndType 46 47), (0, u "$assertionsDisabled"), (0, u "Z"), (0, .methodref 12 49), (0, .nameAndType 50 51), (0, u "length"), (0, u "([B)I"), (7, .fieldref 12 60), (0, .nameAndType 61 62), (0, u "HI_BYTE_SHIFT"), (0, u "I"), (0, .fieldref 12 64), (0, .nameAndType 65 62), (0, u "LO_BYTE_SHIFT"), (1, .methodref 12 68), (0, .nameAndType 69 70), (0, u "checkIndex"), (0, u "(I[B)V"), (0, .methodref 12 72), (0, .nameAndType 73 74), (0, u "getChar"), (0, u "([BI)C"), (21, .methodref 12 97), (0, .nameAndType 98 99), (0, u "checkBoundsBeginEnd"), (0, u "(II[B)V"), (7, .methodref 12 108), (0, .nameAndType 109 110), (0, u "newBytesFor"), (0, u "(I)[B"), (0, .methodref 12 112), (0, .nameAndType 113 114), (0, u "putChar"), (0, u "([BII)V"), (0, .methodref 12 116), (0, .nameAndType 117 118), (0, u "compress"), (0, u "([CI[BII)I"), (0, .methodref 12 120), (0, .nameAndType 121 122), (0, u "toBytes"), (0, u "([CII)[B"), (60, .methodref 184 185), (0, .class_ 186), (0, .nameAndType 187 188), (0, u "java/lang/Math"), (0, u "min"), (0, u "(II)I"), (35, .methodref 184 225), (0, .nameAndType 226 188), (0, u "max"), (0, .integer 65536), (0, .methodref 12 229), (0, .nameAndType 230 231), (0, u "indexOfChar"), (0, u "([BIII)I"), (9, .methodref 3 242), (0, .nameAndType 98 243), (0, u "(III)V"), (0, .methodref 12 245), (0, .nameAndType 246 231), (0, u "indexOfCharUnsafe"), (14, u "coderFromArrayLen"), (0, u "([BI)B"), (5, u "indexOf"), (100, .class_ 371), (1, u "java/lang/StringUTF16$LinesSpliterator"), (20, u "charAt"), (21, .methodref 3 415), (0, .nameAndType 69 416), (0, u "(II)V"), (13, u "MAX_LENGTH"), (196, .class_ 628), (0, u "java/lang/StringUTF16$CodePointsSpliterator"), (0, .class_ 630), (0, u "java/lang/StringUTF16$CharsSpliterator")] 4

def k11m0 : Method := { name := "<init>", desc := "()V", sig := { parameters := [], returnType := none }, accessFlags := 0, code := none }
def k11c1 : Code := { maxStack := 1, maxLocals := 1, code := jdk_52_method_2_code, exceptionTable := #[], attributes := #[] }
def k11m1 : Method := { name := "newBytesFor", desc := "(I)[B", sig := { parameters := [.int], returnType := some (.array .byte) }, accessFlags := 9, code := some k11c1 }
def k11c2 : Code := { maxStack := 4, maxLocals := 1, code := jdk_52_method_3_code, exceptionTable := #[], attributes := #[] }
def k11m2 : Method := { name := "newBytesLength", desc := "(I)I", sig := { parameters := [.int], returnType := some .int }, accessFlags := 9, code := some k11c2 }
def k11c3 : Code := { maxStack := 4, maxLocals := 3, code := jdk_52_method_4_code, exceptionTable := #[], attributes := #[] }
def k11m3 : Method := { name := "putChar", desc := "([BII)V", sig := { parameters := [(.array .byte), .int, .int], returnType := none }, accessFlags := 8, code := some k11c3 }
def k11c4 : Code := { maxStack := 3, maxLocals := 2, code := jdk_52_method_5_code, exceptionTable := #[], attributes := #[] }
def k11m4 : Method := { name := "getChar", desc := "([BI)C", sig := { parameters := [(.array .byte), .int], returnType := some .char }, accessFlags := 8, code := some k11c4 }
def k11c5 : Code := { maxStack := 2, maxLocals := 1, code := jdk_52_method_6_code, exceptionTable := #[], attributes := #[] }
def k11m5 : Method := { name := "length", desc := "([B)I", sig := { parameters := [(.array .byte)], returnType := some .int }, accessFlags := 9, code := some k11c5 }
def k11c6 : Code := { maxStack := 4, maxLocals := 5, code := jdk_52_method_14_code, exceptionTable := #[], attributes := #[] }
def k11m6 : Method := { name := "toBytes", desc := "([CII)[B", sig := { parameters := [(.array .char), .int, .int], returnType := some (.array .byte) }, accessFlags := 9, code := some k11c6 }
def k11c7 : Code := { maxStack := 2, maxLocals := 2, code := jdk_52_method_15_code, exceptionTable := #[], attributes := #[] }
def k11m7 : Method := { name := "coderFromArrayLen", desc := "([BI)B", sig := { parameters := [(.array .byte), .int], returnType := some .byte }, accessFlags := 8, code := some k11c7 }
def k11c8 : Code := { maxStack := 5, maxLocals := 6, code := jdk_52_method_16_code, exceptionTable := #[], attributes := #[] }
def k11m8 : Method := { name := "compress", desc := "([CII)[B", sig := { parameters := [(.array .char), .int, .int], returnType := some (.array .byte) }, accessFlags := 9, code := some k11c8 }
def k11c9 : Code := { maxStack := 3, maxLocals := 7, code := jdk_52_method_21_code, exceptionTable := #[], attributes := #[] }
def k11m9 : Method := { name := "compress", desc := "([CI[BII)I", sig := { parameters := [(.array .char), .int, (.array .byte), .int, .int], returnType := some .int }, accessFlags := 9, code := some k11c9 }
def k11c10 : Code := { maxStack := 4, maxLocals := 4, code := jdk_52_method_40_code, exceptionTable := #[], attributes := #[] }
def k11m10 : Method := { name := "indexOf", desc := "([BIII)I", sig := { parameters := [(.array .byte), .int, .int, .int], returnType := some .int }, accessFlags := 9, code := some k11c10 }
def k11c11 : Code := { maxStack := 4, maxLocals := 4, code := jdk_52_method_47_code, exceptionTable := #[], attributes := #[] }
def k11m11 : Method := { name := "indexOfChar", desc := "([BIII)I", sig := { parameters := [(.array .byte), .int, .int, .int], returnType := some .int }, accessFlags := 10, code := some k11c11 }
def k11c12 : Code := { maxStack := 2, maxLocals := 5, code := jdk_52_method_48_code, exceptionTable := #[], attributes := #[] }
def k11m12 : Method := { name := "indexOfCharUnsafe", desc := "([BIII)I", sig := { parameters := [(.array .byte), .int, .int, .int], returnType := some .int }, accessFlags := 10, code := some k11c12 }
def k11c13 : Code := { maxStack := 2, maxLocals := 2, code := jdk_52_method_83_code, exceptionTable := #[], attributes := #[] }
def k11m13 : Method := { name := "charAt", desc := "([BI)C", sig := { parameters := [(.array .byte), .int], returnType := some .char }, accessFlags := 9, code := some k11c13 }
def k11c14 : Code := { maxStack := 2, maxLocals := 2, code := jdk_52_method_91_code, exceptionTable := #[], attributes := #[] }
def k11m14 : Method := { name := "checkIndex", desc := "(I[B)V", sig := { parameters := [.int, (.array .byte)], returnType := none }, accessFlags := 9, code := some k11c14 }
def k11c15 : Code := { maxStack := 3, maxLocals := 3, code := jdk_52_method_93_code, exceptionTable := #[], attributes := #[] }
def k11m15 : Method := { name := "checkBoundsBeginEnd", desc := "(II[B)V", sig := { parameters := [.int, .int, (.array .byte)], returnType := none }, accessFlags := 9, code := some k11c15 }
/-- java/lang/StringUTF16 -/
def k11 : Class := { plain "java/lang/StringUTF16" (some 0) with
  accessFlags := 48
  interfaces := #[]
  cf := some (fileOf pool11 12 #[.nestMembers #[627, 629, 369]] #[{ accessFlags := 0, nameIndex := 9, descriptorIndex := 10, attributes := #[] }, { accessFlags := 9, nameIndex := 109, descriptorIndex := 110, attributes := #[] }, { accessFlags := 9, nameIndex := 15, descriptorIndex := 16, attributes := #[] }, { accessFlags := 8, nameIndex := 113, descriptorIndex := 114, attributes := #[] }, { accessFlags := 8, nameIndex := 73, descriptorIndex := 74, attributes := #[] }, { accessFlags := 9, nameIndex := 50, descriptorIndex := 51, attributes := #[] }, { accessFlags := 9, nameIndex := 121, descriptorIndex := 122, attributes := #[] }, { accessFlags := 8, nameIndex := 261, descriptorIndex := 262, attributes := #[] }, { accessFlags := 9, nameIndex := 117, descriptorIndex := 122, attributes := #[] }, { accessFlags := 9, nameIndex := 117, descriptorIndex := 118, attributes := #[] }, { accessFlags := 9, nameIndex := 268, descriptorIndex := 231, attributes := #[] }, { accessFlags := 10, nameIndex := 230, descriptorIndex := 231, attributes := #[] }, { accessFlags := 10, nameIndex := 246, descriptorIndex := 231, attributes := #[] }, { accessFlags := 9, nameIndex := 392, descriptorIndex := 74, attributes := #[] }, { accessFlags := 9, nameIndex := 69, descriptorIndex := 70, attributes := #[] }, { accessFlags := 9, nameIndex := 98, descriptorIndex := 99, attributes := #[] }] 48 6 #[] #[{ accessFlags := 26, nameIndex := 61, descriptorIndex := 62, attributes := #[] }, { accessFlags := 26, nameIndex := 65, descriptorIndex := 62, attributes := #[] }, { accessFlags := 24, nameIndex := 430, descriptorIndex := 62, attributes := #[] }, { accessFlags := 4120, nameIndex := 46, descriptorIndex := 47, attributes := #[] }])
  fields := #[{ name := "HI_BYTE_SHIFT", type := .int, accessFlags := 26, slot := 0, constantValue := 0 }, { name := "LO_BYTE_SHIFT", type := .int, accessFlags := 26, slot := 1, constantValue := 0 }, { name := "MAX_LENGTH", type := .int, accessFlags := 24, slot := 2, constantValue := 0 }, { name := "$assertionsDisabled", type := .boolean, accessFlags := 4120, slot := 3, constantValue := 0 }]
  methods := #[k11m0, k11m1, k11m2, k11m3, k11m4, k11m5, k11m6, k11m7, k11m8, k11m9, k11m10, k11m11, k11m12, k11m13, k11m14, k11m15]
  instanceTypes := #[]
  staticTypes := #[.int, .int, .int, .boolean]
  resolved := Array.replicate 635 none
  statics := some 2 }

def pool12 : Array CpInfo := pool [(2, .class_ 4), (1, u "java/lang/Object"), (0, u "<init>"), (0, u "()V"), (0, .class_ 8), (0, u "com/example/cadmus/cadmus/Markup$Content"), (21, .class_ 32), (1, u "com/example/cadmus/cadmus/Markup$Item"), (8, u "()I"), (3, .class_ 47), (1, u "com/example/cadmus/cadmus/Markup"), (0, u "after"), (7, .methodref 57 58), (0, .class_ 59), (0, .nameAndType 60 41), (0, u "java/lang/String"), (0, u "length"), (12, .class_ 75), (1, u "com/example/cadmus/cadmus/XmlVersion"), (2, .methodref 57 79), (0, .nameAndType 80 81), (0, u "charAt"), (0, u "(I)C"), (0, .methodref 73 83), (0, .nameAndType 84 85), (0, u "isSpace"), (0, u "(C)Z"), (14, u "NO_VALUES"), (0, u "Lcom/example/cadmus/cadmus/Markup$EntityValues;"), (8, u "NO_LISTS"), (0, u "Lcom/example/cadmus/cadmus/Markup$AttributeLists;"), (24, u "spaceEnd"), (0, u "(Ljava/lang/String;ILcom/example/cadmus/cadmus/XmlVersion;)I"), (2, .methodref 57 141), (0, .nameAndType 142 143), (0, u "indexOf"), (0, u "(II)I"), (1, .class_ 147), (1, u "com/example/cadmus/cadmus/Markup$EntityValues"), (14, .class_ 164), (1, u "com/example/cadmus/cadmus/Markup$AttributeLists"), (32, u "CDATA"), (0, u "Ljava/lang/String;"), (1, u "DOCTYPE"), (0, u "ENTITY"), (0, u "ATTLIST"), (14, u "(Ljava/lang/String;CI)I"), (2, u "nameEnd"), (6, .class_ 228), (0, u "com/example/cadmus/cadmus/Markup$StartTag")] 37

def k12m0 : Method := { name := "<init>", desc := "()V", sig := { parameters := [], returnType := none }, accessFlags := 2, code := none }
def k12c1 : Code := { maxStack := 3, maxLocals := 4, code := prog_6_method_16_code, exceptionTable := #[], attributes := #[] }
def k12m1 : Method := { name := "after", desc := "(Ljava/lang/String;CI)I", sig := { parameters := [(.object "java/lang/String"), .char, .int], returnType := some .int }, accessFlags := 8, code := some k12c1 }
def k12c2 : Code := { maxStack := 3, maxLocals := 4, code := prog_6_method_23_code, exceptionTable := #[], attributes := #[] }
def k12m2 : Method := { name := "spaceEnd", desc := "(Ljava/lang/String;ILcom/example/cadmus/cadmus/XmlVersion;)I", sig := { parameters := [(.object "java/lang/String"), .int, (.object "com/example/cadmus/cadmus/XmlVersion")], returnType := some .int }, accessFlags := 10, code := some k12c2 }
def k12c3 : Code := { maxStack := 2, maxLocals := 5, code := prog_6_method_24_code, exceptionTable := #[], attributes := #[] }
def k12m3 : Method := { name := "nameEnd", desc := "(Ljava/lang/String;ILcom/example/cadmus/cadmus/XmlVersion;)I", sig := { parameters := [(.object "java/lang/String"), .int, (.object "com/example/cadmus/cadmus/XmlVersion")], returnType := some .int }, accessFlags := 10, code := some k12c3 }
/-- com/example/cadmus/cadmus/Markup -/
def k12 : Class := { plain "com/example/cadmus/cadmus/Markup" (some 0) with
  accessFlags := 32
  interfaces := #[]
  cf := some (fileOf pool12 45 #[.nestMembers #[7, 30, 227, 162, 145]] #[{ accessFlags := 2, nameIndex := 5, descriptorIndex := 6, attributes := #[] }, { accessFlags := 8, nameIndex := 48, descriptorIndex := 217, attributes := #[] }, { accessFlags := 10, nameIndex := 136, descriptorIndex := 137, attributes := #[] }, { accessFlags := 10, nameIndex := 220, descriptorIndex := 137, attributes := #[] }] 32 2 #[] #[{ accessFlags := 24, nameIndex := 197, descriptorIndex := 198, attributes := #[] }, { accessFlags := 24, nameIndex := 200, descriptorIndex := 198, attributes := #[] }, { accessFlags := 26, nameIndex := 201, descriptorIndex := 198, attributes := #[] }, { accessFlags := 26, nameIndex := 202, descriptorIndex := 198, attributes := #[] }, { accessFlags := 26, nameIndex := 100, descriptorIndex := 101, attributes := #[] }, { accessFlags := 26, nameIndex := 110, descriptorIndex := 111, attributes := #[] }])
  fields := #[{ name := "CDATA", type := (.object "java/lang/String"), accessFlags := 24, slot := 0, constantValue := 0 }, { name := "DOCTYPE", type := (.object "java/lang/String"), accessFlags := 24, slot := 1, constantValue := 0 }, { name := "ENTITY", type := (.object "java/lang/String"), accessFlags := 26, slot := 2, constantValue := 0 }, { name := "ATTLIST", type := (.object "java/lang/String"), accessFlags := 26, slot := 3, constantValue := 0 }, { name := "NO_VALUES", type := (.object "com/example/cadmus/cadmus/Markup$EntityValues"), accessFlags := 26, slot := 4, constantValue := 0 }, { name := "NO_LISTS", type := (.object "com/example/cadmus/cadmus/Markup$AttributeLists"), accessFlags := 26, slot := 5, constantValue := 0 }]
  methods := #[k12m0, k12m1, k12m2, k12m3]
  instanceTypes := #[]
  staticTypes := #[(.object "java/lang/String"), (.object "java/lang/String"), (.object "java/lang/String"), (.object "java/lang/String"), (.object "com/example/cadmus/cadmus/Markup$EntityValues"), (.object "com/example/cadmus/cadmus/Markup$AttributeLists")]
  resolved := Array.replicate 266 none
  statics := none }

def pool13 : Array CpInfo := pool [(1, .class_ 2), (0, u "java/lang/String"), (1, .class_ 6), (1, u "java/lang/Object"), (0, u "<init>"), (0, u "()V"), (0, .methodref 1 10), (0, .nameAndType 11 12), (0, u "checkIndex"), (0, u "(II)V"), (1, .class_ 16), (1, u "java/lang/StringLatin1"), (21, .methodref 39 40), (0, .class_ 41), (0, .nameAndType 42 43), (0, u "java/lang/Math"), (0, u "min"), (0, u "(II)I"), (9, u "([BI)C"), (34, .methodref 14 89), (0, .nameAndType 90 91), (0, u "canEncode"), (0, u "(I)Z"), (0, .methodref 39 93), (0, .nameAndType 94 43), (0, u "max"), (0, .methodref 14 96), (0, .nameAndType 97 98), (0, u "indexOfChar"), (0, u "([BIII)I"), (2, u "indexOf"), (19, u "$assertionsDisabled"), (0, u "Z"), (98, .class_ 223), (1, u "java/lang/StringLatin1$LinesSpliterator"), (28, u "charAt"), (137, .class_ 391), (0, u "java/lang/StringLatin1$CharsSpliterator")] 3

def k13m0 : Method := { name := "<init>", desc := "()V", sig := { parameters := [], returnType := none }, accessFlags := 0, code := none }
def k13c1 : Code := { maxStack := 2, maxLocals := 2, code := jdk_43_method_2_code, exceptionTable := #[], attributes := #[] }
def k13m1 : Method := { name := "charAt", desc := "([BI)C", sig := { parameters := [(.array .byte), .int], returnType := some .char }, accessFlags := 9, code := some k13c1 }
def k13c2 : Code := { maxStack := 2, maxLocals := 1, code := jdk_43_method_4_code, exceptionTable := #[], attributes := #[] }
def k13m2 : Method := { name := "canEncode", desc := "(I)Z", sig := { parameters := [.int], returnType := some .boolean }, accessFlags := 9, code := some k13c2 }
def k13c3 : Code := { maxStack := 4, maxLocals := 4, code := jdk_43_method_22_code, exceptionTable := #[], attributes := #[] }
def k13m3 : Method := { name := "indexOf", desc := "([BIII)I", sig := { parameters := [(.array .byte), .int, .int, .int], returnType := some .int }, accessFlags := 9, code := some k13c3 }
def k13c4 : Code := { maxStack := 2, maxLocals := 6, code := jdk_43_method_23_code, exceptionTable := #[], attributes := #[] }
def k13m4 : Method := { name := "indexOfChar", desc := "([BIII)I", sig := { parameters := [(.array .byte), .int, .int, .int], returnType := some .int }, accessFlags := 10, code := some k13c4 }
/-- java/lang/StringLatin1 -/
def k13 : Class := { plain "java/lang/StringLatin1" (some 0) with
  accessFlags := 48
  interfaces := #[]
  cf := some (fileOf pool13 14 #[.nestMembers #[390, 221]] #[{ accessFlags := 0, nameIndex := 7, descriptorIndex := 8, attributes := #[] }, { accessFlags := 9, nameIndex := 252, descriptorIndex := 53, attributes := #[] }, { accessFlags := 9, nameIndex := 90, descriptorIndex := 91, attributes := #[] }, { accessFlags := 9, nameIndex := 101, descriptorIndex := 98, attributes := #[] }, { accessFlags := 10, nameIndex := 97, descriptorIndex := 98, attributes := #[] }] 48 4 #[] #[{ accessFlags := 4120, nameIndex := 121, descriptorIndex := 122, attributes := #[] }])
  fields := #[{ name := "$assertionsDisabled", type := .boolean, accessFlags := 4120, slot := 0, constantValue := 0 }]
  methods := #[k13m0, k13m1, k13m2, k13m3, k13m4]
  instanceTypes := #[]
  staticTypes := #[.boolean]
  resolved := Array.replicate 395 none
  statics := none }

def pool14 : Array CpInfo := pool [(2, .class_ 4), (1, u "java/lang/Object"), (0, u "<init>"), (0, u "()V"), (17, .class_ 26), (1, u "jdk/internal/util/Preconditions"), (6, u "checkIndex"), (13, u "checkFromToIndex"), (7, .class_ 56), (0, u "jdk/internal/util/Preconditions$4"), (57, .class_ 115), (0, u "jdk/internal/util/Preconditions$1"), (7, u "SIOOBE_FORMATTER"), (0, u "Ljava/util/function/BiFunction;"), (0, .class_ 126), (0, u "jdk/internal/util/Preconditions$2"), (3, u "AIOOBE_FORMATTER"), (0, .class_ 132), (0, u "jdk/internal/util/Preconditions$3"), (3, u "IOOBE_FORMATTER"), (41, u "(IILjava/util/function/BiFunction;)I"), (4, u "(IIILjava/util/function/BiFunction;)I")] 10

def k14m0 : Method := { name := "<init>", desc := "()V", sig := { parameters := [], returnType := none }, accessFlags := 1, code := none }
def k14c1 : Code := { maxStack := 3, maxLocals := 3, code := jdk_41_method_11_code, exceptionTable := #[], attributes := #[] }
def k14m1 : Method := { name := "checkIndex", desc := "(IILjava/util/function/BiFunction;)I", sig := { parameters := [.int, .int, (.object "java/util/function/BiFunction")], returnType := some .int }, accessFlags := 9, code := some k14c1 }
def k14c2 : Code := { maxStack := 4, maxLocals := 4, code := jdk_41_method_12_code, exceptionTable := #[], attributes := #[] }
def k14m2 : Method := { name := "checkFromToIndex", desc := "(IIILjava/util/function/BiFunction;)I", sig := { parameters := [.int, .int, .int, (.object "java/util/function/BiFunction")], returnType := some .int }, accessFlags := 9, code := some k14c2 }
/-- jdk/internal/util/Preconditions -/
def k14 : Class := { plain "jdk/internal/util/Preconditions" (some 0) with
  accessFlags := 33
  interfaces := #[]
  cf := some (fileOf pool14 24 #[.nestMembers #[55, 131, 125, 114]] #[{ accessFlags := 1, nameIndex := 5, descriptorIndex := 6, attributes := #[] }, { accessFlags := 9, nameIndex := 33, descriptorIndex := 178, attributes := #[] }, { accessFlags := 9, nameIndex := 47, descriptorIndex := 183, attributes := #[] }] 33 2 #[] #[{ accessFlags := 25, nameIndex := 123, descriptorIndex := 124, attributes := #[] }, { accessFlags := 25, nameIndex := 130, descriptorIndex := 124, attributes := #[] }, { accessFlags := 25, nameIndex := 136, descriptorIndex := 124, attributes := #[] }])
  fields := #[{ name := "SIOOBE_FORMATTER", type := (.object "java/util/function/BiFunction"), accessFlags := 25, slot := 0, constantValue := 0 }, { name := "AIOOBE_FORMATTER", type := (.object "java/util/function/BiFunction"), accessFlags := 25, slot := 1, constantValue := 0 }, { name := "IOOBE_FORMATTER", type := (.object "java/util/function/BiFunction"), accessFlags := 25, slot := 2, constantValue := 0 }]
  methods := #[k14m0, k14m1, k14m2]
  instanceTypes := #[]
  staticTypes := #[(.object "java/util/function/BiFunction"), (.object "java/util/function/BiFunction"), (.object "java/util/function/BiFunction")]
  resolved := Array.replicate 194 none
  statics := some 3 }

def pool15 : Array CpInfo := pool [(1, .class_ 2), (0, u "java/lang/Math"), (1, .class_ 6), (1, u "java/lang/Object"), (0, u "<init>"), (0, u "()V"), (89, .class_ 100), (1, u "java/lang/Math$RandomNumberGeneratorHolder"), (71, u "negativeZeroFloatBits"), (0, u "J"), (2, u "negativeZeroDoubleBits"), (21, u "max"), (2, u "min"), (43, u "$assertionsDisabled"), (0, u "Z"), (88, u "(II)I"), (2, u "twoToTheDoubleScaleDown"), (0, u "D"), (4, u "twoToTheDoubleScaleUp"), (9, u "E"), (3, u "PI"), (2, u "TAU"), (2, u "DEGREES_TO_RADIANS"), (0, u "RADIANS_TO_DEGREES")] 94

def k15m0 : Method := { name := "<init>", desc := "()V", sig := { parameters := [], returnType := none }, accessFlags := 2, code := none }
def k15c1 : Code := { maxStack := 2, maxLocals := 2, code := jdk_29_method_65_code, exceptionTable := #[], attributes := #[] }
def k15m1 : Method := { name := "max", desc := "(II)I", sig := { parameters := [.int, .int], returnType := some .int }, accessFlags := 9, code := some k15c1 }
def k15c2 : Code := { maxStack := 2, maxLocals := 2, code := jdk_29_method_69_code, exceptionTable := #[], attributes := #[] }
def k15m2 : Method := { name := "min", desc := "(II)I", sig := { parameters := [.int, .int], returnType := some .int }, accessFlags := 9, code := some k15c2 }
/-- java/lang/Math -/
def k15 : Class := { plain "java/lang/Math" (some 0) with
  accessFlags := 49
  interfaces := #[]
  cf := some (fileOf pool15 1 #[.nestMembers #[98]] #[{ accessFlags := 2, nameIndex := 7, descriptorIndex := 8, attributes := #[] }, { accessFlags := 9, nameIndex := 198, descriptorIndex := 335, attributes := #[] }, { accessFlags := 9, nameIndex := 201, descriptorIndex := 335, attributes := #[] }] 49 4 #[] #[{ accessFlags := 25, nameIndex := 354, descriptorIndex := 339, attributes := #[] }, { accessFlags := 25, nameIndex := 358, descriptorIndex := 339, attributes := #[] }, { accessFlags := 25, nameIndex := 361, descriptorIndex := 339, attributes := #[] }, { accessFlags := 26, nameIndex := 364, descriptorIndex := 339, attributes := #[] }, { accessFlags := 26, nameIndex := 365, descriptorIndex := 339, attributes := #[] }, { accessFlags := 26, nameIndex := 172, descriptorIndex := 173, attributes := #[] }, { accessFlags := 26, nameIndex := 176, descriptorIndex := 173, attributes := #[] }, { accessFlags := 8, nameIndex := 344, descriptorIndex := 339, attributes := #[] }, { accessFlags := 8, nameIndex := 338, descriptorIndex := 339, attributes := #[] }, { accessFlags := 4120, nameIndex := 245, descriptorIndex := 246, attributes := #[] }])
  fields := #[{ name := "E", type := .double, accessFlags := 25, slot := 0, constantValue := 0 }, { name := "PI", type := .double, accessFlags := 25, slot := 1, constantValue := 0 }, { name := "TAU", type := .double, accessFlags := 25, slot := 2, constantValue := 0 }, { name := "DEGREES_TO_RADIANS", type := .double, accessFlags := 26, slot := 3, constantValue := 0 }, { name := "RADIANS_TO_DEGREES", type := .double, accessFlags := 26, slot := 4, constantValue := 0 }, { name := "negativeZeroFloatBits", type := .long, accessFlags := 26, slot := 5, constantValue := 0 }, { name := "negativeZeroDoubleBits", type := .long, accessFlags := 26, slot := 6, constantValue := 0 }, { name := "twoToTheDoubleScaleUp", type := .double, accessFlags := 8, slot := 7, constantValue := 0 }, { name := "twoToTheDoubleScaleDown", type := .double, accessFlags := 8, slot := 8, constantValue := 0 }, { name := "$assertionsDisabled", type := .boolean, accessFlags := 4120, slot := 9, constantValue := 0 }]
  methods := #[k15m0, k15m1, k15m2]
  instanceTypes := #[]
  staticTypes := #[.double, .double, .double, .double, .double, .long, .long, .double, .double, .boolean]
  resolved := Array.replicate 460 none
  statics := none }

def pool16 : Array CpInfo := pool [(9, u "<init>"), (6, .class_ 18), (1, u "java/lang/Object"), (0, u "()V"), (1, .class_ 23), (1, u "jdk/internal/util/ArraysSupport"), (0, u "LOG2_ARRAY_LONG_INDEX_SCALE"), (0, u "I"), (2, u "U"), (0, u "Ljdk/internal/misc/Unsafe;"), (8, u "BIG_ENDIAN"), (0, u "Z"), (8, u "LOG2_BYTE_BIT_SIZE"), (4, u "LOG2_ARRAY_INT_INDEX_SCALE"), (54, u "JLA"), (0, u "Ljdk/internal/access/JavaLangAccess;"), (11, u "LOG2_ARRAY_BOOLEAN_INDEX_SCALE"), (9, u "LOG2_ARRAY_BYTE_INDEX_SCALE"), (5, u "LOG2_ARRAY_CHAR_INDEX_SCALE"), (5, u "LOG2_ARRAY_SHORT_INDEX_SCALE"), (18, u "LOG2_ARRAY_FLOAT_INDEX_SCALE"), (24, u "LOG2_ARRAY_DOUBLE_INDEX_SCALE"), (89, u "T_BOOLEAN"), (2, u "T_CHAR"), (1, u "T_FLOAT"), (1, u "T_DOUBLE"), (1, u "T_BYTE"), (1, u "T_SHORT"), (1, u "T_INT"), (1, u "T_LONG"), (1, u "SOFT_MAX_ARRAY_LENGTH")] 83

def k16m0 : Method := { name := "<init>", desc := "()V", sig := { parameters := [], returnType := none }, accessFlags := 2, code := none }
/-- jdk/internal/util/ArraysSupport -/
def k16 : Class := { plain "jdk/internal/util/ArraysSupport" (some 0) with
  accessFlags := 33
  interfaces := #[]
  cf := some (fileOf pool16 21 #[] #[{ accessFlags := 2, nameIndex := 9, descriptorIndex := 19, attributes := #[] }] 33 16 #[] #[{ accessFlags := 24, nameIndex := 28, descriptorIndex := 29, attributes := #[] }, { accessFlags := 26, nameIndex := 38, descriptorIndex := 39, attributes := #[] }, { accessFlags := 25, nameIndex := 121, descriptorIndex := 25, attributes := #[] }, { accessFlags := 25, nameIndex := 131, descriptorIndex := 25, attributes := #[] }, { accessFlags := 25, nameIndex := 137, descriptorIndex := 25, attributes := #[] }, { accessFlags := 25, nameIndex := 143, descriptorIndex := 25, attributes := #[] }, { accessFlags := 25, nameIndex := 53, descriptorIndex := 25, attributes := #[] }, { accessFlags := 25, nameIndex := 24, descriptorIndex := 25, attributes := #[] }, { accessFlags := 25, nameIndex := 162, descriptorIndex := 25, attributes := #[] }, { accessFlags := 25, nameIndex := 187, descriptorIndex := 25, attributes := #[] }, { accessFlags := 26, nameIndex := 48, descriptorIndex := 25, attributes := #[] }, { accessFlags := 25, nameIndex := 277, descriptorIndex := 25, attributes := #[] }, { accessFlags := 25, nameIndex := 280, descriptorIndex := 25, attributes := #[] }, { accessFlags := 25, nameIndex := 282, descriptorIndex := 25, attributes := #[] }, { accessFlags := 25, nameIndex := 284, descriptorIndex := 25, attributes := #[] }, { accessFlags := 25, nameIndex := 286, descriptorIndex := 25, attributes := #[] }, { accessFlags := 25, nameIndex := 288, descriptorIndex := 25, attributes := #[] }, { accessFlags := 25, nameIndex := 290, descriptorIndex := 25, attributes := #[] }, { accessFlags := 25, nameIndex := 292, descriptorIndex := 25, attributes := #[] }, { accessFlags := 26, nameIndex := 108, descriptorIndex := 109, attributes := #[] }, { accessFlags := 25, nameIndex := 294, descriptorIndex := 25, attributes := #[] }])
  fields := #[{ name := "U", type := (.object "jdk/internal/misc/Unsafe"), accessFlags := 24, slot := 0, constantValue := 0 }, { name := "BIG_ENDIAN", type := .boolean, accessFlags := 26, slot := 1, constantValue := 0 }, { name := "LOG2_ARRAY_BOOLEAN_INDEX_SCALE", type := .int, accessFlags := 25, slot := 2, constantValue := 0 }, { name := "LOG2_ARRAY_BYTE_INDEX_SCALE", type := .int, accessFlags := 25, slot := 3, constantValue := 0 }, { name := "LOG2_ARRAY_CHAR_INDEX_SCALE", type := .int, accessFlags := 25, slot := 4, constantValue := 0 }, { name := "LOG2_ARRAY_SHORT_INDEX_SCALE", type := .int, accessFlags := 25, slot := 5, constantValue := 0 }, { name := "LOG2_ARRAY_INT_INDEX_SCALE", type := .int, accessFlags := 25, slot := 6, constantValue := 0 }, { name := "LOG2_ARRAY_LONG_INDEX_SCALE", type := .int, accessFlags := 25, slot := 7, constantValue := 0 }, { name := "LOG2_ARRAY_FLOAT_INDEX_SCALE", type := .int, accessFlags := 25, slot := 8, constantValue := 0 }, { name := "LOG2_ARRAY_DOUBLE_INDEX_SCALE", type := .int, accessFlags := 25, slot := 9, constantValue := 0 }, { name := "LOG2_BYTE_BIT_SIZE", type := .int, accessFlags := 26, slot := 10, constantValue := 0 }, { name := "T_BOOLEAN", type := .int, accessFlags := 25, slot := 11, constantValue := 0 }, { name := "T_CHAR", type := .int, accessFlags := 25, slot := 12, constantValue := 0 }, { name := "T_FLOAT", type := .int, accessFlags := 25, slot := 13, constantValue := 0 }, { name := "T_DOUBLE", type := .int, accessFlags := 25, slot := 14, constantValue := 0 }, { name := "T_BYTE", type := .int, accessFlags := 25, slot := 15, constantValue := 0 }, { name := "T_SHORT", type := .int, accessFlags := 25, slot := 16, constantValue := 0 }, { name := "T_INT", type := .int, accessFlags := 25, slot := 17, constantValue := 0 }, { name := "T_LONG", type := .int, accessFlags := 25, slot := 18, constantValue := 0 }, { name := "JLA", type := (.object "jdk/internal/access/JavaLangAccess"), accessFlags := 26, slot := 19, constantValue := 0 }, { name := "SOFT_MAX_ARRAY_LENGTH", type := .int, accessFlags := 25, slot := 20, constantValue := 0 }]
  methods := #[k16m0]
  instanceTypes := #[]
  staticTypes := #[(.object "jdk/internal/misc/Unsafe"), .boolean, .int, .int, .int, .int, .int, .int, .int, .int, .int, .int, .int, .int, .int, .int, .int, .int, .int, (.object "jdk/internal/access/JavaLangAccess"), .int]
  resolved := Array.replicate 378 none
  statics := none }

def pool17 : Array CpInfo := pool [(1, u "java/lang/Cloneable"), (0, .class_ 1), (0, u "java/lang/Object"), (0, .class_ 3)] 3

/-- java/lang/Cloneable -/
def k17 : Class := { plain "java/lang/Cloneable" (some 0) with
  accessFlags := 1537
  interfaces := #[]
  cf := some (fileOf pool17 2 #[] #[] 1537 4 #[] #[])
  fields := #[]
  methods := #[]
  instanceTypes := #[]
  staticTypes := #[]
  resolved := Array.replicate 8 none
  statics := none }

/-- the primitive byte -/
def k18 : Class := { plain "byte" none with kind := .primitive 'B', accessFlags := 0x411 }
/-- [B -/
def k19 : Class := { plain "[B" (some 0) with kind := .array 18 .byte, interfaces := #[17, 4], accessFlags := 1041 }

/-- the primitive char -/
def k20 : Class := { plain "char" none with kind := .primitive 'C', accessFlags := 0x411 }
/-- [C -/
def k21 : Class := { plain "[C" (some 0) with kind := .array 20 .char, interfaces := #[17, 4], accessFlags := 1041 }

/-- the primitive int -/
def k22 : Class := { plain "int" none with kind := .primitive 'I', accessFlags := 0x411 }
/-- [I -/
def k23 : Class := { plain "[I" (some 0) with kind := .array 22 .int, interfaces := #[17, 4], accessFlags := 1041 }

def heap : Heap := #[{ cls := 6, slots := #[.ref 4, .ref 5, .null], vm := .statics 6 },
  { cls := 10, slots := #[.long 0, .int 1, .null, .int 0, .null, .int 0, .int 0], vm := .statics 10 },
  { cls := 11, slots := #[.int 0, .int 8, .int 0, .int 1], vm := .statics 11 },
  { cls := 14, slots := #[.null, .null, .null], vm := .statics 14 },
  { cls := 6, slots := #[.null, .int 0, .int 0], vm := .none },
  { cls := 6, slots := #[.null, .int 1, .int 0], vm := .none }]
def classes : Array Class := #[k0, k1, k2, k3, k4, k5, k6, k7, k8, k9, k10, k11, k12, k13, k14, k15, k16, k17, k18, k19, k20, k21, k22, k23]
def interned : List (Array UInt16 × Addr) := []
def slotsUsed : Nat := 23
def theMethod : MethodId := ⟨1, 3⟩
def args0 : Array Value := #[.int 5, .int 6, .int 7, .int 8, .int 9, .int 10]
def aboutOver (below : List Frame) : State where
  vm := { classes := classes, interned := interned.toArray }
  heap := heap
  slotsUsed := slotsUsed
  threads := #[{ frames := .invoking theMethod args0 :: below }]
def below0 : List Frame := [.native { method := ⟨0, 0⟩, args := #[] }]
def about1 : State := aboutOver below0
def p0 : Program := .bare "" "" ""
def e0 : Env := launch0.env 0 0 0
theorem w_frames : about1.frames = Frame.invoking theMethod args0 :: below0 := rfl
set_option maxRecDepth 65536 in
theorem w_args : argsFit about1.vm theMethod args0 = true := by decide +kernel
set_option maxRecDepth 65536 in
theorem w_heap : heapFits about1 = true := by decide +kernel
set_option maxRecDepth 65536 in
theorem w_runnable : about1.curStatus? = some .runnable := by decide +kernel
set_option maxRecDepth 65536 in
theorem w_alone : about1.alone = true := by decide +kernel
set_option maxRecDepth 65536 in
theorem w_named : about1.methodNamed? x = some theMethod := by decide +kernel
set_option maxRecDepth 65536 in
theorem w_hears : about1.hears theMethod below0 = true := by decide +kernel
set_option maxRecDepth 65536 in
theorem w_ripe : about1.ripe theMethod args0 below0 = true := by decide +kernel
theorem w_running : about1.status = .running := rfl
set_option maxRecDepth 65536 in
theorem w_room : about1.hasRoom e0.platform room_1 = true :=
  launch0.hasRoom_least _ room_1 (by decide +kernel) (by decide +kernel) (by decide +kernel) (by decide +kernel) (by decide +kernel) (by decide +kernel)
theorem allAtoms_all (ts : List Jvm.Cond) (a : Array Jvm.Value) (st : Jvm.State) : (allAtoms ts).before a st = ts.all (fun c => c.before a st) := by
  induction ts with
  | nil => rfl
  | cons c t ih =>
    show (Jvm.Cond.and c (allAtoms t)).before a st = _
    rw [Jvm.Cond.before_and, ih, List.all_cons]
def words1 : List Jvm.Cond := Jvm.Cond.code x code maxLocals ret :: tables_1
/-- a 'code' word, met by the world's own term for the bytes: nothing is compared byte by byte -/
theorem code_word {y : MethodName} {bytes : ByteArray} {mx : Nat} {rt : Option FieldType} {a : Array Value} {s : State} {m : MethodId} {meth : Method} {c : Code} (h1 : s.methodNamed? y = some m) (h2 : s.vm.method? m = some meth) (h3 : meth.code = some c) (h4 : c.code = bytes)
    (h5 : (c.maxLocals == mx && c.exceptionTable.isEmpty && decide (c.maxStack ≤ mostOperands) && decide (meth.sig.returnType = rt) && !meth.locks && decide (parseMethodDescriptor y.desc = some meth.sig)) = true) : (Jvm.Cond.code y bytes mx rt).before a s = true := by
  simp only [Bool.and_eq_true, beq_iff_eq, Bool.not_eq_true', decide_eq_true_eq] at h5
  obtain ⟨⟨⟨⟨⟨g1, g2⟩, g3⟩, g4⟩, g5⟩, g6⟩ := h5
  simp [Cond.before, Cond.holds, Cond.value, h1, h2, h3, h4, g1, g2, g3, g4, g5, g6]
def isCode : Jvm.Cond → Bool
  | .code _ _ _ _ => true
  | _ => false
theorem all_split {L : List Jvm.Cond} {P : Jvm.Cond → Bool} (h1 : L.all (fun c => isCode c || P c) = true) (h2 : ∀ c ∈ L.filter isCode, P c = true) : L.all P = true := by
  refine List.all_eq_true.mpr fun c hc => ?_
  have h := List.all_eq_true.mp h1 c hc
  rcases Bool.eq_false_or_eq_true (isCode c) with hi | hi
  · exact h2 c (List.mem_filter.mpr ⟨hc, hi⟩)
  · simpa [hi] using h
set_option maxRecDepth 65536 in
theorem w_c0 : (Jvm.Cond.code x code maxLocals ret).before args0 about1 = true := code_word (m := ⟨1, 3⟩) (meth := k1m3) (c := k1c3) (by decide +kernel) rfl rfl rfl (by decide +kernel)
set_option maxRecDepth 65536 in
theorem w_c1 : (Jvm.Cond.code ({ cls := "com/example/cadmus/cadmus/StartTagEmptyPinLaw", name := "nameChar", desc := "(I)C" } : Jvm.MethodName) method_3_code (2 : Nat) (Option.some Jvm.ClassFile.FieldType.char)).before args0 about1 = true := code_word (m := ⟨1, 2⟩) (meth := k1m2) (c := k1c2) (by decide +kernel) rfl rfl rfl (by decide +kernel)
set_option maxRecDepth 65536 in
theorem w_c2 : (Jvm.Cond.code ({ cls := "com/example/cadmus/cadmus/Markup$StartTag", name := "<init>", desc := "(Lcom/example/cadmus/cadmus/XmlVersion;)V" } : Jvm.MethodName) prog_11_method_2_code (2 : Nat) (Option.none : Option Jvm.ClassFile.FieldType)).before args0 about1 = true := code_word (m := ⟨7, 0⟩) (meth := k7m0) (c := k7c0) (by decide +kernel) rfl rfl rfl (by decide +kernel)
set_option maxRecDepth 65536 in
theorem w_c3 : (Jvm.Cond.code ({ cls := "java/lang/Object", name := "<init>", desc := "()V" } : Jvm.MethodName) object_method_1_code (1 : Nat) (Option.none : Option Jvm.ClassFile.FieldType)).before args0 about1 = true := code_word (m := ⟨0, 0⟩) (meth := k0m0) (c := k0c0) (by decide +kernel) rfl rfl rfl (by decide +kernel)
set_option maxRecDepth 65536 in
theorem w_c4 : (Jvm.Cond.code ({ cls := "java/lang/String", name := "<init>", desc := "([C)V" } : Jvm.MethodName) jdk_42_method_3_code (2 : Nat) (Option.none : Option Jvm.ClassFile.FieldType)).before args0 about1 = true := code_word (m := ⟨10, 1⟩) (meth := k10m1) (c := k10c1) (by decide +kernel) rfl rfl rfl (by decide +kernel)
set_option maxRecDepth 65536 in
theorem w_c5 : (Jvm.Cond.code ({ cls := "java/lang/String", name := "<init>", desc := "([CIILjava/lang/Void;)V" } : Jvm.MethodName) jdk_42_method_149_code (6 : Nat) (Option.none : Option Jvm.ClassFile.FieldType)).before args0 about1 = true := code_word (m := ⟨10, 5⟩) (meth := k10m5) (c := k10c5) (by decide +kernel) rfl rfl rfl (by decide +kernel)
set_option maxRecDepth 65536 in
theorem w_c6 : (Jvm.Cond.code ({ cls := "java/lang/StringUTF16", name := "compress", desc := "([CII)[B" } : Jvm.MethodName) jdk_52_method_16_code (6 : Nat) (Option.some (Jvm.ClassFile.FieldType.array Jvm.ClassFile.FieldType.byte))).before args0 about1 = true := code_word (m := ⟨11, 8⟩) (meth := k11m8) (c := k11c8) (by decide +kernel) rfl rfl rfl (by decide +kernel)
set_option maxRecDepth 65536 in
theorem w_c7 : (Jvm.Cond.code ({ cls := "java/lang/StringUTF16", name := "compress", desc := "([CI[BII)I" } : Jvm.MethodName) jdk_52_method_21_code (7 : Nat) (Option.some Jvm.ClassFile.FieldType.int)).before args0 about1 = true := code_word (m := ⟨11, 9⟩) (meth := k11m9) (c := k11c9) (by decide +kernel) rfl rfl rfl (by decide +kernel)
set_option maxRecDepth 65536 in
theorem w_c8 : (Jvm.Cond.code ({ cls := "java/lang/StringUTF16", name := "coderFromArrayLen", desc := "([BI)B" } : Jvm.MethodName) jdk_52_method_15_code (2 : Nat) (Option.some Jvm.ClassFile.FieldType.byte)).before args0 about1 = true := code_word (m := ⟨11, 7⟩) (meth := k11m7) (c := k11c7) (by decide +kernel) rfl rfl rfl (by decide +kernel)
set_option maxRecDepth 65536 in
theorem w_c9 : (Jvm.Cond.code ({ cls := "com/example/cadmus/cadmus/Markup$StartTag", name := "read", desc := "(Ljava/lang/String;I)Lcom/example/cadmus/cadmus/Markup$StartTag;" } : Jvm.MethodName) prog_11_method_3_code (3 : Nat) (Option.some (Jvm.ClassFile.FieldType.object "com/example/cadmus/cadmus/Markup$StartTag"))).before args0 about1 = true := code_word (m := ⟨7, 1⟩) (meth := k7m1) (c := k7c1) (by decide +kernel) rfl rfl rfl (by decide +kernel)
set_option maxRecDepth 65536 in
theorem w_c10 : (Jvm.Cond.code ({ cls := "com/example/cadmus/cadmus/Markup", name := "nameEnd", desc := "(Ljava/lang/String;ILcom/example/cadmus/cadmus/XmlVersion;)I" } : Jvm.MethodName) prog_6_method_24_code (5 : Nat) (Option.some Jvm.ClassFile.FieldType.int)).before args0 about1 = true := code_word (m := ⟨12, 3⟩) (meth := k12m3) (c := k12c3) (by decide +kernel) rfl rfl rfl (by decide +kernel)
set_option maxRecDepth 65536 in
theorem w_c11 : (Jvm.Cond.code ({ cls := "java/lang/String", name := "charAt", desc := "(I)C" } : Jvm.MethodName) jdk_42_method_56_code (2 : Nat) (Option.some Jvm.ClassFile.FieldType.char)).before args0 about1 = true := code_word (m := ⟨10, 3⟩) (meth := k10m3) (c := k10c3) (by decide +kernel) rfl rfl rfl (by decide +kernel)
set_option maxRecDepth 65536 in
theorem w_c12 : (Jvm.Cond.code ({ cls := "java/lang/String", name := "isLatin1", desc := "()Z" } : Jvm.MethodName) jdk_42_method_154_code (1 : Nat) (Option.some Jvm.ClassFile.FieldType.boolean)).before args0 about1 = true := code_word (m := ⟨10, 7⟩) (meth := k10m7) (c := k10c7) (by decide +kernel) rfl rfl rfl (by decide +kernel)
set_option maxRecDepth 65536 in
theorem w_c13 : (Jvm.Cond.code ({ cls := "java/lang/StringLatin1", name := "charAt", desc := "([BI)C" } : Jvm.MethodName) jdk_43_method_2_code (2 : Nat) (Option.some Jvm.ClassFile.FieldType.char)).before args0 about1 = true := code_word (m := ⟨13, 1⟩) (meth := k13m1) (c := k13c1) (by decide +kernel) rfl rfl rfl (by decide +kernel)
set_option maxRecDepth 65536 in
theorem w_c14 : (Jvm.Cond.code ({ cls := "java/lang/String", name := "checkIndex", desc := "(II)V" } : Jvm.MethodName) jdk_42_method_155_code (2 : Nat) (Option.none : Option Jvm.ClassFile.FieldType)).before args0 about1 = true := code_word (m := ⟨10, 8⟩) (meth := k10m8) (c := k10c8) (by decide +kernel) rfl rfl rfl (by decide +kernel)
set_option maxRecDepth 65536 in
theorem w_c15 : (Jvm.Cond.code ({ cls := "jdk/internal/util/Preconditions", name := "checkIndex", desc := "(IILjava/util/function/BiFunction;)I" } : Jvm.MethodName) jdk_41_method_11_code (3 : Nat) (Option.some Jvm.ClassFile.FieldType.int)).before args0 about1 = true := code_word (m := ⟨14, 1⟩) (meth := k14m1) (c := k14c1) (by decide +kernel) rfl rfl rfl (by decide +kernel)
set_option maxRecDepth 65536 in
theorem w_c16 : (Jvm.Cond.code ({ cls := "com/example/cadmus/cadmus/XmlVersion", name := "isSpace", desc := "(C)Z" } : Jvm.MethodName) prog_31_method_5_code (2 : Nat) (Option.some Jvm.ClassFile.FieldType.boolean)).before args0 about1 = true := code_word (m := ⟨6, 0⟩) (meth := k6m0) (c := k6c0) (by decide +kernel) rfl rfl rfl (by decide +kernel)
set_option maxRecDepth 65536 in
theorem w_c17 : (Jvm.Cond.code ({ cls := "com/example/cadmus/cadmus/Markup$StartTag", name := "end", desc := "()I" } : Jvm.MethodName) prog_11_method_8_code (1 : Nat) (Option.some Jvm.ClassFile.FieldType.int)).before args0 about1 = true := code_word (m := ⟨7, 3⟩) (meth := k7m3) (c := k7c3) (by decide +kernel) rfl rfl rfl (by decide +kernel)
set_option maxRecDepth 65536 in
theorem w_c18 : (Jvm.Cond.code ({ cls := "com/example/cadmus/cadmus/Markup$StartTag", name := "nextAttribute", desc := "()Z" } : Jvm.MethodName) prog_11_method_4_code (2 : Nat) (Option.some Jvm.ClassFile.FieldType.boolean)).before args0 about1 = true := code_word (m := ⟨7, 2⟩) (meth := k7m2) (c := k7c2) (by decide +kernel) rfl rfl rfl (by decide +kernel)
set_option maxRecDepth 65536 in
theorem w_c19 : (Jvm.Cond.code ({ cls := "com/example/cadmus/cadmus/Markup", name := "spaceEnd", desc := "(Ljava/lang/String;ILcom/example/cadmus/cadmus/XmlVersion;)I" } : Jvm.MethodName) prog_6_method_23_code (4 : Nat) (Option.some Jvm.ClassFile.FieldType.int)).before args0 about1 = true := code_word (m := ⟨12, 2⟩) (meth := k12m2) (c := k12c2) (by decide +kernel) rfl rfl rfl (by decide +kernel)
set_option maxRecDepth 65536 in
theorem w_c20 : (Jvm.Cond.code ({ cls := "java/lang/String", name := "length", desc := "()I" } : Jvm.MethodName) jdk_42_method_54_code (1 : Nat) (Option.some Jvm.ClassFile.FieldType.int)).before args0 about1 = true := code_word (m := ⟨10, 2⟩) (meth := k10m2) (c := k10c2) (by decide +kernel) rfl rfl rfl (by decide +kernel)
set_option maxRecDepth 65536 in
theorem w_c21 : (Jvm.Cond.code ({ cls := "java/lang/String", name := "coder", desc := "()B" } : Jvm.MethodName) jdk_42_method_152_code (1 : Nat) (Option.some Jvm.ClassFile.FieldType.byte)).before args0 about1 = true := code_word (m := ⟨10, 6⟩) (meth := k10m6) (c := k10c6) (by decide +kernel) rfl rfl rfl (by decide +kernel)
set_option maxRecDepth 65536 in
theorem w_c22 : (Jvm.Cond.code ({ cls := "com/example/cadmus/cadmus/Markup$StartTag", name := "empty", desc := "()Z" } : Jvm.MethodName) prog_11_method_9_code (1 : Nat) (Option.some Jvm.ClassFile.FieldType.boolean)).before args0 about1 = true := code_word (m := ⟨7, 4⟩) (meth := k7m4) (c := k7c4) (by decide +kernel) rfl rfl rfl (by decide +kernel)
set_option maxRecDepth 65536 in
theorem w_c23 : (Jvm.Cond.code ({ cls := "com/example/cadmus/cadmus/StartTagEmptyPinLaw", name := "space", desc := "(IZ)C" } : Jvm.MethodName) method_2_code (3 : Nat) (Option.some Jvm.ClassFile.FieldType.char)).before args0 about1 = true := code_word (m := ⟨1, 1⟩) (meth := k1m1) (c := k1c1) (by decide +kernel) rfl rfl rfl (by decide +kernel)
set_option maxRecDepth 65536 in
theorem w_c24 : (Jvm.Cond.code ({ cls := "com/example/cadmus/cadmus/Markup", name := "after", desc := "(Ljava/lang/String;CI)I" } : Jvm.MethodName) prog_6_method_16_code (4 : Nat) (Option.some Jvm.ClassFile.FieldType.int)).before args0 about1 = true := code_word (m := ⟨12, 1⟩) (meth := k12m1) (c := k12c1) (by decide +kernel) rfl rfl rfl (by decide +kernel)
set_option maxRecDepth 65536 in
theorem w_c25 : (Jvm.Cond.code ({ cls := "java/lang/String", name := "indexOf", desc := "(II)I" } : Jvm.MethodName) jdk_42_method_80_code (3 : Nat) (Option.some Jvm.ClassFile.FieldType.int)).before args0 about1 = true := code_word (m := ⟨10, 4⟩) (meth := k10m4) (c := k10c4) (by decide +kernel) rfl rfl rfl (by decide +kernel)
set_option maxRecDepth 65536 in
theorem w_c26 : (Jvm.Cond.code ({ cls := "java/lang/StringLatin1", name := "indexOf", desc := "([BIII)I" } : Jvm.MethodName) jdk_43_method_22_code (4 : Nat) (Option.some Jvm.ClassFile.FieldType.int)).before args0 about1 = true := code_word (m := ⟨13, 3⟩) (meth := k13m3) (c := k13c3) (by decide +kernel) rfl rfl rfl (by decide +kernel)
set_option maxRecDepth 65536 in
theorem w_c27 : (Jvm.Cond.code ({ cls := "java/lang/StringLatin1", name := "canEncode", desc := "(I)Z" } : Jvm.MethodName) jdk_43_method_4_code (1 : Nat) (Option.some Jvm.ClassFile.FieldType.boolean)).before args0 about1 = true := code_word (m := ⟨13, 2⟩) (meth := k13m2) (c := k13c2) (by decide +kernel) rfl rfl rfl (by decide +kernel)
set_option maxRecDepth 65536 in
theorem w_c28 : (Jvm.Cond.code ({ cls := "java/lang/Math", name := "max", desc := "(II)I" } : Jvm.MethodName) jdk_29_method_65_code (2 : Nat) (Option.some Jvm.ClassFile.FieldType.int)).before args0 about1 = true := code_word (m := ⟨15, 1⟩) (meth := k15m1) (c := k15c1) (by decide +kernel) rfl rfl rfl (by decide +kernel)
set_option maxRecDepth 65536 in
theorem w_c29 : (Jvm.Cond.code ({ cls := "java/lang/Math", name := "min", desc := "(II)I" } : Jvm.MethodName) jdk_29_method_69_code (2 : Nat) (Option.some Jvm.ClassFile.FieldType.int)).before args0 about1 = true := code_word (m := ⟨15, 2⟩) (meth := k15m2) (c := k15c2) (by decide +kernel) rfl rfl rfl (by decide +kernel)
set_option maxRecDepth 65536 in
theorem w_c30 : (Jvm.Cond.code ({ cls := "java/lang/StringLatin1", name := "indexOfChar", desc := "([BIII)I" } : Jvm.MethodName) jdk_43_method_23_code (6 : Nat) (Option.some Jvm.ClassFile.FieldType.int)).before args0 about1 = true := code_word (m := ⟨13, 4⟩) (meth := k13m4) (c := k13c4) (by decide +kernel) rfl rfl rfl (by decide +kernel)
set_option maxRecDepth 65536 in
theorem w_c31 : (Jvm.Cond.code ({ cls := "java/lang/StringUTF16", name := "toBytes", desc := "([CII)[B" } : Jvm.MethodName) jdk_52_method_14_code (5 : Nat) (Option.some (Jvm.ClassFile.FieldType.array Jvm.ClassFile.FieldType.byte))).before args0 about1 = true := code_word (m := ⟨11, 6⟩) (meth := k11m6) (c := k11c6) (by decide +kernel) rfl rfl rfl (by decide +kernel)
set_option maxRecDepth 65536 in
theorem w_c32 : (Jvm.Cond.code ({ cls := "java/lang/StringUTF16", name := "newBytesFor", desc := "(I)[B" } : Jvm.MethodName) jdk_52_method_2_code (1 : Nat) (Option.some (Jvm.ClassFile.FieldType.array Jvm.ClassFile.FieldType.byte))).before args0 about1 = true := code_word (m := ⟨11, 1⟩) (meth := k11m1) (c := k11c1) (by decide +kernel) rfl rfl rfl (by decide +kernel)
set_option maxRecDepth 65536 in
theorem w_c33 : (Jvm.Cond.code ({ cls := "java/lang/StringUTF16", name := "newBytesLength", desc := "(I)I" } : Jvm.MethodName) jdk_52_method_3_code (1 : Nat) (Option.some Jvm.ClassFile.FieldType.int)).before args0 about1 = true := code_word (m := ⟨11, 2⟩) (meth := k11m2) (c := k11c2) (by decide +kernel) rfl rfl rfl (by decide +kernel)
set_option maxRecDepth 65536 in
theorem w_c34 : (Jvm.Cond.code ({ cls := "java/lang/StringUTF16", name := "putChar", desc := "([BII)V" } : Jvm.MethodName) jdk_52_method_4_code (3 : Nat) (Option.none : Option Jvm.ClassFile.FieldType)).before args0 about1 = true := code_word (m := ⟨11, 3⟩) (meth := k11m3) (c := k11c3) (by decide +kernel) rfl rfl rfl (by decide +kernel)
set_option maxRecDepth 65536 in
theorem w_c35 : (Jvm.Cond.code ({ cls := "java/lang/StringUTF16", name := "getChar", desc := "([BI)C" } : Jvm.MethodName) jdk_52_method_5_code (2 : Nat) (Option.some Jvm.ClassFile.FieldType.char)).before args0 about1 = true := code_word (m := ⟨11, 4⟩) (meth := k11m4) (c := k11c4) (by decide +kernel) rfl rfl rfl (by decide +kernel)
set_option maxRecDepth 65536 in
theorem w_c36 : (Jvm.Cond.code ({ cls := "java/lang/StringUTF16", name := "charAt", desc := "([BI)C" } : Jvm.MethodName) jdk_52_method_83_code (2 : Nat) (Option.some Jvm.ClassFile.FieldType.char)).before args0 about1 = true := code_word (m := ⟨11, 13⟩) (meth := k11m13) (c := k11c13) (by decide +kernel) rfl rfl rfl (by decide +kernel)
set_option maxRecDepth 65536 in
theorem w_c37 : (Jvm.Cond.code ({ cls := "java/lang/StringUTF16", name := "checkIndex", desc := "(I[B)V" } : Jvm.MethodName) jdk_52_method_91_code (2 : Nat) (Option.none : Option Jvm.ClassFile.FieldType)).before args0 about1 = true := code_word (m := ⟨11, 14⟩) (meth := k11m14) (c := k11c14) (by decide +kernel) rfl rfl rfl (by decide +kernel)
set_option maxRecDepth 65536 in
theorem w_c38 : (Jvm.Cond.code ({ cls := "java/lang/StringUTF16", name := "length", desc := "([B)I" } : Jvm.MethodName) jdk_52_method_6_code (1 : Nat) (Option.some Jvm.ClassFile.FieldType.int)).before args0 about1 = true := code_word (m := ⟨11, 5⟩) (meth := k11m5) (c := k11c5) (by decide +kernel) rfl rfl rfl (by decide +kernel)
set_option maxRecDepth 65536 in
theorem w_c39 : (Jvm.Cond.code ({ cls := "java/lang/StringUTF16", name := "indexOf", desc := "([BIII)I" } : Jvm.MethodName) jdk_52_method_40_code (4 : Nat) (Option.some Jvm.ClassFile.FieldType.int)).before args0 about1 = true := code_word (m := ⟨11, 10⟩) (meth := k11m10) (c := k11c10) (by decide +kernel) rfl rfl rfl (by decide +kernel)
set_option maxRecDepth 65536 in
theorem w_c40 : (Jvm.Cond.code ({ cls := "java/lang/StringUTF16", name := "indexOfChar", desc := "([BIII)I" } : Jvm.MethodName) jdk_52_method_47_code (4 : Nat) (Option.some Jvm.ClassFile.FieldType.int)).before args0 about1 = true := code_word (m := ⟨11, 11⟩) (meth := k11m11) (c := k11c11) (by decide +kernel) rfl rfl rfl (by decide +kernel)
set_option maxRecDepth 65536 in
theorem w_c41 : (Jvm.Cond.code ({ cls := "java/lang/StringUTF16", name := "checkBoundsBeginEnd", desc := "(II[B)V" } : Jvm.MethodName) jdk_52_method_93_code (3 : Nat) (Option.none : Option Jvm.ClassFile.FieldType)).before args0 about1 = true := code_word (m := ⟨11, 15⟩) (meth := k11m15) (c := k11c15) (by decide +kernel) rfl rfl rfl (by decide +kernel)
set_option maxRecDepth 65536 in
theorem w_c42 : (Jvm.Cond.code ({ cls := "java/lang/String", name := "checkBoundsBeginEnd", desc := "(III)V" } : Jvm.MethodName) jdk_42_method_158_code (3 : Nat) (Option.none : Option Jvm.ClassFile.FieldType)).before args0 about1 = true := code_word (m := ⟨10, 9⟩) (meth := k10m9) (c := k10c9) (by decide +kernel) rfl rfl rfl (by decide +kernel)
set_option maxRecDepth 65536 in
theorem w_c43 : (Jvm.Cond.code ({ cls := "jdk/internal/util/Preconditions", name := "checkFromToIndex", desc := "(IIILjava/util/function/BiFunction;)I" } : Jvm.MethodName) jdk_41_method_12_code (4 : Nat) (Option.some Jvm.ClassFile.FieldType.int)).before args0 about1 = true := code_word (m := ⟨14, 2⟩) (meth := k14m2) (c := k14c2) (by decide +kernel) rfl rfl rfl (by decide +kernel)
set_option maxRecDepth 65536 in
theorem w_c44 : (Jvm.Cond.code ({ cls := "java/lang/StringUTF16", name := "indexOfCharUnsafe", desc := "([BIII)I" } : Jvm.MethodName) jdk_52_method_48_code (5 : Nat) (Option.some Jvm.ClassFile.FieldType.int)).before args0 about1 = true := code_word (m := ⟨11, 12⟩) (meth := k11m12) (c := k11c12) (by decide +kernel) rfl rfl rfl (by decide +kernel)
def codes1 : List Jvm.Cond := [Jvm.Cond.code x code maxLocals ret, Jvm.Cond.code ({ cls := "com/example/cadmus/cadmus/StartTagEmptyPinLaw", name := "nameChar", desc := "(I)C" } : Jvm.MethodName) method_3_code (2 : Nat) (Option.some Jvm.ClassFile.FieldType.char), Jvm.Cond.code ({ cls := "com/example/cadmus/cadmus/Markup$StartTag", name := "<init>", desc := "(Lcom/example/cadmus/cadmus/XmlVersion;)V" } : Jvm.MethodName) prog_11_method_2_code (2 : Nat) (Option.none : Option Jvm.ClassFile.FieldType), Jvm.Cond.code ({ cls := "java/lang/Object", name := "<init>", desc := "()V" } : Jvm.MethodName) object_method_1_code (1 : Nat) (Option.none : Option Jvm.ClassFile.FieldType), Jvm.Cond.code ({ cls := "java/lang/String", name := "<init>", desc := "([C)V" } : Jvm.MethodName) jdk_42_method_3_code (2 : Nat) (Option.none : Option Jvm.ClassFile.FieldType), Jvm.Cond.code ({ cls := "java/lang/String", name := "<init>", desc := "([CIILjava/lang/Void;)V" } : Jvm.MethodName) jdk_42_method_149_code (6 : Nat) (Option.none : Option Jvm.ClassFile.FieldType), Jvm.Cond.code ({ cls := "java/lang/StringUTF16", name := "compress", desc := "([CII)[B" } : Jvm.MethodName) jdk_52_method_16_code (6 : Nat) (Option.some (Jvm.ClassFile.FieldType.array Jvm.ClassFile.FieldType.byte)), Jvm.Cond.code ({ cls := "java/lang/StringUTF16", name := "compress", desc := "([CI[BII)I" } : Jvm.MethodName) jdk_52_method_21_code (7 : Nat) (Option.some Jvm.ClassFile.FieldType.int), Jvm.Cond.code ({ cls := "java/lang/StringUTF16", name := "coderFromArrayLen", desc := "([BI)B" } : Jvm.MethodName) jdk_52_method_15_code (2 : Nat) (Option.some Jvm.ClassFile.FieldType.byte), Jvm.Cond.code ({ cls := "com/example/cadmus/cadmus/Markup$StartTag", name := "read", desc := "(Ljava/lang/String;I)Lcom/example/cadmus/cadmus/Markup$StartTag;" } : Jvm.MethodName) prog_11_method_3_code (3 : Nat) (Option.some (Jvm.ClassFile.FieldType.object "com/example/cadmus/cadmus/Markup$StartTag")), Jvm.Cond.code ({ cls := "com/example/cadmus/cadmus/Markup", name := "nameEnd", desc := "(Ljava/lang/String;ILcom/example/cadmus/cadmus/XmlVersion;)I" } : Jvm.MethodName) prog_6_method_24_code (5 : Nat) (Option.some Jvm.ClassFile.FieldType.int), Jvm.Cond.code ({ cls := "java/lang/String", name := "charAt", desc := "(I)C" } : Jvm.MethodName) jdk_42_method_56_code (2 : Nat) (Option.some Jvm.ClassFile.FieldType.char), Jvm.Cond.code ({ cls := "java/lang/String", name := "isLatin1", desc := "()Z" } : Jvm.MethodName) jdk_42_method_154_code (1 : Nat) (Option.some Jvm.ClassFile.FieldType.boolean), Jvm.Cond.code ({ cls := "java/lang/StringLatin1", name := "charAt", desc := "([BI)C" } : Jvm.MethodName) jdk_43_method_2_code (2 : Nat) (Option.some Jvm.ClassFile.FieldType.char), Jvm.Cond.code ({ cls := "java/lang/String", name := "checkIndex", desc := "(II)V" } : Jvm.MethodName) jdk_42_method_155_code (2 : Nat) (Option.none : Option Jvm.ClassFile.FieldType), Jvm.Cond.code ({ cls := "jdk/internal/util/Preconditions", name := "checkIndex", desc := "(IILjava/util/function/BiFunction;)I" } : Jvm.MethodName) jdk_41_method_11_code (3 : Nat) (Option.some Jvm.ClassFile.FieldType.int), Jvm.Cond.code ({ cls := "com/example/cadmus/cadmus/XmlVersion", name := "isSpace", desc := "(C)Z" } : Jvm.MethodName) prog_31_method_5_code (2 : Nat) (Option.some Jvm.ClassFile.FieldType.boolean), Jvm.Cond.code ({ cls := "com/example/cadmus/cadmus/Markup$StartTag", name := "end", desc := "()I" } : Jvm.MethodName) prog_11_method_8_code (1 : Nat) (Option.some Jvm.ClassFile.FieldType.int), Jvm.Cond.code ({ cls := "com/example/cadmus/cadmus/Markup$StartTag", name := "nextAttribute", desc := "()Z" } : Jvm.MethodName) prog_11_method_4_code (2 : Nat) (Option.some Jvm.ClassFile.FieldType.boolean), Jvm.Cond.code ({ cls := "com/example/cadmus/cadmus/Markup", name := "spaceEnd", desc := "(Ljava/lang/String;ILcom/example/cadmus/cadmus/XmlVersion;)I" } : Jvm.MethodName) prog_6_method_23_code (4 : Nat) (Option.some Jvm.ClassFile.FieldType.int), Jvm.Cond.code ({ cls := "java/lang/String", name := "length", desc := "()I" } : Jvm.MethodName) jdk_42_method_54_code (1 : Nat) (Option.some Jvm.ClassFile.FieldType.int), Jvm.Cond.code ({ cls := "java/lang/String", name := "coder", desc := "()B" } : Jvm.MethodName) jdk_42_method_152_code (1 : Nat) (Option.some Jvm.ClassFile.FieldType.byte), Jvm.Cond.code ({ cls := "com/example/cadmus/cadmus/Markup$StartTag", name := "empty", desc := "()Z" } : Jvm.MethodName) prog_11_method_9_code (1 : Nat) (Option.some Jvm.ClassFile.FieldType.boolean), Jvm.Cond.code ({ cls := "com/example/cadmus/cadmus/StartTagEmptyPinLaw", name := "space", desc := "(IZ)C" } : Jvm.MethodName) method_2_code (3 : Nat) (Option.some Jvm.ClassFile.FieldType.char), Jvm.Cond.code ({ cls := "com/example/cadmus/cadmus/Markup", name := "after", desc := "(Ljava/lang/String;CI)I" } : Jvm.MethodName) prog_6_method_16_code (4 : Nat) (Option.some Jvm.ClassFile.FieldType.int), Jvm.Cond.code ({ cls := "java/lang/String", name := "indexOf", desc := "(II)I" } : Jvm.MethodName) jdk_42_method_80_code (3 : Nat) (Option.some Jvm.ClassFile.FieldType.int), Jvm.Cond.code ({ cls := "java/lang/StringLatin1", name := "indexOf", desc := "([BIII)I" } : Jvm.MethodName) jdk_43_method_22_code (4 : Nat) (Option.some Jvm.ClassFile.FieldType.int), Jvm.Cond.code ({ cls := "java/lang/StringLatin1", name := "canEncode", desc := "(I)Z" } : Jvm.MethodName) jdk_43_method_4_code (1 : Nat) (Option.some Jvm.ClassFile.FieldType.boolean), Jvm.Cond.code ({ cls := "java/lang/Math", name := "max", desc := "(II)I" } : Jvm.MethodName) jdk_29_method_65_code (2 : Nat) (Option.some Jvm.ClassFile.FieldType.int), Jvm.Cond.code ({ cls := "java/lang/Math", name := "min", desc := "(II)I" } : Jvm.MethodName) jdk_29_method_69_code (2 : Nat) (Option.some Jvm.ClassFile.FieldType.int), Jvm.Cond.code ({ cls := "java/lang/StringLatin1", name := "indexOfChar", desc := "([BIII)I" } : Jvm.MethodName) jdk_43_method_23_code (6 : Nat) (Option.some Jvm.ClassFile.FieldType.int), Jvm.Cond.code ({ cls := "java/lang/StringUTF16", name := "toBytes", desc := "([CII)[B" } : Jvm.MethodName) jdk_52_method_14_code (5 : Nat) (Option.some (Jvm.ClassFile.FieldType.array Jvm.ClassFile.FieldType.byte)), Jvm.Cond.code ({ cls := "java/lang/StringUTF16", name := "newBytesFor", desc := "(I)[B" } : Jvm.MethodName) jdk_52_method_2_code (1 : Nat) (Option.some (Jvm.ClassFile.FieldType.array Jvm.ClassFile.FieldType.byte)), Jvm.Cond.code ({ cls := "java/lang/StringUTF16", name := "newBytesLength", desc := "(I)I" } : Jvm.MethodName) jdk_52_method_3_code (1 : Nat) (Option.some Jvm.ClassFile.FieldType.int), Jvm.Cond.code ({ cls := "java/lang/StringUTF16", name := "putChar", desc := "([BII)V" } : Jvm.MethodName) jdk_52_method_4_code (3 : Nat) (Option.none : Option Jvm.ClassFile.FieldType), Jvm.Cond.code ({ cls := "java/lang/StringUTF16", name := "getChar", desc := "([BI)C" } : Jvm.MethodName) jdk_52_method_5_code (2 : Nat) (Option.some Jvm.ClassFile.FieldType.char), Jvm.Cond.code ({ cls := "java/lang/StringUTF16", name := "charAt", desc := "([BI)C" } : Jvm.MethodName) jdk_52_method_83_code (2 : Nat) (Option.some Jvm.ClassFile.FieldType.char), Jvm.Cond.code ({ cls := "java/lang/StringUTF16", name := "checkIndex", desc := "(I[B)V" } : Jvm.MethodName) jdk_52_method_91_code (2 : Nat) (Option.none : Option Jvm.ClassFile.FieldType), Jvm.Cond.code ({ cls := "java/lang/StringUTF16", name := "length", desc := "([B)I" } : Jvm.MethodName) jdk_52_method_6_code (1 : Nat) (Option.some Jvm.ClassFile.FieldType.int), Jvm.Cond.code ({ cls := "java/lang/StringUTF16", name := "indexOf", desc := "([BIII)I" } : Jvm.MethodName) jdk_52_method_40_code (4 : Nat) (Option.some Jvm.ClassFile.FieldType.int), Jvm.Cond.code ({ cls := "java/lang/StringUTF16", name := "indexOfChar", desc := "([BIII)I" } : Jvm.MethodName) jdk_52_method_47_code (4 : Nat) (Option.some Jvm.ClassFile.FieldType.int), Jvm.Cond.code ({ cls := "java/lang/StringUTF16", name := "checkBoundsBeginEnd", desc := "(II[B)V" } : Jvm.MethodName) jdk_52_method_93_code (3 : Nat) (Option.none : Option Jvm.ClassFile.FieldType), Jvm.Cond.code ({ cls := "java/lang/String", name := "checkBoundsBeginEnd", desc := "(III)V" } : Jvm.MethodName) jdk_42_method_158_code (3 : Nat) (Option.none : Option Jvm.ClassFile.FieldType), Jvm.Cond.code ({ cls := "jdk/internal/util/Preconditions", name := "checkFromToIndex", desc := "(IIILjava/util/function/BiFunction;)I" } : Jvm.MethodName) jdk_41_method_12_code (4 : Nat) (Option.some Jvm.ClassFile.FieldType.int), Jvm.Cond.code ({ cls := "java/lang/StringUTF16", name := "indexOfCharUnsafe", desc := "([BIII)I" } : Jvm.MethodName) jdk_52_method_48_code (5 : Nat) (Option.some Jvm.ClassFile.FieldType.int)]
set_option maxRecDepth 65536 in
theorem codes_eq : words1.filter isCode = codes1 := rfl
theorem w_codes : ∀ c ∈ words1.filter isCode, c.before args0 about1 = true := by
  rw [codes_eq]
  intro c hc
  simp only [codes1, List.mem_cons, List.not_mem_nil, or_false] at hc
  rcases hc with rfl | rfl | rfl | rfl | rfl | rfl | rfl | rfl | rfl | rfl | rfl | rfl | rfl | rfl | rfl | rfl | rfl | rfl | rfl | rfl | rfl | rfl | rfl | rfl | rfl | rfl | rfl | rfl | rfl | rfl | rfl | rfl | rfl | rfl | rfl | rfl | rfl | rfl | rfl | rfl | rfl | rfl | rfl | rfl | rfl
  · exact w_c0
  · exact w_c1
  · exact w_c2
  · exact w_c3
  · exact w_c4
  · exact w_c5
  · exact w_c6
  · exact w_c7
  · exact w_c8
  · exact w_c9
  · exact w_c10
  · exact w_c11
  · exact w_c12
  · exact w_c13
  · exact w_c14
  · exact w_c15
  · exact w_c16
  · exact w_c17
  · exact w_c18
  · exact w_c19
  · exact w_c20
  · exact w_c21
  · exact w_c22
  · exact w_c23
  · exact w_c24
  · exact w_c25
  · exact w_c26
  · exact w_c27
  · exact w_c28
  · exact w_c29
  · exact w_c30
  · exact w_c31
  · exact w_c32
  · exact w_c33
  · exact w_c34
  · exact w_c35
  · exact w_c36
  · exact w_c37
  · exact w_c38
  · exact w_c39
  · exact w_c40
  · exact w_c41
  · exact w_c42
  · exact w_c43
  · exact w_c44
set_option maxRecDepth 65536 in
theorem w_t1 : (words1.take 24).all (fun c => isCode c || c.before args0 about1) = true := by decide +kernel
set_option maxRecDepth 65536 in
theorem w_t2 : ((words1.drop 24).take 24).all (fun c => isCode c || c.before args0 about1) = true := by decide +kernel
set_option maxRecDepth 65536 in
theorem w_t3 : (((words1.drop 24).drop 24).take 24).all (fun c => isCode c || c.before args0 about1) = true := by decide +kernel
set_option maxRecDepth 65536 in
theorem w_t4 : ((((words1.drop 24).drop 24).drop 24).take 24).all (fun c => isCode c || c.before args0 about1) = true := by decide +kernel
set_option maxRecDepth 65536 in
theorem w_t5 : (((((words1.drop 24).drop 24).drop 24).drop 24).take 24).all (fun c => isCode c || c.before args0 about1) = true := by decide +kernel
set_option maxRecDepth 65536 in
theorem w_t6 : ((((((words1.drop 24).drop 24).drop 24).drop 24).drop 24).take 24).all (fun c => isCode c || c.before args0 about1) = true := by decide +kernel
set_option maxRecDepth 65536 in
theorem w_t7 : (((((((words1.drop 24).drop 24).drop 24).drop 24).drop 24).drop 24).take 24).all (fun c => isCode c || c.before args0 about1) = true := by decide +kernel
set_option maxRecDepth 65536 in
theorem w_t8 : ((((((((words1.drop 24).drop 24).drop 24).drop 24).drop 24).drop 24).drop 24).take 24).all (fun c => isCode c || c.before args0 about1) = true := by decide +kernel
set_option maxRecDepth 65536 in
theorem w_t9 : ((((((((words1.drop 24).drop 24).drop 24).drop 24).drop 24).drop 24).drop 24).drop 24).all (fun c => isCode c || c.before args0 about1) = true := by decide +kernel
theorem w_tables : (allAtoms (Jvm.Cond.code x code maxLocals ret :: tables_1)).before args0 about1 = true := by
  rw [allAtoms_all]
  show words1.all (fun c => c.before args0 about1) = true
  refine all_split ?_ w_codes
  rw [← List.take_append_drop 24 words1, List.all_append, w_t1, ← List.take_append_drop 24 (words1.drop 24), List.all_append, w_t2, ← List.take_append_drop 24 ((words1.drop 24).drop 24), List.all_append, w_t3, ← List.take_append_drop 24 (((words1.drop 24).drop 24).drop 24), List.all_append, w_t4, ← List.take_append_drop 24 ((((words1.drop 24).drop 24).drop 24).drop 24), List.all_append, w_t5, ← List.take_append_drop 24 (((((words1.drop 24).drop 24).drop 24).drop 24).drop 24), List.all_append, w_t6, ← List.take_append_drop 24 ((((((words1.drop 24).drop 24).drop 24).drop 24).drop 24).drop 24), List.all_append, w_t7, ← List.take_append_drop 24 (((((((words1.drop 24).drop 24).drop 24).drop 24).drop 24).drop 24).drop 24), List.all_append, w_t8, w_t9]
  rfl
set_option maxRecDepth 65536 in
theorem w_rest : rest_1_c.before args0 about1 = true := by decide +kernel
set_option maxRecDepth 65536 in
theorem w_case : (Jvm.Cond.and given_1 narrow_1).before args0 about1 = true := by decide +kernel
theorem w_applies : (headSpec (Jvm.Cond.code x code maxLocals ret :: tables_1) room_1).applies x e0.platform about1 = true :=
  (Spec.applies_iff w_frames).mpr ⟨w_running, w_runnable, w_alone, w_named, w_hears, w_ripe, w_room, w_tables⟩
theorem atStart : AtStart classFile x code maxLocals ret World_1 tables_1 room_1 Calls_1 rest_1 Pre_1 launch0 p0 e0 about1 theMethod args0 below0 :=
  ⟨lists_1, trivial, launch0.admits_env _ _ _, launch0.least_env, fairChoices_fair.cas, fairChoices_fair.clock, w_frames, w_args, w_heap, w_applies, trivial, w_rest, w_case⟩
end start1
theorem witness_1 : WitnessClaimed_1 := ⟨start1.p0, start1.e0, start1.about1, start1.theMethod, start1.args0, start1.below0, start1.atStart⟩
end Jvm.Pilot.@@N@@
