import JvmDerived
import JvmDerived.Pilot.@@N@@Statement
import JvmDerived.Pilot.@@N@@Code
set_option linter.unusedVariables false
set_option linter.unusedSimpArgs false
namespace Jvm.Pilot.@@N@@
open Jvm Jvm.ClassFile Sem Op Lib Jvm.Free Jvm.Stand Jvm.LawKit Jvm.RoadKit Bundle Jvm.Pilot.@@N@@.Jvm.D
theorem own_tallN {tb : Tables} {e : Env} {N : Nat} : ∀ (n : Nat) (S : State), N ≤ S.heap.size → N ≤ (stepsAlone tb e n S).heap.size
  | 0, S, h => h
  | n + 1, S, h => by
    unfold stepsAlone
    split
    · exact own_tallN n _ (stepThread_tall tb h)
    · exact h
theorem own_tall {tb : Tables} {e : Env} {below : List Frame} {S t : State} {N : Nat} (st : Steps tb e below S t) (h : N ≤ S.heap.size) : N ≤ t.heap.size := by
  obtain ⟨n, rfl, -⟩ := st
  exact own_tallN n S h
/-- the texts interned between -/
def own_IB (v0 v1 : Vm) (tx : List String) : Prop := ∃ more : Array (Array UInt16 × Addr), v1.interned = v0.interned ++ more ∧ ∀ q ∈ more, ∃ t ∈ tx, utf16ToString? q.1 = some t
theorem own_IB.same {v0 v1 : Vm} {tx : List String} (h : v1.interned = v0.interned) : own_IB v0 v1 tx := ⟨#[], by simpa using h, fun q hq => by simp at hq⟩
theorem own_IB.trans {v0 v1 v2 : Vm} {tx ty : List String} (h : own_IB v0 v1 ty) (hs : ∀ x ∈ ty, x ∈ tx) (k : own_IB v1 v2 tx) : own_IB v0 v2 tx := by
  obtain ⟨a, e1, q1⟩ := h
  obtain ⟨b, e2, q2⟩ := k
  refine ⟨a ++ b, by rw [e2, e1, Array.append_assoc], fun q hq => ?_⟩
  rcases Array.mem_append.mp hq with h | h
  · obtain ⟨x, hx, e⟩ := q1 q h; exact ⟨x, hs x hx, e⟩
  · exact q2 q h
theorem own_IB.of {Z : State} {v0 v1 : Vm} {tx Ts : List String} (I : IB Z v0 Ts) (h : own_IB v0 v1 tx) : IB Z v1 (tx ++ Ts) := by
  obtain ⟨a, e1, q1⟩ := I
  obtain ⟨b, e2, q2⟩ := h
  refine ⟨a ++ b, by rw [e2, e1, Array.append_assoc], fun q hq => ?_⟩
  rcases Array.mem_append.mp hq with h | h
  · obtain ⟨x, hx, e⟩ := q1 q h; exact ⟨x, List.mem_append.mpr (Or.inr hx), e⟩
  · obtain ⟨x, hx, e⟩ := q2 q h; exact ⟨x, List.mem_append.mpr (Or.inl hx), e⟩
abbrev own_Post : Type := (Option Value → Heap → List Loc → Vm → Prop) × List String
section Own
variable {p : Program} {l : Launch} {e : Env} {R : Room} {s : State} {m : MethodId} {args : Array Value} {below : List Frame} {meth : Method} {c : Code} {T : State} {locs : List Loc} {cells slots : Nat} {Z : State} {a0 : Array Value} {h : Heap} {Q : own_Post} {kc kn : Nat}
/-- from S the method comes to its end, and what it leaves answers to Q -/
def own_Ends (p : Program) (e : Env) (below : List Frame) (s : State) (Q : own_Post) (kc kn : Nat) (S : State) : Prop :=
  ∃ s₂ o, Steps p.tables e below S s₂ ∧ s₂.status = .running ∧ Ended s₂ below o ∧ ∃ v L, o = .returned v ∧ Q.1 v s₂.heap L s₂.vm ∧ ReturnedEndW s o s₂ L kc kn ∧ own_IB s.vm s₂.vm Q.2
theorem own_pre {S S' : State} (st : ∀ t, Steps p.tables e below S' t → Steps p.tables e below S t) (k : own_Ends p e below s Q kc kn S') : own_Ends p e below s Q kc kn S := by
  obtain ⟨s₂, o, h1, r⟩ := k
  exact ⟨s₂, o, st _ h1, r⟩
theorem own_reb {S : State} {vm1 : Vm} {n1 : Nat} {ty : List String} (hS : s.Since vm1 n1) (hn : n1 ≤ S.heap.size) (hI : own_IB s.vm vm1 ty) (hsub : ∀ x ∈ ty, x ∈ Q.2) (k : own_Ends p e below (s.setVm vm1) Q kc kn S) : own_Ends p e below s Q kc kn S := by
  obtain ⟨s₂, o, h1, h2, h3, v, L, h4, h5, ⟨h6, h7, h8, h9⟩, h10⟩ := k
  have q : n1 ≤ s₂.heap.size := own_tall h1 hn
  have S2 := hS.trans (n₂ := s₂.heap.size) ⟨h7, h8⟩ q
  exact ⟨s₂, o, h1, h2, h3, v, L, h4, h5, ⟨h6, S2.1, S2.2, h9.setVm s.vm⟩, hI.trans hsub h10⟩
theorem own_fin {T : State} {o : Outcome} {L : List Loc} {k1 n1 k2 n2 : Nat} (hr : ∃ v : Option Value, o = Outcome.returned v) (hW : s.WarmedH T.vm) (hs : s.sameButNew { T with vm := s.vm } L k1 n1) (h1 : k1 ≤ k2) (h2 : n1 ≤ n2) {tx : List String} : ReturnedEndW s o T L k2 n2 ∧ own_IB s.vm T.vm tx :=
  ⟨ReturnedEndW.of_narrow hr hW (hs.mono h1 h2), own_IB.same ((hW.since 0).same_table (Nat.zero_le _))⟩
theorem own_ret (X : Stand p l e R s m args below meth c T locs cells slots) (hx : p.tables.exec = Jvm.exec) (hlk : meth.locks = false) {pc : Nat} {Ls : Array Slot} {w : Value} {t : FieldType} {i : Instr} {rest : List Value} (hret : meth.sig.returnType = some t) (hn : narrow t w = w)
    (hi : (i = .ireturn ∧ (t = .int ∨ t = .boolean ∨ t = .byte ∨ t = .char ∨ t = .short) ∧ ∃ z, w = .int z) ∨ (i = .lreturn ∧ t = .long ∧ ∃ z, w = .long z) ∨ (i = .dreturn ∧ t = .double ∧ ∃ z, w = .double z) ∨ (i = .freturn ∧ t = .float ∧ ∃ z, w = .float z) ∨ (i = .areturn ∧ t.isReference = true ∧ w.isRef = true))
    (hd : decode c.code pc = .ok (i, 1)) (h1 : cells ≤ kc) (h2 : slots ≤ kn) (hQ : Q.1 (some w) T.heap locs T.vm) : own_Ends p e below s Q kc kn (T.setTop (mkF m pc Ls (w :: rest))) := by
  obtain ⟨fs, hr, hrun, hended, hW, hsame⟩ := X.leave (v := some w) (fun h => by rw [hret] at h; cases h) hlk
  exact ⟨_, _, retOut X hx hret hn hi hd hr, hrun, hended, _, _, rfl, hQ, own_fin ⟨_, rfl⟩ hW hsame h1 h2⟩
theorem own_retV (X : Stand p l e R s m args below meth c T locs cells slots) (hx : p.tables.exec = Jvm.exec) (hlk : meth.locks = false) {pc : Nat} {Ls : Array Slot} (hret : meth.sig.returnType = none)
    (hd : decode c.code pc = .ok (.return_, 1)) (h1 : cells ≤ kc) (h2 : slots ≤ kn) (hQ : Q.1 none T.heap locs T.vm) : own_Ends p e below s Q kc kn (T.setTop (mkF m pc Ls [])) := by
  obtain ⟨fs, hr, hrun, hended, hW, hsame⟩ := X.leave (v := none) (fun _ => rfl) hlk
  exact ⟨_, _, X.returnOut hx hret hd hr, hrun, hended, _, _, rfl, hQ, own_fin ⟨_, rfl⟩ hW hsame h1 h2⟩
/-- a contract: called with these arguments over this heap, the tables as PV says, it returns, and Q says what it left -/
abbrev own_MetW (l : Launch) (Z : State) (y : MethodName) (bytes : ByteArray) (maxL : Nat) (ret : Option FieldType) (ws : List Jvm.Cond) (rm : Room) (as' : Array Value) (h0 : Heap) (PV : Vm → Prop) (Q : own_Post) : Prop :=
  MetFree l y (head1 (Jvm.Cond.code y bytes maxL ret :: ws) rm) (fun a U => a = as' ∧ Z.Warmed39 U.vm ∧ U.heap = h0 ∧ PV U.vm) (fun _ _ _ _ _ => True) (fun _ U o U' => ∃ v L, o = .returned v ∧ Q.1 v U'.heap L U'.vm ∧ ReturnedEndW U o U' L rm.cells rm.slots ∧ own_IB U.vm U'.vm Q.2)
abbrev own_Met (l : Launch) (Z : State) (y : MethodName) (bytes : ByteArray) (maxL : Nat) (ret : Option FieldType) (ws : List Jvm.Cond) (rm : Room) (as' : Array Value) (h0 : Heap) (Q : Option Value → Heap → List Loc → Prop) : Prop :=
  own_MetW l Z y bytes maxL ret ws rm as' h0 (fun _ => True) (fun v h L _ => Q v h L, [])
theorem own_bodyW {y : MethodName} {bytes : ByteArray} {maxL : Nat} {ret : Option FieldType} {ws : List Jvm.Cond} {rm : Room} {as' : Array Value} {h0 : Heap} {PV : Vm → Prop} (pn : plainFor y = true) (F : MethodId → JFrame) (hF : ∀ m, entryFrame m as' maxL = F m)
    (body : ∀ (p : Program) (e : Env) (s : State) (m : MethodId) (below : List Frame) (meth : Method) (c : Code) (T : State), p.tables.exec = Jvm.exec → c.code = bytes → c.maxLocals = maxL → meth.locks = false → meth.sig.returnType = ret → Z.Warmed39 s.vm → s.vm.findClass y.cls = some m.cls → meth.name = y.name →
      Stand p l e rm s m as' below meth c T [] 0 0 → T.heap = h0 → PV s.vm → s.heap = h0 → own_Ends p e below s Q rm.cells rm.slots (T.setTop (F m))) : own_MetW l Z y bytes maxL ret ws rm as' h0 PV Q := by
  refine MetFree.of_bodySF pn hisR ?_
  intro p e s m args below meth c s₁ Bd hml0 hP hK
  obtain ⟨rfl, hZ, hh, hv⟩ := hP
  have := body p e s m below meth c s₁ Bd.exec Bd.bytes hml0 (BodyLoose.notSynchronized Bd) Bd.returns hZ (findClass_of_methodNamed Bd.named) (name_of_methodNamed Bd.named Bd.method).1 (Stand.of_body Bd) (by rw [← hh, Bd.state]; rfl) hv hh
  rw [← hF m] at this
  exact this
theorem own_body {y : MethodName} {bytes : ByteArray} {maxL : Nat} {ret : Option FieldType} {ws : List Jvm.Cond} {rm : Room} {as' : Array Value} {h0 : Heap} {Q : Option Value → Heap → List Loc → Prop} (pn : plainFor y = true) (F : MethodId → JFrame) (hF : ∀ m, entryFrame m as' maxL = F m)
    (body : ∀ (p : Program) (e : Env) (s : State) (m : MethodId) (below : List Frame) (meth : Method) (c : Code) (T : State), p.tables.exec = Jvm.exec → c.code = bytes → c.maxLocals = maxL → meth.locks = false → meth.sig.returnType = ret → Z.Warmed39 s.vm → s.vm.findClass y.cls = some m.cls → meth.name = y.name →
      Stand p l e rm s m as' below meth c T [] 0 0 → T.heap = h0 → own_Ends p e below s (fun v h L _ => Q v h L, []) rm.cells rm.slots (T.setTop (F m))) : own_Met l Z y bytes maxL ret ws rm as' h0 Q :=
  own_bodyW pn F hF fun p e s m below meth c T a1 a2 a3 a4 a5 a6 a7 a8 a9 a10 _ _ => body p e s m below meth c T a1 a2 a3 a4 a5 a6 a7 a8 a9 a10
theorem own_backW {y : MethodName} {bytes : ByteArray} {maxL : Nat} {ret : Option FieldType} {rm : Room} {len W : Nat} {as' : Array Value} {PV : Vm → Prop} {Qc : own_Post} (hM : own_MetW l Z y bytes maxL ret [] rm as' h PV Qc)
    (hZ : Z.Warmed39 s.vm) (wc : (Cond.code y bytes maxL ret).before a0 Z = true) (wz : (Cond.initialized y.cls).before a0 Z = true) (hf : rm.frames + 1 ≤ R.frames) (hl : W + (maxL + 11) + rm.locals ≤ R.locals) (hv : ∀ vm, s.WarmedH vm → PV vm) :
    BackS l R p e below s args y len W (fun A a => a = as' ∧ A.U.heap = h ∧ A.cells + rm.cells ≤ R.cells ∧ A.slots + rm.slots ≤ R.slots)
      (fun A _ v B => ∃ L, Qc.1 v B.U.heap L B.U.vm ∧ own_IB A.U.vm B.U.vm Qc.2 ∧ B.locs = A.locs ++ L ∧ B.cells = A.cells + rm.cells ∧ B.slots = A.slots + rm.slots) :=
  BackS.of_freeW (bytes := bytes) (maxL := maxL) (ret := ret) (E := fun _ U o t L k n => k = rm.cells ∧ n = rm.slots ∧ own_IB U.vm t.vm Qc.2 ∧ ∃ v, o = .returned v ∧ Qc.1 v t.heap L t.vm) hM hf hl
    (fun m meth c A a Y hp => have hU : Z.Warmed39 A.U.vm := wtrans hZ Y.warmed
      ⟨by show (Cond.and _ .tt).before a A.U = true; rw [Cond.before_and, mv hU wc]; rfl, mv hU wc, mv hU wz, hp.2.2.1, hp.2.2.2⟩)
    (fun m meth c A a g mk Y hp => ⟨hp.1, wtrans hZ Y.warmed, hp.2.1, hv _ Y.warmed⟩) (fun _ _ _ _ _ _ _ _ _ => trivial)
    (fun _ _ _ _ ⟨v, L, h1, h2, h3, h4⟩ => ⟨L, _, _, h3, rfl, rfl, h4, v, h1, h2⟩)
    (fun m meth c A a g mk v t L k n Y hp _ _ ⟨e1, e2, e0, v', e3, e4⟩ => by cases e3; subst e1 e2; exact ⟨L, e4, e0, rfl, rfl, rfl⟩)
/-- what a call leaves: the base is told anew -/
def own_K (p : Program) (l : Launch) (e : Env) (R : Room) (s : State) (m : MethodId) (args : Array Value) (below : List Frame) (meth : Method) (c : Code) (own : String) (Z : State) (locs : List Loc) (Q : own_Post) (kc kn ck sk : Nat) (Qc : own_Post) (F : Option Value → JFrame) : Prop :=
  ∀ (v : Option Value) (T' : State) (L : List Loc) (s' : State), Stand p l e R s' m args below meth c T' (locs ++ L) ck sk → Z.Warmed39 s'.vm → s'.vm.findClass own = some m.cls → own_IB s.vm s'.vm Qc.2 → s'.vm = T'.vm → s'.heap = s.heap → s.Warmed39 s'.vm → Qc.1 v T'.heap L T'.vm → own_Ends p e below s' Q kc kn (T'.setTop (F v))
theorem own_come {own : String} {T' : State} {ck sk : Nat} {Qc : own_Post} {F : Option Value → JFrame} {L : List Loc} {v : Option Value} {vm1 : Vm} {S : State} (k : own_K p l e R s m args below meth c own Z locs Q kc kn ck sk Qc F) (hZ : Z.Warmed39 s.vm) (hown : s.vm.findClass own = some m.cls)
    (hW : s.WarmedH vm1) (X' : Stand p l e R (s.setVm T'.vm) m args below meth c T' (locs ++ L) ck sk) (hS : s.Since T'.vm T'.heap.size) (hI : own_IB vm1 T'.vm Qc.2) (hsub : ∀ x ∈ Qc.2, x ∈ Q.2) (hQ : Qc.1 v T'.heap L T'.vm) (st : ∀ t, Steps p.tables e below (T'.setTop (F v)) t → Steps p.tables e below S t) : own_Ends p e below s Q kc kn S := by
  have hI' : own_IB s.vm T'.vm Qc.2 := (own_IB.same (tx := []) ((hW.since 0).same_table (Nat.zero_le _))).trans (fun _ h => by cases h) hI
  refine own_pre st (own_reb hS (Nat.le_refl _) hI' hsub ?_)
  exact k v T' L (s.setVm T'.vm) X' (State.Warmed39.trans hZ hS.1) ((hS.1.alike.findClass _ _).trans hown) hI' rfl rfl hS.1 hQ
theorem own_callS (X : Stand p l e R s m args below meth c T locs cells slots) (hx : p.tables.exec = Jvm.exec) (hZ : Z.Warmed39 s.vm) {own : String} {index : Nat} {y : MethodName} {bytes : ByteArray} {maxL : Nat} {ret : Option FieldType} {rm : Room} {Qc : own_Post} {PV : Vm → Prop}
    (hown : s.vm.findClass own = some m.cls) (w1 : (Cond.methodLink own index y).before a0 Z = true) (w2 : (Cond.static y).before a0 Z = true) (w3 : (Cond.initialized y.cls).before a0 Z = true) (w4 : (Cond.code y bytes maxL ret).before a0 Z = true)
    (hy : y.cls ≠ "java/lang/invoke/MethodHandle" ∧ y.cls ≠ "java/lang/invoke/VarHandle") (eT : T.heap = h) {argsL rest st0 : List Value} (hM : own_MetW l Z y bytes maxL ret [] rm argsL.toArray h PV Qc) {W pc : Nat} {Ls : Array Slot}
    (hsz : Ls.size = c.maxLocals) (hlen : ∀ sig, parseMethodDescriptor y.desc = some sig → argsL.length = sig.parameters.length) (hst : st0 = argsL.reverse ++ rest) (hW : (rest.map fun v => v.category).sum ≤ W) (hd : decode c.code pc = .ok (.invokestatic index, 3))
    (hf : rm.frames + 1 ≤ R.frames) (hl : W + (maxL + 11) + rm.locals ≤ R.locals) (hc : cells + rm.cells ≤ R.cells) (hs : slots + rm.slots ≤ R.slots)
    (k : own_K p l e R s m args below meth c own Z locs Q kc kn (cells + rm.cells) (slots + rm.slots) Qc (fun v => mkF m (pc + 3) Ls (v.toList ++ rest)))
    (hv : ∀ vm, s.WarmedH vm → PV vm := by exact fun _ _ => trivial) (hsub : ∀ x ∈ Qc.2, x ∈ Q.2 := by simp) :
    own_Ends p e below s Q kc kn (T.setTop (mkF m pc Ls st0)) := by
  obtain ⟨v, vm1, ⟨T', L', k', n'⟩, hW1, X', hS, hgr, ⟨Lc, hQ, hI, l1, y1, z1⟩, st⟩ := callSS X hx (y := y) hown (mvT hZ w1) (mvT hZ w2) (mvT hZ w3) (mvT hZ w4) hy (own_backW (W := W) hM hZ w4 w3 hf hl hv) (g := mkF m pc Ls st0) rfl hsz (argsL := argsL) (rest := rest) hlen hst (by show 2 * 0 + _ ≤ _; simpa using hW) hd (fun _ _ => ⟨rfl, eT, hc, hs⟩)
  dsimp only [Pt.U, Pt.locs, Pt.cells, Pt.slots] at X' l1 y1 z1 st hQ hI hS
  subst l1 y1 z1
  exact own_come k hZ hown hW1 X' hS hI hsub hQ (fun t kk => st.trans kk)
theorem own_callI (X : Stand p l e R s m args below meth c T locs cells slots) (hx : p.tables.exec = Jvm.exec) (hZ : Z.Warmed39 s.vm) {own : String} {index : Nat} {y : MethodName} {bytes : ByteArray} {maxL : Nat} {rm : Room} {Qc : own_Post} {PV : Vm → Prop} {b : Addr}
    (hown : s.vm.findClass own = some m.cls) (hy1 : y.name = "<init>") (w1 : (Cond.methodLink own index y).before a0 Z = true) (w2 : (Cond.instanceMethod y).before a0 Z = true) (w4 : (Cond.code y bytes maxL none).before a0 Z = true) (w3 : (Cond.initialized y.cls).before a0 Z = true)
    (hy : y.cls ≠ "java/lang/invoke/MethodHandle" ∧ y.cls ≠ "java/lang/invoke/VarHandle") (eT : T.heap = h) {argsL rest st0 : List Value} (hM : own_MetW l Z y bytes maxL none [] rm (.ref b :: argsL).toArray h PV Qc) {W pc : Nat} {Ls : Array Slot}
    (hsz : Ls.size = c.maxLocals) (hlen : ∀ sig, parseMethodDescriptor y.desc = some sig → argsL.length = sig.parameters.length) (hst : st0 = argsL.reverse ++ .ref b :: rest) (hW : (rest.map fun v => v.category).sum ≤ W) (hd : decode c.code pc = .ok (.invokespecial index, 3))
    (hf : rm.frames + 1 ≤ R.frames) (hl : W + (maxL + 11) + rm.locals ≤ R.locals) (hc : cells + rm.cells ≤ R.cells) (hs : slots + rm.slots ≤ R.slots)
    (k : own_K p l e R s m args below meth c own Z locs Q kc kn (cells + rm.cells) (slots + rm.slots) Qc (fun v => mkF m (pc + 3) Ls (v.toList ++ rest)))
    (hv : ∀ vm, s.WarmedH vm → PV vm := by exact fun _ _ => trivial) (hsub : ∀ x ∈ Qc.2, x ∈ Q.2 := by simp) :
    own_Ends p e below s Q kc kn (T.setTop (mkF m pc Ls st0)) := by
  obtain ⟨v, vm1, ⟨T', L', k', n'⟩, hW1, X', hS, hgr, ⟨Lc, hQ, hI, l1, y1, z1⟩, st⟩ := X.specialBackS hx (y := y) hy1 hown (mvT hZ w1) (mvT hZ w2) (mvT hZ w4) hy (own_backW (W := W) hM hZ w4 w3 hf hl hv) (g := mkF m pc Ls st0) rfl hsz (Steps.refl _) (a := b) (argsL := argsL) (rest := rest) hlen hst (by show 2 * 0 + _ ≤ _; simpa using hW) hd (fun _ _ => ⟨rfl, eT, hc, hs⟩)
  dsimp only [Pt.U, Pt.locs, Pt.cells, Pt.slots] at X' l1 y1 z1 st hQ hI hS
  subst l1 y1 z1
  exact own_come k hZ hown hW1 X' hS hI hsub hQ (fun t kk => st.trans kk)
theorem own_callV (X : Stand p l e R s m args below meth c T locs cells slots) (hx : p.tables.exec = Jvm.exec) (hZ : Z.Warmed39 s.vm) {own C : String} {index : Nat} {y : MethodName} {bytes : ByteArray} {maxL : Nat} {ret : Option FieldType} {rm : Room} {Qc : own_Post} {PV : Vm → Prop} {b : Addr}
    (hown : s.vm.findClass own = some m.cls) (w1 : (Cond.methodLink own index y).before a0 Z = true) (w2 : (Cond.declares y).before a0 Z = true) (w3 : (Cond.selects C y y).before a0 Z = true) (w4 : (Cond.instanceMethod y).before a0 Z = true) (w5 : (Cond.code y bytes maxL ret).before a0 Z = true) (w6 : (Cond.initialized y.cls).before a0 Z = true)
    (hy : y.cls ≠ "java/lang/invoke/MethodHandle" ∧ y.cls ≠ "java/lang/invoke/VarHandle") (eT : T.heap = h) (E : Exa Z h b C) {argsL rest st0 : List Value} (hM : own_MetW l Z y bytes maxL ret [] rm (.ref b :: argsL).toArray h PV Qc) {W pc : Nat} {Ls : Array Slot}
    (hsz : Ls.size = c.maxLocals) (hlen : ∀ sig, parseMethodDescriptor y.desc = some sig → argsL.length = sig.parameters.length) (hst : st0 = argsL.reverse ++ .ref b :: rest) (hW : (rest.map fun v => v.category).sum ≤ W) (hd : decode c.code pc = .ok (.invokevirtual index, 3))
    (hf : rm.frames + 1 ≤ R.frames) (hl : W + (maxL + 11) + rm.locals ≤ R.locals) (hc : cells + rm.cells ≤ R.cells) (hs : slots + rm.slots ≤ R.slots)
    (k : own_K p l e R s m args below meth c own Z locs Q kc kn (cells + rm.cells) (slots + rm.slots) Qc (fun v => mkF m (pc + 3) Ls (v.toList ++ rest)))
    (hv : ∀ vm, s.WarmedH vm → PV vm := by exact fun _ _ => trivial) (hsub : ∀ x ∈ Qc.2, x ∈ Q.2 := by simp) :
    own_Ends p e below s Q kc kn (T.setTop (mkF m pc Ls st0)) := by
  obtain ⟨cq, kq, qa, qb, qc⟩ := isOf hZ eT E
  obtain ⟨v, vm1, ⟨T', L', k', n'⟩, hW1, X', hS, hgr, ⟨Lc, hQ, hI, l1, y1, z1⟩, st⟩ := X.virtualBackS hx (y := y) (z := y) hown (mvT hZ w1) (mvT hZ w2) (notFace_of_selects (args := #[]) (mvT hZ w3)) (mvT hZ w3) (mvT hZ w4) hy (own_backW (W := W) hM hZ w5 w6 hf hl hv) qa qc (g := mkF m pc Ls st0) rfl hsz (Steps.refl _) (argsL := argsL) (rest := rest) hlen hst (by show 2 * 0 + _ ≤ _; simpa using hW) hd (fun _ _ => ⟨rfl, eT, hc, hs⟩)
  dsimp only [Pt.U, Pt.locs, Pt.cells, Pt.slots] at X' l1 y1 z1 st hQ hI hS
  subst l1 y1 z1
  exact own_come k hZ hown hW1 X' hS hI hsub hQ (fun t kk => st.trans kk)
theorem own_eqi {t : Term} {k : Int32} {args : Array Value} {s : State} (h : (Jvm.Cond.eq t (Term.int k)).value args s none s [] = some true) : t.eval args s none [] s = some (.int k) := by
  obtain ⟨x, y, h1, h2, -, h3⟩ := cmp_v (Or.inl h)
  have h4 : y = .int k := (Option.some.inj ((Term.int_eval k).symm.trans h2)).symm
  subst h4
  obtain ⟨z, rfl⟩ := h3
  have h5 : (Jvm.Cond.eq t (Term.int k)).value args s none s [] = some (decide (z = k)) := by simp [Cond.value, h1, h2]
  rw [h1, gotT h5 h]
theorem own_fieldOf {t : Term} {C n d : String} {k : Int32} {a : Addr} {args : Array Value} {s : State} (ht : t.eval args s none [] s = some (.ref a)) (h : (Jvm.Cond.eq (Term.field t C n d) (Term.int k)).value args s none s [] = some true) : Fld s s.heap a C n d (.int k) :=
  Fld.start ((fld_at ht).symm.trans (own_eqi h))
theorem own_st1 {Ls Ls' : Array Slot} {k : Nat} {o : Slot} {v : Value} (hold : Ls[k]? = some o) (ho : One o) (hv : v.category = 1) (he : Ls.setIfInBounds k (.val v) = Ls') : storeLocals Ls k v = some Ls' := he ▸ XS.store1 hold ho hv
theorem own_catV {v : Value} (hv : v.isRef = true) : v.category = 1 := by rcases ref_cases hv with rfl | ⟨_, rfl⟩ <;> rfl
theorem own_narV {v : Value} {t : FieldType} (hv : v.isRef = true) (ht : t.isReference = true) : narrow t v = v := by
  rcases ref_cases hv with rfl | ⟨_, rfl⟩ <;> cases t <;> first | rfl | (cases ht; done)
theorem own_narC {x : Int32} (h : 0 ≤ x.toInt ∧ x.toInt ≤ 65535) : nar .char x = x := by
  have q := c_i2c x
  rw [← Int32.toInt_inj]
  show (x.toUInt32.toUInt16.toUInt32.toInt32).toInt = x.toInt
  omega
theorem own_narZ {x : Int32} (h : x = 0 ∨ x = 1) : narrow .boolean (.int x) = .int x := by rcases h with rfl | rfl <;> rfl
def own_plain (h : Heap) (x : Addr) : Prop := ∃ c : Cell, h[x]? = some c ∧ c.vm.isStatics = false
theorem own_plainE {a : Addr} {C : String} (F : Exa Z h a C) : own_plain h a := by obtain ⟨c, k, h1, -, -, h4, -⟩ := F; exact ⟨c, h1, h4⟩
theorem own_sta_keep {h' : Heap} {ws : List Addr} {C n d : String} {v : Value} (F : Sta Z h C n d v) (K : Keep h h' ws) (q : ∀ x ∈ ws, own_plain h x) : Sta Z h' C n d v := by
  obtain ⟨cf, i, k, f, st, cell, h1, h2, h3, h4, h5, h6, h7⟩ := F
  refine ⟨cf, i, k, f, st, cell, h1, h2, h3, h4, K.2.1 _ _ h5 fun y => ?_, h6, h7⟩
  obtain ⟨c, z1, z2⟩ := q _ y
  cases h5.symm.trans z1
  rw [z2] at h6; cases h6
end Own
abbrev own_F (T : State) (m : MethodId) (pc : Nat) (Ls : Array Slot) (st : List Value) : State := T.setTop (mkF m pc Ls st)
theorem own_g {p : Program} {e : Env} {s : State} {below : List Frame} {Q : own_Post} {kc kn : Nat} {S : State} (S' : State) (st : ∀ t, Steps p.tables e below S' t → Steps p.tables e below S t) (k : own_Ends p e below s Q kc kn S') : own_Ends p e below s Q kc kn S := own_pre st k
theorem own_w {a0 : Array Value} {Z : State} (hw : ∀ d ∈ tables_1, d.before a0 Z = true) (i : Nat) {d : Jvm.Cond} (h : tables_1[i]? = some d := by rfl) : d.before a0 Z = true := hw _ (List.mem_of_getElem? h)
section OwnArr
variable {p : Program} {l : Launch} {e : Env} {R : Room} {s : State} {m : MethodId} {args : Array Value} {below : List Frame} {meth : Method} {c : Code} {T : State} {locs : List Loc} {cells slots : Nat} {Z : State} {a0 : Array Value} {h h' : Heap} {Q : own_Post} {kc kn : Nat} {a b : Addr} {ty : FieldType} {n : Nat} {f : Nat → Value}
/-- in h there lies at a an array of n components of the kind ty, the i-th is f i -/
def own_A (Z : State) (h : Heap) (a : Addr) (ty : FieldType) (n : Nat) (f : Nat → Value) : Prop := n < 2 ^ 31 ∧ ∃ cl : Cell, Arr Z h a cl ty ∧ cl.slots.size = n ∧ ∀ i, i < n → cl.slots[i]? = some (f i)
theorem own_A.lt (F : own_A Z h a ty n f) : a < h.size := by obtain ⟨_, c, A, -⟩ := F; exact A.lt
theorem own_A.ext (F : own_A Z h a ty n f) (E : Ext h h') : own_A Z h' a ty n f := by obtain ⟨q, c, A, r⟩ := F; exact ⟨q, c, A.ext E, r⟩
theorem own_A.other {sl : Nat} {v : Value} (F : own_A Z h b ty n f) (W : Wr h h' a sl v) (q : b ≠ a) : own_A Z h' b ty n f := by obtain ⟨r0, c, A, r⟩ := F; exact ⟨r0, c, A.other W q, r⟩
theorem own_A.keep {ws : List Addr} (F : own_A Z h a ty n f) (K : Keep h h' ws) (q : a ∉ ws) : own_A Z h' a ty n f := by obtain ⟨r0, c, A, r⟩ := F; exact ⟨r0, c, ⟨K.2.1 a c A.1 q, A.2⟩, r⟩
theorem own_A.congr {g : Nat → Value} (F : own_A Z h a ty n f) (q : ∀ i, i < n → f i = g i) : own_A Z h a ty n g := by obtain ⟨r0, c, A, r1, r2⟩ := F; exact ⟨r0, c, A, r1, fun i hi => by rw [r2 i hi, q i hi]⟩
theorem own_clamp {j : Int32} {i : Nat} (hj : j.toInt = (i : Int)) : ¬ j < 0 ∧ j.toNatClampNeg = i := by
  refine ⟨fun q => ?_, ?_⟩
  · rw [Int32.lt_iff_toInt_lt, hj, Int32.toInt_zero] at q; omega
  · show j.toInt.toNat = i
    rw [hj]; exact Int.toNat_natCast i
theorem own_in {j : Int32} {i : Nat} {cl : Cell} (hj : j.toInt = (i : Int)) (hi : i < cl.slots.size) : ¬ (j < 0 ∨ cl.slots.size ≤ j.toNatClampNeg) := by
  obtain ⟨q1, q2⟩ := own_clamp hj
  rw [q2]
  intro q
  rcases q with q | q
  · exact q1 q
  · omega
theorem own_alen (X : Stand p l e R s m args below meth c T locs cells slots) (hx : p.tables.exec = Jvm.exec) (hZ : Z.Warmed39 s.vm) (eT : T.heap = h) (A : own_A Z h a ty n f) {pc : Nat} {Ls : Array Slot} {rest : List Value} (hd : decode c.code pc = .ok (.arraylength, 1))
    (k : own_Ends p e below s Q kc kn (T.setTop (mkF m (pc + 1) Ls (.int n.toInt32 :: rest)))) : own_Ends p e below s Q kc kn (T.setTop (mkF m pc Ls (.ref a :: rest))) := by
  obtain ⟨-, cl, Ar, rfl, -⟩ := A
  exact own_pre (X.arraylength hx (by rw [eT]; exact Ar.1) (State.isArrayOf_alike hZ.alike Ar.2.1) (g := mkF m pc Ls (.ref a :: rest)) rfl rfl hd) k
theorem own_iald (X : Stand p l e R s m args below meth c T locs cells slots) (hx : p.tables.exec = Jvm.exec) (hZ : Z.Warmed39 s.vm) (eT : T.heap = h) {g : Nat → Int32} (A : own_A Z h a .int n (fun i => .int (g i))) {pc : Nat} {Ls : Array Slot} {rest : List Value} {j : Int32} (i : Nat) (hj : j.toInt = (i : Int)) (hi : i < n) (hd : decode c.code pc = .ok (.iaload, 1))
    (k : own_Ends p e below s Q kc kn (T.setTop (mkF m (pc + 1) Ls (.int (g i) :: rest)))) : own_Ends p e below s Q kc kn (T.setTop (mkF m pc Ls (.int j :: .ref a :: rest))) := by
  obtain ⟨-, cl, Ar, rfl, hv⟩ := A
  exact own_pre (X.iaload hx (j := j) (v := .int (g i)) (by rw [eT]; exact Ar.1) (State.isArrayOf_alike hZ.alike Ar.2.1) Ar.2.2 (own_in hj hi) (by rw [(own_clamp hj).2]; exact hv i hi) (g := mkF m pc Ls (.int j :: .ref a :: rest)) rfl rfl hd) k
theorem own_cald (X : Stand p l e R s m args below meth c T locs cells slots) (hx : p.tables.exec = Jvm.exec) (hZ : Z.Warmed39 s.vm) (eT : T.heap = h) {g : Nat → Int32} (A : own_A Z h a .char n (fun i => .int (g i))) {pc : Nat} {Ls : Array Slot} {rest : List Value} {j : Int32} (i : Nat) (hj : j.toInt = (i : Int)) (hi : i < n) (hd : decode c.code pc = .ok (.caload, 1))
    (k : own_Ends p e below s Q kc kn (T.setTop (mkF m (pc + 1) Ls (.int (g i) :: rest)))) : own_Ends p e below s Q kc kn (T.setTop (mkF m pc Ls (.int j :: .ref a :: rest))) := by
  obtain ⟨-, cl, Ar, rfl, hv⟩ := A
  exact own_pre (X.caload hx (j := j) (v := .int (g i)) (by rw [eT]; exact Ar.1) (State.isArrayOf_alike hZ.alike Ar.2.1) Ar.2.2 (own_in hj hi) (by rw [(own_clamp hj).2]; exact hv i hi) (g := mkF m pc Ls (.int j :: .ref a :: rest)) rfl rfl hd) k
theorem own_bald (X : Stand p l e R s m args below meth c T locs cells slots) (hx : p.tables.exec = Jvm.exec) (hZ : Z.Warmed39 s.vm) (eT : T.heap = h) {g : Nat → Int32} (A : own_A Z h a .byte n (fun i => .int (g i))) {pc : Nat} {Ls : Array Slot} {rest : List Value} {j : Int32} (i : Nat) (hj : j.toInt = (i : Int)) (hi : i < n) (hd : decode c.code pc = .ok (.baload, 1))
    (k : own_Ends p e below s Q kc kn (T.setTop (mkF m (pc + 1) Ls (.int (g i) :: rest)))) : own_Ends p e below s Q kc kn (T.setTop (mkF m pc Ls (.int j :: .ref a :: rest))) := by
  obtain ⟨-, cl, Ar, rfl, hv⟩ := A
  exact own_pre (X.baloadBytes hx (j := j) (v := .int (g i)) (by rw [eT]; exact Ar.1) (State.isArrayOf_alike hZ.alike Ar.2.1) Ar.2.2 (own_in hj hi) (by rw [(own_clamp hj).2]; exact hv i hi) (g := mkF m pc Ls (.int j :: .ref a :: rest)) rfl rfl hd) k
theorem own_lald (X : Stand p l e R s m args below meth c T locs cells slots) (hx : p.tables.exec = Jvm.exec) (hZ : Z.Warmed39 s.vm) (eT : T.heap = h) {g : Nat → Int64} (A : own_A Z h a .long n (fun i => .long (g i))) {pc : Nat} {Ls : Array Slot} {rest : List Value} {j : Int32} (i : Nat) (hj : j.toInt = (i : Int)) (hi : i < n) (hd : decode c.code pc = .ok (.laload, 1))
    (k : own_Ends p e below s Q kc kn (T.setTop (mkF m (pc + 1) Ls (.long (g i) :: rest)))) : own_Ends p e below s Q kc kn (T.setTop (mkF m pc Ls (.int j :: .ref a :: rest))) := by
  obtain ⟨-, cl, Ar, rfl, hv⟩ := A
  exact own_pre (X.laload hx (j := j) (v := .long (g i)) (by rw [eT]; exact Ar.1) (State.isArrayOf_alike hZ.alike Ar.2.1) Ar.2.2 (own_in hj hi) (by rw [(own_clamp hj).2]; exact hv i hi) (g := mkF m pc Ls (.int j :: .ref a :: rest)) rfl rfl hd) k
theorem own_aald (X : Stand p l e R s m args below meth c T locs cells slots) (hx : p.tables.exec = Jvm.exec) (hZ : Z.Warmed39 s.vm) (eT : T.heap = h) (hty : ty.isReference = true) (A : own_A Z h a ty n f) {pc : Nat} {Ls : Array Slot} {rest : List Value} {j : Int32} (i : Nat) (hj : j.toInt = (i : Int)) (hi : i < n) (hd : decode c.code pc = .ok (.aaload, 1))
    (k : own_Ends p e below s Q kc kn (T.setTop (mkF m (pc + 1) Ls (f i :: rest)))) : own_Ends p e below s Q kc kn (T.setTop (mkF m pc Ls (.int j :: .ref a :: rest))) := by
  obtain ⟨-, cl, Ar, rfl, hv⟩ := A
  exact own_pre (X.aaload hx (j := j) (v := f i) (by rw [eT]; exact Ar.1) (State.isArrayOf_alike hZ.alike Ar.2.1) hty Ar.2.2 (own_in hj hi) (by rw [(own_clamp hj).2]; exact hv i hi) (g := mkF m pc Ls (.int j :: .ref a :: rest)) rfl rfl hd) k
/-- the array behind a store -/
theorem own_A.set {cl : Cell} {i : Nat} {v : Value} (q : n < 2 ^ 31) (Ar : Arr Z h a cl ty) (hn : cl.slots.size = n) (hv : ∀ i, i < n → cl.slots[i]? = some (f i)) (W : Wr h h' a i v) (hi : i < n) : own_A Z h' a ty n (fun k => if k = i then v else f k) := by
  refine ⟨q, _, Ar.same W, by rw [sz_set, hn], fun k hk => ?_⟩
  by_cases e : k = i
  · subst e; simp [Cell.setSlot, hn, hk]
  · have := hv k hk
    simp only [e, if_false]
    rw [← this]
    exact Array.getElem?_setIfInBounds_ne (Ne.symm e)
theorem own_iast (X : Stand p l e R s m args below meth c T locs cells slots) (hx : p.tables.exec = Jvm.exec) (hZ : Z.Warmed39 s.vm) (eT : T.heap = h) {g : Nat → Int32} (A : own_A Z h a .int n (fun i => .int (g i))) {pc : Nat} {Ls : Array Slot} {rest : List Value} {j x : Int32} (i : Nat) (hj : j.toInt = (i : Int)) (hi : i < n) (hd : decode c.code pc = .ok (.iastore, 1))
    (k : ∀ T' h', Stand p l e R s m args below meth c T' (locs ++ [⟨a, i⟩]) cells slots → T'.heap = h' → Wr h h' a i (.int x) → own_A Z h' a .int n (fun k => .int (if k = i then x else g k)) → own_Ends p e below s Q kc kn (T'.setTop (mkF m (pc + 1) Ls rest))) :
    own_Ends p e below s Q kc kn (T.setTop (mkF m pc Ls (.int x :: .int j :: .ref a :: rest))) := by
  obtain ⟨q, cl, Ar, hn, hv⟩ := A
  obtain ⟨T', h', X', e', W, st⟩ := stI X hx hZ eT Ar (j := j) (x := x) (own_in hj (by rw [hn]; exact hi)) (g := mkF m pc Ls (.int x :: .int j :: .ref a :: rest)) rfl rfl hd
  rw [(own_clamp hj).2] at X' W
  exact own_pre st (k T' h' X' e' W ((own_A.set q Ar hn hv W hi).congr fun k _ => by by_cases z : k = i <;> simp [z]))
theorem own_last (X : Stand p l e R s m args below meth c T locs cells slots) (hx : p.tables.exec = Jvm.exec) (hZ : Z.Warmed39 s.vm) (eT : T.heap = h) {g : Nat → Int64} (A : own_A Z h a .long n (fun i => .long (g i))) {pc : Nat} {Ls : Array Slot} {rest : List Value} {j : Int32} {x : Int64} (i : Nat) (hj : j.toInt = (i : Int)) (hi : i < n) (hd : decode c.code pc = .ok (.lastore, 1))
    (k : ∀ T' h', Stand p l e R s m args below meth c T' (locs ++ [⟨a, i⟩]) cells slots → T'.heap = h' → Wr h h' a i (.long x) → own_A Z h' a .long n (fun k => .long (if k = i then x else g k)) → own_Ends p e below s Q kc kn (T'.setTop (mkF m (pc + 1) Ls rest))) :
    own_Ends p e below s Q kc kn (T.setTop (mkF m pc Ls (.long x :: .int j :: .ref a :: rest))) := by
  obtain ⟨q, cl, Ar, hn, hv⟩ := A
  obtain ⟨T', h', X', e', W, st⟩ := stJ X hx hZ eT Ar (j := j) (x := x) (own_in hj (by rw [hn]; exact hi)) (g := mkF m pc Ls (.long x :: .int j :: .ref a :: rest)) rfl rfl hd
  rw [(own_clamp hj).2] at X' W
  exact own_pre st (k T' h' X' e' W ((own_A.set q Ar hn hv W hi).congr fun k _ => by by_cases z : k = i <;> simp [z]))
theorem own_cast (X : Stand p l e R s m args below meth c T locs cells slots) (hx : p.tables.exec = Jvm.exec) (hZ : Z.Warmed39 s.vm) (eT : T.heap = h) {g : Nat → Int32} (A : own_A Z h a .char n (fun i => .int (g i))) {pc : Nat} {Ls : Array Slot} {rest : List Value} {j x : Int32} (i : Nat) (hj : j.toInt = (i : Int)) (hi : i < n) (x' : Int32) (hx' : nar .char x = x') (hd : decode c.code pc = .ok (.castore, 1))
    (k : ∀ T' h', Stand p l e R s m args below meth c T' (locs ++ [⟨a, i⟩]) cells slots → T'.heap = h' → Wr h h' a i (.int x') → own_A Z h' a .char n (fun k => .int (if k = i then x' else g k)) → own_Ends p e below s Q kc kn (T'.setTop (mkF m (pc + 1) Ls rest))) :
    own_Ends p e below s Q kc kn (T.setTop (mkF m pc Ls (.int x :: .int j :: .ref a :: rest))) := by
  subst hx'
  obtain ⟨q, cl, Ar, hn, hv⟩ := A
  obtain ⟨T', h', X', e', W, st⟩ := stC X hx hZ eT Ar (j := j) (x := x) (own_in hj (by rw [hn]; exact hi)) (g := mkF m pc Ls (.int x :: .int j :: .ref a :: rest)) rfl rfl hd
  rw [(own_clamp hj).2] at X' W
  exact own_pre st (k T' h' X' e' W ((own_A.set q Ar hn hv W hi).congr fun k _ => by by_cases z : k = i <;> simp [z]))
theorem own_bast (X : Stand p l e R s m args below meth c T locs cells slots) (hx : p.tables.exec = Jvm.exec) (hZ : Z.Warmed39 s.vm) (eT : T.heap = h) {g : Nat → Int32} (A : own_A Z h a .byte n (fun i => .int (g i))) {pc : Nat} {Ls : Array Slot} {rest : List Value} {j x : Int32} (i : Nat) (hj : j.toInt = (i : Int)) (hi : i < n) (x' : Int32) (hx' : nar .byte x = x') (hd : decode c.code pc = .ok (.bastore, 1))
    (k : ∀ T' h', Stand p l e R s m args below meth c T' (locs ++ [⟨a, i⟩]) cells slots → T'.heap = h' → Wr h h' a i (.int x') → own_A Z h' a .byte n (fun k => .int (if k = i then x' else g k)) → own_Ends p e below s Q kc kn (T'.setTop (mkF m (pc + 1) Ls rest))) :
    own_Ends p e below s Q kc kn (T.setTop (mkF m pc Ls (.int x :: .int j :: .ref a :: rest))) := by
  subst hx'
  obtain ⟨q, cl, Ar, hn, hv⟩ := A
  obtain ⟨T', h', X', e', W, st⟩ := stB X hx hZ eT Ar (j := j) (x := x) (own_in hj (by rw [hn]; exact hi)) (g := mkF m pc Ls (.int x :: .int j :: .ref a :: rest)) rfl rfl hd
  rw [(own_clamp hj).2] at X' W
  exact own_pre st (k T' h' X' e' W ((own_A.set q Ar hn hv W hi).congr fun k _ => by by_cases z : k = i <;> simp [z]))
theorem own_newA (X : Stand p l e R s m args below meth c T locs cells slots) (hx : p.tables.exec = Jvm.exec) (hZ : Z.Warmed39 s.vm) {aty : ArrayType} (ty : FieldType) (hty : newarray.typeOf aty = ty) (w : (Cond.arrayClass ty).before a0 Z = true) (eT : T.heap = h) {pc : Nat} {Ls : Array Slot} {rest : List Value} {j : Int32} (hd : decode c.code pc = .ok (.newarray aty, 2))
    (n : Nat) (hj : j.toInt = (n : Int)) (cap : Nat) (hcap : n ≤ cap) (hb : cap * 8 ≤ 536870912) (hc : cells + 1 ≤ R.cells) (hl : slots + cap ≤ R.slots)
    (k : ∀ T' h' (b : Addr), Stand p l e R s m args below meth c T' locs (cells + 1) (slots + cap) → T'.heap = h' → Ext h h' → b = h.size → own_A Z h' b ty n (fun _ => defaultValue ty) → own_Ends p e below s Q kc kn (T'.setTop (mkF m (pc + 2) Ls (.ref b :: rest)))) :
    own_Ends p e below s Q kc kn (T.setTop (mkF m pc Ls (.int j :: rest))) := by
  subst hty
  obtain ⟨q1, q2⟩ := own_clamp hj
  obtain ⟨T', h', cA, X', e', E, A, st⟩ := newP X hx hZ w eT (g := mkF m pc Ls (.int j :: rest)) rfl hd rfl q1 (cap := cap) (by rw [q2]; exact hcap) hb hc hl
  refine own_pre st (k T' h' _ X' e' E rfl ⟨by omega, _, A, by rw [sz_new, q2], fun i hi => ?_⟩)
  simp [newA, q2, hi]
theorem own_lenS {t : Term} {k : Int32} {args : Array Value} {s : State} {cl : Cell} (ht : t.eval args s none [] s = some (.ref a)) (A : Arr s s.heap a cl ty) (h : (Jvm.Cond.eq (Term.length t) (Term.int k)).value args s none s [] = some true) : cl.slots.size.toInt32 = k ∧ cl.slots.size < 2 ^ 31 := by
  have h1 := own_eqi h
  have h2 : s.arrayAt? a = some cl := Arr.fin (Vm.Alike.refl _) A
  by_cases q : cl.slots.size < 2 ^ 31
  · rw [len_f ht h2 q] at h1
    exact ⟨Value.int.inj (Option.some.inj h1), q⟩
  · simp [Term.eval, ht, h2, q] at h1
theorem own_plainA (F : own_A Z h a ty n f) : own_plain h a := by obtain ⟨_, c, A, -⟩ := F; exact ⟨c, A.1, A.plain⟩
theorem own_sz {k : Int32} (h : n.toInt32 = k) (q : n < 2 ^ 31) : (n : Int) = k.toInt := by rw [← h, len_toInt q]
theorem own_sz0 (h : n.toInt32 = 0) (q : n < 2 ^ 31) : n = 0 := by
  have := own_sz h q
  rw [Int32.toInt_zero] at this; omega
end OwnArr
section OwnCp
variable {p : Program} {l : Launch} {e : Env} {R : Room} {s : State} {m : MethodId} {args : Array Value} {below : List Frame} {meth : Method} {c : Code} {T : State} {locs : List Loc} {cells slots : Nat} {Z : State} {a0 : Array Value} {h h' : Heap} {Q : own_Post} {kc kn : Nat} {a b : Addr} {ty : FieldType} {n n' : Nat} {f f' : Nat → Value}
theorem own_rgetD (f : Nat → Value) (d : Value) {n i : Nat} (hi : i < n) : ((List.range n).map f).getD i d = f i := by simp [List.getD_eq_getElem?_getD, hi]
theorem own_toArv (F : own_A Z h a ty n f) (hf : ∀ i, fits ty (f i) = true) (d : Value) : ∃ k, Arv Z h a k ty n.toInt32 ((List.range n).map f) d := by
  obtain ⟨q, cl, A, S, V⟩ := F
  have e := own_clamp (len_toInt q)
  refine ⟨cl.cls, cl, A, rfl, by rw [S, e.2], e.1, fun i hi => ?_, fun i hi => ?_⟩
  · rw [S] at hi; rw [own_rgetD f d hi]; exact V i hi
  · rw [S] at hi; rw [own_rgetD f d hi]; exact hf i
theorem own_ofArv {k : ClassId} {z : Int32} {vs : List Value} {d : Value} (F : Arv Z h a k ty z vs d) (hz : z.toNatClampNeg = n) (hn : n < 2 ^ 31) : own_A Z h a ty n (fun i => vs.getD i d) := by
  obtain ⟨c, A, -, S, -, H, -⟩ := F
  exact ⟨hn, c, A, by rw [S, hz], fun i hi => H i (by rw [S, hz]; exact hi)⟩
theorem own_cp (X : Stand p l e R s m args below meth c T locs cells slots) (hx : p.tables.exec = Jvm.exec) (hZ : Z.Warmed39 s.vm) {own : String} {index : Nat} (hown : s.vm.findClass own = some m.cls)
    (w1 : (Cond.methodLink own index Jvm.Stand.acN).before a0 Z = true) (w2 : (Cond.native Jvm.Stand.acN).before a0 Z = true) (w3 : (Cond.static Jvm.Stand.acN).before a0 Z = true) (w4 : (Cond.initialized "java/lang/System").before a0 Z = true) (eT : T.heap = h)
    (A : own_A Z h a ty n f) (B : own_A Z h b ty n' f') (hfA : ∀ i, fits ty (f i) = true) (hfB : ∀ i, fits ty (f' i) = true) (hp : refKind ty = false) {nn : Int32} (k : Nat) (hk : nn.toInt = (k : Int)) (hkn : k ≤ n) (hkn' : k ≤ n') {n0 : Nat} (N : Fr n0 locs) (ge : n0 ≤ b)
    {pc : Nat} {Ls : Array Slot} (hsz : Ls.size = c.maxLocals) {rest : List Value} (hd : decode c.code pc = .ok (.invokestatic index, 3)) (hfr : 1 ≤ R.frames) {W : Nat} (hW : (rest.map fun v => v.category).sum ≤ W) (hlo : W + 18 ≤ R.locals)
    (kk : ∀ T' h' L, Stand p l e R s m args below meth c T' L cells slots → T'.heap = h' → Fr n0 L → Keep h h' [b] → own_A Z h' b ty n' (fun i => if i < k then f i else f' i) → own_Ends p e below s Q kc kn (T'.setTop (mkF m (pc + 3) Ls rest))) :
    own_Ends p e below s Q kc kn (T.setTop (mkF m pc Ls (.int nn :: .int 0 :: .ref b :: .int 0 :: .ref a :: rest))) := by
  obtain ⟨k1, A1⟩ := own_toArv A hfA (.int 0)
  obtain ⟨k2, B1⟩ := own_toArv B hfB (.int 0)
  have e1 := own_clamp (len_toInt A.1)
  have e2 := own_clamp (len_toInt B.1)
  have e3 := own_clamp hk
  have z0 : (0 : Int32).toNatClampNeg = 0 := by decide
  obtain ⟨T', h', L, X', e', N', K, V, st⟩ := cpA X hx hZ hown w1 w2 w3 w4 eT (sp := 0) (dp := 0) (nn := nn) (us := (List.range nn.toNatClampNeg).map fun i => ((List.range n).map f).getD ((0 : Int32).toNatClampNeg + i) (.int 0)) A1 B1 (Or.inl ⟨rfl, hp⟩) (by decide) (by decide) e3.1 (by rw [z0, e1.2, e3.2]; omega) (by rw [z0, e2.2, e3.2]; omega) rfl (by rw [z0, e3.2]; simp; omega) N ge (g := mkF m pc Ls (.int nn :: .int 0 :: .ref b :: .int 0 :: .ref a :: rest)) rfl hsz rfl hd hfr (W := W) (by show 2 * 0 + _ ≤ _; simpa using hW) (by show W + (7 + 11) ≤ _; omega)
  refine own_pre st (kk T' h' L X' e' N' K ((own_ofArv V e2.2 B.1).congr fun i hi => ?_))
  rw [z0, e3.2]
  simp only [List.take_zero, List.nil_append, Nat.zero_add, List.getD_eq_getElem?_getD]
  by_cases q : i < k
  · have q2 : i < n := by omega
    rw [List.getElem?_append_left (by simpa using q)]
    simp [q, q2]
  · rw [List.getElem?_append_right (by simp; omega)]
    have q3 : k + (i - k) = i := by omega
    simp [q, List.getElem?_drop, q3, hi]
theorem own_callP (X : Stand p l e R s m args below meth c T locs cells slots) (hx : p.tables.exec = Jvm.exec) (hZ : Z.Warmed39 s.vm) {own C : String} {index : Nat} {y : MethodName} {bytes : ByteArray} {maxL : Nat} {ret : Option FieldType} {rm : Room} {Qc : own_Post} {PV : Vm → Prop} {b : Addr}
    (hown : s.vm.findClass own = some m.cls) (w1 : (Cond.methodLink own index y).before a0 Z = true) (w2 : (Cond.instanceMethod y).before a0 Z = true) (w3 : (Cond.selects y.cls y y).before a0 Z = true) (w4 : (Cond.privateMethod y).before a0 Z = true) (w5 : (Cond.code y bytes maxL ret).before a0 Z = true) (w6 : (Cond.initialized y.cls).before a0 Z = true)
    (hy : y.cls ≠ "java/lang/invoke/MethodHandle" ∧ y.cls ≠ "java/lang/invoke/VarHandle") (eT : T.heap = h) (E : Exa Z h b C) {argsL rest st0 : List Value} (hM : own_MetW l Z y bytes maxL ret [] rm (.ref b :: argsL).toArray h PV Qc) {W pc : Nat} {Ls : Array Slot}
    (hsz : Ls.size = c.maxLocals) (hlen : ∀ sig, parseMethodDescriptor y.desc = some sig → argsL.length = sig.parameters.length) (hst : st0 = argsL.reverse ++ .ref b :: rest) (hW : (rest.map fun v => v.category).sum ≤ W) (hd : decode c.code pc = .ok (.invokevirtual index, 3))
    (hf : rm.frames + 1 ≤ R.frames) (hl : W + (maxL + 11) + rm.locals ≤ R.locals) (hc : cells + rm.cells ≤ R.cells) (hs : slots + rm.slots ≤ R.slots)
    (k : own_K p l e R s m args below meth c own Z locs Q kc kn (cells + rm.cells) (slots + rm.slots) Qc (fun v => mkF m (pc + 3) Ls (v.toList ++ rest)))
    (hv : ∀ vm, s.WarmedH vm → PV vm := by exact fun _ _ => trivial) (hsub : ∀ x ∈ Qc.2, x ∈ Q.2 := by simp) :
    own_Ends p e below s Q kc kn (T.setTop (mkF m pc Ls st0)) := by
  obtain ⟨cq, q1, q2⟩ := E.cell
  obtain ⟨v, vm1, ⟨T', L', k', n'⟩, hW1, X', hS, hgr, ⟨Lc, hQ, hI, l1, y1, z1⟩, st⟩ := X.privateBackS hx (y := y) hown (mvT hZ w1) (mvT hZ w2) (mvT hZ w3) (Cond.privateMethod_at (mvP hZ w4 (args := #[]))) (mvT hZ w5) hy (own_backW (W := W) hM hZ w5 w6 hf hl hv) (g := mkF m pc Ls st0) rfl hsz (Steps.refl _) (a := b) (by rw [eT]; exact q1) q2 (argsL := argsL) (rest := rest) hlen hst (by show 2 * 0 + _ ≤ _; simpa using hW) hd (fun _ _ => ⟨rfl, eT, hc, hs⟩)
  dsimp only [Pt.U, Pt.locs, Pt.cells, Pt.slots] at X' l1 y1 z1 st hQ hI hS
  subst l1 y1 z1
  exact own_come k hZ hown hW1 X' hS hI hsub hQ (fun t kk => st.trans kk)
theorem own_selp {y y' : MethodName} (hZ : Z.Warmed39 s.vm) (hc : y'.cls = y.cls) (w : (Cond.selects y'.cls y' y').before a0 Z = true) (wi : (Cond.instanceMethod y).before a0 Z = true) (wp : (Cond.privateMethod y).before a0 Z = true) (hy : y.cls ≠ "java/lang/invoke/MethodHandle" ∧ y.cls ≠ "java/lang/invoke/VarHandle") : (Cond.selects y.cls y y).before args s = true := by
  have w' : (Cond.selects y'.cls y' y').before args s = true := mvT hZ w
  obtain ⟨c2, r2, m2, q1, -, q3, -, kP, hkP, hkPi⟩ := Cond.selects_spec w'
  have q4 := findClass_of_methodNamed q3
  refine selects_self_of_private (c := m2.cls) (k := kP) (by rw [← hc]; exact q4) hkP hkPi (Cond.privateMethod_at (mvP hZ wp (args := #[]))) (mvT hZ wi) hy
theorem own_callQ (X : Stand p l e R s m args below meth c T locs cells slots) (hx : p.tables.exec = Jvm.exec) (hZ : Z.Warmed39 s.vm) {own C : String} {index : Nat} {y y' : MethodName} {bytes : ByteArray} {maxL : Nat} {ret : Option FieldType} {rm : Room} {Qc : own_Post} {PV : Vm → Prop} {b : Addr}
    (hown : s.vm.findClass own = some m.cls) (w1 : (Cond.methodLink own index y).before a0 Z = true) (w2 : (Cond.instanceMethod y).before a0 Z = true) (w3 : (Cond.selects y'.cls y' y').before a0 Z = true) (w4 : (Cond.privateMethod y).before a0 Z = true) (w5 : (Cond.code y bytes maxL ret).before a0 Z = true) (w6 : (Cond.initialized y.cls).before a0 Z = true)
    (hyy : y'.cls = y.cls) (hy : y.cls ≠ "java/lang/invoke/MethodHandle" ∧ y.cls ≠ "java/lang/invoke/VarHandle") (eT : T.heap = h) (E : Exa Z h b C) {argsL rest st0 : List Value} (hM : own_MetW l Z y bytes maxL ret [] rm (.ref b :: argsL).toArray h PV Qc) {W pc : Nat} {Ls : Array Slot}
    (hsz : Ls.size = c.maxLocals) (hlen : ∀ sig, parseMethodDescriptor y.desc = some sig → argsL.length = sig.parameters.length) (hst : st0 = argsL.reverse ++ .ref b :: rest) (hW : (rest.map fun v => v.category).sum ≤ W) (hd : decode c.code pc = .ok (.invokevirtual index, 3))
    (hf : rm.frames + 1 ≤ R.frames) (hl : W + (maxL + 11) + rm.locals ≤ R.locals) (hc : cells + rm.cells ≤ R.cells) (hs : slots + rm.slots ≤ R.slots)
    (k : own_K p l e R s m args below meth c own Z locs Q kc kn (cells + rm.cells) (slots + rm.slots) Qc (fun v => mkF m (pc + 3) Ls (v.toList ++ rest)))
    (hv : ∀ vm, s.WarmedH vm → PV vm := by exact fun _ _ => trivial) (hsub : ∀ x ∈ Qc.2, x ∈ Q.2 := by simp) :
    own_Ends p e below s Q kc kn (T.setTop (mkF m pc Ls st0)) := by
  obtain ⟨cq, q1, q2⟩ := E.cell
  obtain ⟨v, vm1, ⟨T', L', k', n'⟩, hW1, X', hS, hgr, ⟨Lc, hQ, hI, l1, y1, z1⟩, st⟩ := X.privateBackS hx (y := y) hown (mvT hZ w1) (mvT hZ w2) (own_selp hZ hyy w3 w2 w4 hy) (Cond.privateMethod_at (mvP hZ w4 (args := #[]))) (mvT hZ w5) hy (own_backW (W := W) hM hZ w5 w6 hf hl hv) (g := mkF m pc Ls st0) rfl hsz (Steps.refl _) (a := b) (by rw [eT]; exact q1) q2 (argsL := argsL) (rest := rest) hlen hst (by show 2 * 0 + _ ≤ _; simpa using hW) hd (fun _ _ => ⟨rfl, eT, hc, hs⟩)
  dsimp only [Pt.U, Pt.locs, Pt.cells, Pt.slots] at X' l1 y1 z1 st hQ hI hS
  subst l1 y1 z1
  exact own_come k hZ hown hW1 X' hS hI hsub hQ (fun t kk => st.trans kk)
end OwnCp
def own_Lat (Z : State) (h : Heap) (x t : Addr) (n : Nat) (f : Nat → Int32) : Prop := Exa Z h x "java/lang/String" ∧ Fld Z h x "java/lang/String" "value" "[B" (.ref t) ∧ Fld Z h x "java/lang/String" "coder" "B" (.int 0) ∧ own_A Z h t .byte n (fun i => .int ((f i).toInt8.toInt32)) ∧ ∀ i, i < n → 0 ≤ (f i).toInt ∧ (f i).toInt ≤ 255
theorem own_succ {j : Int32} {k n : Nat} (hj : j.toInt = (k : Int)) (hk : k < n) (hn : n < 2 ^ 31) : (j + (1 : Int32)).toInt = ((k + 1 : Nat) : Int) := by
  have h := c_iadd j 1
  have r := rng32 (j + 1)
  simp only [Int32.reduceToInt] at h
  omega
theorem own_jlt {j nn : Int32} {k n : Nat} (hj : j.toInt = (k : Int)) (hn : nn.toInt = (n : Int)) (h : k < n) : j < nn := by rw [Int32.lt_iff_toInt_lt]; omega
theorem own_jge {j nn : Int32} {k n : Nat} (hj : j.toInt = (k : Int)) (hn : nn.toInt = (n : Int)) (h : n ≤ k) : ¬ j < nn := by rw [Int32.lt_iff_toInt_lt]; omega
theorem own_sub31 (x : Int32) : (((x - x).toUInt32 >>> ((31 : Int32) &&& 31).toUInt32).toInt32).toInt8.toInt32 = (0 : Int32) := by rw [Int32.sub_self]; decide
theorem own_gstep {k : Nat} {g g' : Nat → Int32} {B : Nat → Int32} {x : Int32} (hg : ∀ i, i < k → g i = B i) (hg' : g' = fun q => if q = k then x else g q) (hx : x = B k) : ∀ i, i < k + 1 → g' i = B i := by
  intro i hi
  rw [hg']
  by_cases q : i = k
  · simp only [q, if_true]; exact hx
  · simp only [q, if_false]; exact hg i (by omega)
theorem own_i2b (x : Int32) : narrow .byte (.int x.toInt8.toInt32) = .int x.toInt8.toInt32 := by
  show Value.int (x.toInt8.toInt32).toInt8.toInt32 = _
  simp
theorem own_c255 {x : Int32} (h : x.toInt ≤ 255) : ¬ (255 : Int32) < x := by rw [Int32.lt_iff_toInt_lt]; simp only [Int32.reduceToInt]; omega
theorem own_narB (x : Int32) : nar .byte x.toInt8.toInt32 = x.toInt8.toInt32 := by
  show (x.toInt8.toInt32).toInt8.toInt32 = _
  simp
theorem own_n32 {n : Nat} {nn : Int32} (hn : nn.toInt = (n : Int)) : n.toInt32 = nn := by
  have r := rng32 nn
  rw [← Int32.toInt_inj, len_toInt (by omega), hn]
theorem own_b8 {a b : Int32} (ha : 0 ≤ a.toInt ∧ a.toInt ≤ 255) (hb : 0 ≤ b.toInt ∧ b.toInt ≤ 255) (h : a.toInt8.toInt32 = b.toInt8.toInt32) : a = b := by
  have h1 := c_i2b a
  have h2 := c_i2b b
  rw [h] at h1
  rw [← Int32.toInt_inj]
  omega
def own_eqs (n m : Nat) (f g : Nat → Int32) : Prop := n = m ∧ ∀ i, i < n → f i = g i
theorem own_latP {Z : State} {h h' : Heap} {x t y u : Addr} {n m : Nat} {f g : Nat → Int32} (F : own_Lat Z h x t n f) (G : own_Lat Z h' y u m g) : own_eqs n m f g ↔ own_eqs n m (fun i => (f i).toInt8.toInt32) (fun i => (g i).toInt8.toInt32) := by
  constructor
  · rintro ⟨rfl, q⟩
    exact ⟨rfl, fun i hi => by show (f i).toInt8.toInt32 = (g i).toInt8.toInt32; rw [q i hi]⟩
  · rintro ⟨rfl, q⟩
    exact ⟨rfl, fun i hi => own_b8 (F.2.2.2.2 i hi) (G.2.2.2.2 i hi) (q i hi)⟩
theorem own_hrP {P P' : Prop} {r : Int32} (e : P ↔ P') (h : (r = 1 ∧ P) ∨ (r = 0 ∧ ¬ P)) : (r = 1 ∧ P') ∨ (r = 0 ∧ ¬ P') := by rw [← e]; exact h
theorem own_dec (P : Prop) : ∃ r : Int32, (r = 1 ∧ P) ∨ (r = 0 ∧ ¬ P) := by
  by_cases h : P
  · exact ⟨1, Or.inl ⟨rfl, h⟩⟩
  · exact ⟨0, Or.inr ⟨rfl, h⟩⟩
theorem own_r01 {P : Prop} {r : Int32} (h : (r = 1 ∧ P) ∨ (r = 0 ∧ ¬ P)) : r = 0 ∨ r = 1 := by rcases h with ⟨h, -⟩ | ⟨h, -⟩ <;> simp [h]
theorem own_r1 {P : Prop} {r : Int32} (h : (r = 1 ∧ P) ∨ (r = 0 ∧ ¬ P)) (hP : P) : r = 1 := by rcases h with ⟨h, -⟩ | ⟨-, h⟩; exact h; exact absurd hP h
theorem own_r0 {P : Prop} {r : Int32} (h : (r = 1 ∧ P) ∨ (r = 0 ∧ ¬ P)) (hP : ¬ P) : r = 0 := by rcases h with ⟨-, h⟩ | ⟨h, -⟩; exact absurd h hP; exact h
theorem own_Auq {Z : State} {h : Heap} {a : Addr} {ty ty' : FieldType} {n m : Nat} {f g : Nat → Value} (F : own_A Z h a ty n f) (G : own_A Z h a ty' m g) : n = m ∧ ∀ i, i < n → f i = g i := by
  obtain ⟨-, c, A, S, V⟩ := F
  obtain ⟨-, d, B, S', V'⟩ := G
  cases A.1.symm.trans B.1
  refine ⟨S.symm.trans S', fun i hi => ?_⟩
  have h1 := V i hi
  rw [V' i (by omega)] at h1
  exact (Option.some.inj h1).symm
theorem own_Latuq {Z : State} {h : Heap} {x t u : Addr} {n m : Nat} {f g : Nat → Int32} (F : own_Lat Z h x t n f) (G : own_Lat Z h x u m g) : own_eqs n m f g := by
  by_cases q : t = u
  · subst q
    obtain ⟨e, k⟩ := own_Auq F.2.2.2.1 G.2.2.2.1
    subst e
    exact ⟨rfl, fun i hi => own_b8 (F.2.2.2.2 i hi) (G.2.2.2.2 i hi) (Value.int.inj (k i hi))⟩
  · exact absurd rfl (Fld.ne F.2.1 G.2.1 fun z => q (Value.ref.inj z))
section OwnLit
variable {p : Program} {l : Launch} {e : Env} {R : Room} {s : State} {m : MethodId} {args : Array Value} {below : List Frame} {meth : Method} {c : Code} {T : State} {locs : List Loc} {cells slots : Nat} {Z : State} {a0 : Array Value} {h : Heap} {Q : own_Post} {kc kn : Nat}
theorem own_IB.ofI {v0 v1 : Vm} {Ts Ty : List String} (I : IB Z v0 Ts) (J : IB Z v1 Ty) (hm : ∃ more, v1.interned = v0.interned ++ more) : own_IB v0 v1 Ty := by
  obtain ⟨a, e1, -⟩ := I
  obtain ⟨b, e2, q2⟩ := J
  obtain ⟨d, e3⟩ := hm
  refine ⟨d, e3, fun q hq => q2 q ?_⟩
  have : a ++ d = b := by
    have h1 : Z.vm.interned ++ (a ++ d) = Z.vm.interned ++ b := by rw [← e2, e3, e1, Array.append_assoc]
    have h2 := congrArg Array.toList h1
    simp only [Array.toList_append] at h2
    have h3 := List.append_cancel_left h2
    apply Array.toList_inj.mp
    rw [Array.toList_append]; exact h3
  rw [← this]; exact Array.mem_append.mpr (Or.inr hq)
/-- the first load of a literal -/
theorem own_ldc (X : Stand p l e R s m args below meth c T locs cells slots) (hx : p.tables.exec = Jvm.exec) (hZ : Z.Warmed39 s.vm) {own text : String} {index : Nat} (hown : s.vm.findClass own = some m.cls) (w : (Cond.stringLink own index text).before a0 Z = true) (wS : ∀ a ∈ Bundle.stringAtoms, a.before a0 Z = true)
    (eT : T.heap = h) (N : Fr s.heap.size locs) (hkeep : ∀ (b : Addr) (cl : Cell), Z.heap[b]? = some cl → s.heap[b]? = some cl) {Ts : List String} (I : IB Z s.vm Ts) (hnot : text ∉ Ts) (hh : Jvm.Lit.constHeld Z own index) (hcw : Jvm.Lit.compactW.before a0 Z = true)
    {vs : List Value} {z : Int32} (ht : (∀ c ∈ text.toList, c.toNat < 256) ∧ text.toList.map (fun c => Value.int (Jvm.Lit.byteI c.toNat.toUInt16)) = vs) (hz : ¬ z < 0) (hl : z.toNatClampNeg = vs.length)
    {pc : Nat} {Ls : Array Slot} {rest : List Value} (hd : decode c.code pc = .ok (.ldc index, 2)) {n : Nat} (hn : 4 * text.toList.length ≤ n) (hbig : n ≤ 536870912) (hc : cells + 2 ≤ R.cells) (hl' : slots + (n + 4) ≤ R.slots) (hsub : ∀ x ∈ text :: Ts, x ∈ Q.2)
    (k : ∀ (a : Addr) (T' : State) (h' : Heap) (s' : State) (b : Addr) (kk : ClassId), Stand p l e R s' m args below meth c T' locs (cells + 2) (slots + (n + 4)) → Z.Warmed39 s'.vm → s'.vm.findClass own = some m.cls → T'.heap = h' → Ext h h' → s'.heap = s.heap → s'.vm = T'.vm → s.Warmed39 s'.vm → IB Z s'.vm (text :: Ts) → Lit s' own index a →
      Exa Z h' a "java/lang/String" → Fld Z h' a "java/lang/String" "coder" "B" (.int 0) → Fld Z h' a "java/lang/String" "value" "[B" (.ref b) → Arv Z h' b kk .byte z vs (.int 0) → own_Ends p e below s' Q kc kn (T'.setTop (mkF m (pc + 2) Ls (.ref a :: rest)))) :
    own_Ends p e below s Q kc kn (T.setTop (mkF m pc Ls rest)) := by
  obtain ⟨a, T', h', k1, b, kk, X', e', E', hS, hk1, hZ', hown', x1, x2, x3, x4, -, -, I', L', st⟩ := ldcSVL (s := s) (vm0 := s.vm) X hx hZ hown w wS eT (k0 := 0) ((State.WarmedH.refl s).since 0) (Nat.zero_le _) N hkeep I hnot hh hcw ht hz hl (g := mkF m pc Ls rest) rfl hd hn hbig hc hl'
  subst e'
  refine own_pre st (own_reb hS hk1 (own_IB.ofI I I' hS.1.2.2.1) hsub ?_)
  exact k a T' _ (s.setVm T'.vm) b kk X' hZ' hown' rfl E' rfl rfl hS.1 I' L' x1 x2 x3 x4
/-- a load of a literal that is booked -/
theorem own_ldcA (X : Stand p l e R s m args below meth c T locs cells slots) (hx : p.tables.exec = Jvm.exec) (hZ : Z.Warmed39 s.vm) {own text : String} {index : Nat} (hown : s.vm.findClass own = some m.cls) (w : (Cond.stringLink own index text).before a0 Z = true) {a : Addr} (L : Lit s own index a)
    {pc : Nat} {Ls : Array Slot} {rest : List Value} (hd : decode c.code pc = .ok (.ldc index, 2)) (k : own_Ends p e below s Q kc kn (T.setTop (mkF m (pc + 2) Ls (.ref a :: rest)))) : own_Ends p e below s Q kc kn (T.setTop (mkF m pc Ls rest)) :=
  own_pre (ldcAgain (s := s) (vm0 := s.vm) X hx hZ hown w L (g := mkF m pc Ls rest) rfl hd) k
end OwnLit
section OwnLS
variable {p : Program} {l : Launch} {e : Env} {R : Room} {s : State} {m : MethodId} {args : Array Value} {below : List Frame} {meth : Method} {c : Code} {T : State} {locs : List Loc} {cells slots : Nat} {Z : State} {a0 : Array Value} {h h' : Heap} {Q : own_Post} {kc kn : Nat} {vm v1 : Vm} {K : List (String × Nat × String)}
theorem own_SmonoW {c1 s1 c2 s2 : Nat} (X : Stand p l e R s m args below meth c T locs c1 s1) (h1 : c1 ≤ c2) (h2 : s1 ≤ s2) : Stand p l e R s m args below meth c T locs c2 s2 := { X with same := X.same.mono h1 h2 }
/-- the text's i-th char -/
def own_tx (t : String) (i : Nat) : Int32 := (t.toList.getD i ' ').toNat.toInt32
theorem own_Lat.ext {x t : Addr} {n : Nat} {f : Nat → Int32} (F : own_Lat Z h x t n f) (E : Ext h h') : own_Lat Z h' x t n f := ⟨F.1.ext E, F.2.1.ext E, F.2.2.1.ext E, F.2.2.2.1.ext E, F.2.2.2.2⟩
theorem own_Lat.keep {ws : List Addr} {x t : Addr} {n : Nat} {f : Nat → Int32} (F : own_Lat Z h x t n f) (k : Keep h h' ws) (q1 : x ∉ ws) (q2 : t ∉ ws) : own_Lat Z h' x t n f := ⟨F.1.keep k, F.2.1.keep k q1, F.2.2.1.keep k q1, F.2.2.2.1.keep k q2, F.2.2.2.2⟩
theorem own_Lat.congr {x t : Addr} {n n' : Nat} {f g : Nat → Int32} (F : own_Lat Z h x t n f) (hn : n = n') (hf : ∀ i, i < n → f i = g i) : own_Lat Z h x t n' g := by
  subst hn
  exact ⟨F.1, F.2.1, F.2.2.1, F.2.2.2.1.congr fun i hi => by rw [hf i hi], fun i hi => by rw [← hf i hi]; exact F.2.2.2.2 i hi⟩
/-- what is known of the literals K: those in the list of the interned texts are booked and lie in the heap -/
def own_LS (Z : State) (h : Heap) (vm : Vm) (K : List (String × Nat × String)) : Prop := ∃ Ts : List String, IB Z vm Ts ∧ (∀ x ∈ Ts, x ∈ K.map fun k => k.2.2) ∧ ∀ k ∈ K, k.2.2 ∉ Ts ∨ ∃ a t : Addr, Lit (Z.setVm vm) k.1 k.2.1 a ∧ own_Lat Z h a t k.2.2.toList.length (own_tx k.2.2)
theorem own_LS.start : own_LS Z h Z.vm K := ⟨[], IB.start, (fun x hx => by cases hx), fun k _ => Or.inl (fun q => by cases q)⟩
theorem own_LS.step (F : own_LS Z h s.vm K) (hI : own_IB s.vm v1 []) (hW : s.Warmed39 v1) : own_LS Z h v1 K := by
  obtain ⟨Ts, I, hT, hK⟩ := F
  refine ⟨Ts, own_IB.of I hI, hT, fun k hk => ?_⟩
  rcases hK k hk with q | ⟨a, t, q1, q2⟩
  · exact Or.inl q
  · exact Or.inr ⟨a, t, State.resolvedAt?_warmed39 (s := s) hW q1, q2⟩
theorem own_LS.warm (F : own_LS Z h s.vm K) (hW : s.WarmedH v1) : own_LS Z h v1 K := F.step (own_IB.same ((hW.since 0).same_table (Nat.zero_le _))) (hW.since 0).1
theorem own_LS.ext (F : own_LS Z h vm K) (E : Ext h h') : own_LS Z h' vm K := by
  obtain ⟨Ts, I, hT, hK⟩ := F
  refine ⟨Ts, I, hT, fun k hk => ?_⟩
  rcases hK k hk with q | ⟨a, t, q1, q2⟩
  · exact Or.inl q
  · exact Or.inr ⟨a, t, q1, q2.ext E⟩
theorem own_LS.keep (F : own_LS Z h vm K) (E : Keep h h' []) : own_LS Z h' vm K := by
  obtain ⟨Ts, I, hT, hK⟩ := F
  refine ⟨Ts, I, hT, fun k hk => ?_⟩
  rcases hK k hk with q | ⟨a, t, q1, q2⟩
  · exact Or.inl q
  · exact Or.inr ⟨a, t, q1, q2.keep E (fun z => by cases z) (fun z => by cases z)⟩
theorem own_LatO {x t b : Addr} {n k : Nat} {f : Nat → Int32} {C : String} (F : own_Lat Z h x t n f) (E : Exa Z h b C) (hC : "java/lang/String" ≠ C) (w : (Cond.instantiable C k).before a0 Z = true) : x ≠ b ∧ t ≠ b := by
  obtain ⟨_, cl, A, -⟩ := F.2.2.2.1
  exact ⟨ne_exa F.1 E hC, (ne_arr E w A).symm⟩
theorem own_LS.keepO {b : Addr} {k : Nat} {C : String} (F : own_LS Z h vm K) (kp : Keep h h' [b]) (E : Exa Z h b C) (hC : "java/lang/String" ≠ C) (w : (Cond.instantiable C k).before a0 Z = true) : own_LS Z h' vm K := by
  obtain ⟨Ts, I, hT, hK⟩ := F
  refine ⟨Ts, I, hT, fun k hk => ?_⟩
  rcases hK k hk with q | ⟨a, t, q1, q2⟩
  · exact Or.inl q
  · obtain ⟨n1, n2⟩ := own_LatO q2 E hC w
    exact Or.inr ⟨a, t, q1, q2.keep kp (ninS n1 nin0) (ninS n2 nin0)⟩
theorem own_LS.ofvm (F : own_LS Z h vm K) (e : v1 = vm) : own_LS Z h v1 K := e ▸ F
set_option maxRecDepth 100000 in
theorem own_byteI : ∀ n : Nat, n < 256 → Jvm.Lit.byteI n.toUInt16 = (n.toInt32).toInt8.toInt32 := by decide +kernel
theorem own_txv {text : String} (h : ∀ c ∈ text.toList, c.toNat < 256) (i : Nat) (hi : i < text.toList.length) : (text.toList.map (fun c => Value.int (Jvm.Lit.byteI c.toNat.toUInt16))).getD i (.int 0) = .int ((own_tx text i).toInt8.toInt32) := by
  have q := h (text.toList[i]) (List.getElem_mem hi)
  simp only [List.getD_eq_getElem?_getD, List.getElem?_map, List.getElem?_eq_getElem hi, Option.map_some, Option.getD_some, own_tx]
  rw [own_byteI _ q]
theorem own_txr {text : String} (h : ∀ c ∈ text.toList, c.toNat < 256) (i : Nat) (hi : i < text.toList.length) : 0 ≤ (own_tx text i).toInt ∧ (own_tx text i).toInt ≤ 255 := by
  have q := h (text.toList[i]) (List.getElem_mem hi)
  simp only [own_tx, List.getD_eq_getElem?_getD, List.getElem?_eq_getElem hi, Option.getD_some]
  have := len_toInt (n := (text.toList[i]).toNat) (by omega)
  rw [this]; omega
theorem own_frm {n0 n1 : Nat} {L : List Loc} (h : n0 ≤ n1) (N : Fr n1 L) : Fr n0 L := fun y hy => Nat.le_trans h (N y hy)
/-- a literal is loaded -/
theorem own_ldL (X : Stand p l e R s m args below meth c T locs cells slots) (hx : p.tables.exec = Jvm.exec) (hZ : Z.Warmed39 s.vm) {own text : String} {index : Nat} (hown : s.vm.findClass own = some m.cls) (w : (Cond.stringLink own index text).before a0 Z = true) (wS : ∀ a ∈ Bundle.stringAtoms, a.before a0 Z = true)
    (eT : T.heap = h) (N : Fr s.heap.size locs) (hkeep : ∀ (b : Addr) (cl : Cell), Z.heap[b]? = some cl → s.heap[b]? = some cl) (F : own_LS Z h s.vm K) (hk : (own, index, text) ∈ K) (huq : ∀ k ∈ K, k.2.2 = text → k = (own, index, text)) (hh : Jvm.Lit.constHeld Z own index) (hcw : Jvm.Lit.compactW.before a0 Z = true)
    (ht : ∀ c ∈ text.toList, c.toNat < 256) {n : Nat} (hn : text.toList.length = n) (hlen : n < 134217728) {pc : Nat} {Ls : Array Slot} {rest : List Value} (hd : decode c.code pc = .ok (.ldc index, 2)) (hc : cells + 2 ≤ R.cells) (hl' : slots + (4 * n + 4) ≤ R.slots) (hsub : ∀ x ∈ K.map (fun k => k.2.2), x ∈ Q.2)
    (k : ∀ (a t : Addr) (T' : State) (h' : Heap) (s' : State), Stand p l e R s' m args below meth c T' locs (cells + 2) (slots + (4 * n + 4)) → Z.Warmed39 s'.vm → s'.vm.findClass own = some m.cls → T'.heap = h' → Ext h h' → s'.heap = s.heap → own_LS Z h' s'.vm K → Lit s' own index a →
      own_Lat Z h' a t n (own_tx text) → own_Ends p e below s' Q kc kn (T'.setTop (mkF m (pc + 2) Ls (.ref a :: rest)))) :
    own_Ends p e below s Q kc kn (T.setTop (mkF m pc Ls rest)) := by
  subst hn
  obtain ⟨Ts, I, hT, hK⟩ := F
  rcases hK _ hk with q | ⟨a, t, q1, q2⟩
  · have e1 : ((text.toList.length.toInt32)).toInt = (text.toList.length : Int) := len_toInt (by omega)
    have e2 := own_clamp e1
    refine own_ldc X hx hZ hown w wS eT N hkeep I q hh hcw (z := text.toList.length.toInt32) ⟨ht, rfl⟩ e2.1 (by rw [e2.2]; simp) hd (n := 4 * text.toList.length) (Nat.le_refl _) (by omega) hc hl' (fun x hx => ?_) ?_
    · rcases List.mem_cons.mp hx with rfl | hx
      · exact hsub _ (List.mem_map.mpr ⟨_, hk, rfl⟩)
      · exact hsub _ (hT x hx)
    · intro a T' h' s' b kk X' hZ' hown' e' E' hhp hvm hW I' L' x1 x2 x3 x4
      have A := own_ofArv x4 e2.2 (by omega)
      have Lt : own_Lat Z h' a b text.toList.length (own_tx text) := ⟨x1, x3, x2, A.congr fun i hi => own_txv ht i hi, own_txr ht⟩
      refine k a b T' h' s' X' hZ' hown' e' E' hhp ⟨text :: Ts, I', fun x hx => ?_, fun k hk' => ?_⟩ L' Lt
      · rcases List.mem_cons.mp hx with rfl | hx
        · exact List.mem_map.mpr ⟨_, hk, rfl⟩
        · exact hT x hx
      · by_cases z : k.2.2 = text
        · have := huq k hk' z
          subst this
          exact Or.inr ⟨a, b, L', Lt⟩
        · rcases hK k hk' with y | ⟨a', t', y1, y2⟩
          · exact Or.inl fun w => by
              rcases List.mem_cons.mp w with w | w
              · exact z w
              · exact y w
          · exact Or.inr ⟨a', t', State.resolvedAt?_warmed39 (s := s) hW y1, y2.ext E'⟩
  · exact own_ldcA X hx hZ hown w q1 hd (k a t T h s (own_SmonoW X (by omega) (by omega)) hZ hown eT ⟨Nat.le_refl _, fun _ _ q => q⟩ rfl ⟨Ts, I, hT, hK⟩ q1 q2)
end OwnLS
theorem own_ANe {Z : State} {h : Heap} {a0 : Array Value} {t x : Addr} {ty : FieldType} {n k : Nat} {f : Nat → Value} {C : String} (F : own_A Z h t ty n f) (E : Exa Z h x C) (w : (Cond.instantiable C k).before a0 Z = true) : t ≠ x := by
  obtain ⟨_, cl, A, -⟩ := F
  exact (ne_arr E w A).symm
theorem own_LS.keepN {Z : State} {h h' : Heap} {a0 : Array Value} {vm : Vm} {K : List (String × Nat × String)} {x : Addr} {k : Nat} (F : own_LS Z h vm K) (kp : Keep h h' [x]) (E : Exa Z h x "java/lang/String") (G : Fld Z h x "java/lang/String" "value" "[B" .null) (w : (Cond.instantiable "java/lang/String" k).before a0 Z = true) : own_LS Z h' vm K := by
  obtain ⟨Ts, I, hT, hK⟩ := F
  refine ⟨Ts, I, hT, fun k hk => ?_⟩
  rcases hK k hk with q | ⟨a, t, q1, q2⟩
  · exact Or.inl q
  · exact Or.inr ⟨a, t, q1, q2.keep kp (ninS (Fld.ne q2.2.1 G (fun z => by cases z)) nin0) (ninS (own_ANe q2.2.2.2.1 E w) nin0)⟩
abbrev own_K0 : List (String × Nat × String) := [("java/lang/String", 7, ""), ("com/example/tideline/tideline/TokenTypeOfPinLaw", 12, "access"), ("com/example/tideline/tideline/TokenTypeOfPinLaw", 24, "refresh")]
theorem own_uq0 : ∀ k ∈ own_K0, k.2.2 = "" → k = ("java/lang/String", 7, "") := by
  intro k hk
  simp only [own_K0, List.mem_cons, List.not_mem_nil, or_false] at hk
  rcases hk with rfl | rfl | rfl <;> simp
theorem own_uq1 : ∀ k ∈ own_K0, k.2.2 = "access" → k = ("com/example/tideline/tideline/TokenTypeOfPinLaw", 12, "access") := by
  intro k hk
  simp only [own_K0, List.mem_cons, List.not_mem_nil, or_false] at hk
  rcases hk with rfl | rfl | rfl <;> simp
theorem own_uq2 : ∀ k ∈ own_K0, k.2.2 = "refresh" → k = ("com/example/tideline/tideline/TokenTypeOfPinLaw", 24, "refresh") := by
  intro k hk
  simp only [own_K0, List.mem_cons, List.not_mem_nil, or_false] at hk
  rcases hk with rfl | rfl | rfl <;> simp
theorem own_lt1 {i : Nat} (h : i < 1) : i = 0 := by omega
theorem own_lt2 {i : Nat} (h : i < 2) : i = 0 ∨ i = 1 := by omega
theorem own_lt3 {i : Nat} (h : i < 3) : i = 0 ∨ i = 1 ∨ i = 2 := by omega
theorem own_lt4 {i : Nat} (h : i < 4) : i = 0 ∨ i = 1 ∨ i = 2 ∨ i = 3 := by omega
theorem own_lt5 {i : Nat} (h : i < 5) : i = 0 ∨ i = 1 ∨ i = 2 ∨ i = 3 ∨ i = 4 := by omega
theorem own_lt6 {i : Nat} (h : i < 6) : i = 0 ∨ i = 1 ∨ i = 2 ∨ i = 3 ∨ i = 4 ∨ i = 5 := by omega
theorem own_lt7 {i : Nat} (h : i < 7) : i = 0 ∨ i = 1 ∨ i = 2 ∨ i = 3 ∨ i = 4 ∨ i = 5 ∨ i = 6 := by omega
def own_tv (e1 e2 : Int32) (aA aR : Addr) : Value := if e1 = 0 then (if e2 = 0 then .null else .ref aR) else .ref aA
theorem own_tvR (e1 e2 : Int32) (aA aR : Addr) : (own_tv e1 e2 aA aR).isRef = true := by unfold own_tv; split <;> (try split) <;> rfl
def own_vv (aA aR : Addr) (i : Nat) : Value := if i = 0 then .ref aA else .ref aR
theorem own_eqsS {n m : Nat} {f g : Nat → Int32} : own_eqs n m f g ↔ own_eqs m n g f := by
  constructor
  · rintro ⟨rfl, q⟩; exact ⟨rfl, fun i hi => (q i hi).symm⟩
  · rintro ⟨rfl, q⟩; exact ⟨rfl, fun i hi => (q i hi).symm⟩
theorem own_255 (x : Int32) : 0 ≤ (x &&& (255 : Int32)).toInt ∧ (x &&& (255 : Int32)).toInt ≤ 255 := c_and x 255 (by decide)
theorem own_i2cs {x : Int32} (h : 0 ≤ x.toInt ∧ x.toInt ≤ 255) : x.toUInt32.toUInt16.toUInt32.toInt32 = x := by
  have q := c_i2c x
  rw [← Int32.toInt_inj]; omega
theorem own_c255r (x : Int32) : 0 ≤ ((x &&& (255 : Int32)).toUInt32.toUInt16.toUInt32.toInt32).toInt ∧ ((x &&& (255 : Int32)).toUInt32.toUInt16.toUInt32.toInt32).toInt ≤ 255 := by rw [own_i2cs (own_255 x)]; exact own_255 x
theorem own_c255n (x : Int32) : nar .char ((x &&& (255 : Int32)).toUInt32.toUInt16.toUInt32.toInt32) = ((x &&& (255 : Int32)).toUInt32.toUInt16.toUInt32.toInt32) := own_narC (by have := own_c255r x; omega)
theorem own_len7 (x : Int32) : 0 ≤ (x &&& (7 : Int32)).toInt ∧ (x &&& (7 : Int32)).toInt ≤ 7 := c_and x 7 (by decide)
theorem own_pos7 (x : Int32) : 0 ≤ (((x.toUInt32 >>> ((6 : Int32) &&& 31).toUInt32).toInt32) % (7 : Int32)).toInt ∧ (((x.toUInt32 >>> ((6 : Int32) &&& 31).toUInt32).toInt32) % (7 : Int32)).toInt < 7 := by
  have h := c_iushr x 6 6 (by decide) (by decide)
  have r := rng32 x
  have q := (c_irem ((x.toUInt32 >>> ((6 : Int32) &&& 31).toUInt32).toInt32) 7 7 (by decide)).1 (by rw [h]; omega)
  rw [q]; omega
theorem own_rng8 {n : Nat} {g g' : Nat → Int32} {k : Nat} {x : Int32} (hg : g' = fun q => if q = k then x else g q) (hr : ∀ i, i < n → 0 ≤ (g i).toInt ∧ (g i).toInt ≤ 255) (hx : 0 ≤ x.toInt ∧ x.toInt ≤ 255) : ∀ i, i < n → 0 ≤ (g' i).toInt ∧ (g' i).toInt ≤ 255 := by
  intro i hi; rw [hg]
  by_cases q : i = k
  · simp only [q, if_true]; exact hx
  · simp only [q, if_false]; exact hr i hi
theorem own_eqr {a b : Term} {y : Addr} {args : Array Value} {s : State} (h : (Jvm.Cond.eq a b).value args s none s [] = some true) (hb : b.eval args s none [] s = some (.ref y)) : a.eval args s none [] s = some (.ref y) := by
  obtain ⟨x, z, h1, h2, h3, h4⟩ := cmp_v (Or.inl h)
  cases hb.symm.trans h2
  have h5 : x.isRef = true := by cases x <;> simp [Kin, Value.isRef] at h3 h4 ⊢
  have h6 := eq_R h1 hb h5 rfl
  rw [h1, gotT h6 h]
theorem own_el {t : Term} {x : Addr} {j : Int32} {cl : Cell} {ty : FieldType} {v : Value} {args : Array Value} {s : State} (k : Nat) (hj : j.toInt = (k : Int)) (ht : t.eval args s none [] s = some (.ref x)) (A : Arr s s.heap x cl ty) (h : (Term.elem t (Term.int j)).eval args s none [] s = some v) : cl.slots[k]? = some v := by
  have e := own_clamp hj
  rw [elem_f ht (Term.int_eval j) (Arr.fin (Vm.Alike.refl _) A) e.1, e.2] at h
  exact h
theorem own_cloneV {p : Program} {l : Launch} {e : Env} {R : Room} {s : State} {m : MethodId} {args : Array Value} {below : List Frame} {meth : Method} {c : Code} {T : State} {locs : List Loc} {cells slots : Nat} {Z : State} {a0 : Array Value} {h : Heap} {Q : own_Post} {kc kn : Nat}
    (X : Stand p l e R s m args below meth c T locs cells slots) (hx : p.tables.exec = Jvm.exec) (hZ : Z.Warmed39 s.vm) {own ad : String} {index : Nat} (hown : s.vm.findClass own = some m.cls)
    (w1 : (Cond.methodLink own index ⟨ad, "clone", "()Ljava/lang/Object;"⟩).before a0 Z = true) (w2 : (Cond.sameMethod ad "java/lang/Object" "clone" "()Ljava/lang/Object;").before a0 Z = true) (w3 : (Cond.native ⟨"java/lang/Object", "clone", "()Ljava/lang/Object;"⟩).before a0 Z = true)
    (w4 : (Cond.instanceMethod ⟨"java/lang/Object", "clone", "()Ljava/lang/Object;"⟩).before a0 Z = true) (w5 : (Cond.selects ad ⟨ad, "clone", "()Ljava/lang/Object;"⟩ ⟨"java/lang/Object", "clone", "()Ljava/lang/Object;"⟩).before a0 Z = true) (w6 : (Cond.castable ad "java/lang/Cloneable").before a0 Z = true)
    (eT : T.heap = h) {a : Addr} {ty : FieldType} {n : Nat} {f : Nat → Value} (A : own_A Z h a ty n f) (hfit : ∀ i, fits ty (f i) = true) (E : Exa Z h a ad) {pc : Nat} {Ls : Array Slot} (hsz : Ls.size = c.maxLocals) {rest : List Value} (hd : decode c.code pc = .ok (.invokevirtual index, 3))
    (hf : 1 ≤ R.frames) {W : Nat} (hW : (rest.map fun v => v.category).sum ≤ W) (hl : W + 14 ≤ R.locals) (hc : cells + 1 ≤ R.cells) (hsl : slots + n ≤ R.slots)
    (k : ∀ T' h' (b : Addr), Stand p l e R s m args below meth c T' locs (cells + 1) (slots + n) → T'.heap = h' → Ext h h' → b = h.size → own_A Z h' b ty n f → Exa Z h' b ad → own_Ends p e below s Q kc kn (T'.setTop (mkF m (pc + 3) Ls (.ref b :: rest)))) :
    own_Ends p e below s Q kc kn (T.setTop (mkF m pc Ls (.ref a :: rest))) := by
  obtain ⟨q, cl, Ar, hn, hv⟩ := A
  obtain ⟨T', h', X', e', E', A', F', st⟩ := cloneA X hx hZ hown w1 w2 w3 w4 w5 w6 eT Ar E (fitC_of Ar fun i hi v hv' => by rw [hv i (by omega)] at hv'; cases hv'; exact hfit i) (g := mkF m pc Ls (.ref a :: rest)) rfl hsz rfl hd hf (W := W) (by show 2 * 0 + _ ≤ _; simpa using hW) hl (cap := n) (by omega) hc hsl
  exact own_pre st (k T' h' _ X' e' E' rfl ⟨q, _, A', hn, hv⟩ F')
theorem own_vvf (aA aR : Addr) (i : Nat) : fits (.object "com/example/tideline/tideline/TokenType") (own_vv aA aR i) = true := by unfold own_vv; split <;> rfl
theorem own_szN {n : Nat} {k : Int32} {m : Nat} (h : n.toInt32 = k) (q : n < 2 ^ 31) (hk : k.toInt = (m : Int)) : n = m := by
  have := own_sz h q
  omega
theorem own_d1_0 : decode method_2_code 0 = .ok (.iload_n 1, 1) := by decide +kernel
theorem own_d1_1 : decode method_2_code 1 = .ok (.ifCond .ne 14, 3) := by decide +kernel
theorem own_d1_4 : decode method_2_code 4 = .ok (.new 7, 3) := by decide +kernel
theorem own_d1_7 : decode method_2_code 7 = .ok (.dup, 1) := by decide +kernel
theorem own_d1_8 : decode method_2_code 8 = .ok (.iconst 0, 1) := by decide +kernel
theorem own_d1_9 : decode method_2_code 9 = .ok (.newarray .char, 2) := by decide +kernel
theorem own_d1_11 : decode method_2_code 11 = .ok (.invokespecial 9, 3) := by decide +kernel
theorem own_d1_14 : decode method_2_code 14 = .ok (.areturn, 1) := by decide +kernel
theorem own_d1_15 : decode method_2_code 15 = .ok (.iload_n 1, 1) := by decide +kernel
theorem own_d1_16 : decode method_2_code 16 = .ok (.iconst 1, 1) := by decide +kernel
theorem own_d1_17 : decode method_2_code 17 = .ok (.if_icmp .ne 20, 3) := by decide +kernel
theorem own_d1_20 : decode method_2_code 20 = .ok (.new 7, 3) := by decide +kernel
theorem own_d1_23 : decode method_2_code 23 = .ok (.dup, 1) := by decide +kernel
theorem own_d1_24 : decode method_2_code 24 = .ok (.iconst 1, 1) := by decide +kernel
theorem own_d1_25 : decode method_2_code 25 = .ok (.newarray .char, 2) := by decide +kernel
theorem own_d1_27 : decode method_2_code 27 = .ok (.dup, 1) := by decide +kernel
theorem own_d1_28 : decode method_2_code 28 = .ok (.iconst 0, 1) := by decide +kernel
theorem own_d1_29 : decode method_2_code 29 = .ok (.aload_n 0, 1) := by decide +kernel
theorem own_d1_30 : decode method_2_code 30 = .ok (.iconst 0, 1) := by decide +kernel
theorem own_d1_31 : decode method_2_code 31 = .ok (.caload, 1) := by decide +kernel
theorem own_d1_32 : decode method_2_code 32 = .ok (.castore, 1) := by decide +kernel
theorem own_d1_33 : decode method_2_code 33 = .ok (.invokespecial 9, 3) := by decide +kernel
theorem own_d1_36 : decode method_2_code 36 = .ok (.areturn, 1) := by decide +kernel
theorem own_d1_37 : decode method_2_code 37 = .ok (.iload_n 1, 1) := by decide +kernel
theorem own_d1_38 : decode method_2_code 38 = .ok (.iconst 2, 1) := by decide +kernel
theorem own_d1_39 : decode method_2_code 39 = .ok (.if_icmp .ne 26, 3) := by decide +kernel
theorem own_d1_42 : decode method_2_code 42 = .ok (.new 7, 3) := by decide +kernel
theorem own_d1_45 : decode method_2_code 45 = .ok (.dup, 1) := by decide +kernel
theorem own_d1_46 : decode method_2_code 46 = .ok (.iconst 2, 1) := by decide +kernel
theorem own_d1_47 : decode method_2_code 47 = .ok (.newarray .char, 2) := by decide +kernel
theorem own_d1_49 : decode method_2_code 49 = .ok (.dup, 1) := by decide +kernel
theorem own_d1_50 : decode method_2_code 50 = .ok (.iconst 0, 1) := by decide +kernel
theorem own_d1_51 : decode method_2_code 51 = .ok (.aload_n 0, 1) := by decide +kernel
theorem own_d1_52 : decode method_2_code 52 = .ok (.iconst 0, 1) := by decide +kernel
theorem own_d1_53 : decode method_2_code 53 = .ok (.caload, 1) := by decide +kernel
theorem own_d1_54 : decode method_2_code 54 = .ok (.castore, 1) := by decide +kernel
theorem own_d1_55 : decode method_2_code 55 = .ok (.dup, 1) := by decide +kernel
theorem own_d1_56 : decode method_2_code 56 = .ok (.iconst 1, 1) := by decide +kernel
theorem own_d1_57 : decode method_2_code 57 = .ok (.aload_n 0, 1) := by decide +kernel
theorem own_d1_58 : decode method_2_code 58 = .ok (.iconst 1, 1) := by decide +kernel
theorem own_d1_59 : decode method_2_code 59 = .ok (.caload, 1) := by decide +kernel
theorem own_d1_60 : decode method_2_code 60 = .ok (.castore, 1) := by decide +kernel
theorem own_d1_61 : decode method_2_code 61 = .ok (.invokespecial 9, 3) := by decide +kernel
theorem own_d1_64 : decode method_2_code 64 = .ok (.areturn, 1) := by decide +kernel
theorem own_d1_65 : decode method_2_code 65 = .ok (.iload_n 1, 1) := by decide +kernel
theorem own_d1_66 : decode method_2_code 66 = .ok (.iconst 3, 1) := by decide +kernel
theorem own_d1_67 : decode method_2_code 67 = .ok (.if_icmp .ne 32, 3) := by decide +kernel
theorem own_d1_70 : decode method_2_code 70 = .ok (.new 7, 3) := by decide +kernel
theorem own_d1_73 : decode method_2_code 73 = .ok (.dup, 1) := by decide +kernel
theorem own_d1_74 : decode method_2_code 74 = .ok (.iconst 3, 1) := by decide +kernel
theorem own_d1_75 : decode method_2_code 75 = .ok (.newarray .char, 2) := by decide +kernel
theorem own_d1_77 : decode method_2_code 77 = .ok (.dup, 1) := by decide +kernel
theorem own_d1_78 : decode method_2_code 78 = .ok (.iconst 0, 1) := by decide +kernel
theorem own_d1_79 : decode method_2_code 79 = .ok (.aload_n 0, 1) := by decide +kernel
theorem own_d1_80 : decode method_2_code 80 = .ok (.iconst 0, 1) := by decide +kernel
theorem own_d1_81 : decode method_2_code 81 = .ok (.caload, 1) := by decide +kernel
theorem own_d1_82 : decode method_2_code 82 = .ok (.castore, 1) := by decide +kernel
theorem own_d1_83 : decode method_2_code 83 = .ok (.dup, 1) := by decide +kernel
theorem own_d1_84 : decode method_2_code 84 = .ok (.iconst 1, 1) := by decide +kernel
theorem own_d1_85 : decode method_2_code 85 = .ok (.aload_n 0, 1) := by decide +kernel
theorem own_d1_86 : decode method_2_code 86 = .ok (.iconst 1, 1) := by decide +kernel
theorem own_d1_87 : decode method_2_code 87 = .ok (.caload, 1) := by decide +kernel
theorem own_d1_88 : decode method_2_code 88 = .ok (.castore, 1) := by decide +kernel
theorem own_d1_89 : decode method_2_code 89 = .ok (.dup, 1) := by decide +kernel
theorem own_d1_90 : decode method_2_code 90 = .ok (.iconst 2, 1) := by decide +kernel
theorem own_d1_91 : decode method_2_code 91 = .ok (.aload_n 0, 1) := by decide +kernel
theorem own_d1_92 : decode method_2_code 92 = .ok (.iconst 2, 1) := by decide +kernel
theorem own_d1_93 : decode method_2_code 93 = .ok (.caload, 1) := by decide +kernel
theorem own_d1_94 : decode method_2_code 94 = .ok (.castore, 1) := by decide +kernel
theorem own_d1_95 : decode method_2_code 95 = .ok (.invokespecial 9, 3) := by decide +kernel
theorem own_d1_98 : decode method_2_code 98 = .ok (.areturn, 1) := by decide +kernel
theorem own_d1_99 : decode method_2_code 99 = .ok (.iload_n 1, 1) := by decide +kernel
theorem own_d1_100 : decode method_2_code 100 = .ok (.iconst 4, 1) := by decide +kernel
theorem own_d1_101 : decode method_2_code 101 = .ok (.if_icmp .ne 38, 3) := by decide +kernel
theorem own_d1_104 : decode method_2_code 104 = .ok (.new 7, 3) := by decide +kernel
theorem own_d1_107 : decode method_2_code 107 = .ok (.dup, 1) := by decide +kernel
theorem own_d1_108 : decode method_2_code 108 = .ok (.iconst 4, 1) := by decide +kernel
theorem own_d1_109 : decode method_2_code 109 = .ok (.newarray .char, 2) := by decide +kernel
theorem own_d1_111 : decode method_2_code 111 = .ok (.dup, 1) := by decide +kernel
theorem own_d1_112 : decode method_2_code 112 = .ok (.iconst 0, 1) := by decide +kernel
theorem own_d1_113 : decode method_2_code 113 = .ok (.aload_n 0, 1) := by decide +kernel
theorem own_d1_114 : decode method_2_code 114 = .ok (.iconst 0, 1) := by decide +kernel
theorem own_d1_115 : decode method_2_code 115 = .ok (.caload, 1) := by decide +kernel
theorem own_d1_116 : decode method_2_code 116 = .ok (.castore, 1) := by decide +kernel
theorem own_d1_117 : decode method_2_code 117 = .ok (.dup, 1) := by decide +kernel
theorem own_d1_118 : decode method_2_code 118 = .ok (.iconst 1, 1) := by decide +kernel
theorem own_d1_119 : decode method_2_code 119 = .ok (.aload_n 0, 1) := by decide +kernel
theorem own_d1_120 : decode method_2_code 120 = .ok (.iconst 1, 1) := by decide +kernel
theorem own_d1_121 : decode method_2_code 121 = .ok (.caload, 1) := by decide +kernel
theorem own_d1_122 : decode method_2_code 122 = .ok (.castore, 1) := by decide +kernel
theorem own_d1_123 : decode method_2_code 123 = .ok (.dup, 1) := by decide +kernel
theorem own_d1_124 : decode method_2_code 124 = .ok (.iconst 2, 1) := by decide +kernel
theorem own_d1_125 : decode method_2_code 125 = .ok (.aload_n 0, 1) := by decide +kernel
theorem own_d1_126 : decode method_2_code 126 = .ok (.iconst 2, 1) := by decide +kernel
theorem own_d1_127 : decode method_2_code 127 = .ok (.caload, 1) := by decide +kernel
theorem own_d1_128 : decode method_2_code 128 = .ok (.castore, 1) := by decide +kernel
theorem own_d1_129 : decode method_2_code 129 = .ok (.dup, 1) := by decide +kernel
theorem own_d1_130 : decode method_2_code 130 = .ok (.iconst 3, 1) := by decide +kernel
theorem own_d1_131 : decode method_2_code 131 = .ok (.aload_n 0, 1) := by decide +kernel
theorem own_d1_132 : decode method_2_code 132 = .ok (.iconst 3, 1) := by decide +kernel
theorem own_d1_133 : decode method_2_code 133 = .ok (.caload, 1) := by decide +kernel
theorem own_d1_134 : decode method_2_code 134 = .ok (.castore, 1) := by decide +kernel
theorem own_d1_135 : decode method_2_code 135 = .ok (.invokespecial 9, 3) := by decide +kernel
theorem own_d1_138 : decode method_2_code 138 = .ok (.areturn, 1) := by decide +kernel
theorem own_d1_139 : decode method_2_code 139 = .ok (.iload_n 1, 1) := by decide +kernel
theorem own_d1_140 : decode method_2_code 140 = .ok (.iconst 5, 1) := by decide +kernel
theorem own_d1_141 : decode method_2_code 141 = .ok (.if_icmp .ne 44, 3) := by decide +kernel
theorem own_d1_144 : decode method_2_code 144 = .ok (.new 7, 3) := by decide +kernel
theorem own_d1_147 : decode method_2_code 147 = .ok (.dup, 1) := by decide +kernel
theorem own_d1_148 : decode method_2_code 148 = .ok (.iconst 5, 1) := by decide +kernel
theorem own_d1_149 : decode method_2_code 149 = .ok (.newarray .char, 2) := by decide +kernel
theorem own_d1_151 : decode method_2_code 151 = .ok (.dup, 1) := by decide +kernel
theorem own_d1_152 : decode method_2_code 152 = .ok (.iconst 0, 1) := by decide +kernel
theorem own_d1_153 : decode method_2_code 153 = .ok (.aload_n 0, 1) := by decide +kernel
theorem own_d1_154 : decode method_2_code 154 = .ok (.iconst 0, 1) := by decide +kernel
theorem own_d1_155 : decode method_2_code 155 = .ok (.caload, 1) := by decide +kernel
theorem own_d1_156 : decode method_2_code 156 = .ok (.castore, 1) := by decide +kernel
theorem own_d1_157 : decode method_2_code 157 = .ok (.dup, 1) := by decide +kernel
theorem own_d1_158 : decode method_2_code 158 = .ok (.iconst 1, 1) := by decide +kernel
theorem own_d1_159 : decode method_2_code 159 = .ok (.aload_n 0, 1) := by decide +kernel
theorem own_d1_160 : decode method_2_code 160 = .ok (.iconst 1, 1) := by decide +kernel
theorem own_d1_161 : decode method_2_code 161 = .ok (.caload, 1) := by decide +kernel
theorem own_d1_162 : decode method_2_code 162 = .ok (.castore, 1) := by decide +kernel
theorem own_d1_163 : decode method_2_code 163 = .ok (.dup, 1) := by decide +kernel
theorem own_d1_164 : decode method_2_code 164 = .ok (.iconst 2, 1) := by decide +kernel
theorem own_d1_165 : decode method_2_code 165 = .ok (.aload_n 0, 1) := by decide +kernel
theorem own_d1_166 : decode method_2_code 166 = .ok (.iconst 2, 1) := by decide +kernel
theorem own_d1_167 : decode method_2_code 167 = .ok (.caload, 1) := by decide +kernel
theorem own_d1_168 : decode method_2_code 168 = .ok (.castore, 1) := by decide +kernel
theorem own_d1_169 : decode method_2_code 169 = .ok (.dup, 1) := by decide +kernel
theorem own_d1_170 : decode method_2_code 170 = .ok (.iconst 3, 1) := by decide +kernel
theorem own_d1_171 : decode method_2_code 171 = .ok (.aload_n 0, 1) := by decide +kernel
theorem own_d1_172 : decode method_2_code 172 = .ok (.iconst 3, 1) := by decide +kernel
theorem own_d1_173 : decode method_2_code 173 = .ok (.caload, 1) := by decide +kernel
theorem own_d1_174 : decode method_2_code 174 = .ok (.castore, 1) := by decide +kernel
theorem own_d1_175 : decode method_2_code 175 = .ok (.dup, 1) := by decide +kernel
theorem own_d1_176 : decode method_2_code 176 = .ok (.iconst 4, 1) := by decide +kernel
theorem own_d1_177 : decode method_2_code 177 = .ok (.aload_n 0, 1) := by decide +kernel
theorem own_d1_178 : decode method_2_code 178 = .ok (.iconst 4, 1) := by decide +kernel
theorem own_d1_179 : decode method_2_code 179 = .ok (.caload, 1) := by decide +kernel
theorem own_d1_180 : decode method_2_code 180 = .ok (.castore, 1) := by decide +kernel
theorem own_d1_181 : decode method_2_code 181 = .ok (.invokespecial 9, 3) := by decide +kernel
theorem own_d1_184 : decode method_2_code 184 = .ok (.areturn, 1) := by decide +kernel
theorem own_d1_185 : decode method_2_code 185 = .ok (.iload_n 1, 1) := by decide +kernel
theorem own_d1_186 : decode method_2_code 186 = .ok (.bipush 6, 2) := by decide +kernel
theorem own_d1_188 : decode method_2_code 188 = .ok (.if_icmp .ne 51, 3) := by decide +kernel
theorem own_d1_191 : decode method_2_code 191 = .ok (.new 7, 3) := by decide +kernel
theorem own_d1_194 : decode method_2_code 194 = .ok (.dup, 1) := by decide +kernel
theorem own_d1_195 : decode method_2_code 195 = .ok (.bipush 6, 2) := by decide +kernel
theorem own_d1_197 : decode method_2_code 197 = .ok (.newarray .char, 2) := by decide +kernel
theorem own_d1_199 : decode method_2_code 199 = .ok (.dup, 1) := by decide +kernel
theorem own_d1_200 : decode method_2_code 200 = .ok (.iconst 0, 1) := by decide +kernel
theorem own_d1_201 : decode method_2_code 201 = .ok (.aload_n 0, 1) := by decide +kernel
theorem own_d1_202 : decode method_2_code 202 = .ok (.iconst 0, 1) := by decide +kernel
theorem own_d1_203 : decode method_2_code 203 = .ok (.caload, 1) := by decide +kernel
theorem own_d1_204 : decode method_2_code 204 = .ok (.castore, 1) := by decide +kernel
theorem own_d1_205 : decode method_2_code 205 = .ok (.dup, 1) := by decide +kernel
theorem own_d1_206 : decode method_2_code 206 = .ok (.iconst 1, 1) := by decide +kernel
theorem own_d1_207 : decode method_2_code 207 = .ok (.aload_n 0, 1) := by decide +kernel
theorem own_d1_208 : decode method_2_code 208 = .ok (.iconst 1, 1) := by decide +kernel
theorem own_d1_209 : decode method_2_code 209 = .ok (.caload, 1) := by decide +kernel
theorem own_d1_210 : decode method_2_code 210 = .ok (.castore, 1) := by decide +kernel
theorem own_d1_211 : decode method_2_code 211 = .ok (.dup, 1) := by decide +kernel
theorem own_d1_212 : decode method_2_code 212 = .ok (.iconst 2, 1) := by decide +kernel
theorem own_d1_213 : decode method_2_code 213 = .ok (.aload_n 0, 1) := by decide +kernel
theorem own_d1_214 : decode method_2_code 214 = .ok (.iconst 2, 1) := by decide +kernel
theorem own_d1_215 : decode method_2_code 215 = .ok (.caload, 1) := by decide +kernel
theorem own_d1_216 : decode method_2_code 216 = .ok (.castore, 1) := by decide +kernel
theorem own_d1_217 : decode method_2_code 217 = .ok (.dup, 1) := by decide +kernel
theorem own_d1_218 : decode method_2_code 218 = .ok (.iconst 3, 1) := by decide +kernel
theorem own_d1_219 : decode method_2_code 219 = .ok (.aload_n 0, 1) := by decide +kernel
theorem own_d1_220 : decode method_2_code 220 = .ok (.iconst 3, 1) := by decide +kernel
theorem own_d1_221 : decode method_2_code 221 = .ok (.caload, 1) := by decide +kernel
theorem own_d1_222 : decode method_2_code 222 = .ok (.castore, 1) := by decide +kernel
theorem own_d1_223 : decode method_2_code 223 = .ok (.dup, 1) := by decide +kernel
theorem own_d1_224 : decode method_2_code 224 = .ok (.iconst 4, 1) := by decide +kernel
theorem own_d1_225 : decode method_2_code 225 = .ok (.aload_n 0, 1) := by decide +kernel
theorem own_d1_226 : decode method_2_code 226 = .ok (.iconst 4, 1) := by decide +kernel
theorem own_d1_227 : decode method_2_code 227 = .ok (.caload, 1) := by decide +kernel
theorem own_d1_228 : decode method_2_code 228 = .ok (.castore, 1) := by decide +kernel
theorem own_d1_229 : decode method_2_code 229 = .ok (.dup, 1) := by decide +kernel
theorem own_d1_230 : decode method_2_code 230 = .ok (.iconst 5, 1) := by decide +kernel
theorem own_d1_231 : decode method_2_code 231 = .ok (.aload_n 0, 1) := by decide +kernel
theorem own_d1_232 : decode method_2_code 232 = .ok (.iconst 5, 1) := by decide +kernel
theorem own_d1_233 : decode method_2_code 233 = .ok (.caload, 1) := by decide +kernel
theorem own_d1_234 : decode method_2_code 234 = .ok (.castore, 1) := by decide +kernel
theorem own_d1_235 : decode method_2_code 235 = .ok (.invokespecial 9, 3) := by decide +kernel
theorem own_d1_238 : decode method_2_code 238 = .ok (.areturn, 1) := by decide +kernel
theorem own_d1_239 : decode method_2_code 239 = .ok (.new 7, 3) := by decide +kernel
theorem own_d1_242 : decode method_2_code 242 = .ok (.dup, 1) := by decide +kernel
theorem own_d1_243 : decode method_2_code 243 = .ok (.bipush 7, 2) := by decide +kernel
theorem own_d1_245 : decode method_2_code 245 = .ok (.newarray .char, 2) := by decide +kernel
theorem own_d1_247 : decode method_2_code 247 = .ok (.dup, 1) := by decide +kernel
theorem own_d1_248 : decode method_2_code 248 = .ok (.iconst 0, 1) := by decide +kernel
theorem own_d1_249 : decode method_2_code 249 = .ok (.aload_n 0, 1) := by decide +kernel
theorem own_d1_250 : decode method_2_code 250 = .ok (.iconst 0, 1) := by decide +kernel
theorem own_d1_251 : decode method_2_code 251 = .ok (.caload, 1) := by decide +kernel
theorem own_d1_252 : decode method_2_code 252 = .ok (.castore, 1) := by decide +kernel
theorem own_d1_253 : decode method_2_code 253 = .ok (.dup, 1) := by decide +kernel
theorem own_d1_254 : decode method_2_code 254 = .ok (.iconst 1, 1) := by decide +kernel
theorem own_d1_255 : decode method_2_code 255 = .ok (.aload_n 0, 1) := by decide +kernel
theorem own_d1_256 : decode method_2_code 256 = .ok (.iconst 1, 1) := by decide +kernel
theorem own_d1_257 : decode method_2_code 257 = .ok (.caload, 1) := by decide +kernel
theorem own_d1_258 : decode method_2_code 258 = .ok (.castore, 1) := by decide +kernel
theorem own_d1_259 : decode method_2_code 259 = .ok (.dup, 1) := by decide +kernel
theorem own_d1_260 : decode method_2_code 260 = .ok (.iconst 2, 1) := by decide +kernel
theorem own_d1_261 : decode method_2_code 261 = .ok (.aload_n 0, 1) := by decide +kernel
theorem own_d1_262 : decode method_2_code 262 = .ok (.iconst 2, 1) := by decide +kernel
theorem own_d1_263 : decode method_2_code 263 = .ok (.caload, 1) := by decide +kernel
theorem own_d1_264 : decode method_2_code 264 = .ok (.castore, 1) := by decide +kernel
theorem own_d1_265 : decode method_2_code 265 = .ok (.dup, 1) := by decide +kernel
theorem own_d1_266 : decode method_2_code 266 = .ok (.iconst 3, 1) := by decide +kernel
theorem own_d1_267 : decode method_2_code 267 = .ok (.aload_n 0, 1) := by decide +kernel
theorem own_d1_268 : decode method_2_code 268 = .ok (.iconst 3, 1) := by decide +kernel
theorem own_d1_269 : decode method_2_code 269 = .ok (.caload, 1) := by decide +kernel
theorem own_d1_270 : decode method_2_code 270 = .ok (.castore, 1) := by decide +kernel
theorem own_d1_271 : decode method_2_code 271 = .ok (.dup, 1) := by decide +kernel
theorem own_d1_272 : decode method_2_code 272 = .ok (.iconst 4, 1) := by decide +kernel
theorem own_d1_273 : decode method_2_code 273 = .ok (.aload_n 0, 1) := by decide +kernel
theorem own_d1_274 : decode method_2_code 274 = .ok (.iconst 4, 1) := by decide +kernel
theorem own_d1_275 : decode method_2_code 275 = .ok (.caload, 1) := by decide +kernel
theorem own_d1_276 : decode method_2_code 276 = .ok (.castore, 1) := by decide +kernel
theorem own_d1_277 : decode method_2_code 277 = .ok (.dup, 1) := by decide +kernel
theorem own_d1_278 : decode method_2_code 278 = .ok (.iconst 5, 1) := by decide +kernel
theorem own_d1_279 : decode method_2_code 279 = .ok (.aload_n 0, 1) := by decide +kernel
theorem own_d1_280 : decode method_2_code 280 = .ok (.iconst 5, 1) := by decide +kernel
theorem own_d1_281 : decode method_2_code 281 = .ok (.caload, 1) := by decide +kernel
theorem own_d1_282 : decode method_2_code 282 = .ok (.castore, 1) := by decide +kernel
theorem own_d1_283 : decode method_2_code 283 = .ok (.dup, 1) := by decide +kernel
theorem own_d1_284 : decode method_2_code 284 = .ok (.bipush 6, 2) := by decide +kernel
theorem own_d1_286 : decode method_2_code 286 = .ok (.aload_n 0, 1) := by decide +kernel
theorem own_d1_287 : decode method_2_code 287 = .ok (.bipush 6, 2) := by decide +kernel
theorem own_d1_289 : decode method_2_code 289 = .ok (.caload, 1) := by decide +kernel
theorem own_d1_290 : decode method_2_code 290 = .ok (.castore, 1) := by decide +kernel
theorem own_d1_291 : decode method_2_code 291 = .ok (.invokespecial 9, 3) := by decide +kernel
theorem own_d1_294 : decode method_2_code 294 = .ok (.areturn, 1) := by decide +kernel
theorem own_d2_0 : decode jdk_42_method_3_code 0 = .ok (.aload_n 0, 1) := by decide +kernel
theorem own_d2_1 : decode jdk_42_method_3_code 1 = .ok (.aload_n 1, 1) := by decide +kernel
theorem own_d2_2 : decode jdk_42_method_3_code 2 = .ok (.iconst 0, 1) := by decide +kernel
theorem own_d2_3 : decode jdk_42_method_3_code 3 = .ok (.aload_n 1, 1) := by decide +kernel
theorem own_d2_4 : decode jdk_42_method_3_code 4 = .ok (.arraylength, 1) := by decide +kernel
theorem own_d2_5 : decode jdk_42_method_3_code 5 = .ok (.aconst_null, 1) := by decide +kernel
theorem own_d2_6 : decode jdk_42_method_3_code 6 = .ok (.invokespecial 27, 3) := by decide +kernel
theorem own_d2_9 : decode jdk_42_method_3_code 9 = .ok (.return_, 1) := by decide +kernel
theorem own_d3_0 : decode jdk_42_method_149_code 0 = .ok (.aload_n 0, 1) := by decide +kernel
theorem own_d3_1 : decode jdk_42_method_149_code 1 = .ok (.invokespecial 1, 3) := by decide +kernel
theorem own_d3_4 : decode jdk_42_method_149_code 4 = .ok (.iload_n 3, 1) := by decide +kernel
theorem own_d3_5 : decode jdk_42_method_149_code 5 = .ok (.ifCond .ne 22, 3) := by decide +kernel
theorem own_d3_8 : decode jdk_42_method_149_code 8 = .ok (.aload_n 0, 1) := by decide +kernel
theorem own_d3_9 : decode jdk_42_method_149_code 9 = .ok (.ldc 7, 2) := by decide +kernel
theorem own_d3_11 : decode jdk_42_method_149_code 11 = .ok (.getfield 9, 3) := by decide +kernel
theorem own_d3_14 : decode jdk_42_method_149_code 14 = .ok (.putfield 9, 3) := by decide +kernel
theorem own_d3_17 : decode jdk_42_method_149_code 17 = .ok (.aload_n 0, 1) := by decide +kernel
theorem own_d3_18 : decode jdk_42_method_149_code 18 = .ok (.ldc 7, 2) := by decide +kernel
theorem own_d3_20 : decode jdk_42_method_149_code 20 = .ok (.getfield 15, 3) := by decide +kernel
theorem own_d3_23 : decode jdk_42_method_149_code 23 = .ok (.putfield 15, 3) := by decide +kernel
theorem own_d3_26 : decode jdk_42_method_149_code 26 = .ok (.return_, 1) := by decide +kernel
theorem own_d3_27 : decode jdk_42_method_149_code 27 = .ok (.getstatic 38, 3) := by decide +kernel
theorem own_d3_30 : decode jdk_42_method_149_code 30 = .ok (.ifCond .eq 28, 3) := by decide +kernel
theorem own_d3_33 : decode jdk_42_method_149_code 33 = .ok (.aload_n 1, 1) := by decide +kernel
theorem own_d3_34 : decode jdk_42_method_149_code 34 = .ok (.iload_n 2, 1) := by decide +kernel
theorem own_d3_35 : decode jdk_42_method_149_code 35 = .ok (.iload_n 3, 1) := by decide +kernel
theorem own_d3_36 : decode jdk_42_method_149_code 36 = .ok (.invokestatic 177, 3) := by decide +kernel
theorem own_d3_39 : decode jdk_42_method_149_code 39 = .ok (.astore 5, 2) := by decide +kernel
theorem own_d3_41 : decode jdk_42_method_149_code 41 = .ok (.aload_n 0, 1) := by decide +kernel
theorem own_d3_42 : decode jdk_42_method_149_code 42 = .ok (.aload 5, 2) := by decide +kernel
theorem own_d3_44 : decode jdk_42_method_149_code 44 = .ok (.iload_n 3, 1) := by decide +kernel
theorem own_d3_45 : decode jdk_42_method_149_code 45 = .ok (.invokestatic 47, 3) := by decide +kernel
theorem own_d3_48 : decode jdk_42_method_149_code 48 = .ok (.putfield 15, 3) := by decide +kernel
theorem own_d3_51 : decode jdk_42_method_149_code 51 = .ok (.aload_n 0, 1) := by decide +kernel
theorem own_d3_52 : decode jdk_42_method_149_code 52 = .ok (.aload 5, 2) := by decide +kernel
theorem own_d3_54 : decode jdk_42_method_149_code 54 = .ok (.putfield 9, 3) := by decide +kernel
theorem own_d3_57 : decode jdk_42_method_149_code 57 = .ok (.return_, 1) := by decide +kernel
theorem own_d5_0 : decode prog_12_method_6_code 0 = .ok (.invokestatic 37, 3) := by decide +kernel
theorem own_d5_3 : decode prog_12_method_6_code 3 = .ok (.astore_n 1, 1) := by decide +kernel
theorem own_d5_4 : decode prog_12_method_6_code 4 = .ok (.aload_n 1, 1) := by decide +kernel
theorem own_d5_5 : decode prog_12_method_6_code 5 = .ok (.arraylength, 1) := by decide +kernel
theorem own_d5_6 : decode prog_12_method_6_code 6 = .ok (.istore_n 2, 1) := by decide +kernel
theorem own_d5_7 : decode prog_12_method_6_code 7 = .ok (.iconst 0, 1) := by decide +kernel
theorem own_d5_8 : decode prog_12_method_6_code 8 = .ok (.istore_n 3, 1) := by decide +kernel
theorem own_d5_9 : decode prog_12_method_6_code 9 = .ok (.iload_n 3, 1) := by decide +kernel
theorem own_d5_10 : decode prog_12_method_6_code 10 = .ok (.iload_n 2, 1) := by decide +kernel
theorem own_d5_11 : decode prog_12_method_6_code 11 = .ok (.if_icmp .ge 29, 3) := by decide +kernel
theorem own_d5_14 : decode prog_12_method_6_code 14 = .ok (.aload_n 1, 1) := by decide +kernel
theorem own_d5_15 : decode prog_12_method_6_code 15 = .ok (.iload_n 3, 1) := by decide +kernel
theorem own_d5_16 : decode prog_12_method_6_code 16 = .ok (.aaload, 1) := by decide +kernel
theorem own_d5_17 : decode prog_12_method_6_code 17 = .ok (.astore 4, 2) := by decide +kernel
theorem own_d5_19 : decode prog_12_method_6_code 19 = .ok (.aload 4, 2) := by decide +kernel
theorem own_d5_21 : decode prog_12_method_6_code 21 = .ok (.getfield 29, 3) := by decide +kernel
theorem own_d5_24 : decode prog_12_method_6_code 24 = .ok (.aload_n 0, 1) := by decide +kernel
theorem own_d5_25 : decode prog_12_method_6_code 25 = .ok (.invokevirtual 41, 3) := by decide +kernel
theorem own_d5_28 : decode prog_12_method_6_code 28 = .ok (.ifCond .eq 6, 3) := by decide +kernel
theorem own_d5_31 : decode prog_12_method_6_code 31 = .ok (.aload 4, 2) := by decide +kernel
theorem own_d5_33 : decode prog_12_method_6_code 33 = .ok (.areturn, 1) := by decide +kernel
theorem own_d5_34 : decode prog_12_method_6_code 34 = .ok (.iinc 3 1, 3) := by decide +kernel
theorem own_d5_37 : decode prog_12_method_6_code 37 = .ok (.goto (-28), 3) := by decide +kernel
theorem own_d5_40 : decode prog_12_method_6_code 40 = .ok (.aconst_null, 1) := by decide +kernel
theorem own_d5_41 : decode prog_12_method_6_code 41 = .ok (.areturn, 1) := by decide +kernel
theorem own_d6_0 : decode prog_12_method_1_code 0 = .ok (.getstatic 10, 3) := by decide +kernel
theorem own_d6_3 : decode prog_12_method_1_code 3 = .ok (.invokevirtual 14, 3) := by decide +kernel
theorem own_d6_6 : decode prog_12_method_1_code 6 = .ok (.checkcast 15, 3) := by decide +kernel
theorem own_d6_9 : decode prog_12_method_1_code 9 = .ok (.areturn, 1) := by decide +kernel
theorem own_d7_0 : decode jdk_42_method_66_code 0 = .ok (.aload_n 0, 1) := by decide +kernel
theorem own_d7_1 : decode jdk_42_method_66_code 1 = .ok (.aload_n 1, 1) := by decide +kernel
theorem own_d7_2 : decode jdk_42_method_66_code 2 = .ok (.if_acmp .ne 5, 3) := by decide +kernel
theorem own_d7_5 : decode jdk_42_method_66_code 5 = .ok (.iconst 1, 1) := by decide +kernel
theorem own_d7_6 : decode jdk_42_method_66_code 6 = .ok (.ireturn, 1) := by decide +kernel
theorem own_d7_7 : decode jdk_42_method_66_code 7 = .ok (.aload_n 1, 1) := by decide +kernel
theorem own_d7_8 : decode jdk_42_method_66_code 8 = .ok (.instanceof 10, 3) := by decide +kernel
theorem own_d7_11 : decode jdk_42_method_66_code 11 = .ok (.ifCond .eq 43, 3) := by decide +kernel
theorem own_d7_14 : decode jdk_42_method_66_code 14 = .ok (.aload_n 1, 1) := by decide +kernel
theorem own_d7_15 : decode jdk_42_method_66_code 15 = .ok (.checkcast 10, 3) := by decide +kernel
theorem own_d7_18 : decode jdk_42_method_66_code 18 = .ok (.astore_n 2, 1) := by decide +kernel
theorem own_d7_19 : decode jdk_42_method_66_code 19 = .ok (.getstatic 38, 3) := by decide +kernel
theorem own_d7_22 : decode jdk_42_method_66_code 22 = .ok (.ifCond .eq 14, 3) := by decide +kernel
theorem own_d7_25 : decode jdk_42_method_66_code 25 = .ok (.aload_n 0, 1) := by decide +kernel
theorem own_d7_26 : decode jdk_42_method_66_code 26 = .ok (.getfield 15, 3) := by decide +kernel
theorem own_d7_29 : decode jdk_42_method_66_code 29 = .ok (.aload_n 2, 1) := by decide +kernel
theorem own_d7_30 : decode jdk_42_method_66_code 30 = .ok (.getfield 15, 3) := by decide +kernel
theorem own_d7_33 : decode jdk_42_method_66_code 33 = .ok (.if_icmp .ne 21, 3) := by decide +kernel
theorem own_d7_36 : decode jdk_42_method_66_code 36 = .ok (.aload_n 0, 1) := by decide +kernel
theorem own_d7_37 : decode jdk_42_method_66_code 37 = .ok (.getfield 9, 3) := by decide +kernel
theorem own_d7_40 : decode jdk_42_method_66_code 40 = .ok (.aload_n 2, 1) := by decide +kernel
theorem own_d7_41 : decode jdk_42_method_66_code 41 = .ok (.getfield 9, 3) := by decide +kernel
theorem own_d7_44 : decode jdk_42_method_66_code 44 = .ok (.invokestatic 541, 3) := by decide +kernel
theorem own_d7_47 : decode jdk_42_method_66_code 47 = .ok (.ifCond .eq 7, 3) := by decide +kernel
theorem own_d7_50 : decode jdk_42_method_66_code 50 = .ok (.iconst 1, 1) := by decide +kernel
theorem own_d7_51 : decode jdk_42_method_66_code 51 = .ok (.goto 4, 3) := by decide +kernel
theorem own_d7_54 : decode jdk_42_method_66_code 54 = .ok (.iconst 0, 1) := by decide +kernel
theorem own_d7_55 : decode jdk_42_method_66_code 55 = .ok (.ireturn, 1) := by decide +kernel
theorem own_d8_0 : decode jdk_43_method_13_code 0 = .ok (.aload_n 0, 1) := by decide +kernel
theorem own_d8_1 : decode jdk_43_method_13_code 1 = .ok (.arraylength, 1) := by decide +kernel
theorem own_d8_2 : decode jdk_43_method_13_code 2 = .ok (.aload_n 1, 1) := by decide +kernel
theorem own_d8_3 : decode jdk_43_method_13_code 3 = .ok (.arraylength, 1) := by decide +kernel
theorem own_d8_4 : decode jdk_43_method_13_code 4 = .ok (.if_icmp .ne 30, 3) := by decide +kernel
theorem own_d8_7 : decode jdk_43_method_13_code 7 = .ok (.iconst 0, 1) := by decide +kernel
theorem own_d8_8 : decode jdk_43_method_13_code 8 = .ok (.istore_n 2, 1) := by decide +kernel
theorem own_d8_9 : decode jdk_43_method_13_code 9 = .ok (.iload_n 2, 1) := by decide +kernel
theorem own_d8_10 : decode jdk_43_method_13_code 10 = .ok (.aload_n 0, 1) := by decide +kernel
theorem own_d8_11 : decode jdk_43_method_13_code 11 = .ok (.arraylength, 1) := by decide +kernel
theorem own_d8_12 : decode jdk_43_method_13_code 12 = .ok (.if_icmp .ge 20, 3) := by decide +kernel
theorem own_d8_15 : decode jdk_43_method_13_code 15 = .ok (.aload_n 0, 1) := by decide +kernel
theorem own_d8_16 : decode jdk_43_method_13_code 16 = .ok (.iload_n 2, 1) := by decide +kernel
theorem own_d8_17 : decode jdk_43_method_13_code 17 = .ok (.baload, 1) := by decide +kernel
theorem own_d8_18 : decode jdk_43_method_13_code 18 = .ok (.aload_n 1, 1) := by decide +kernel
theorem own_d8_19 : decode jdk_43_method_13_code 19 = .ok (.iload_n 2, 1) := by decide +kernel
theorem own_d8_20 : decode jdk_43_method_13_code 20 = .ok (.baload, 1) := by decide +kernel
theorem own_d8_21 : decode jdk_43_method_13_code 21 = .ok (.if_icmp .eq 5, 3) := by decide +kernel
theorem own_d8_24 : decode jdk_43_method_13_code 24 = .ok (.iconst 0, 1) := by decide +kernel
theorem own_d8_25 : decode jdk_43_method_13_code 25 = .ok (.ireturn, 1) := by decide +kernel
theorem own_d8_26 : decode jdk_43_method_13_code 26 = .ok (.iinc 2 1, 3) := by decide +kernel
theorem own_d8_29 : decode jdk_43_method_13_code 29 = .ok (.goto (-20), 3) := by decide +kernel
theorem own_d8_32 : decode jdk_43_method_13_code 32 = .ok (.iconst 1, 1) := by decide +kernel
theorem own_d8_33 : decode jdk_43_method_13_code 33 = .ok (.ireturn, 1) := by decide +kernel
theorem own_d8_34 : decode jdk_43_method_13_code 34 = .ok (.iconst 0, 1) := by decide +kernel
theorem own_d8_35 : decode jdk_43_method_13_code 35 = .ok (.ireturn, 1) := by decide +kernel
theorem own_d9_0 : decode method_3_code 0 = .ok (.aload_n 0, 1) := by decide +kernel
theorem own_d9_1 : decode method_3_code 1 = .ok (.ifnonnull 5, 3) := by decide +kernel
theorem own_d9_4 : decode method_3_code 4 = .ok (.aconst_null, 1) := by decide +kernel
theorem own_d9_5 : decode method_3_code 5 = .ok (.areturn, 1) := by decide +kernel
theorem own_d9_6 : decode method_3_code 6 = .ok (.aload_n 0, 1) := by decide +kernel
theorem own_d9_7 : decode method_3_code 7 = .ok (.ldc 12, 2) := by decide +kernel
theorem own_d9_9 : decode method_3_code 9 = .ok (.invokevirtual 14, 3) := by decide +kernel
theorem own_d9_12 : decode method_3_code 12 = .ok (.ifCond .eq 7, 3) := by decide +kernel
theorem own_d9_15 : decode method_3_code 15 = .ok (.getstatic 18, 3) := by decide +kernel
theorem own_d9_18 : decode method_3_code 18 = .ok (.areturn, 1) := by decide +kernel
theorem own_d9_19 : decode method_3_code 19 = .ok (.aload_n 0, 1) := by decide +kernel
theorem own_d9_20 : decode method_3_code 20 = .ok (.ldc 24, 2) := by decide +kernel
theorem own_d9_22 : decode method_3_code 22 = .ok (.invokevirtual 14, 3) := by decide +kernel
theorem own_d9_25 : decode method_3_code 25 = .ok (.ifCond .eq 7, 3) := by decide +kernel
theorem own_d9_28 : decode method_3_code 28 = .ok (.getstatic 26, 3) := by decide +kernel
theorem own_d9_31 : decode method_3_code 31 = .ok (.areturn, 1) := by decide +kernel
theorem own_d9_32 : decode method_3_code 32 = .ok (.aconst_null, 1) := by decide +kernel
theorem own_d9_33 : decode method_3_code 33 = .ok (.areturn, 1) := by decide +kernel
theorem own_d10_0 : decode jdk_52_method_16_code 0 = .ok (.iload_n 2, 1) := by decide +kernel
theorem own_d10_1 : decode jdk_52_method_16_code 1 = .ok (.newarray .byte, 2) := by decide +kernel
theorem own_d10_3 : decode jdk_52_method_16_code 3 = .ok (.astore_n 3, 1) := by decide +kernel
theorem own_d10_4 : decode jdk_52_method_16_code 4 = .ok (.aload_n 0, 1) := by decide +kernel
theorem own_d10_5 : decode jdk_52_method_16_code 5 = .ok (.iload_n 1, 1) := by decide +kernel
theorem own_d10_6 : decode jdk_52_method_16_code 6 = .ok (.aload_n 3, 1) := by decide +kernel
theorem own_d10_7 : decode jdk_52_method_16_code 7 = .ok (.iconst 0, 1) := by decide +kernel
theorem own_d10_8 : decode jdk_52_method_16_code 8 = .ok (.iload_n 2, 1) := by decide +kernel
theorem own_d10_9 : decode jdk_52_method_16_code 9 = .ok (.invokestatic 115, 3) := by decide +kernel
theorem own_d10_12 : decode jdk_52_method_16_code 12 = .ok (.istore 4, 2) := by decide +kernel
theorem own_d10_14 : decode jdk_52_method_16_code 14 = .ok (.iload 4, 2) := by decide +kernel
theorem own_d10_16 : decode jdk_52_method_16_code 16 = .ok (.iload_n 2, 1) := by decide +kernel
theorem own_d10_17 : decode jdk_52_method_16_code 17 = .ok (.if_icmp .eq 40, 3) := by decide +kernel
theorem own_d10_57 : decode jdk_52_method_16_code 57 = .ok (.aload_n 3, 1) := by decide +kernel
theorem own_d10_58 : decode jdk_52_method_16_code 58 = .ok (.areturn, 1) := by decide +kernel
theorem own_d11_0 : decode jdk_52_method_21_code 0 = .ok (.iconst 0, 1) := by decide +kernel
theorem own_d11_1 : decode jdk_52_method_21_code 1 = .ok (.istore 5, 2) := by decide +kernel
theorem own_d11_3 : decode jdk_52_method_21_code 3 = .ok (.iload 5, 2) := by decide +kernel
theorem own_d11_5 : decode jdk_52_method_21_code 5 = .ok (.iload 4, 2) := by decide +kernel
theorem own_d11_7 : decode jdk_52_method_21_code 7 = .ok (.if_icmp .ge 37, 3) := by decide +kernel
theorem own_d11_10 : decode jdk_52_method_21_code 10 = .ok (.aload_n 0, 1) := by decide +kernel
theorem own_d11_11 : decode jdk_52_method_21_code 11 = .ok (.iload_n 1, 1) := by decide +kernel
theorem own_d11_12 : decode jdk_52_method_21_code 12 = .ok (.caload, 1) := by decide +kernel
theorem own_d11_13 : decode jdk_52_method_21_code 13 = .ok (.istore 6, 2) := by decide +kernel
theorem own_d11_15 : decode jdk_52_method_21_code 15 = .ok (.iload 6, 2) := by decide +kernel
theorem own_d11_17 : decode jdk_52_method_21_code 17 = .ok (.sipush 255, 3) := by decide +kernel
theorem own_d11_20 : decode jdk_52_method_21_code 20 = .ok (.if_icmp .le 6, 3) := by decide +kernel
theorem own_d11_26 : decode jdk_52_method_21_code 26 = .ok (.aload_n 2, 1) := by decide +kernel
theorem own_d11_27 : decode jdk_52_method_21_code 27 = .ok (.iload_n 3, 1) := by decide +kernel
theorem own_d11_28 : decode jdk_52_method_21_code 28 = .ok (.iload 6, 2) := by decide +kernel
theorem own_d11_30 : decode jdk_52_method_21_code 30 = .ok (.i2b, 1) := by decide +kernel
theorem own_d11_31 : decode jdk_52_method_21_code 31 = .ok (.bastore, 1) := by decide +kernel
theorem own_d11_32 : decode jdk_52_method_21_code 32 = .ok (.iinc 1 1, 3) := by decide +kernel
theorem own_d11_35 : decode jdk_52_method_21_code 35 = .ok (.iinc 3 1, 3) := by decide +kernel
theorem own_d11_38 : decode jdk_52_method_21_code 38 = .ok (.iinc 5 1, 3) := by decide +kernel
theorem own_d11_41 : decode jdk_52_method_21_code 41 = .ok (.goto (-38), 3) := by decide +kernel
theorem own_d11_44 : decode jdk_52_method_21_code 44 = .ok (.iload 4, 2) := by decide +kernel
theorem own_d11_46 : decode jdk_52_method_21_code 46 = .ok (.ireturn, 1) := by decide +kernel
theorem own_d12_0 : decode jdk_52_method_15_code 0 = .ok (.iload_n 1, 1) := by decide +kernel
theorem own_d12_1 : decode jdk_52_method_15_code 1 = .ok (.aload_n 0, 1) := by decide +kernel
theorem own_d12_2 : decode jdk_52_method_15_code 2 = .ok (.arraylength, 1) := by decide +kernel
theorem own_d12_3 : decode jdk_52_method_15_code 3 = .ok (.isub, 1) := by decide +kernel
theorem own_d12_4 : decode jdk_52_method_15_code 4 = .ok (.bipush 31, 2) := by decide +kernel
theorem own_d12_6 : decode jdk_52_method_15_code 6 = .ok (.iushr, 1) := by decide +kernel
theorem own_d12_7 : decode jdk_52_method_15_code 7 = .ok (.i2b, 1) := by decide +kernel
theorem own_d12_8 : decode jdk_52_method_15_code 8 = .ok (.ireturn, 1) := by decide +kernel
theorem own_pn0 : plainFor (⟨"java/lang/StringUTF16", "compress", "([CI[BII)I"⟩ : MethodName) = true := by first | exact plainFor_of_name (by first | (simp [plainName, overriddenIn]; done) | decide +kernel) | decide +kernel
theorem own_pn1 : plainFor (⟨"java/lang/StringUTF16", "compress", "([CII)[B"⟩ : MethodName) = true := by first | exact plainFor_of_name (by first | (simp [plainName, overriddenIn]; done) | decide +kernel) | decide +kernel
theorem own_pn2 : plainFor (⟨"java/lang/StringUTF16", "coderFromArrayLen", "([BI)B"⟩ : MethodName) = true := by first | exact plainFor_of_name (by first | (simp [plainName, overriddenIn]; done) | decide +kernel) | decide +kernel
theorem own_pn3 : plainFor (⟨"java/lang/String", "<init>", "([CIILjava/lang/Void;)V"⟩ : MethodName) = true := by first | exact plainFor_of_name (by first | (simp [plainName, overriddenIn]; done) | decide +kernel) | decide +kernel
theorem own_pn4 : plainFor (⟨"java/lang/String", "<init>", "([C)V"⟩ : MethodName) = true := by first | exact plainFor_of_name (by first | (simp [plainName, overriddenIn]; done) | decide +kernel) | decide +kernel
theorem own_pn5 : plainFor (⟨"java/lang/StringLatin1", "equals", "([B[B)Z"⟩ : MethodName) = true := by first | exact plainFor_of_name (by first | (simp [plainName, overriddenIn]; done) | decide +kernel) | decide +kernel
theorem own_pn6 : plainFor (⟨"java/lang/String", "equals", "(Ljava/lang/Object;)Z"⟩ : MethodName) = true := by first | exact plainFor_of_name (by first | (simp [plainName, overriddenIn]; done) | decide +kernel) | decide +kernel
theorem own_pn7 : plainFor (⟨"com/example/tideline/tideline/TokenTypeOfPinLaw", "make", "([CI)Ljava/lang/String;"⟩ : MethodName) = true := by first | exact plainFor_of_name (by first | (simp [plainName, overriddenIn]; done) | decide +kernel) | decide +kernel
theorem own_pn8 : plainFor (⟨"com/example/tideline/tideline/TokenType", "values", "()[Lcom/example/tideline/tideline/TokenType;"⟩ : MethodName) = true := by first | exact plainFor_of_name (by first | (simp [plainName, overriddenIn]; done) | decide +kernel) | decide +kernel
theorem own_pn9 : plainFor (⟨"com/example/tideline/tideline/TokenType", "of", "(Ljava/lang/String;)Lcom/example/tideline/tideline/TokenType;"⟩ : MethodName) = true := by first | exact plainFor_of_name (by first | (simp [plainName, overriddenIn]; done) | decide +kernel) | decide +kernel
theorem own_pn10 : plainFor (⟨"com/example/tideline/tideline/TokenTypeOfPinLaw", "expected", "(Ljava/lang/String;)Lcom/example/tideline/tideline/TokenType;"⟩ : MethodName) = true := by first | exact plainFor_of_name (by first | (simp [plainName, overriddenIn]; done) | decide +kernel) | decide +kernel
theorem own_pn11 : plainFor (⟨"com/example/tideline/tideline/TokenTypeOfPinLaw", "law", "(IIII)Z"⟩ : MethodName) = true := by first | exact plainFor_of_name (by first | (simp [plainName, overriddenIn]; done) | decide +kernel) | decide +kernel
theorem own_pd0 : parseMethodDescriptor "([CI[BII)I" = some ⟨[(.array .char), .int, (.array .byte), .int, .int], some .int⟩ := by decide +kernel
theorem own_pd1 : parseMethodDescriptor "([CII)[B" = some ⟨[(.array .char), .int, .int], some (.array .byte)⟩ := by decide +kernel
theorem own_pd2 : parseMethodDescriptor "([BI)B" = some ⟨[(.array .byte), .int], some .byte⟩ := by decide +kernel
theorem own_pd3 : parseMethodDescriptor "([CIILjava/lang/Void;)V" = some ⟨[(.array .char), .int, .int, (.object "java/lang/Void")], none⟩ := by decide +kernel
theorem own_pd4 : parseMethodDescriptor "([B[B)Z" = some ⟨[(.array .byte), (.array .byte)], some .boolean⟩ := by decide +kernel
theorem own_pd5 : parseMethodDescriptor "([C)V" = some ⟨[(.array .char)], none⟩ := by decide +kernel
theorem own_pd6 : parseMethodDescriptor "()[Lcom/example/tideline/tideline/TokenType;" = some ⟨[], some (.array (.object "com/example/tideline/tideline/TokenType"))⟩ := by decide +kernel
theorem own_pd7 : parseMethodDescriptor "(Ljava/lang/Object;)Z" = some ⟨[(.object "java/lang/Object")], some .boolean⟩ := by decide +kernel
theorem own_pd8 : parseMethodDescriptor "(Ljava/lang/String;)Lcom/example/tideline/tideline/TokenType;" = some ⟨[(.object "java/lang/String")], some (.object "com/example/tideline/tideline/TokenType")⟩ := by decide +kernel
theorem own_pd9 : parseMethodDescriptor "([CI)Ljava/lang/String;" = some ⟨[(.array .char), .int], some (.object "java/lang/String")⟩ := by decide +kernel
theorem own_ef_own_cmp2 (m : MethodId) (x0 : Addr) (x1 : Int32) (x2 : Addr) (x3 : Int32) (x4 : Int32) : entryFrame m #[(.ref x0), (.int x1), (.ref x2), (.int x3), (.int x4)] 7 = mkF m 0 #[rv x0, iv x1, rv x2, iv x3, iv x4, .unset, .unset] [] := by first | (simp [entryFrame, mkF, argsToLocals, Value.category]; done) | rfl
theorem own_ef_own_cmp1 (m : MethodId) (x0 : Addr) (x1 : Int32) (x2 : Int32) : entryFrame m #[(.ref x0), (.int x1), (.int x2)] 6 = mkF m 0 #[rv x0, iv x1, iv x2, .unset, .unset, .unset] [] := by first | (simp [entryFrame, mkF, argsToLocals, Value.category]; done) | rfl
theorem own_ef_own_cfl (m : MethodId) (x0 : Addr) (x1 : Int32) : entryFrame m #[(.ref x0), (.int x1)] 2 = mkF m 0 #[rv x0, iv x1] [] := by first | (simp [entryFrame, mkF, argsToLocals, Value.category]; done) | rfl
theorem own_ef_own_si4 (m : MethodId) (x0 : Addr) (x1 : Addr) (x2 : Int32) (x3 : Int32) : entryFrame m #[(.ref x0), (.ref x1), (.int x2), (.int x3), .null] 6 = mkF m 0 #[rv x0, rv x1, iv x2, iv x3, .val .null, .unset] [] := by first | (simp [entryFrame, mkF, argsToLocals, Value.category]; done) | rfl
theorem own_ef_own_si (m : MethodId) (x0 : Addr) (x1 : Addr) : entryFrame m #[(.ref x0), (.ref x1)] 2 = mkF m 0 #[rv x0, rv x1] [] := by first | (simp [entryFrame, mkF, argsToLocals, Value.category]; done) | rfl
theorem own_ef_own_eq2 (m : MethodId) (x0 : Addr) (x1 : Addr) : entryFrame m #[(.ref x0), (.ref x1)] 3 = mkF m 0 #[rv x0, rv x1, .unset] [] := by first | (simp [entryFrame, mkF, argsToLocals, Value.category]; done) | rfl
theorem own_ef_own_seq (m : MethodId) (x0 : Addr) (x1 : Addr) : entryFrame m #[(.ref x0), (.ref x1)] 3 = mkF m 0 #[rv x0, rv x1, .unset] [] := by first | (simp [entryFrame, mkF, argsToLocals, Value.category]; done) | rfl
theorem own_ef_own_sie4 (m : MethodId) (x0 : Addr) (x1 : Addr) (x2 : Int32) (x3 : Int32) : entryFrame m #[(.ref x0), (.ref x1), (.int x2), (.int x3), .null] 6 = mkF m 0 #[rv x0, rv x1, iv x2, iv x3, .val .null, .unset] [] := by first | (simp [entryFrame, mkF, argsToLocals, Value.category]; done) | rfl
theorem own_ef_own_sie (m : MethodId) (x0 : Addr) (x1 : Addr) : entryFrame m #[(.ref x0), (.ref x1)] 2 = mkF m 0 #[rv x0, rv x1] [] := by first | (simp [entryFrame, mkF, argsToLocals, Value.category]; done) | rfl
theorem own_ef_own_seqN (m : MethodId) (x0 : Addr) : entryFrame m #[(.ref x0), .null] 3 = mkF m 0 #[rv x0, .val .null, .unset] [] := by first | (simp [entryFrame, mkF, argsToLocals, Value.category]; done) | rfl
theorem own_ef_own_make (m : MethodId) (x0 : Addr) (x1 : Int32) : entryFrame m #[(.ref x0), (.int x1)] 2 = mkF m 0 #[rv x0, iv x1] [] := by first | (simp [entryFrame, mkF, argsToLocals, Value.category]; done) | rfl
theorem own_ef_own_val (m : MethodId)  : entryFrame m #[] 0 = mkF m 0 #[] [] := by first | (simp [entryFrame, mkF, argsToLocals, Value.category]; done) | rfl
theorem own_ef_own_of (m : MethodId) (x0 : Addr) : entryFrame m #[(.ref x0)] 5 = mkF m 0 #[rv x0, .unset, .unset, .unset, .unset] [] := by first | (simp [entryFrame, mkF, argsToLocals, Value.category]; done) | rfl
theorem own_ef_own_ofN (m : MethodId)  : entryFrame m #[.null] 5 = mkF m 0 #[.val .null, .unset, .unset, .unset, .unset] [] := by first | (simp [entryFrame, mkF, argsToLocals, Value.category]; done) | rfl
theorem own_ef_own_exN (m : MethodId)  : entryFrame m #[.null] 1 = mkF m 0 #[.val .null] [] := by first | (simp [entryFrame, mkF, argsToLocals, Value.category]; done) | rfl
theorem own_ef_own_ex (m : MethodId) (x0 : Addr) : entryFrame m #[(.ref x0)] 1 = mkF m 0 #[rv x0] [] := by first | (simp [entryFrame, mkF, argsToLocals, Value.category]; done) | rfl
theorem own_ef_own_law (m : MethodId) (x0 : Int32) (x1 : Int32) (x2 : Int32) (x3 : Int32) : entryFrame m #[(.int x0), (.int x1), (.int x2), (.int x3)] maxLocals = mkF m 0 #[iv x0, iv x1, iv x2, iv x3, .unset, .unset, .unset, .unset, .unset] [] := by first | (simp [entryFrame, mkF, argsToLocals, Value.category, maxLocals]; done) | rfl
theorem own_wS {a0 : Array Value} {Z : State} (hw : ∀ d ∈ tables_1, d.before a0 Z = true) : ∀ a ∈ Bundle.stringAtoms, a.before a0 Z = true := by
  intro a ha
  simp only [Bundle.stringAtoms, List.mem_cons, List.not_mem_nil, or_false] at ha
  rcases ha with rfl | rfl | rfl | rfl | rfl | rfl | rfl
  · exact (own_w hw 7)
  · exact (own_w hw 6)
  · exact (own_w hw 19)
  · exact (own_w hw 20)
  · exact (own_w hw 21)
  · exact (own_w hw 22)
  · exact (own_w hw 23)

set_option maxRecDepth 65536 in
set_option maxHeartbeats 40000000 in
theorem own_cmp2 (l : Launch) (Z : State) (a0 : Array Value) (hw : ∀ d ∈ tables_1, d.before a0 Z = true) (ws : List Jvm.Cond) (a b : Addr) (n : Nat) (nn : Int32) (f g : Nat → Int32) (h0 : Heap) (n0 : Nat) (Z0 : n0 ≤ h0.size) (hn : nn.toInt = (n : Int)) (hn31 : n < 2 ^ 31) (Aa : own_A Z h0 a .char n (fun i => .int (f i))) (Ab : own_A Z h0 b .byte n (fun i => .int (g i))) (hf : ∀ i, i < n → 0 ≤ (f i).toInt ∧ (f i).toInt ≤ 255) (g_b : n0 ≤ b) (ne_ab : a ≠ b) :
    own_Met l Z (⟨"java/lang/StringUTF16", "compress", "([CI[BII)I"⟩ : MethodName) jdk_52_method_21_code 7 (some .int) ws ({ frames := 0, cells := 0, slots := 0, locals := 0 } : Room) #[(.ref a), (.int 0), (.ref b), (.int 0), (.int nn)] h0 (fun v h L => v = some (.int nn) ∧ Fr n0 L ∧ Keep h0 h [b] ∧ own_A Z h b .byte n (fun i => .int ((f i).toInt8.toInt32))) := by
  refine own_body own_pn0 (fun m => mkF m 0 #[rv a, iv 0, rv b, iv 0, iv nn, .unset, .unset] []) (fun m => own_ef_own_cmp2 m a (0 : Int32) b (0 : Int32) nn) ?_
  intro p e s m below meth c T0 hx hby hml hlk hrt hZ hown hnm X0 e0
  have hown : s.vm.findClass "java/lang/StringUTF16" = some m.cls := hown
  have N0 := Fr.nil n0
  have J : ∀ (r : Nat) (k : Nat) (j : Int32) (s6 : Slot) (g : Nat → Int32) (T1 : State) (lc1 : List Loc) (hp1 : Heap) (s : State) (hZ : Z.Warmed39 s.vm) (hown : s.vm.findClass "java/lang/StringUTF16" = some m.cls) (X1 : Stand p l e ({ frames := 0, cells := 0, slots := 0, locals := 0 } : Room) s m #[(.ref a), (.int 0), (.ref b), (.int 0), (.int nn)] below meth c T1 lc1 0 0) (e1 : T1.heap = hp1) (N1 : Fr n0 lc1) (zs1 : n0 ≤ hp1.size) (zz1 : h0.size ≤ hp1.size) (K1 : Keep h0 hp1 [b]) (f1_0 : own_A Z hp1 a .char n (fun i => .int (f i))) (f1_1 : own_A Z hp1 b .byte n (fun i => .int (g i))) (hkr : k + r = n) (hj : j.toInt = (k : Int)) (hs6 : One s6) (hg : ∀ i, i < k → g i = (f i).toInt8.toInt32), own_Ends p e below s ((fun v h L _ => v = some (.int nn) ∧ Fr n0 L ∧ Keep h0 h [b] ∧ own_A Z h b .byte n (fun i => .int ((f i).toInt8.toInt32))), []) ({ frames := 0, cells := 0, slots := 0, locals := 0 } : Room).cells ({ frames := 0, cells := 0, slots := 0, locals := 0 } : Room).slots (own_F T1 m 3 #[rv a, iv j, rv b, iv j, iv nn, iv j, s6] []) := by
   intro r
   induction r with
   | zero =>
    intro k j s6 g T1 lc1 hp1 s hZ hown X1 e1 N1 zs1 zz1 K1 f1_0 f1_1 hkr hj hs6 hg
    refine own_g (own_F T1 m 5 #[rv a, iv j, rv b, iv j, iv nn, iv j, s6] [(.int j)]) (fun _ z_ => XS.iload X1.here hx rfl (hb hby own_d11_3) rfl z_) ?_
    refine own_g (own_F T1 m 7 #[rv a, iv j, rv b, iv j, iv nn, iv j, s6] [(.int nn), (.int j)]) (fun _ z_ => XS.iload X1.here hx rfl (hb hby own_d11_5) rfl z_) ?_
    refine own_g (own_F T1 m 44 #[rv a, iv j, rv b, iv j, iv nn, iv j, s6] []) (fun _ z_ => XS.icmpYes X1.here hx rfl (pc0 := 7) (pc' := 44) rfl (hb hby own_d11_7) rfl (flt (own_jge hj hn (by omega))).2.1 (by decide) (by decide) z_) ?_
    refine own_g (own_F T1 m 46 #[rv a, iv j, rv b, iv j, iv nn, iv j, s6] [(.int nn)]) (fun _ z_ => XS.iload X1.here hx rfl (hb hby own_d11_44) rfl z_) ?_
    refine own_ret (t := .int) X1 hx hlk hrt rfl (Or.inl ⟨rfl, by simp, _, rfl⟩) (hb hby own_d11_46) (by decide) (by decide) ?_
    show _ ∧ Fr n0 _ ∧ Keep h0 T1.heap [b] ∧ own_A Z T1.heap b .byte n _
    rw [e1]
    exact ⟨rfl, N1, K1, (f1_1).congr fun i hi => congrArg Value.int (hg i (by omega))⟩
   | succ r ih =>
    intro k j s6 g T1 lc1 hp1 s hZ hown X1 e1 N1 zs1 zz1 K1 f1_0 f1_1 hkr hj hs6 hg
    have hkn : k < n := by omega
    refine own_g (own_F T1 m 5 #[rv a, iv j, rv b, iv j, iv nn, iv j, s6] [(.int j)]) (fun _ z_ => XS.iload X1.here hx rfl (hb hby own_d11_3) rfl z_) ?_
    refine own_g (own_F T1 m 7 #[rv a, iv j, rv b, iv j, iv nn, iv j, s6] [(.int nn), (.int j)]) (fun _ z_ => XS.iload X1.here hx rfl (hb hby own_d11_5) rfl z_) ?_
    refine own_g (own_F T1 m 10 #[rv a, iv j, rv b, iv j, iv nn, iv j, s6] []) (fun _ z_ => XS.icmpNo X1.here hx rfl (hb hby own_d11_7) rfl (tlt (own_jlt hj hn hkn)).2.1 z_) ?_
    refine own_g (own_F T1 m 11 #[rv a, iv j, rv b, iv j, iv nn, iv j, s6] [(.ref a)]) (fun _ z_ => XS.aloadN X1.here hx rfl (hb hby own_d11_10) rfl rfl z_) ?_
    refine own_g (own_F T1 m 12 #[rv a, iv j, rv b, iv j, iv nn, iv j, s6] [(.int j), (.ref a)]) (fun _ z_ => XS.iloadN X1.here hx rfl (hb hby own_d11_11) rfl z_) ?_
    refine own_cald X1 hx hZ e1 f1_0 k hj hkn (hb hby own_d11_12) ?_
    show own_Ends p e below s _ _ _ (own_F T1 m 13 #[rv a, iv j, rv b, iv j, iv nn, iv j, s6] [(.int (f k))])
    refine own_g (own_F T1 m 15 #[rv a, iv j, rv b, iv j, iv nn, iv j, iv (f k)] []) (fun _ z_ => XS.istore X1.here hx rfl (hb hby own_d11_13) rfl (l' := #[rv a, iv j, rv b, iv j, iv nn, iv j, iv (f k)]) (own_st1 rfl hs6 rfl rfl) z_) ?_
    refine own_g (own_F T1 m 17 #[rv a, iv j, rv b, iv j, iv nn, iv j, iv (f k)] [(.int (f k))]) (fun _ z_ => XS.iload X1.here hx rfl (hb hby own_d11_15) rfl z_) ?_
    refine own_g (own_F T1 m 20 #[rv a, iv j, rv b, iv j, iv nn, iv j, iv (f k)] [(.int 255), (.int (f k))]) (fun _ z_ => XS.sipush X1.here hx rfl (hb hby own_d11_17) z_) ?_
    refine own_g (own_F T1 m 26 #[rv a, iv j, rv b, iv j, iv nn, iv j, iv (f k)] []) (fun _ z_ => XS.icmpYes X1.here hx rfl (pc0 := 20) (pc' := 26) rfl (hb hby own_d11_20) rfl (flt (own_c255 (hf k hkn).2)).2.2.2 (by decide) (by decide) z_) ?_
    refine own_g (own_F T1 m 27 #[rv a, iv j, rv b, iv j, iv nn, iv j, iv (f k)] [(.ref b)]) (fun _ z_ => XS.aloadN X1.here hx rfl (hb hby own_d11_26) rfl rfl z_) ?_
    refine own_g (own_F T1 m 28 #[rv a, iv j, rv b, iv j, iv nn, iv j, iv (f k)] [(.int j), (.ref b)]) (fun _ z_ => XS.iloadN X1.here hx rfl (hb hby own_d11_27) rfl z_) ?_
    refine own_g (own_F T1 m 30 #[rv a, iv j, rv b, iv j, iv nn, iv j, iv (f k)] [(.int (f k)), (.int j), (.ref b)]) (fun _ z_ => XS.iload X1.here hx rfl (hb hby own_d11_28) rfl z_) ?_
    refine own_g (own_F T1 m 31 #[rv a, iv j, rv b, iv j, iv nn, iv j, iv (f k)] [(.int ((f k).toInt8.toInt32)), (.int j), (.ref b)]) (fun _ z_ => XS.i2b X1.here hx rfl (hb hby own_d11_30) rfl z_) ?_
    refine own_bast X1 hx hZ e1 f1_1 k hj hkn ((f k).toInt8.toInt32) (own_narB _) (hb hby own_d11_31) ?_
    intro T2 h2 X2 e2 W2 A2
    have N2 := Fr.snoc X2 N1 g_b
    obtain ⟨g2, hg2⟩ : ∃ gq_ : Nat → Int32, gq_ = fun q_ => if q_ = k then ((f k).toInt8.toInt32) else g q_ := ⟨_, rfl⟩
    have A2 : own_A Z h2 b .byte n (fun q_ => .int (g2 q_)) := by rw [hg2]; exact A2
    show own_Ends p e below s _ _ _ (own_F T2 m 32 #[rv a, iv j, rv b, iv j, iv nn, iv j, iv (f k)] [])
    refine own_g (own_F T2 m 35 #[rv a, iv (j + (1 : Int32)), rv b, iv j, iv nn, iv j, iv (f k)] []) (fun _ z_ => XS.iinc X2.here hx rfl (hb hby own_d11_32) rfl (l' := #[rv a, iv (j + (1 : Int32)), rv b, iv j, iv nn, iv j, iv (f k)]) rfl z_) ?_
    refine own_g (own_F T2 m 38 #[rv a, iv (j + (1 : Int32)), rv b, iv (j + (1 : Int32)), iv nn, iv j, iv (f k)] []) (fun _ z_ => XS.iinc X2.here hx rfl (hb hby own_d11_35) rfl (l' := #[rv a, iv (j + (1 : Int32)), rv b, iv (j + (1 : Int32)), iv nn, iv j, iv (f k)]) rfl z_) ?_
    refine own_g (own_F T2 m 41 #[rv a, iv (j + (1 : Int32)), rv b, iv (j + (1 : Int32)), iv nn, iv (j + (1 : Int32)), iv (f k)] []) (fun _ z_ => XS.iinc X2.here hx rfl (hb hby own_d11_38) rfl (l' := #[rv a, iv (j + (1 : Int32)), rv b, iv (j + (1 : Int32)), iv nn, iv (j + (1 : Int32)), iv (f k)]) rfl z_) ?_
    refine own_g (own_F T2 m 3 #[rv a, iv (j + (1 : Int32)), rv b, iv (j + (1 : Int32)), iv nn, iv (j + (1 : Int32)), iv (f k)] []) (fun _ z_ => XS.goto X2.here hx rfl (pc0 := 41) (pc' := 3) rfl (hb hby own_d11_41) (by decide) (by decide) z_) ?_
    exact ih (k + 1) (j + (1 : Int32)) _ g2 T2 _ _ s hZ hown X2 e2 N2 (Nat.le_trans zs1 (Nat.le_of_eq W2.size.symm)) (Nat.le_trans zz1 (Nat.le_of_eq W2.size.symm)) (K1.wr W2 (Or.inl (List.mem_of_getElem? (i := 0) rfl))) (f1_0.other W2 ne_ab) A2 (by omega) (own_succ hj hkn hn31) (One.val rfl) (own_gstep hg hg2 rfl)
  refine own_g (own_F T0 m 1 #[rv a, iv 0, rv b, iv 0, iv nn, .unset, .unset] [(.int 0)]) (fun _ z_ => XS.iconst X0.here hx rfl (hb hby own_d11_0) z_) ?_
  refine own_g (own_F T0 m 3 #[rv a, iv 0, rv b, iv 0, iv nn, iv 0, .unset] []) (fun _ z_ => XS.istore X0.here hx rfl (hb hby own_d11_1) rfl (l' := #[rv a, iv 0, rv b, iv 0, iv nn, iv 0, .unset]) rfl z_) ?_
  exact J n 0 (0 : Int32) _ g T0 _ _ s hZ hown X0 e0 N0 Z0 (Nat.le_refl h0.size) (Keep.refl _ _) Aa Ab (by omega) rfl (One.u) (fun i hi => absurd hi (Nat.not_lt_zero i))
set_option maxRecDepth 65536 in
set_option maxHeartbeats 40000000 in
theorem own_cmp1 (l : Launch) (Z : State) (a0 : Array Value) (hw : ∀ d ∈ tables_1, d.before a0 Z = true) (ws : List Jvm.Cond) (a : Addr) (n : Nat) (nn : Int32) (f : Nat → Int32) (h0 : Heap) (n0 : Nat) (Z0 : n0 ≤ h0.size) (hn : nn.toInt = (n : Int)) (hn31 : n < 2 ^ 31) (hcap : n ≤ 7) (Aa : own_A Z h0 a .char n (fun i => .int (f i))) (hf : ∀ i, i < n → 0 ≤ (f i).toInt ∧ (f i).toInt ≤ 255) :
    own_Met l Z (⟨"java/lang/StringUTF16", "compress", "([CII)[B"⟩ : MethodName) jdk_52_method_16_code 6 (some (.array .byte)) ws ({ frames := 1, cells := 1, slots := 7, locals := 18 } : Room) #[(.ref a), (.int 0), (.int nn)] h0 (fun v h L => ∃ b : Addr, v = some (.ref b) ∧ Fr n0 L ∧ Keep h0 h [] ∧ n0 ≤ b ∧ h0.size ≤ b ∧ own_A Z h b .byte n (fun i => .int ((f i).toInt8.toInt32))) := by
  refine own_body own_pn1 (fun m => mkF m 0 #[rv a, iv 0, iv nn, .unset, .unset, .unset] []) (fun m => own_ef_own_cmp1 m a (0 : Int32) nn) ?_
  intro p e s m below meth c T0 hx hby hml hlk hrt hZ hown hnm X0 e0
  have hown : s.vm.findClass "java/lang/StringUTF16" = some m.cls := hown
  have N0 := Fr.nil n0
  refine own_g (own_F T0 m 1 #[rv a, iv 0, iv nn, .unset, .unset, .unset] [(.int nn)]) (fun _ z_ => XS.iloadN X0.here hx rfl (hb hby own_d10_0) rfl z_) ?_
  refine own_newA X0 hx hZ .byte rfl (own_w hw 19) e0 (hb hby own_d10_1) n hn 7 hcap (by decide) (by decide) (by decide) ?_
  intro T1 h1 b1 X1 e1 E1 g1 A1
  have sz_b1 : h0.size ≤ b1 := Nat.le_trans (Nat.le_refl h0.size) (Nat.le_of_eq g1.symm)
  have ge_b1 : n0 ≤ b1 := Nat.le_trans Z0 (Nat.le_of_eq g1.symm)
  have ne_a_b1 : a ≠ b1 := Nat.ne_of_lt (Nat.lt_of_lt_of_le Aa.lt (Nat.le_of_eq g1.symm))
  have A1 : own_A Z h1 b1 .byte n (fun q_ => .int ((fun _ => (0 : Int32)) q_)) := A1
  show own_Ends p e below s _ _ _ (own_F T1 m 3 #[rv a, iv 0, iv nn, .unset, .unset, .unset] [(.ref b1)])
  refine own_g (own_F T1 m 4 #[rv a, iv 0, iv nn, rv b1, .unset, .unset] []) (fun _ z_ => XS.astoreN X1.here hx rfl (hb hby own_d10_3) rfl rfl (l' := #[rv a, iv 0, iv nn, rv b1, .unset, .unset]) rfl z_) ?_
  refine own_g (own_F T1 m 5 #[rv a, iv 0, iv nn, rv b1, .unset, .unset] [(.ref a)]) (fun _ z_ => XS.aloadN X1.here hx rfl (hb hby own_d10_4) rfl rfl z_) ?_
  refine own_g (own_F T1 m 6 #[rv a, iv 0, iv nn, rv b1, .unset, .unset] [(.int 0), (.ref a)]) (fun _ z_ => XS.iloadN X1.here hx rfl (hb hby own_d10_5) rfl z_) ?_
  refine own_g (own_F T1 m 7 #[rv a, iv 0, iv nn, rv b1, .unset, .unset] [(.ref b1), (.int 0), (.ref a)]) (fun _ z_ => XS.aloadN X1.here hx rfl (hb hby own_d10_6) rfl rfl z_) ?_
  refine own_g (own_F T1 m 8 #[rv a, iv 0, iv nn, rv b1, .unset, .unset] [(.int 0), (.ref b1), (.int 0), (.ref a)]) (fun _ z_ => XS.iconst X1.here hx rfl (hb hby own_d10_7) z_) ?_
  refine own_g (own_F T1 m 9 #[rv a, iv 0, iv nn, rv b1, .unset, .unset] [(.int nn), (.int 0), (.ref b1), (.int 0), (.ref a)]) (fun _ z_ => XS.iloadN X1.here hx rfl (hb hby own_d10_8) rfl z_) ?_
  refine own_callS (y := (⟨"java/lang/StringUTF16", "compress", "([CI[BII)I"⟩ : MethodName)) X1 hx hZ hown (own_w hw 70) (own_w hw 71) (own_w hw 68) (own_w hw 72) (by decide) e1 (hM := own_cmp2 l Z a0 hw [] a b1 n nn f (fun _ => 0) h1 n0 (Nat.le_trans Z0 E1.1) hn hn31 (Aa.ext E1) A1 hf ge_b1 ne_a_b1) (W := 0) (pc := 9) (Ls := #[rv a, iv 0, iv nn, rv b1, .unset, .unset]) (argsL := [(.ref a), (.int 0), (.ref b1), (.int 0), (.int nn)]) (rest := []) (st0 := [(.int nn), (.int 0), (.ref b1), (.int 0), (.ref a)]) (by rw [hml]; rfl) (lenOf own_pd0 rfl) rfl (Nat.le_of_eq rfl) (hb hby own_d10_9) (by decide) (by decide) (by decide) (by decide) ?_
  intro v2 T2 L2 s X2 hZ hown hI2 hvm2 hhp2 hWw2 hQ2
  obtain ⟨rfl, Nq2, K2, Ab2⟩ := hQ2
  have N2 := Fr.app N0 Nq2
  show own_Ends p e below s _ _ _ (own_F T2 m 12 #[rv a, iv 0, iv nn, rv b1, .unset, .unset] [(.int nn)])
  refine own_g (own_F T2 m 14 #[rv a, iv 0, iv nn, rv b1, iv nn, .unset] []) (fun _ z_ => XS.istore X2.here hx rfl (hb hby own_d10_12) rfl (l' := #[rv a, iv 0, iv nn, rv b1, iv nn, .unset]) rfl z_) ?_
  refine own_g (own_F T2 m 16 #[rv a, iv 0, iv nn, rv b1, iv nn, .unset] [(.int nn)]) (fun _ z_ => XS.iload X2.here hx rfl (hb hby own_d10_14) rfl z_) ?_
  refine own_g (own_F T2 m 17 #[rv a, iv 0, iv nn, rv b1, iv nn, .unset] [(.int nn), (.int nn)]) (fun _ z_ => XS.iloadN X2.here hx rfl (hb hby own_d10_16) rfl z_) ?_
  refine own_g (own_F T2 m 57 #[rv a, iv 0, iv nn, rv b1, iv nn, .unset] []) (fun _ z_ => XS.icmpYes X2.here hx rfl (pc0 := 17) (pc' := 57) rfl (hb hby own_d10_17) rfl (teq (rfl : nn = nn)).1 (by decide) (by decide) z_) ?_
  refine own_g (own_F T2 m 58 #[rv a, iv 0, iv nn, rv b1, iv nn, .unset] [(.ref b1)]) (fun _ z_ => XS.aloadN X2.here hx rfl (hb hby own_d10_57) rfl rfl z_) ?_
  refine own_ret (t := (.array .byte)) X2 hx hlk hrt rfl (Or.inr (Or.inr (Or.inr (Or.inr ⟨rfl, rfl, rfl⟩)))) (hb hby own_d10_58) (by decide) (by decide) ?_
  exact ⟨b1, rfl, N2, (((Keep.refl _ _).ext E1).trans K2 (allS (Or.inr sz_b1) all0)), ge_b1, sz_b1, Ab2⟩
set_option maxRecDepth 65536 in
set_option maxHeartbeats 40000000 in
theorem own_cfl (l : Launch) (Z : State) (a0 : Array Value) (hw : ∀ d ∈ tables_1, d.before a0 Z = true) (ws : List Jvm.Cond) (a : Addr) (n : Nat) (nn : Int32) (g : Nat → Int32) (h0 : Heap) (n0 : Nat) (Z0 : n0 ≤ h0.size) (hn : nn.toInt = (n : Int)) (Aa : own_A Z h0 a .byte n (fun i => .int (g i))) :
    own_Met l Z (⟨"java/lang/StringUTF16", "coderFromArrayLen", "([BI)B"⟩ : MethodName) jdk_52_method_15_code 2 (some .byte) ws ({ frames := 0, cells := 0, slots := 0, locals := 0 } : Room) #[(.ref a), (.int nn)] h0 (fun v h L => v = some (.int (0 : Int32)) ∧ Fr n0 L ∧ h = h0) := by
  refine own_body own_pn2 (fun m => mkF m 0 #[rv a, iv nn] []) (fun m => own_ef_own_cfl m a nn) ?_
  intro p e s m below meth c T0 hx hby hml hlk hrt hZ hown hnm X0 e0
  have hown : s.vm.findClass "java/lang/StringUTF16" = some m.cls := hown
  have N0 := Fr.nil n0
  refine own_g (own_F T0 m 1 #[rv a, iv nn] [(.int nn)]) (fun _ z_ => XS.iloadN X0.here hx rfl (hb hby own_d12_0) rfl z_) ?_
  refine own_g (own_F T0 m 2 #[rv a, iv nn] [(.ref a), (.int nn)]) (fun _ z_ => XS.aloadN X0.here hx rfl (hb hby own_d12_1) rfl rfl z_) ?_
  refine own_alen X0 hx hZ e0 Aa (hb hby own_d12_2) ?_
  rw [own_n32 hn]
  show own_Ends p e below s _ _ _ (own_F T0 m 3 #[rv a, iv nn] [(.int nn), (.int nn)])
  refine own_g (own_F T0 m 4 #[rv a, iv nn] [(.int (nn - nn))]) (fun _ z_ => XS.isub X0.here hx rfl (hb hby own_d12_3) rfl z_) ?_
  refine own_g (own_F T0 m 6 #[rv a, iv nn] [(.int 31), (.int (nn - nn))]) (fun _ z_ => XS.bipush X0.here hx rfl (hb hby own_d12_4) z_) ?_
  refine own_g (own_F T0 m 7 #[rv a, iv nn] [(.int (((nn - nn).toUInt32 >>> ((31 : Int32) &&& 31).toUInt32).toInt32))]) (fun _ z_ => XS.iushr X0.here hx rfl (hb hby own_d12_6) rfl z_) ?_
  refine own_g (own_F T0 m 8 #[rv a, iv nn] [(.int ((((nn - nn).toUInt32 >>> ((31 : Int32) &&& 31).toUInt32).toInt32).toInt8.toInt32))]) (fun _ z_ => XS.i2b X0.here hx rfl (hb hby own_d12_7) rfl z_) ?_
  refine own_ret (t := .byte) X0 hx hlk hrt (own_i2b _) (Or.inl ⟨rfl, by simp, _, rfl⟩) (hb hby own_d12_8) (by decide) (by decide) ?_
  exact ⟨congrArg (fun z => some (Value.int z)) (own_sub31 nn), N0, e0⟩
set_option maxRecDepth 65536 in
set_option maxHeartbeats 40000000 in
theorem own_si4 (l : Launch) (Z : State) (a0 : Array Value) (hw : ∀ d ∈ tables_1, d.before a0 Z = true) (ws : List Jvm.Cond) (x a : Addr) (n : Nat) (nn zc : Int32) (f : Nat → Int32) (h0 : Heap) (n0 : Nat) (Z0 : n0 ≤ h0.size) (hn : nn.toInt = (n : Int)) (hn31 : n < 2 ^ 31) (hcap : n ≤ 7) (hn0 : ¬ nn = (0 : Int32)) (hzc : ¬ zc = (0 : Int32)) (Aa : own_A Z h0 a .char n (fun i => .int (f i))) (hf : ∀ i, i < n → 0 ≤ (f i).toInt ∧ (f i).toInt ≤ 255) (E_x : Exa Z h0 x "java/lang/String") (F_v : Fld Z h0 x "java/lang/String" "value" "[B" .null) (F_c : Fld Z h0 x "java/lang/String" "coder" "B" (.int (0 : Int32))) (S_cs : Sta Z h0 "java/lang/String" "COMPACT_STRINGS" "Z" (.int zc)) (g_x : n0 ≤ x) (ne_xa : x ≠ a) :
    own_Met l Z (⟨"java/lang/String", "<init>", "([CIILjava/lang/Void;)V"⟩ : MethodName) jdk_42_method_149_code 6 none ws ({ frames := 2, cells := 1, slots := 7, locals := 35 } : Room) #[(.ref x), (.ref a), (.int 0), (.int nn), .null] h0 (fun v h L => v = none ∧ Fr n0 L ∧ Keep h0 h [x] ∧ ∃ t : Addr, own_Lat Z h x t n f ∧ n0 ≤ t) := by
  refine own_body own_pn3 (fun m => mkF m 0 #[rv x, rv a, iv 0, iv nn, .val .null, .unset] []) (fun m => own_ef_own_si4 m x a (0 : Int32) nn) ?_
  intro p e s m below meth c T0 hx hby hml hlk hrt hZ hown hnm X0 e0
  have hown : s.vm.findClass "java/lang/String" = some m.cls := hown
  have N0 := Fr.nil n0
  refine own_g (own_F T0 m 1 #[rv x, rv a, iv 0, iv nn, .val .null, .unset] [(.ref x)]) (fun _ z_ => XS.aloadN X0.here hx rfl (hb hby own_d3_0) rfl rfl z_) ?_
  obtain ⟨T1, X1, e1, st1⟩ := initO X0 hx hZ hown (own_w hw 15) (own_w hw 16) (own_w hw 17) e0 (g := (mkF m 1 #[rv x, rv a, iv 0, iv nn, .val .null, .unset] [(.ref x)])) rfl (by rw [hml]; rfl) rfl (hb hby own_d3_1) (by decide) (W := 0) (by show 2 * 0 + _ ≤ _; exact Nat.le_of_eq rfl) (by decide)
  refine own_pre (S' := (own_F T1 m 4 #[rv x, rv a, iv 0, iv nn, .val .null, .unset] [])) st1 ?_
  refine own_g (own_F T1 m 5 #[rv x, rv a, iv 0, iv nn, .val .null, .unset] [(.int nn)]) (fun _ z_ => XS.iloadN X1.here hx rfl (hb hby own_d3_4) rfl z_) ?_
  refine own_g (own_F T1 m 27 #[rv x, rv a, iv 0, iv nn, .val .null, .unset] []) (fun _ z_ => XS.ifYes X1.here hx rfl (pc0 := 5) (pc' := 27) rfl (hb hby own_d3_5) rfl ((if0 _ _).trans (feq hn0).2) (by decide) (by decide) z_) ?_
  obtain ⟨T2, X2, e2, st2⟩ := getS2 X1 hx hZ hown (host := "") (Or.inl (own_w hw 55)) Via.refl e1 S_cs (g := (mkF m 27 #[rv x, rv a, iv 0, iv nn, .val .null, .unset] [])) rfl (hb hby own_d3_27)
  refine own_pre (S' := (own_F T2 m 30 #[rv x, rv a, iv 0, iv nn, .val .null, .unset] [(.int zc)])) st2 ?_
  refine own_g (own_F T2 m 33 #[rv x, rv a, iv 0, iv nn, .val .null, .unset] []) (fun _ z_ => XS.ifNo X2.here hx rfl (hb hby own_d3_30) rfl ((if0 _ _).trans (feq hzc).1) z_) ?_
  refine own_g (own_F T2 m 34 #[rv x, rv a, iv 0, iv nn, .val .null, .unset] [(.ref a)]) (fun _ z_ => XS.aloadN X2.here hx rfl (hb hby own_d3_33) rfl rfl z_) ?_
  refine own_g (own_F T2 m 35 #[rv x, rv a, iv 0, iv nn, .val .null, .unset] [(.int 0), (.ref a)]) (fun _ z_ => XS.iloadN X2.here hx rfl (hb hby own_d3_34) rfl z_) ?_
  refine own_g (own_F T2 m 36 #[rv x, rv a, iv 0, iv nn, .val .null, .unset] [(.int nn), (.int 0), (.ref a)]) (fun _ z_ => XS.iloadN X2.here hx rfl (hb hby own_d3_35) rfl z_) ?_
  refine own_callS (y := (⟨"java/lang/StringUTF16", "compress", "([CII)[B"⟩ : MethodName)) X2 hx hZ hown (own_w hw 66) (own_w hw 67) (own_w hw 68) (own_w hw 69) (by decide) e2 (hM := own_cmp1 l Z a0 hw [] a n nn f h0 n0 Z0 hn hn31 hcap Aa hf) (W := 0) (pc := 36) (Ls := #[rv x, rv a, iv 0, iv nn, .val .null, .unset]) (argsL := [(.ref a), (.int 0), (.int nn)]) (rest := []) (st0 := [(.int nn), (.int 0), (.ref a)]) (by rw [hml]; rfl) (lenOf own_pd1 rfl) rfl (Nat.le_of_eq rfl) (hb hby own_d3_36) (by decide) (by decide) (by decide) (by decide) ?_
  intro v3 T3 L3 s X3 hZ hown hI3 hvm3 hhp3 hWw3 hQ3
  obtain ⟨t3, rfl, Nq3, K3, gt3, gz3, At3⟩ := hQ3
  have N3 := Fr.app N0 Nq3
  show own_Ends p e below s _ _ _ (own_F T3 m 39 #[rv x, rv a, iv 0, iv nn, .val .null, .unset] [(.ref t3)])
  have ne_xt3 : x ≠ t3 := Nat.ne_of_lt (Nat.lt_of_lt_of_le E_x.lt gz3)
  refine own_g (own_F T3 m 41 #[rv x, rv a, iv 0, iv nn, .val .null, rv t3] []) (fun _ z_ => XS.astore X3.here hx rfl (hb hby own_d3_39) rfl rfl (l' := #[rv x, rv a, iv 0, iv nn, .val .null, rv t3]) rfl z_) ?_
  refine own_g (own_F T3 m 42 #[rv x, rv a, iv 0, iv nn, .val .null, rv t3] [(.ref x)]) (fun _ z_ => XS.aloadN X3.here hx rfl (hb hby own_d3_41) rfl rfl z_) ?_
  refine own_g (own_F T3 m 44 #[rv x, rv a, iv 0, iv nn, .val .null, rv t3] [(.ref t3), (.ref x)]) (fun _ z_ => XS.aload X3.here hx rfl (hb hby own_d3_42) rfl rfl z_) ?_
  refine own_g (own_F T3 m 45 #[rv x, rv a, iv 0, iv nn, .val .null, rv t3] [(.int nn), (.ref t3), (.ref x)]) (fun _ z_ => XS.iloadN X3.here hx rfl (hb hby own_d3_44) rfl z_) ?_
  refine own_callS (y := (⟨"java/lang/StringUTF16", "coderFromArrayLen", "([BI)B"⟩ : MethodName)) X3 hx hZ hown (own_w hw 73) (own_w hw 74) (own_w hw 68) (own_w hw 75) (by decide) (rfl : T3.heap = T3.heap) (hM := own_cfl l Z a0 hw [] t3 n nn _ T3.heap n0 (Nat.le_trans Z0 K3.1) hn At3) (W := 1) (pc := 45) (Ls := #[rv x, rv a, iv 0, iv nn, .val .null, rv t3]) (argsL := [(.ref t3), (.int nn)]) (rest := [(.ref x)]) (st0 := [(.int nn), (.ref t3), (.ref x)]) (by rw [hml]; rfl) (lenOf own_pd2 rfl) rfl (Nat.le_of_eq rfl) (hb hby own_d3_45) (by decide) (by decide) (by decide) (by decide) ?_
  intro v4 T4 L4 s X4 hZ hown hI4 hvm4 hhp4 hWw4 hQ4
  obtain ⟨rfl, Nq4, hh4⟩ := hQ4
  have N4 := Fr.app N3 Nq4
  show own_Ends p e below s _ _ _ (own_F T4 m 48 #[rv x, rv a, iv 0, iv nn, .val .null, rv t3] [(.int 0), (.ref x)])
  obtain ⟨T5, h5, X5, e5, W5, st5⟩ := putF X4 hx hZ hown (host := "") (Or.inl (own_w hw 25)) Via.refl hh4 (F_c.keep K3 nin0) (E_x.keep K3) (Or.inr ⟨(own_w hw 21), rfl, hnm⟩) (own_w hw 6) (ty := .byte) (by decide) rfl rfl (g := (mkF m 48 #[rv x, rv a, iv 0, iv nn, .val .null, rv t3] [(.int 0), (.ref x)])) rfl rfl (hb hby own_d3_48)
  have N5 := Fr.snoc X5 N4 g_x
  have Fw5 := (F_c.keep K3 nin0).same W5
  refine own_pre (S' := (own_F T5 m 51 #[rv x, rv a, iv 0, iv nn, .val .null, rv t3] [])) st5 ?_
  refine own_g (own_F T5 m 52 #[rv x, rv a, iv 0, iv nn, .val .null, rv t3] [(.ref x)]) (fun _ z_ => XS.aloadN X5.here hx rfl (hb hby own_d3_51) rfl rfl z_) ?_
  refine own_g (own_F T5 m 54 #[rv x, rv a, iv 0, iv nn, .val .null, rv t3] [(.ref t3), (.ref x)]) (fun _ z_ => XS.aload X5.here hx rfl (hb hby own_d3_52) rfl rfl z_) ?_
  obtain ⟨T6, h6, X6, e6, W6, st6⟩ := putF X5 hx hZ hown (host := "") (Or.inl (own_w hw 24)) Via.refl e5 ((F_v.keep K3 nin0).other W5 (Or.inr (slot_ne (C := "java/lang/String") (Or.inr (own_w hw 20)) (Or.inr (own_w hw 21)) (by decide) (t := (.array .byte)) (t' := .byte) (by decide) (by decide)))) ((E_x.keep K3).wr W5) (Or.inr ⟨(own_w hw 20), rfl, hnm⟩) (own_w hw 6) (ty := (.array .byte)) (by decide) rfl rfl (g := (mkF m 54 #[rv x, rv a, iv 0, iv nn, .val .null, rv t3] [(.ref t3), (.ref x)])) rfl rfl (hb hby own_d3_54)
  have N6 := Fr.snoc X6 N5 g_x
  have Fw6 := ((F_v.keep K3 nin0).other W5 (Or.inr (slot_ne (C := "java/lang/String") (Or.inr (own_w hw 20)) (Or.inr (own_w hw 21)) (by decide) (t := (.array .byte)) (t' := .byte) (by decide) (by decide)))).same W6
  refine own_pre (S' := (own_F T6 m 57 #[rv x, rv a, iv 0, iv nn, .val .null, rv t3] [])) st6 ?_
  refine own_retV X6 hx hlk hrt (hb hby own_d3_57) (by decide) (by decide) ?_
  show _ ∧ Fr n0 _ ∧ Keep h0 T6.heap [x] ∧ _
  rw [e6]
  exact ⟨rfl, N6, ((((Keep.refl _ _).trans K3 all0).wr W5 (Or.inl (List.mem_of_getElem? (i := 0) rfl))).wr W6 (Or.inl (List.mem_of_getElem? (i := 0) rfl))), t3, ⟨(((E_x.keep K3).wr W5).wr W6), Fw6, (Fw5.other W6 (Or.inr (slot_ne (C := "java/lang/String") (Or.inr (own_w hw 21)) (Or.inr (own_w hw 20)) (by decide) (t := .byte) (t' := (.array .byte)) (by decide) (by decide)))), ((At3.other W5 (Ne.symm ne_xt3)).other W6 (Ne.symm ne_xt3)), hf⟩, gt3⟩
set_option maxRecDepth 65536 in
set_option maxHeartbeats 40000000 in
theorem own_si (l : Launch) (Z : State) (a0 : Array Value) (hw : ∀ d ∈ tables_1, d.before a0 Z = true) (ws : List Jvm.Cond) (x a : Addr) (n : Nat) (nn zc : Int32) (f : Nat → Int32) (h0 : Heap) (n0 : Nat) (Z0 : n0 ≤ h0.size) (hn : nn.toInt = (n : Int)) (hn31 : n < 2 ^ 31) (hcap : n ≤ 7) (hn0 : ¬ nn = (0 : Int32)) (hzc : ¬ zc = (0 : Int32)) (Aa : own_A Z h0 a .char n (fun i => .int (f i))) (hf : ∀ i, i < n → 0 ≤ (f i).toInt ∧ (f i).toInt ≤ 255) (E_x : Exa Z h0 x "java/lang/String") (F_v : Fld Z h0 x "java/lang/String" "value" "[B" .null) (F_c : Fld Z h0 x "java/lang/String" "coder" "B" (.int (0 : Int32))) (S_cs : Sta Z h0 "java/lang/String" "COMPACT_STRINGS" "Z" (.int zc)) (g_x : n0 ≤ x) (ne_xa : x ≠ a) :
    own_Met l Z (⟨"java/lang/String", "<init>", "([C)V"⟩ : MethodName) jdk_42_method_3_code 2 none ws ({ frames := 3, cells := 1, slots := 7, locals := 52 } : Room) #[(.ref x), (.ref a)] h0 (fun v h L => v = none ∧ Fr n0 L ∧ Keep h0 h [x] ∧ ∃ t : Addr, own_Lat Z h x t n f ∧ n0 ≤ t) := by
  refine own_body own_pn4 (fun m => mkF m 0 #[rv x, rv a] []) (fun m => own_ef_own_si m x a) ?_
  intro p e s m below meth c T0 hx hby hml hlk hrt hZ hown hnm X0 e0
  have hown : s.vm.findClass "java/lang/String" = some m.cls := hown
  have N0 := Fr.nil n0
  refine own_g (own_F T0 m 1 #[rv x, rv a] [(.ref x)]) (fun _ z_ => XS.aloadN X0.here hx rfl (hb hby own_d2_0) rfl rfl z_) ?_
  refine own_g (own_F T0 m 2 #[rv x, rv a] [(.ref a), (.ref x)]) (fun _ z_ => XS.aloadN X0.here hx rfl (hb hby own_d2_1) rfl rfl z_) ?_
  refine own_g (own_F T0 m 3 #[rv x, rv a] [(.int 0), (.ref a), (.ref x)]) (fun _ z_ => XS.iconst X0.here hx rfl (hb hby own_d2_2) z_) ?_
  refine own_g (own_F T0 m 4 #[rv x, rv a] [(.ref a), (.int 0), (.ref a), (.ref x)]) (fun _ z_ => XS.aloadN X0.here hx rfl (hb hby own_d2_3) rfl rfl z_) ?_
  refine own_alen X0 hx hZ e0 Aa (hb hby own_d2_4) ?_
  rw [own_n32 hn]
  show own_Ends p e below s _ _ _ (own_F T0 m 5 #[rv x, rv a] [(.int nn), (.int 0), (.ref a), (.ref x)])
  refine own_g (own_F T0 m 6 #[rv x, rv a] [.null, (.int nn), (.int 0), (.ref a), (.ref x)]) (fun _ z_ => XS.aconstNull X0.here hx rfl (hb hby own_d2_5) z_) ?_
  refine own_callI (y := (⟨"java/lang/String", "<init>", "([CIILjava/lang/Void;)V"⟩ : MethodName)) (b := x) X0 hx hZ hown rfl (own_w hw 11) (own_w hw 12) (own_w hw 14) (own_w hw 7) (by decide) e0 (hM := own_si4 l Z a0 hw [] x a n nn zc f h0 n0 Z0 hn hn31 hcap hn0 hzc Aa hf E_x F_v F_c S_cs g_x ne_xa) (W := 0) (pc := 6) (Ls := #[rv x, rv a]) (argsL := [(.ref a), (.int 0), (.int nn), .null]) (rest := []) (st0 := [.null, (.int nn), (.int 0), (.ref a), (.ref x)]) (by rw [hml]; rfl) (lenOf own_pd3 rfl) rfl (Nat.le_of_eq rfl) (hb hby own_d2_6) (by decide) (by decide) (by decide) (by decide) ?_
  intro v1 T1 L1 s X1 hZ hown hI1 hvm1 hhp1 hWw1 hQ1
  obtain ⟨rfl, Nq1, K1, t1, Lt1, gt1⟩ := hQ1
  have N1 := Fr.app N0 Nq1
  show own_Ends p e below s _ _ _ (own_F T1 m 9 #[rv x, rv a] [])
  refine own_retV X1 hx hlk hrt (hb hby own_d2_9) (by decide) (by decide) ?_
  exact ⟨rfl, N1, K1, t1, Lt1, gt1⟩
set_option maxRecDepth 65536 in
set_option maxHeartbeats 40000000 in
theorem own_eq2 (l : Launch) (Z : State) (a0 : Array Value) (hw : ∀ d ∈ tables_1, d.before a0 Z = true) (ws : List Jvm.Cond) (a b : Addr) (n n2 : Nat) (nn mm ro : Int32) (f g : Nat → Int32) (h0 : Heap) (n0 : Nat) (Z0 : n0 ≤ h0.size) (hn : nn.toInt = (n : Int)) (hm : mm.toInt = (n2 : Int)) (Aa : own_A Z h0 a .byte n (fun i => .int (f i))) (Ab : own_A Z h0 b .byte n2 (fun i => .int (g i))) (hr : (ro = 1 ∧ own_eqs n n2 f g) ∨ (ro = 0 ∧ ¬ own_eqs n n2 f g)) :
    own_Met l Z (⟨"java/lang/StringLatin1", "equals", "([B[B)Z"⟩ : MethodName) jdk_43_method_13_code 3 (some .boolean) ws ({ frames := 0, cells := 0, slots := 0, locals := 0 } : Room) #[(.ref a), (.ref b)] h0 (fun v h L => v = some (.int ro) ∧ Fr n0 L ∧ h = h0) := by
  refine own_body own_pn5 (fun m => mkF m 0 #[rv a, rv b, .unset] []) (fun m => own_ef_own_eq2 m a b) ?_
  intro p e s m below meth c T0 hx hby hml hlk hrt hZ hown hnm X0 e0
  have hown : s.vm.findClass "java/lang/StringLatin1" = some m.cls := hown
  have N0 := Fr.nil n0
  have J : ∀ (r : Nat) (k : Nat) (j : Int32) (T1 : State) (lc1 : List Loc) (hp1 : Heap) (s : State) (hZ : Z.Warmed39 s.vm) (hown : s.vm.findClass "java/lang/StringLatin1" = some m.cls) (X1 : Stand p l e ({ frames := 0, cells := 0, slots := 0, locals := 0 } : Room) s m #[(.ref a), (.ref b)] below meth c T1 lc1 0 0) (e1 : T1.heap = hp1) (N1 : Fr n0 lc1) (zs1 : n0 ≤ hp1.size) (zz1 : h0.size ≤ hp1.size) (f1_0 : own_A Z hp1 a .byte n (fun i => .int (f i))) (f1_1 : own_A Z hp1 b .byte n2 (fun i => .int (g i))) (hkr : k + r = n) (hj : j.toInt = (k : Int)) (hmn : n = n2) (hq : hp1 = h0) (hg : ∀ i, i < k → f i = g i), own_Ends p e below s ((fun v h L _ => v = some (.int ro) ∧ Fr n0 L ∧ h = h0), []) ({ frames := 0, cells := 0, slots := 0, locals := 0 } : Room).cells ({ frames := 0, cells := 0, slots := 0, locals := 0 } : Room).slots (own_F T1 m 9 #[rv a, rv b, iv j] []) := by
   intro r
   induction r with
   | zero =>
    intro k j T1 lc1 hp1 s hZ hown X1 e1 N1 zs1 zz1 f1_0 f1_1 hkr hj hmn hq hg
    refine own_g (own_F T1 m 10 #[rv a, rv b, iv j] [(.int j)]) (fun _ z_ => XS.iloadN X1.here hx rfl (hb hby own_d8_9) rfl z_) ?_
    refine own_g (own_F T1 m 11 #[rv a, rv b, iv j] [(.ref a), (.int j)]) (fun _ z_ => XS.aloadN X1.here hx rfl (hb hby own_d8_10) rfl rfl z_) ?_
    refine own_alen X1 hx hZ e1 f1_0 (hb hby own_d8_11) ?_
    rw [own_n32 hn]
    show own_Ends p e below s _ _ _ (own_F T1 m 12 #[rv a, rv b, iv j] [(.int nn), (.int j)])
    refine own_g (own_F T1 m 32 #[rv a, rv b, iv j] []) (fun _ z_ => XS.icmpYes X1.here hx rfl (pc0 := 12) (pc' := 32) rfl (hb hby own_d8_12) rfl (flt (own_jge hj hn (by omega))).2.1 (by decide) (by decide) z_) ?_
    refine own_g (own_F T1 m 33 #[rv a, rv b, iv j] [(.int 1)]) (fun _ z_ => XS.iconst X1.here hx rfl (hb hby own_d8_32) z_) ?_
    refine own_ret (t := .boolean) X1 hx hlk hrt rfl (Or.inl ⟨rfl, by simp, _, rfl⟩) (hb hby own_d8_33) (by decide) (by decide) ?_
    rcases hr with ⟨rfl, -⟩ | ⟨-, hP⟩
    · exact ⟨rfl, N1, (e1.trans hq)⟩
    · exact absurd ⟨hmn, fun i hi => hg i (by omega)⟩ hP
   | succ r ih =>
    intro k j T1 lc1 hp1 s hZ hown X1 e1 N1 zs1 zz1 f1_0 f1_1 hkr hj hmn hq hg
    have hkn : k < n := by omega
    have hkm : k < n2 := by omega
    refine own_g (own_F T1 m 10 #[rv a, rv b, iv j] [(.int j)]) (fun _ z_ => XS.iloadN X1.here hx rfl (hb hby own_d8_9) rfl z_) ?_
    refine own_g (own_F T1 m 11 #[rv a, rv b, iv j] [(.ref a), (.int j)]) (fun _ z_ => XS.aloadN X1.here hx rfl (hb hby own_d8_10) rfl rfl z_) ?_
    refine own_alen X1 hx hZ e1 f1_0 (hb hby own_d8_11) ?_
    rw [own_n32 hn]
    show own_Ends p e below s _ _ _ (own_F T1 m 12 #[rv a, rv b, iv j] [(.int nn), (.int j)])
    refine own_g (own_F T1 m 15 #[rv a, rv b, iv j] []) (fun _ z_ => XS.icmpNo X1.here hx rfl (hb hby own_d8_12) rfl (tlt (own_jlt hj hn hkn)).2.1 z_) ?_
    refine own_g (own_F T1 m 16 #[rv a, rv b, iv j] [(.ref a)]) (fun _ z_ => XS.aloadN X1.here hx rfl (hb hby own_d8_15) rfl rfl z_) ?_
    refine own_g (own_F T1 m 17 #[rv a, rv b, iv j] [(.int j), (.ref a)]) (fun _ z_ => XS.iloadN X1.here hx rfl (hb hby own_d8_16) rfl z_) ?_
    refine own_bald X1 hx hZ e1 f1_0 k hj hkn (hb hby own_d8_17) ?_
    show own_Ends p e below s _ _ _ (own_F T1 m 18 #[rv a, rv b, iv j] [(.int (f k))])
    refine own_g (own_F T1 m 19 #[rv a, rv b, iv j] [(.ref b), (.int (f k))]) (fun _ z_ => XS.aloadN X1.here hx rfl (hb hby own_d8_18) rfl rfl z_) ?_
    refine own_g (own_F T1 m 20 #[rv a, rv b, iv j] [(.int j), (.ref b), (.int (f k))]) (fun _ z_ => XS.iloadN X1.here hx rfl (hb hby own_d8_19) rfl z_) ?_
    refine own_bald X1 hx hZ e1 f1_1 k hj hkm (hb hby own_d8_20) ?_
    show own_Ends p e below s _ _ _ (own_F T1 m 21 #[rv a, rv b, iv j] [(.int (g k)), (.int (f k))])
    by_cases c21 : (f k) = (g k)
    · -- pc 21: (f k) = (g k)
     refine own_g (own_F T1 m 26 #[rv a, rv b, iv j] []) (fun _ z_ => XS.icmpYes X1.here hx rfl (pc0 := 21) (pc' := 26) rfl (hb hby own_d8_21) rfl (teq c21).1 (by decide) (by decide) z_) ?_
     refine own_g (own_F T1 m 29 #[rv a, rv b, iv (j + (1 : Int32))] []) (fun _ z_ => XS.iinc X1.here hx rfl (hb hby own_d8_26) rfl (l' := #[rv a, rv b, iv (j + (1 : Int32))]) rfl z_) ?_
     refine own_g (own_F T1 m 9 #[rv a, rv b, iv (j + (1 : Int32))] []) (fun _ z_ => XS.goto X1.here hx rfl (pc0 := 29) (pc' := 9) rfl (hb hby own_d8_29) (by decide) (by decide) z_) ?_
     exact ih (k + 1) (j + (1 : Int32)) T1 _ _ s hZ hown X1 e1 N1 zs1 zz1 f1_0 f1_1 (by omega) (own_succ hj hkn Aa.1) hmn hq (fun i hi => by by_cases q : i = k; subst q; exact c21; exact hg i (by omega))
    · -- pc 21: not (f k) = (g k)
     refine own_g (own_F T1 m 24 #[rv a, rv b, iv j] []) (fun _ z_ => XS.icmpNo X1.here hx rfl (hb hby own_d8_21) rfl (feq c21).1 z_) ?_
     refine own_g (own_F T1 m 25 #[rv a, rv b, iv j] [(.int 0)]) (fun _ z_ => XS.iconst X1.here hx rfl (hb hby own_d8_24) z_) ?_
     refine own_ret (t := .boolean) X1 hx hlk hrt rfl (Or.inl ⟨rfl, by simp, _, rfl⟩) (hb hby own_d8_25) (by decide) (by decide) ?_
     rcases hr with ⟨-, hP⟩ | ⟨rfl, -⟩
     · exact absurd hP (fun q => c21 (q.2 k hkn))
     · exact ⟨rfl, N1, (e1.trans hq)⟩
  refine own_g (own_F T0 m 1 #[rv a, rv b, .unset] [(.ref a)]) (fun _ z_ => XS.aloadN X0.here hx rfl (hb hby own_d8_0) rfl rfl z_) ?_
  refine own_alen X0 hx hZ e0 Aa (hb hby own_d8_1) ?_
  rw [own_n32 hn]
  show own_Ends p e below s _ _ _ (own_F T0 m 2 #[rv a, rv b, .unset] [(.int nn)])
  refine own_g (own_F T0 m 3 #[rv a, rv b, .unset] [(.ref b), (.int nn)]) (fun _ z_ => XS.aloadN X0.here hx rfl (hb hby own_d8_2) rfl rfl z_) ?_
  refine own_alen X0 hx hZ e0 Ab (hb hby own_d8_3) ?_
  rw [own_n32 hm]
  show own_Ends p e below s _ _ _ (own_F T0 m 4 #[rv a, rv b, .unset] [(.int mm), (.int nn)])
  by_cases c4 : nn = mm
  · -- pc 4: nn = mm
   refine own_g (own_F T0 m 7 #[rv a, rv b, .unset] []) (fun _ z_ => XS.icmpNo X0.here hx rfl (hb hby own_d8_4) rfl (teq c4).2 z_) ?_
   refine own_g (own_F T0 m 8 #[rv a, rv b, .unset] [(.int 0)]) (fun _ z_ => XS.iconst X0.here hx rfl (hb hby own_d8_7) z_) ?_
   refine own_g (own_F T0 m 9 #[rv a, rv b, iv 0] []) (fun _ z_ => XS.istoreN X0.here hx rfl (hb hby own_d8_8) rfl (l' := #[rv a, rv b, iv 0]) rfl z_) ?_
   exact J n 0 (0 : Int32) T0 _ _ s hZ hown X0 e0 N0 Z0 (Nat.le_refl h0.size) Aa Ab (by omega) rfl (Int.ofNat.inj (by show (n : Int) = (n2 : Int); rw [← hn, ← hm, c4])) rfl (fun i hi => absurd hi (Nat.not_lt_zero i))
  · -- pc 4: not nn = mm
   refine own_g (own_F T0 m 34 #[rv a, rv b, .unset] []) (fun _ z_ => XS.icmpYes X0.here hx rfl (pc0 := 4) (pc' := 34) rfl (hb hby own_d8_4) rfl (feq c4).2 (by decide) (by decide) z_) ?_
   refine own_g (own_F T0 m 35 #[rv a, rv b, .unset] [(.int 0)]) (fun _ z_ => XS.iconst X0.here hx rfl (hb hby own_d8_34) z_) ?_
   refine own_ret (t := .boolean) X0 hx hlk hrt rfl (Or.inl ⟨rfl, by simp, _, rfl⟩) (hb hby own_d8_35) (by decide) (by decide) ?_
   rcases hr with ⟨-, hP⟩ | ⟨rfl, -⟩
   · exact absurd hP (fun q => c4 (Int32.toInt_inj.mp (by rw [hn, hm, q.1])))
   · exact ⟨rfl, N0, e0⟩
set_option maxRecDepth 65536 in
set_option maxHeartbeats 40000000 in
theorem own_seq (l : Launch) (Z : State) (a0 : Array Value) (hw : ∀ d ∈ tables_1, d.before a0 Z = true) (ws : List Jvm.Cond) (x y t u : Addr) (n n2 : Nat) (nn mm ro zc : Int32) (f g : Nat → Int32) (h0 : Heap) (n0 : Nat) (Z0 : n0 ≤ h0.size) (hn : nn.toInt = (n : Int)) (hm : mm.toInt = (n2 : Int)) (Lx : own_Lat Z h0 x t n f) (Ly : own_Lat Z h0 y u n2 g) (hr : (ro = 1 ∧ own_eqs n n2 f g) ∨ (ro = 0 ∧ ¬ own_eqs n n2 f g)) (hzc : ¬ zc = (0 : Int32)) (S_cs : Sta Z h0 "java/lang/String" "COMPACT_STRINGS" "Z" (.int zc)) :
    own_Met l Z (⟨"java/lang/String", "equals", "(Ljava/lang/Object;)Z"⟩ : MethodName) jdk_42_method_66_code 3 (some .boolean) ws ({ frames := 1, cells := 0, slots := 0, locals := 14 } : Room) #[(.ref x), (.ref y)] h0 (fun v h L => v = some (.int ro) ∧ Fr n0 L ∧ h = h0) := by
  refine own_body own_pn6 (fun m => mkF m 0 #[rv x, rv y, .unset] []) (fun m => own_ef_own_seq m x y) ?_
  intro p e s m below meth c T0 hx hby hml hlk hrt hZ hown hnm X0 e0
  have hown : s.vm.findClass "java/lang/String" = some m.cls := hown
  have N0 := Fr.nil n0
  refine own_g (own_F T0 m 1 #[rv x, rv y, .unset] [(.ref x)]) (fun _ z_ => XS.aloadN X0.here hx rfl (hb hby own_d7_0) rfl rfl z_) ?_
  refine own_g (own_F T0 m 2 #[rv x, rv y, .unset] [(.ref y), (.ref x)]) (fun _ z_ => XS.aloadN X0.here hx rfl (hb hby own_d7_1) rfl rfl z_) ?_
  by_cases c2 : x = y
  · -- pc 2
   refine own_g (own_F T0 m 5 #[rv x, rv y, .unset] []) (fun _ z_ => Jvm.RoadKit.acmp (g := (mkF m 2 #[rv x, rv y, .unset] [(.ref y), (.ref x)])) X0 hx rfl rfl rfl (pc0 := 2) (pc' := 5) (same := true) rfl (hb hby own_d7_2) rfl (decide_eq_true (congrArg Value.ref c2)) (by decide) (by decide) z_) ?_
   refine own_g (own_F T0 m 6 #[rv x, rv y, .unset] [(.int 1)]) (fun _ z_ => XS.iconst X0.here hx rfl (hb hby own_d7_5) z_) ?_
   refine own_ret (t := .boolean) X0 hx hlk hrt rfl (Or.inl ⟨rfl, by simp, _, rfl⟩) (hb hby own_d7_6) (by decide) (by decide) ?_
   subst c2
   exact ⟨congrArg (fun z => some (Value.int z)) (own_r1 hr (own_Latuq Lx Ly)).symm, N0, e0⟩
  · -- pc 2
   refine own_g (own_F T0 m 7 #[rv x, rv y, .unset] []) (fun _ z_ => Jvm.RoadKit.acmp (g := (mkF m 2 #[rv x, rv y, .unset] [(.ref y), (.ref x)])) X0 hx rfl rfl rfl (pc0 := 2) (pc' := 7) (same := false) rfl (hb hby own_d7_2) rfl (decide_eq_false fun q => c2 (Value.ref.inj q)) (by decide) (by decide) z_) ?_
   refine own_g (own_F T0 m 8 #[rv x, rv y, .unset] [(.ref y)]) (fun _ z_ => XS.aloadN X0.here hx rfl (hb hby own_d7_7) rfl rfl z_) ?_
   obtain ⟨T1, X1, e1, st1⟩ := instY X0 hx hZ hown (own_w hw 54) e0 (Ins.self Ly.1) (g := (mkF m 8 #[rv x, rv y, .unset] [(.ref y)])) rfl rfl (hb hby own_d7_8)
   refine own_pre (S' := (own_F T1 m 11 #[rv x, rv y, .unset] [(.int 1)])) st1 ?_
   refine own_g (own_F T1 m 14 #[rv x, rv y, .unset] []) (fun _ z_ => XS.ifNo X1.here hx rfl (hb hby own_d7_11) rfl ((if0 _ _).trans (feq (by decide : ¬ ((1 : Int32) = (0 : Int32)))).1) z_) ?_
   refine own_g (own_F T1 m 15 #[rv x, rv y, .unset] [(.ref y)]) (fun _ z_ => XS.aloadN X1.here hx rfl (hb hby own_d7_14) rfl rfl z_) ?_
   obtain ⟨T2, X2, e2, st2⟩ := castY X1 hx hZ hown (own_w hw 54) e1 (Ins.self Ly.1) (g := (mkF m 15 #[rv x, rv y, .unset] [(.ref y)])) rfl rfl (hb hby own_d7_15)
   refine own_pre (S' := (own_F T2 m 18 #[rv x, rv y, .unset] [(.ref y)])) st2 ?_
   refine own_g (own_F T2 m 19 #[rv x, rv y, rv y] []) (fun _ z_ => XS.astoreN X2.here hx rfl (hb hby own_d7_18) rfl rfl (l' := #[rv x, rv y, rv y]) rfl z_) ?_
   obtain ⟨T3, X3, e3, st3⟩ := getS2 X2 hx hZ hown (host := "") (Or.inl (own_w hw 55)) Via.refl e2 S_cs (g := (mkF m 19 #[rv x, rv y, rv y] [])) rfl (hb hby own_d7_19)
   refine own_pre (S' := (own_F T3 m 22 #[rv x, rv y, rv y] [(.int zc)])) st3 ?_
   refine own_g (own_F T3 m 25 #[rv x, rv y, rv y] []) (fun _ z_ => XS.ifNo X3.here hx rfl (hb hby own_d7_22) rfl ((if0 _ _).trans (feq hzc).1) z_) ?_
   refine own_g (own_F T3 m 26 #[rv x, rv y, rv y] [(.ref x)]) (fun _ z_ => XS.aloadN X3.here hx rfl (hb hby own_d7_25) rfl rfl z_) ?_
   obtain ⟨T4, X4, e4, st4⟩ := getF X3 hx hZ hown (host := "") (Or.inl (own_w hw 25)) Via.refl e3 Lx.2.2.1 (g := (mkF m 26 #[rv x, rv y, rv y] [(.ref x)])) rfl rfl (hb hby own_d7_26)
   refine own_pre (S' := (own_F T4 m 29 #[rv x, rv y, rv y] [(.int 0)])) st4 ?_
   refine own_g (own_F T4 m 30 #[rv x, rv y, rv y] [(.ref y), (.int 0)]) (fun _ z_ => XS.aloadN X4.here hx rfl (hb hby own_d7_29) rfl rfl z_) ?_
   obtain ⟨T5, X5, e5, st5⟩ := getF X4 hx hZ hown (host := "") (Or.inl (own_w hw 25)) Via.refl e4 Ly.2.2.1 (g := (mkF m 30 #[rv x, rv y, rv y] [(.ref y), (.int 0)])) rfl rfl (hb hby own_d7_30)
   refine own_pre (S' := (own_F T5 m 33 #[rv x, rv y, rv y] [(.int 0), (.int 0)])) st5 ?_
   refine own_g (own_F T5 m 36 #[rv x, rv y, rv y] []) (fun _ z_ => XS.icmpNo X5.here hx rfl (hb hby own_d7_33) rfl (teq (by decide : ((0 : Int32) = (0 : Int32)))).2 z_) ?_
   refine own_g (own_F T5 m 37 #[rv x, rv y, rv y] [(.ref x)]) (fun _ z_ => XS.aloadN X5.here hx rfl (hb hby own_d7_36) rfl rfl z_) ?_
   obtain ⟨T6, X6, e6, st6⟩ := getF X5 hx hZ hown (host := "") (Or.inl (own_w hw 24)) Via.refl e5 Lx.2.1 (g := (mkF m 37 #[rv x, rv y, rv y] [(.ref x)])) rfl rfl (hb hby own_d7_37)
   refine own_pre (S' := (own_F T6 m 40 #[rv x, rv y, rv y] [(.ref t)])) st6 ?_
   refine own_g (own_F T6 m 41 #[rv x, rv y, rv y] [(.ref y), (.ref t)]) (fun _ z_ => XS.aloadN X6.here hx rfl (hb hby own_d7_40) rfl rfl z_) ?_
   obtain ⟨T7, X7, e7, st7⟩ := getF X6 hx hZ hown (host := "") (Or.inl (own_w hw 24)) Via.refl e6 Ly.2.1 (g := (mkF m 41 #[rv x, rv y, rv y] [(.ref y), (.ref t)])) rfl rfl (hb hby own_d7_41)
   refine own_pre (S' := (own_F T7 m 44 #[rv x, rv y, rv y] [(.ref u), (.ref t)])) st7 ?_
   refine own_callS (y := (⟨"java/lang/StringLatin1", "equals", "([B[B)Z"⟩ : MethodName)) X7 hx hZ hown (own_w hw 56) (own_w hw 57) (own_w hw 58) (own_w hw 59) (by decide) e7 (hM := own_eq2 l Z a0 hw [] t u n n2 nn mm ro _ _ h0 n0 Z0 hn hm Lx.2.2.2.1 Ly.2.2.2.1 (own_hrP (own_latP Lx Ly) hr)) (W := 0) (pc := 44) (Ls := #[rv x, rv y, rv y]) (argsL := [(.ref t), (.ref u)]) (rest := []) (st0 := [(.ref u), (.ref t)]) (by rw [hml]; rfl) (lenOf own_pd4 rfl) rfl (Nat.le_of_eq rfl) (hb hby own_d7_44) (by decide) (by decide) (by decide) (by decide) ?_
   intro v8 T8 L8 s X8 hZ hown hI8 hvm8 hhp8 hWw8 hQ8
   obtain ⟨rfl, Nq8, hh8⟩ := hQ8
   have N8 := Fr.app N0 Nq8
   show own_Ends p e below s _ _ _ (own_F T8 m 47 #[rv x, rv y, rv y] [(.int ro)])
   by_cases c47 : ro = (0 : Int32)
   · -- pc 47: ro = (0 : Int32)
    refine own_g (own_F T8 m 54 #[rv x, rv y, rv y] []) (fun _ z_ => XS.ifYes X8.here hx rfl (pc0 := 47) (pc' := 54) rfl (hb hby own_d7_47) rfl ((if0 _ _).trans (teq c47).1) (by decide) (by decide) z_) ?_
    refine own_g (own_F T8 m 55 #[rv x, rv y, rv y] [(.int 0)]) (fun _ z_ => XS.iconst X8.here hx rfl (hb hby own_d7_54) z_) ?_
    refine own_ret (t := .boolean) X8 hx hlk hrt rfl (Or.inl ⟨rfl, by simp, _, rfl⟩) (hb hby own_d7_55) (by decide) (by decide) ?_
    exact ⟨congrArg (fun z => some (Value.int z)) c47.symm, N8, hh8⟩
   · -- pc 47: not ro = (0 : Int32)
    refine own_g (own_F T8 m 50 #[rv x, rv y, rv y] []) (fun _ z_ => XS.ifNo X8.here hx rfl (hb hby own_d7_47) rfl ((if0 _ _).trans (feq c47).1) z_) ?_
    refine own_g (own_F T8 m 51 #[rv x, rv y, rv y] [(.int 1)]) (fun _ z_ => XS.iconst X8.here hx rfl (hb hby own_d7_50) z_) ?_
    refine own_g (own_F T8 m 55 #[rv x, rv y, rv y] [(.int 1)]) (fun _ z_ => XS.goto X8.here hx rfl (pc0 := 51) (pc' := 55) rfl (hb hby own_d7_51) (by decide) (by decide) z_) ?_
    refine own_ret (t := .boolean) X8 hx hlk hrt rfl (Or.inl ⟨rfl, by simp, _, rfl⟩) (hb hby own_d7_55) (by decide) (by decide) ?_
    rcases hr with ⟨rfl, -⟩ | ⟨rfl, -⟩
    · exact ⟨rfl, N8, hh8⟩
    · exact absurd rfl c47
set_option maxRecDepth 65536 in
set_option maxHeartbeats 40000000 in
theorem own_sie4 (l : Launch) (Z : State) (a0 : Array Value) (hw : ∀ d ∈ tables_1, d.before a0 Z = true) (ws : List Jvm.Cond) (x a : Addr) (f g : Nat → Int32) (h0 : Heap) (n0 : Nat) (Z0 : n0 ≤ h0.size) (Aa : own_A Z h0 a .char 0 (fun i => .int (g i))) (E_x : Exa Z h0 x "java/lang/String") (F_v : Fld Z h0 x "java/lang/String" "value" "[B" .null) (F_c : Fld Z h0 x "java/lang/String" "coder" "B" (.int (0 : Int32))) (g_x : n0 ≤ x) (hkp : ∀ (b : Addr) (cl : Cell), Z.heap[b]? = some cl → h0[b]? = some cl) (hh7 : Jvm.Lit.constHeld Z "java/lang/String" 7) (hcw : Jvm.Lit.compactW.before a0 Z = true) :
    own_MetW l Z (⟨"java/lang/String", "<init>", "([CIILjava/lang/Void;)V"⟩ : MethodName) jdk_42_method_149_code 6 none ws ({ frames := 1, cells := 2, slots := 4, locals := 12 } : Room) #[(.ref x), (.ref a), (.int 0), (.int 0), .null] h0 (fun vm => own_LS Z h0 vm own_K0) ((fun v h L vm => v = none ∧ Fr n0 L ∧ Keep h0 h [x] ∧ (∃ t : Addr, own_Lat Z h x t 0 f) ∧ own_LS Z h vm own_K0), (["", "access", "refresh"] : List String)) := by
  refine own_bodyW own_pn3 (fun m => mkF m 0 #[rv x, rv a, iv 0, iv 0, .val .null, .unset] []) (fun m => own_ef_own_sie4 m x a (0 : Int32) (0 : Int32)) ?_
  intro p e s m below meth c T0 hx hby hml hlk hrt hZ hown hnm X0 e0 LS0 SH0
  have hown : s.vm.findClass "java/lang/String" = some m.cls := hown
  have N0 := Fr.nil n0
  refine own_g (own_F T0 m 1 #[rv x, rv a, iv 0, iv 0, .val .null, .unset] [(.ref x)]) (fun _ z_ => XS.aloadN X0.here hx rfl (hb hby own_d3_0) rfl rfl z_) ?_
  obtain ⟨T1, X1, e1, st1⟩ := initO X0 hx hZ hown (own_w hw 15) (own_w hw 16) (own_w hw 17) e0 (g := (mkF m 1 #[rv x, rv a, iv 0, iv 0, .val .null, .unset] [(.ref x)])) rfl (by rw [hml]; rfl) rfl (hb hby own_d3_1) (by decide) (W := 0) (by show 2 * 0 + _ ≤ _; exact Nat.le_of_eq rfl) (by decide)
  refine own_pre (S' := (own_F T1 m 4 #[rv x, rv a, iv 0, iv 0, .val .null, .unset] [])) st1 ?_
  refine own_g (own_F T1 m 5 #[rv x, rv a, iv 0, iv 0, .val .null, .unset] [(.int 0)]) (fun _ z_ => XS.iloadN X1.here hx rfl (hb hby own_d3_4) rfl z_) ?_
  refine own_g (own_F T1 m 8 #[rv x, rv a, iv 0, iv 0, .val .null, .unset] []) (fun _ z_ => XS.ifNo X1.here hx rfl (hb hby own_d3_5) rfl ((if0 _ _).trans (teq (by decide : ((0 : Int32) = (0 : Int32)))).2) z_) ?_
  refine own_g (own_F T1 m 9 #[rv x, rv a, iv 0, iv 0, .val .null, .unset] [(.ref x)]) (fun _ z_ => XS.aloadN X1.here hx rfl (hb hby own_d3_8) rfl rfl z_) ?_
  refine own_ldL X1 hx hZ hown (own_w hw 18) (own_wS hw) e1 (Fr.nil _) (fun b_ c_ q_ => by rw [SH0]; exact hkp b_ c_ q_) LS0 (List.mem_of_getElem? (i := 0) rfl) own_uq0 hh7 hcw (by decide) (n := 0) (by rfl) (by decide) (hb hby own_d3_9) (by decide) (by decide) (fun _ z_ => z_) ?_
  intro a2 t2 T2 h2 s X2 hZ hown e2 E2 hp2 LS2 Li2 La2
  have SH2 : s.heap = h0 := hp2.trans SH0
  show own_Ends p e below s _ _ _ (own_F T2 m 11 #[rv x, rv a, iv 0, iv 0, .val .null, .unset] [(.ref a2), (.ref x)])
  have na2 : a2 ≠ x := Fld.ne La2.2.1 (F_v.ext E2) (fun z => by cases z)
  have nt2 : t2 ≠ x := own_ANe La2.2.2.2.1 (E_x.ext E2) (own_w hw 6)
  obtain ⟨T3, X3, e3, st3⟩ := getF X2 hx hZ hown (host := "") (Or.inl (own_w hw 24)) Via.refl e2 La2.2.1 (g := (mkF m 11 #[rv x, rv a, iv 0, iv 0, .val .null, .unset] [(.ref a2), (.ref x)])) rfl rfl (hb hby own_d3_11)
  refine own_pre (S' := (own_F T3 m 14 #[rv x, rv a, iv 0, iv 0, .val .null, .unset] [(.ref t2), (.ref x)])) st3 ?_
  obtain ⟨T4, h4, X4, e4, W4, st4⟩ := putF X3 hx hZ hown (host := "") (Or.inl (own_w hw 24)) Via.refl e3 (F_v.ext E2) (E_x.ext E2) (Or.inr ⟨(own_w hw 20), rfl, hnm⟩) (own_w hw 6) (ty := (.array .byte)) (by decide) rfl rfl (g := (mkF m 14 #[rv x, rv a, iv 0, iv 0, .val .null, .unset] [(.ref t2), (.ref x)])) rfl rfl (hb hby own_d3_14)
  have N4 := Fr.snoc X4 N0 g_x
  have Fw4 := (F_v.ext E2).same W4
  refine own_pre (S' := (own_F T4 m 17 #[rv x, rv a, iv 0, iv 0, .val .null, .unset] [])) st4 ?_
  refine own_g (own_F T4 m 18 #[rv x, rv a, iv 0, iv 0, .val .null, .unset] [(.ref x)]) (fun _ z_ => XS.aloadN X4.here hx rfl (hb hby own_d3_17) rfl rfl z_) ?_
  refine own_ldcA X4 hx hZ hown (own_w hw 18) Li2 (hb hby own_d3_18) ?_
  show own_Ends p e below s _ _ _ (own_F T4 m 20 #[rv x, rv a, iv 0, iv 0, .val .null, .unset] [(.ref a2), (.ref x)])
  obtain ⟨T5, X5, e5, st5⟩ := getF X4 hx hZ hown (host := "") (Or.inl (own_w hw 25)) Via.refl e4 (La2.2.2.1.other W4 (Or.inl na2)) (g := (mkF m 20 #[rv x, rv a, iv 0, iv 0, .val .null, .unset] [(.ref a2), (.ref x)])) rfl rfl (hb hby own_d3_20)
  refine own_pre (S' := (own_F T5 m 23 #[rv x, rv a, iv 0, iv 0, .val .null, .unset] [(.int 0), (.ref x)])) st5 ?_
  obtain ⟨T6, h6, X6, e6, W6, st6⟩ := putF X5 hx hZ hown (host := "") (Or.inl (own_w hw 25)) Via.refl e5 ((F_c.ext E2).other W4 (Or.inr (slot_ne (C := "java/lang/String") (Or.inr (own_w hw 21)) (Or.inr (own_w hw 20)) (by decide) (t := .byte) (t' := (.array .byte)) (by decide) (by decide)))) ((E_x.ext E2).wr W4) (Or.inr ⟨(own_w hw 21), rfl, hnm⟩) (own_w hw 6) (ty := .byte) (by decide) rfl rfl (g := (mkF m 23 #[rv x, rv a, iv 0, iv 0, .val .null, .unset] [(.int 0), (.ref x)])) rfl rfl (hb hby own_d3_23)
  have N6 := Fr.snoc X6 N4 g_x
  have Fw6 := ((F_c.ext E2).other W4 (Or.inr (slot_ne (C := "java/lang/String") (Or.inr (own_w hw 21)) (Or.inr (own_w hw 20)) (by decide) (t := .byte) (t' := (.array .byte)) (by decide) (by decide)))).same W6
  refine own_pre (S' := (own_F T6 m 26 #[rv x, rv a, iv 0, iv 0, .val .null, .unset] [])) st6 ?_
  refine own_retV X6 hx hlk hrt (hb hby own_d3_26) (by decide) (by decide) ?_
  show _ ∧ Fr n0 _ ∧ Keep h0 T6.heap [x] ∧ _
  rw [e6]
  exact ⟨rfl, N6, ((((Keep.refl _ _).ext E2).wr W4 (Or.inl (List.mem_of_getElem? (i := 0) rfl))).wr W6 (Or.inl (List.mem_of_getElem? (i := 0) rfl))), ⟨t2, (((E_x.ext E2).wr W4).wr W6), (Fw4.other W6 (Or.inr (slot_ne (C := "java/lang/String") (Or.inr (own_w hw 20)) (Or.inr (own_w hw 21)) (by decide) (t := (.array .byte)) (t' := .byte) (by decide) (by decide)))), Fw6, (((La2.2.2.2.1.other W4 nt2).other W6 nt2)).congr fun i hi => absurd hi (Nat.not_lt_zero i), fun i hi => absurd hi (Nat.not_lt_zero i)⟩, own_LS.warm (own_LS.keepN LS2 (((Keep.refl _ _).wr W4 (Or.inl (List.mem_singleton.mpr rfl))).wr W6 (Or.inl (List.mem_singleton.mpr rfl))) (E_x.ext E2) (F_v.ext E2) (own_w hw 6)) X6.warmed⟩
set_option maxRecDepth 65536 in
set_option maxHeartbeats 40000000 in
theorem own_sie (l : Launch) (Z : State) (a0 : Array Value) (hw : ∀ d ∈ tables_1, d.before a0 Z = true) (ws : List Jvm.Cond) (x a : Addr) (f g : Nat → Int32) (h0 : Heap) (n0 : Nat) (Z0 : n0 ≤ h0.size) (Aa : own_A Z h0 a .char 0 (fun i => .int (g i))) (E_x : Exa Z h0 x "java/lang/String") (F_v : Fld Z h0 x "java/lang/String" "value" "[B" .null) (F_c : Fld Z h0 x "java/lang/String" "coder" "B" (.int (0 : Int32))) (g_x : n0 ≤ x) (hkp : ∀ (b : Addr) (cl : Cell), Z.heap[b]? = some cl → h0[b]? = some cl) (hh7 : Jvm.Lit.constHeld Z "java/lang/String" 7) (hcw : Jvm.Lit.compactW.before a0 Z = true) :
    own_MetW l Z (⟨"java/lang/String", "<init>", "([C)V"⟩ : MethodName) jdk_42_method_3_code 2 none ws ({ frames := 2, cells := 2, slots := 4, locals := 29 } : Room) #[(.ref x), (.ref a)] h0 (fun vm => own_LS Z h0 vm own_K0) ((fun v h L vm => v = none ∧ Fr n0 L ∧ Keep h0 h [x] ∧ (∃ t : Addr, own_Lat Z h x t 0 f) ∧ own_LS Z h vm own_K0), (["", "access", "refresh"] : List String)) := by
  refine own_bodyW own_pn4 (fun m => mkF m 0 #[rv x, rv a] []) (fun m => own_ef_own_sie m x a) ?_
  intro p e s m below meth c T0 hx hby hml hlk hrt hZ hown hnm X0 e0 LS0 SH0
  have hown : s.vm.findClass "java/lang/String" = some m.cls := hown
  have N0 := Fr.nil n0
  refine own_g (own_F T0 m 1 #[rv x, rv a] [(.ref x)]) (fun _ z_ => XS.aloadN X0.here hx rfl (hb hby own_d2_0) rfl rfl z_) ?_
  refine own_g (own_F T0 m 2 #[rv x, rv a] [(.ref a), (.ref x)]) (fun _ z_ => XS.aloadN X0.here hx rfl (hb hby own_d2_1) rfl rfl z_) ?_
  refine own_g (own_F T0 m 3 #[rv x, rv a] [(.int 0), (.ref a), (.ref x)]) (fun _ z_ => XS.iconst X0.here hx rfl (hb hby own_d2_2) z_) ?_
  refine own_g (own_F T0 m 4 #[rv x, rv a] [(.ref a), (.int 0), (.ref a), (.ref x)]) (fun _ z_ => XS.aloadN X0.here hx rfl (hb hby own_d2_3) rfl rfl z_) ?_
  refine own_alen X0 hx hZ e0 Aa (hb hby own_d2_4) ?_
  show own_Ends p e below s _ _ _ (own_F T0 m 5 #[rv x, rv a] [(.int 0), (.int 0), (.ref a), (.ref x)])
  refine own_g (own_F T0 m 6 #[rv x, rv a] [.null, (.int 0), (.int 0), (.ref a), (.ref x)]) (fun _ z_ => XS.aconstNull X0.here hx rfl (hb hby own_d2_5) z_) ?_
  refine own_callI (y := (⟨"java/lang/String", "<init>", "([CIILjava/lang/Void;)V"⟩ : MethodName)) (b := x) X0 hx hZ hown rfl (own_w hw 11) (own_w hw 12) (own_w hw 14) (own_w hw 7) (by decide) e0 (hM := own_sie4 l Z a0 hw [] x a f g h0 n0 Z0 Aa E_x F_v F_c g_x hkp hh7 hcw) (hv := fun _ hq_ => own_LS.warm LS0 hq_) (hsub := fun _ z_ => z_) (W := 0) (pc := 6) (Ls := #[rv x, rv a]) (argsL := [(.ref a), (.int 0), (.int 0), .null]) (rest := []) (st0 := [.null, (.int 0), (.int 0), (.ref a), (.ref x)]) (by rw [hml]; rfl) (lenOf own_pd3 rfl) rfl (Nat.le_of_eq rfl) (hb hby own_d2_6) (by decide) (by decide) (by decide) (by decide) ?_
  intro v1 T1 L1 s X1 hZ hown hI1 hvm1 hhp1 hWw1 hQ1
  obtain ⟨rfl, Nq1, K1, Lt1, LS1⟩ := hQ1
  have N1 := Fr.app N0 Nq1
  show own_Ends p e below s _ _ _ (own_F T1 m 9 #[rv x, rv a] [])
  refine own_retV X1 hx hlk hrt (hb hby own_d2_9) (by decide) (by decide) ?_
  exact ⟨rfl, N1, K1, Lt1, own_LS.warm (own_LS.ofvm LS1 hvm1) X1.warmed⟩
set_option maxRecDepth 65536 in
set_option maxHeartbeats 40000000 in
theorem own_seqN (l : Launch) (Z : State) (a0 : Array Value) (hw : ∀ d ∈ tables_1, d.before a0 Z = true) (ws : List Jvm.Cond) (x : Addr) (h0 : Heap) (n0 : Nat) (Z0 : n0 ≤ h0.size)  :
    own_Met l Z (⟨"java/lang/String", "equals", "(Ljava/lang/Object;)Z"⟩ : MethodName) jdk_42_method_66_code 3 (some .boolean) ws ({ frames := 0, cells := 0, slots := 0, locals := 0 } : Room) #[(.ref x), .null] h0 (fun v h L => v = some (.int (0 : Int32)) ∧ Fr n0 L ∧ h = h0) := by
  refine own_body own_pn6 (fun m => mkF m 0 #[rv x, .val .null, .unset] []) (fun m => own_ef_own_seqN m x) ?_
  intro p e s m below meth c T0 hx hby hml hlk hrt hZ hown hnm X0 e0
  have hown : s.vm.findClass "java/lang/String" = some m.cls := hown
  have N0 := Fr.nil n0
  refine own_g (own_F T0 m 1 #[rv x, .val .null, .unset] [(.ref x)]) (fun _ z_ => XS.aloadN X0.here hx rfl (hb hby own_d7_0) rfl rfl z_) ?_
  refine own_g (own_F T0 m 2 #[rv x, .val .null, .unset] [.null, (.ref x)]) (fun _ z_ => XS.aloadN X0.here hx rfl (hb hby own_d7_1) rfl rfl z_) ?_
  refine own_g (own_F T0 m 7 #[rv x, .val .null, .unset] []) (fun _ z_ => Jvm.RoadKit.acmp (g := (mkF m 2 #[rv x, .val .null, .unset] [.null, (.ref x)])) X0 hx rfl rfl rfl (pc0 := 2) (pc' := 7) (same := false) rfl (hb hby own_d7_2) rfl (decide_eq_false nofun) (by decide) (by decide) z_) ?_
  refine own_g (own_F T0 m 8 #[rv x, .val .null, .unset] [.null]) (fun _ z_ => XS.aloadN X0.here hx rfl (hb hby own_d7_7) rfl rfl z_) ?_
  refine own_pre (S' := (own_F T0 m 11 #[rv x, .val .null, .unset] [(.int 0)])) (X0.instanceofNull hx (g := (mkF m 8 #[rv x, .val .null, .unset] [.null])) rfl rfl (hb hby own_d7_8)) ?_
  refine own_g (own_F T0 m 54 #[rv x, .val .null, .unset] []) (fun _ z_ => XS.ifYes X0.here hx rfl (pc0 := 11) (pc' := 54) rfl (hb hby own_d7_11) rfl ((if0 _ _).trans (teq (by decide : ((0 : Int32) = (0 : Int32)))).1) (by decide) (by decide) z_) ?_
  refine own_g (own_F T0 m 55 #[rv x, .val .null, .unset] [(.int 0)]) (fun _ z_ => XS.iconst X0.here hx rfl (hb hby own_d7_54) z_) ?_
  refine own_ret (t := .boolean) X0 hx hlk hrt rfl (Or.inl ⟨rfl, by simp, _, rfl⟩) (hb hby own_d7_55) (by decide) (by decide) ?_
  exact ⟨rfl, N0, e0⟩
set_option maxRecDepth 65536 in
set_option maxHeartbeats 40000000 in
theorem own_make (l : Launch) (Z : State) (a0 : Array Value) (hw : ∀ d ∈ tables_1, d.before a0 Z = true) (ws : List Jvm.Cond) (a : Addr) (ln zc : Int32) (f : Nat → Int32) (h0 : Heap) (n0 : Nat) (Z0 : n0 ≤ h0.size) (Aa : own_A Z h0 a .char 7 (fun i => .int (f i))) (hf : ∀ i, i < 7 → 0 ≤ (f i).toInt ∧ (f i).toInt ≤ 255) (hl : 0 ≤ ln.toInt ∧ ln.toInt ≤ 7) (hzc : ¬ zc = (0 : Int32)) (S_cs : Sta Z h0 "java/lang/String" "COMPACT_STRINGS" "Z" (.int zc)) (hkp : ∀ (b : Addr) (cl : Cell), Z.heap[b]? = some cl → h0[b]? = some cl) (hh7 : Jvm.Lit.constHeld Z "java/lang/String" 7) (hcw : Jvm.Lit.compactW.before a0 Z = true) :
    own_MetW l Z (⟨"com/example/tideline/tideline/TokenTypeOfPinLaw", "make", "([CI)Ljava/lang/String;"⟩ : MethodName) method_2_code 2 (some (.object "java/lang/String")) ws ({ frames := 4, cells := 4, slots := 18, locals := 66 } : Room) #[(.ref a), (.int ln)] h0 (fun vm => own_LS Z h0 vm own_K0) ((fun v h L vm => ∃ x t : Addr, v = some (.ref x) ∧ Fr n0 L ∧ Keep h0 h [] ∧ own_Lat Z h x t ln.toInt.toNat f ∧ own_LS Z h vm own_K0), (["", "access", "refresh"] : List String)) := by
  refine own_bodyW own_pn7 (fun m => mkF m 0 #[rv a, iv ln] []) (fun m => own_ef_own_make m a ln) ?_
  intro p e s m below meth c T0 hx hby hml hlk hrt hZ hown hnm X0 e0 LS0 SH0
  have hown : s.vm.findClass "com/example/tideline/tideline/TokenTypeOfPinLaw" = some m.cls := hown
  have N0 := Fr.nil n0
  refine own_g (own_F T0 m 1 #[rv a, iv ln] [(.int ln)]) (fun _ z_ => XS.iloadN X0.here hx rfl (hb hby own_d1_0) rfl z_) ?_
  by_cases c1 : ln = (0 : Int32)
  · -- pc 1: ln = (0 : Int32)
   refine own_g (own_F T0 m 4 #[rv a, iv ln] []) (fun _ z_ => XS.ifNo X0.here hx rfl (hb hby own_d1_1) rfl ((if0 _ _).trans (teq c1).2) z_) ?_
   obtain ⟨T1, h1, X1, e1, E1, A1, D1, -, st1⟩ := newO X0 hx hZ hown (own_w hw 5) (own_w hw 6) (own_w hw 7) e0 (g := (mkF m 4 #[rv a, iv ln] [])) rfl (hb hby own_d1_4) (by decide) (by decide)
   obtain ⟨b1, g1⟩ : ∃ z, z = h0.size := ⟨_, rfl⟩
   rw [← g1] at A1 D1 st1
   have sz_b1 : h0.size ≤ b1 := Nat.le_trans (Nat.le_refl h0.size) (Nat.le_of_eq g1.symm)
   have ge_b1 : n0 ≤ b1 := Nat.le_trans Z0 (Nat.le_of_eq g1.symm)
   have ne_a_b1 : a ≠ b1 := Nat.ne_of_lt (Nat.lt_of_lt_of_le Aa.lt (Nat.le_of_eq g1.symm))
   have F1_value : Fld Z h1 b1 "java/lang/String" "value" "[B" .null := D1 (Or.inr (own_w hw 20)) (ty := (.array .byte)) (by decide)
   have F1_coder : Fld Z h1 b1 "java/lang/String" "coder" "B" (.int 0) := D1 (Or.inr (own_w hw 21)) (ty := .byte) (by decide)
   refine own_pre (S' := (own_F T1 m 7 #[rv a, iv ln] [(.ref b1)])) st1 ?_
   refine own_g (own_F T1 m 8 #[rv a, iv ln] [(.ref b1), (.ref b1)]) (fun _ z_ => XS.dup X1.here hx rfl (hb hby own_d1_7) rfl rfl z_) ?_
   refine own_g (own_F T1 m 9 #[rv a, iv ln] [(.int 0), (.ref b1), (.ref b1)]) (fun _ z_ => XS.iconst X1.here hx rfl (hb hby own_d1_8) z_) ?_
   refine own_newA X1 hx hZ .char rfl (own_w hw 0) e1 (hb hby own_d1_9) 0 rfl 0 (by decide) (by decide) (by decide) (by decide) ?_
   intro T2 h2 b2 X2 e2 E2 g2 A2
   have sz_b2 : h0.size ≤ b2 := Nat.le_trans (Nat.le_trans (Nat.le_refl h0.size) E1.1) (Nat.le_of_eq g2.symm)
   have ge_b2 : n0 ≤ b2 := Nat.le_trans (Nat.le_trans Z0 E1.1) (Nat.le_of_eq g2.symm)
   have ne_a_b2 : a ≠ b2 := Nat.ne_of_lt (Nat.lt_of_lt_of_le (Aa.ext E1).lt (Nat.le_of_eq g2.symm))
   have ne_b1_b2 : b1 ≠ b2 := Nat.ne_of_lt (Nat.lt_of_lt_of_le F1_value.lt (Nat.le_of_eq g2.symm))
   have A2 : own_A Z h2 b2 .char 0 (fun q_ => .int ((fun _ => (0 : Int32)) q_)) := A2
   show own_Ends p e below s _ _ _ (own_F T2 m 11 #[rv a, iv ln] [(.ref b2), (.ref b1), (.ref b1)])
   refine own_callI (y := (⟨"java/lang/String", "<init>", "([C)V"⟩ : MethodName)) (b := b1) X2 hx hZ hown rfl (own_w hw 8) (own_w hw 9) (own_w hw 10) (own_w hw 7) (by decide) e2 (hM := own_sie l Z a0 hw [] b1 b2 f (fun _ => (0 : Int32)) h2 n0 (Nat.le_trans (Nat.le_trans Z0 E1.1) E2.1) A2 (A1.ext E2) (F1_value.ext E2) (F1_coder.ext E2)  ge_b1 (fun b_ c_ q_ => ((((Keep.refl _ _).ext E1).ext E2)).2.1 b_ c_ (hkp b_ c_ q_) nin0) hh7 hcw) (hv := fun _ hq_ => own_LS.warm (LS0.keep (((Keep.refl _ _).ext E1).ext E2)) hq_) (hsub := fun _ z_ => z_) (W := 1) (pc := 11) (Ls := #[rv a, iv ln]) (argsL := [(.ref b2)]) (rest := [(.ref b1)]) (st0 := [(.ref b2), (.ref b1), (.ref b1)]) (by rw [hml]; rfl) (lenOf own_pd5 rfl) rfl (Nat.le_of_eq rfl) (hb hby own_d1_11) (by decide) (by decide) (by decide) (by decide) ?_
   intro v3 T3 L3 s X3 hZ hown hI3 hvm3 hhp3 hWw3 hQ3
   have SH3 : s.heap = h0 := hhp3.trans SH0
   obtain ⟨rfl, Nq3, K3, ⟨t3, La3⟩, LS3⟩ := hQ3
   have N3 := Fr.app N0 Nq3
   show own_Ends p e below s _ _ _ (own_F T3 m 14 #[rv a, iv ln] [(.ref b1)])
   refine own_ret (t := (.object "java/lang/String")) X3 hx hlk hrt rfl (Or.inr (Or.inr (Or.inr (Or.inr ⟨rfl, rfl, rfl⟩)))) (hb hby own_d1_14) (by decide) (by decide) ?_
   have hln : 0 = ln.toInt.toNat := (by rw [c1]; rfl)
   exact ⟨b1, t3, rfl, N3, ((((Keep.refl _ _).ext E1).ext E2).trans K3 (allS (Or.inr sz_b1) all0)), La3.congr hln (fun i hi => absurd hi (Nat.not_lt_zero i)), own_LS.warm (own_LS.ofvm LS3 hvm3) X3.warmed⟩
  · -- pc 1: not ln = (0 : Int32)
   refine own_g (own_F T0 m 15 #[rv a, iv ln] []) (fun _ z_ => XS.ifYes X0.here hx rfl (pc0 := 1) (pc' := 15) rfl (hb hby own_d1_1) rfl ((if0 _ _).trans (feq c1).2) (by decide) (by decide) z_) ?_
   refine own_g (own_F T0 m 16 #[rv a, iv ln] [(.int ln)]) (fun _ z_ => XS.iloadN X0.here hx rfl (hb hby own_d1_15) rfl z_) ?_
   refine own_g (own_F T0 m 17 #[rv a, iv ln] [(.int 1), (.int ln)]) (fun _ z_ => XS.iconst X0.here hx rfl (hb hby own_d1_16) z_) ?_
   by_cases c17 : ln = (1 : Int32)
   · -- pc 17: ln = (1 : Int32)
    refine own_g (own_F T0 m 20 #[rv a, iv ln] []) (fun _ z_ => XS.icmpNo X0.here hx rfl (hb hby own_d1_17) rfl (teq c17).2 z_) ?_
    obtain ⟨T4, h4, X4, e4, E4, A4, D4, -, st4⟩ := newO X0 hx hZ hown (own_w hw 5) (own_w hw 6) (own_w hw 7) e0 (g := (mkF m 20 #[rv a, iv ln] [])) rfl (hb hby own_d1_20) (by decide) (by decide)
    obtain ⟨b4, g4⟩ : ∃ z, z = h0.size := ⟨_, rfl⟩
    rw [← g4] at A4 D4 st4
    have sz_b4 : h0.size ≤ b4 := Nat.le_trans (Nat.le_refl h0.size) (Nat.le_of_eq g4.symm)
    have ge_b4 : n0 ≤ b4 := Nat.le_trans Z0 (Nat.le_of_eq g4.symm)
    have ne_a_b4 : a ≠ b4 := Nat.ne_of_lt (Nat.lt_of_lt_of_le Aa.lt (Nat.le_of_eq g4.symm))
    have F4_value : Fld Z h4 b4 "java/lang/String" "value" "[B" .null := D4 (Or.inr (own_w hw 20)) (ty := (.array .byte)) (by decide)
    have F4_coder : Fld Z h4 b4 "java/lang/String" "coder" "B" (.int 0) := D4 (Or.inr (own_w hw 21)) (ty := .byte) (by decide)
    refine own_pre (S' := (own_F T4 m 23 #[rv a, iv ln] [(.ref b4)])) st4 ?_
    refine own_g (own_F T4 m 24 #[rv a, iv ln] [(.ref b4), (.ref b4)]) (fun _ z_ => XS.dup X4.here hx rfl (hb hby own_d1_23) rfl rfl z_) ?_
    refine own_g (own_F T4 m 25 #[rv a, iv ln] [(.int 1), (.ref b4), (.ref b4)]) (fun _ z_ => XS.iconst X4.here hx rfl (hb hby own_d1_24) z_) ?_
    refine own_newA X4 hx hZ .char rfl (own_w hw 0) e4 (hb hby own_d1_25) 1 rfl 1 (by decide) (by decide) (by decide) (by decide) ?_
    intro T5 h5 b5 X5 e5 E5 g5 A5
    have sz_b5 : h0.size ≤ b5 := Nat.le_trans (Nat.le_trans (Nat.le_refl h0.size) E4.1) (Nat.le_of_eq g5.symm)
    have ge_b5 : n0 ≤ b5 := Nat.le_trans (Nat.le_trans Z0 E4.1) (Nat.le_of_eq g5.symm)
    have ne_a_b5 : a ≠ b5 := Nat.ne_of_lt (Nat.lt_of_lt_of_le (Aa.ext E4).lt (Nat.le_of_eq g5.symm))
    have ne_b4_b5 : b4 ≠ b5 := Nat.ne_of_lt (Nat.lt_of_lt_of_le F4_value.lt (Nat.le_of_eq g5.symm))
    have A5 : own_A Z h5 b5 .char 1 (fun q_ => .int ((fun _ => (0 : Int32)) q_)) := A5
    show own_Ends p e below s _ _ _ (own_F T5 m 27 #[rv a, iv ln] [(.ref b5), (.ref b4), (.ref b4)])
    refine own_g (own_F T5 m 28 #[rv a, iv ln] [(.ref b5), (.ref b5), (.ref b4), (.ref b4)]) (fun _ z_ => XS.dup X5.here hx rfl (hb hby own_d1_27) rfl rfl z_) ?_
    refine own_g (own_F T5 m 29 #[rv a, iv ln] [(.int 0), (.ref b5), (.ref b5), (.ref b4), (.ref b4)]) (fun _ z_ => XS.iconst X5.here hx rfl (hb hby own_d1_28) z_) ?_
    refine own_g (own_F T5 m 30 #[rv a, iv ln] [(.ref a), (.int 0), (.ref b5), (.ref b5), (.ref b4), (.ref b4)]) (fun _ z_ => XS.aloadN X5.here hx rfl (hb hby own_d1_29) rfl rfl z_) ?_
    refine own_g (own_F T5 m 31 #[rv a, iv ln] [(.int 0), (.ref a), (.int 0), (.ref b5), (.ref b5), (.ref b4), (.ref b4)]) (fun _ z_ => XS.iconst X5.here hx rfl (hb hby own_d1_30) z_) ?_
    refine own_cald X5 hx hZ e5 ((Aa.ext E4).ext E5) 0 rfl (by decide) (hb hby own_d1_31) ?_
    show own_Ends p e below s _ _ _ (own_F T5 m 32 #[rv a, iv ln] [(.int (f 0)), (.int 0), (.ref b5), (.ref b5), (.ref b4), (.ref b4)])
    refine own_cast X5 hx hZ e5 A5 0 rfl (by decide) (f 0) (own_narC (by have := hf 0 (by decide); omega)) (hb hby own_d1_32) ?_
    intro T6 h6 X6 e6 W6 A6
    have N6 := Fr.snoc X6 N0 ge_b5
    obtain ⟨g6, A6, q6_0⟩ : ∃ gq_ : Nat → Int32, own_A Z h6 b5 .char 1 (fun q_ => .int (gq_ q_)) ∧ gq_ 0 = (f 0) := ⟨_, A6, rfl⟩
    show own_Ends p e below s _ _ _ (own_F T6 m 33 #[rv a, iv ln] [(.ref b5), (.ref b4), (.ref b4)])
    have hgf : ∀ i, i < 1 → g6 i = f i := fun i hi => by rcases own_lt1 hi with rfl; exact q6_0
    refine own_callI (y := (⟨"java/lang/String", "<init>", "([C)V"⟩ : MethodName)) (b := b4) X6 hx hZ hown rfl (own_w hw 8) (own_w hw 9) (own_w hw 10) (own_w hw 7) (by decide) e6 (hM := own_si l Z a0 hw [] b4 b5 1 1 zc g6 h6 n0 (Nat.le_trans (Nat.le_trans (Nat.le_trans Z0 E4.1) E5.1) (Nat.le_of_eq W6.size.symm)) rfl (by decide) (by decide) (by decide) hzc A6 (fun i hi => by rw [hgf i hi]; exact hf i (by omega)) ((A4.ext E5).wr W6) ((F4_value.ext E5).other W6 (Or.inl ne_b4_b5)) ((F4_coder.ext E5).other W6 (Or.inl ne_b4_b5))  (((S_cs.ext E4).ext E5).wr W6) ge_b4 ne_b4_b5) (W := 1) (pc := 33) (Ls := #[rv a, iv ln]) (argsL := [(.ref b5)]) (rest := [(.ref b4)]) (st0 := [(.ref b5), (.ref b4), (.ref b4)]) (by rw [hml]; rfl) (lenOf own_pd5 rfl) rfl (Nat.le_of_eq rfl) (hb hby own_d1_33) (by decide) (by decide) (by decide) (by decide) ?_
    intro v7 T7 L7 s X7 hZ hown hI7 hvm7 hhp7 hWw7 hQ7
    have SH7 : s.heap = h0 := hhp7.trans SH0
    obtain ⟨rfl, Nq7, K7, t7, La7, -⟩ := hQ7
    have N7 := Fr.app N6 Nq7
    show own_Ends p e below s _ _ _ (own_F T7 m 36 #[rv a, iv ln] [(.ref b4)])
    have LS7 := own_LS.step LS0 hI7 hWw7
    refine own_ret (t := (.object "java/lang/String")) X7 hx hlk hrt rfl (Or.inr (Or.inr (Or.inr (Or.inr ⟨rfl, rfl, rfl⟩)))) (hb hby own_d1_36) (by decide) (by decide) ?_
    have hln : 1 = ln.toInt.toNat := (by rw [c17]; rfl)
    exact ⟨b4, t7, rfl, N7, (((((Keep.refl _ _).ext E4).ext E5).wr W6 (Or.inr sz_b5)).trans K7 (allS (Or.inr sz_b4) all0)), La7.congr hln hgf, own_LS.warm (LS7.keep (((((Keep.refl _ _).ext E4).ext E5).wr W6 (Or.inr sz_b5)).trans K7 (allS (Or.inr sz_b4) all0))) X7.warmed⟩
   · -- pc 17: not ln = (1 : Int32)
    refine own_g (own_F T0 m 37 #[rv a, iv ln] []) (fun _ z_ => XS.icmpYes X0.here hx rfl (pc0 := 17) (pc' := 37) rfl (hb hby own_d1_17) rfl (feq c17).2 (by decide) (by decide) z_) ?_
    refine own_g (own_F T0 m 38 #[rv a, iv ln] [(.int ln)]) (fun _ z_ => XS.iloadN X0.here hx rfl (hb hby own_d1_37) rfl z_) ?_
    refine own_g (own_F T0 m 39 #[rv a, iv ln] [(.int 2), (.int ln)]) (fun _ z_ => XS.iconst X0.here hx rfl (hb hby own_d1_38) z_) ?_
    by_cases c39 : ln = (2 : Int32)
    · -- pc 39: ln = (2 : Int32)
     refine own_g (own_F T0 m 42 #[rv a, iv ln] []) (fun _ z_ => XS.icmpNo X0.here hx rfl (hb hby own_d1_39) rfl (teq c39).2 z_) ?_
     obtain ⟨T8, h8, X8, e8, E8, A8, D8, -, st8⟩ := newO X0 hx hZ hown (own_w hw 5) (own_w hw 6) (own_w hw 7) e0 (g := (mkF m 42 #[rv a, iv ln] [])) rfl (hb hby own_d1_42) (by decide) (by decide)
     obtain ⟨b8, g8⟩ : ∃ z, z = h0.size := ⟨_, rfl⟩
     rw [← g8] at A8 D8 st8
     have sz_b8 : h0.size ≤ b8 := Nat.le_trans (Nat.le_refl h0.size) (Nat.le_of_eq g8.symm)
     have ge_b8 : n0 ≤ b8 := Nat.le_trans Z0 (Nat.le_of_eq g8.symm)
     have ne_a_b8 : a ≠ b8 := Nat.ne_of_lt (Nat.lt_of_lt_of_le Aa.lt (Nat.le_of_eq g8.symm))
     have F8_value : Fld Z h8 b8 "java/lang/String" "value" "[B" .null := D8 (Or.inr (own_w hw 20)) (ty := (.array .byte)) (by decide)
     have F8_coder : Fld Z h8 b8 "java/lang/String" "coder" "B" (.int 0) := D8 (Or.inr (own_w hw 21)) (ty := .byte) (by decide)
     refine own_pre (S' := (own_F T8 m 45 #[rv a, iv ln] [(.ref b8)])) st8 ?_
     refine own_g (own_F T8 m 46 #[rv a, iv ln] [(.ref b8), (.ref b8)]) (fun _ z_ => XS.dup X8.here hx rfl (hb hby own_d1_45) rfl rfl z_) ?_
     refine own_g (own_F T8 m 47 #[rv a, iv ln] [(.int 2), (.ref b8), (.ref b8)]) (fun _ z_ => XS.iconst X8.here hx rfl (hb hby own_d1_46) z_) ?_
     refine own_newA X8 hx hZ .char rfl (own_w hw 0) e8 (hb hby own_d1_47) 2 rfl 2 (by decide) (by decide) (by decide) (by decide) ?_
     intro T9 h9 b9 X9 e9 E9 g9 A9
     have sz_b9 : h0.size ≤ b9 := Nat.le_trans (Nat.le_trans (Nat.le_refl h0.size) E8.1) (Nat.le_of_eq g9.symm)
     have ge_b9 : n0 ≤ b9 := Nat.le_trans (Nat.le_trans Z0 E8.1) (Nat.le_of_eq g9.symm)
     have ne_a_b9 : a ≠ b9 := Nat.ne_of_lt (Nat.lt_of_lt_of_le (Aa.ext E8).lt (Nat.le_of_eq g9.symm))
     have ne_b8_b9 : b8 ≠ b9 := Nat.ne_of_lt (Nat.lt_of_lt_of_le F8_value.lt (Nat.le_of_eq g9.symm))
     have A9 : own_A Z h9 b9 .char 2 (fun q_ => .int ((fun _ => (0 : Int32)) q_)) := A9
     show own_Ends p e below s _ _ _ (own_F T9 m 49 #[rv a, iv ln] [(.ref b9), (.ref b8), (.ref b8)])
     refine own_g (own_F T9 m 50 #[rv a, iv ln] [(.ref b9), (.ref b9), (.ref b8), (.ref b8)]) (fun _ z_ => XS.dup X9.here hx rfl (hb hby own_d1_49) rfl rfl z_) ?_
     refine own_g (own_F T9 m 51 #[rv a, iv ln] [(.int 0), (.ref b9), (.ref b9), (.ref b8), (.ref b8)]) (fun _ z_ => XS.iconst X9.here hx rfl (hb hby own_d1_50) z_) ?_
     refine own_g (own_F T9 m 52 #[rv a, iv ln] [(.ref a), (.int 0), (.ref b9), (.ref b9), (.ref b8), (.ref b8)]) (fun _ z_ => XS.aloadN X9.here hx rfl (hb hby own_d1_51) rfl rfl z_) ?_
     refine own_g (own_F T9 m 53 #[rv a, iv ln] [(.int 0), (.ref a), (.int 0), (.ref b9), (.ref b9), (.ref b8), (.ref b8)]) (fun _ z_ => XS.iconst X9.here hx rfl (hb hby own_d1_52) z_) ?_
     refine own_cald X9 hx hZ e9 ((Aa.ext E8).ext E9) 0 rfl (by decide) (hb hby own_d1_53) ?_
     show own_Ends p e below s _ _ _ (own_F T9 m 54 #[rv a, iv ln] [(.int (f 0)), (.int 0), (.ref b9), (.ref b9), (.ref b8), (.ref b8)])
     refine own_cast X9 hx hZ e9 A9 0 rfl (by decide) (f 0) (own_narC (by have := hf 0 (by decide); omega)) (hb hby own_d1_54) ?_
     intro T10 h10 X10 e10 W10 A10
     have N10 := Fr.snoc X10 N0 ge_b9
     obtain ⟨g10, A10, q10_0, q10_1⟩ : ∃ gq_ : Nat → Int32, own_A Z h10 b9 .char 2 (fun q_ => .int (gq_ q_)) ∧ gq_ 0 = (f 0) ∧ gq_ 1 = (0 : Int32) := ⟨_, A10, rfl, (show ite _ _ _ = _ from (if_neg (by decide)).trans rfl)⟩
     show own_Ends p e below s _ _ _ (own_F T10 m 55 #[rv a, iv ln] [(.ref b9), (.ref b8), (.ref b8)])
     refine own_g (own_F T10 m 56 #[rv a, iv ln] [(.ref b9), (.ref b9), (.ref b8), (.ref b8)]) (fun _ z_ => XS.dup X10.here hx rfl (hb hby own_d1_55) rfl rfl z_) ?_
     refine own_g (own_F T10 m 57 #[rv a, iv ln] [(.int 1), (.ref b9), (.ref b9), (.ref b8), (.ref b8)]) (fun _ z_ => XS.iconst X10.here hx rfl (hb hby own_d1_56) z_) ?_
     refine own_g (own_F T10 m 58 #[rv a, iv ln] [(.ref a), (.int 1), (.ref b9), (.ref b9), (.ref b8), (.ref b8)]) (fun _ z_ => XS.aloadN X10.here hx rfl (hb hby own_d1_57) rfl rfl z_) ?_
     refine own_g (own_F T10 m 59 #[rv a, iv ln] [(.int 1), (.ref a), (.int 1), (.ref b9), (.ref b9), (.ref b8), (.ref b8)]) (fun _ z_ => XS.iconst X10.here hx rfl (hb hby own_d1_58) z_) ?_
     refine own_cald X10 hx hZ e10 (((Aa.ext E8).ext E9).other W10 ne_a_b9) 1 rfl (by decide) (hb hby own_d1_59) ?_
     show own_Ends p e below s _ _ _ (own_F T10 m 60 #[rv a, iv ln] [(.int (f 1)), (.int 1), (.ref b9), (.ref b9), (.ref b8), (.ref b8)])
     refine own_cast X10 hx hZ e10 A10 1 rfl (by decide) (f 1) (own_narC (by have := hf 1 (by decide); omega)) (hb hby own_d1_60) ?_
     intro T11 h11 X11 e11 W11 A11
     have N11 := Fr.snoc X11 N10 ge_b9
     obtain ⟨g11, A11, q11_0, q11_1⟩ : ∃ gq_ : Nat → Int32, own_A Z h11 b9 .char 2 (fun q_ => .int (gq_ q_)) ∧ gq_ 0 = (f 0) ∧ gq_ 1 = (f 1) := ⟨_, A11, (show ite _ _ _ = _ from (if_neg (by decide)).trans q10_0), rfl⟩
     show own_Ends p e below s _ _ _ (own_F T11 m 61 #[rv a, iv ln] [(.ref b9), (.ref b8), (.ref b8)])
     have hgf : ∀ i, i < 2 → g11 i = f i := fun i hi => by rcases own_lt2 hi with rfl | rfl; exact q11_0; exact q11_1
     refine own_callI (y := (⟨"java/lang/String", "<init>", "([C)V"⟩ : MethodName)) (b := b8) X11 hx hZ hown rfl (own_w hw 8) (own_w hw 9) (own_w hw 10) (own_w hw 7) (by decide) e11 (hM := own_si l Z a0 hw [] b8 b9 2 2 zc g11 h11 n0 (Nat.le_trans (Nat.le_trans (Nat.le_trans (Nat.le_trans Z0 E8.1) E9.1) (Nat.le_of_eq W10.size.symm)) (Nat.le_of_eq W11.size.symm)) rfl (by decide) (by decide) (by decide) hzc A11 (fun i hi => by rw [hgf i hi]; exact hf i (by omega)) (((A8.ext E9).wr W10).wr W11) (((F8_value.ext E9).other W10 (Or.inl ne_b8_b9)).other W11 (Or.inl ne_b8_b9)) (((F8_coder.ext E9).other W10 (Or.inl ne_b8_b9)).other W11 (Or.inl ne_b8_b9))  ((((S_cs.ext E8).ext E9).wr W10).wr W11) ge_b8 ne_b8_b9) (W := 1) (pc := 61) (Ls := #[rv a, iv ln]) (argsL := [(.ref b9)]) (rest := [(.ref b8)]) (st0 := [(.ref b9), (.ref b8), (.ref b8)]) (by rw [hml]; rfl) (lenOf own_pd5 rfl) rfl (Nat.le_of_eq rfl) (hb hby own_d1_61) (by decide) (by decide) (by decide) (by decide) ?_
     intro v12 T12 L12 s X12 hZ hown hI12 hvm12 hhp12 hWw12 hQ12
     have SH12 : s.heap = h0 := hhp12.trans SH0
     obtain ⟨rfl, Nq12, K12, t12, La12, -⟩ := hQ12
     have N12 := Fr.app N11 Nq12
     show own_Ends p e below s _ _ _ (own_F T12 m 64 #[rv a, iv ln] [(.ref b8)])
     have LS12 := own_LS.step LS0 hI12 hWw12
     refine own_ret (t := (.object "java/lang/String")) X12 hx hlk hrt rfl (Or.inr (Or.inr (Or.inr (Or.inr ⟨rfl, rfl, rfl⟩)))) (hb hby own_d1_64) (by decide) (by decide) ?_
     have hln : 2 = ln.toInt.toNat := (by rw [c39]; rfl)
     exact ⟨b8, t12, rfl, N12, ((((((Keep.refl _ _).ext E8).ext E9).wr W10 (Or.inr sz_b9)).wr W11 (Or.inr sz_b9)).trans K12 (allS (Or.inr sz_b8) all0)), La12.congr hln hgf, own_LS.warm (LS12.keep ((((((Keep.refl _ _).ext E8).ext E9).wr W10 (Or.inr sz_b9)).wr W11 (Or.inr sz_b9)).trans K12 (allS (Or.inr sz_b8) all0))) X12.warmed⟩
    · -- pc 39: not ln = (2 : Int32)
     refine own_g (own_F T0 m 65 #[rv a, iv ln] []) (fun _ z_ => XS.icmpYes X0.here hx rfl (pc0 := 39) (pc' := 65) rfl (hb hby own_d1_39) rfl (feq c39).2 (by decide) (by decide) z_) ?_
     refine own_g (own_F T0 m 66 #[rv a, iv ln] [(.int ln)]) (fun _ z_ => XS.iloadN X0.here hx rfl (hb hby own_d1_65) rfl z_) ?_
     refine own_g (own_F T0 m 67 #[rv a, iv ln] [(.int 3), (.int ln)]) (fun _ z_ => XS.iconst X0.here hx rfl (hb hby own_d1_66) z_) ?_
     by_cases c67 : ln = (3 : Int32)
     · -- pc 67: ln = (3 : Int32)
      refine own_g (own_F T0 m 70 #[rv a, iv ln] []) (fun _ z_ => XS.icmpNo X0.here hx rfl (hb hby own_d1_67) rfl (teq c67).2 z_) ?_
      obtain ⟨T13, h13, X13, e13, E13, A13, D13, -, st13⟩ := newO X0 hx hZ hown (own_w hw 5) (own_w hw 6) (own_w hw 7) e0 (g := (mkF m 70 #[rv a, iv ln] [])) rfl (hb hby own_d1_70) (by decide) (by decide)
      obtain ⟨b13, g13⟩ : ∃ z, z = h0.size := ⟨_, rfl⟩
      rw [← g13] at A13 D13 st13
      have sz_b13 : h0.size ≤ b13 := Nat.le_trans (Nat.le_refl h0.size) (Nat.le_of_eq g13.symm)
      have ge_b13 : n0 ≤ b13 := Nat.le_trans Z0 (Nat.le_of_eq g13.symm)
      have ne_a_b13 : a ≠ b13 := Nat.ne_of_lt (Nat.lt_of_lt_of_le Aa.lt (Nat.le_of_eq g13.symm))
      have F13_value : Fld Z h13 b13 "java/lang/String" "value" "[B" .null := D13 (Or.inr (own_w hw 20)) (ty := (.array .byte)) (by decide)
      have F13_coder : Fld Z h13 b13 "java/lang/String" "coder" "B" (.int 0) := D13 (Or.inr (own_w hw 21)) (ty := .byte) (by decide)
      refine own_pre (S' := (own_F T13 m 73 #[rv a, iv ln] [(.ref b13)])) st13 ?_
      refine own_g (own_F T13 m 74 #[rv a, iv ln] [(.ref b13), (.ref b13)]) (fun _ z_ => XS.dup X13.here hx rfl (hb hby own_d1_73) rfl rfl z_) ?_
      refine own_g (own_F T13 m 75 #[rv a, iv ln] [(.int 3), (.ref b13), (.ref b13)]) (fun _ z_ => XS.iconst X13.here hx rfl (hb hby own_d1_74) z_) ?_
      refine own_newA X13 hx hZ .char rfl (own_w hw 0) e13 (hb hby own_d1_75) 3 rfl 3 (by decide) (by decide) (by decide) (by decide) ?_
      intro T14 h14 b14 X14 e14 E14 g14 A14
      have sz_b14 : h0.size ≤ b14 := Nat.le_trans (Nat.le_trans (Nat.le_refl h0.size) E13.1) (Nat.le_of_eq g14.symm)
      have ge_b14 : n0 ≤ b14 := Nat.le_trans (Nat.le_trans Z0 E13.1) (Nat.le_of_eq g14.symm)
      have ne_a_b14 : a ≠ b14 := Nat.ne_of_lt (Nat.lt_of_lt_of_le (Aa.ext E13).lt (Nat.le_of_eq g14.symm))
      have ne_b13_b14 : b13 ≠ b14 := Nat.ne_of_lt (Nat.lt_of_lt_of_le F13_value.lt (Nat.le_of_eq g14.symm))
      have A14 : own_A Z h14 b14 .char 3 (fun q_ => .int ((fun _ => (0 : Int32)) q_)) := A14
      show own_Ends p e below s _ _ _ (own_F T14 m 77 #[rv a, iv ln] [(.ref b14), (.ref b13), (.ref b13)])
      refine own_g (own_F T14 m 78 #[rv a, iv ln] [(.ref b14), (.ref b14), (.ref b13), (.ref b13)]) (fun _ z_ => XS.dup X14.here hx rfl (hb hby own_d1_77) rfl rfl z_) ?_
      refine own_g (own_F T14 m 79 #[rv a, iv ln] [(.int 0), (.ref b14), (.ref b14), (.ref b13), (.ref b13)]) (fun _ z_ => XS.iconst X14.here hx rfl (hb hby own_d1_78) z_) ?_
      refine own_g (own_F T14 m 80 #[rv a, iv ln] [(.ref a), (.int 0), (.ref b14), (.ref b14), (.ref b13), (.ref b13)]) (fun _ z_ => XS.aloadN X14.here hx rfl (hb hby own_d1_79) rfl rfl z_) ?_
      refine own_g (own_F T14 m 81 #[rv a, iv ln] [(.int 0), (.ref a), (.int 0), (.ref b14), (.ref b14), (.ref b13), (.ref b13)]) (fun _ z_ => XS.iconst X14.here hx rfl (hb hby own_d1_80) z_) ?_
      refine own_cald X14 hx hZ e14 ((Aa.ext E13).ext E14) 0 rfl (by decide) (hb hby own_d1_81) ?_
      show own_Ends p e below s _ _ _ (own_F T14 m 82 #[rv a, iv ln] [(.int (f 0)), (.int 0), (.ref b14), (.ref b14), (.ref b13), (.ref b13)])
      refine own_cast X14 hx hZ e14 A14 0 rfl (by decide) (f 0) (own_narC (by have := hf 0 (by decide); omega)) (hb hby own_d1_82) ?_
      intro T15 h15 X15 e15 W15 A15
      have N15 := Fr.snoc X15 N0 ge_b14
      obtain ⟨g15, A15, q15_0, q15_1, q15_2⟩ : ∃ gq_ : Nat → Int32, own_A Z h15 b14 .char 3 (fun q_ => .int (gq_ q_)) ∧ gq_ 0 = (f 0) ∧ gq_ 1 = (0 : Int32) ∧ gq_ 2 = (0 : Int32) := ⟨_, A15, rfl, (show ite _ _ _ = _ from (if_neg (by decide)).trans rfl), (show ite _ _ _ = _ from (if_neg (by decide)).trans rfl)⟩
      show own_Ends p e below s _ _ _ (own_F T15 m 83 #[rv a, iv ln] [(.ref b14), (.ref b13), (.ref b13)])
      refine own_g (own_F T15 m 84 #[rv a, iv ln] [(.ref b14), (.ref b14), (.ref b13), (.ref b13)]) (fun _ z_ => XS.dup X15.here hx rfl (hb hby own_d1_83) rfl rfl z_) ?_
      refine own_g (own_F T15 m 85 #[rv a, iv ln] [(.int 1), (.ref b14), (.ref b14), (.ref b13), (.ref b13)]) (fun _ z_ => XS.iconst X15.here hx rfl (hb hby own_d1_84) z_) ?_
      refine own_g (own_F T15 m 86 #[rv a, iv ln] [(.ref a), (.int 1), (.ref b14), (.ref b14), (.ref b13), (.ref b13)]) (fun _ z_ => XS.aloadN X15.here hx rfl (hb hby own_d1_85) rfl rfl z_) ?_
      refine own_g (own_F T15 m 87 #[rv a, iv ln] [(.int 1), (.ref a), (.int 1), (.ref b14), (.ref b14), (.ref b13), (.ref b13)]) (fun _ z_ => XS.iconst X15.here hx rfl (hb hby own_d1_86) z_) ?_
      refine own_cald X15 hx hZ e15 (((Aa.ext E13).ext E14).other W15 ne_a_b14) 1 rfl (by decide) (hb hby own_d1_87) ?_
      show own_Ends p e below s _ _ _ (own_F T15 m 88 #[rv a, iv ln] [(.int (f 1)), (.int 1), (.ref b14), (.ref b14), (.ref b13), (.ref b13)])
      refine own_cast X15 hx hZ e15 A15 1 rfl (by decide) (f 1) (own_narC (by have := hf 1 (by decide); omega)) (hb hby own_d1_88) ?_
      intro T16 h16 X16 e16 W16 A16
      have N16 := Fr.snoc X16 N15 ge_b14
      obtain ⟨g16, A16, q16_0, q16_1, q16_2⟩ : ∃ gq_ : Nat → Int32, own_A Z h16 b14 .char 3 (fun q_ => .int (gq_ q_)) ∧ gq_ 0 = (f 0) ∧ gq_ 1 = (f 1) ∧ gq_ 2 = (0 : Int32) := ⟨_, A16, (show ite _ _ _ = _ from (if_neg (by decide)).trans q15_0), rfl, (show ite _ _ _ = _ from (if_neg (by decide)).trans q15_2)⟩
      show own_Ends p e below s _ _ _ (own_F T16 m 89 #[rv a, iv ln] [(.ref b14), (.ref b13), (.ref b13)])
      refine own_g (own_F T16 m 90 #[rv a, iv ln] [(.ref b14), (.ref b14), (.ref b13), (.ref b13)]) (fun _ z_ => XS.dup X16.here hx rfl (hb hby own_d1_89) rfl rfl z_) ?_
      refine own_g (own_F T16 m 91 #[rv a, iv ln] [(.int 2), (.ref b14), (.ref b14), (.ref b13), (.ref b13)]) (fun _ z_ => XS.iconst X16.here hx rfl (hb hby own_d1_90) z_) ?_
      refine own_g (own_F T16 m 92 #[rv a, iv ln] [(.ref a), (.int 2), (.ref b14), (.ref b14), (.ref b13), (.ref b13)]) (fun _ z_ => XS.aloadN X16.here hx rfl (hb hby own_d1_91) rfl rfl z_) ?_
      refine own_g (own_F T16 m 93 #[rv a, iv ln] [(.int 2), (.ref a), (.int 2), (.ref b14), (.ref b14), (.ref b13), (.ref b13)]) (fun _ z_ => XS.iconst X16.here hx rfl (hb hby own_d1_92) z_) ?_
      refine own_cald X16 hx hZ e16 ((((Aa.ext E13).ext E14).other W15 ne_a_b14).other W16 ne_a_b14) 2 rfl (by decide) (hb hby own_d1_93) ?_
      show own_Ends p e below s _ _ _ (own_F T16 m 94 #[rv a, iv ln] [(.int (f 2)), (.int 2), (.ref b14), (.ref b14), (.ref b13), (.ref b13)])
      refine own_cast X16 hx hZ e16 A16 2 rfl (by decide) (f 2) (own_narC (by have := hf 2 (by decide); omega)) (hb hby own_d1_94) ?_
      intro T17 h17 X17 e17 W17 A17
      have N17 := Fr.snoc X17 N16 ge_b14
      obtain ⟨g17, A17, q17_0, q17_1, q17_2⟩ : ∃ gq_ : Nat → Int32, own_A Z h17 b14 .char 3 (fun q_ => .int (gq_ q_)) ∧ gq_ 0 = (f 0) ∧ gq_ 1 = (f 1) ∧ gq_ 2 = (f 2) := ⟨_, A17, (show ite _ _ _ = _ from (if_neg (by decide)).trans q16_0), (show ite _ _ _ = _ from (if_neg (by decide)).trans q16_1), rfl⟩
      show own_Ends p e below s _ _ _ (own_F T17 m 95 #[rv a, iv ln] [(.ref b14), (.ref b13), (.ref b13)])
      have hgf : ∀ i, i < 3 → g17 i = f i := fun i hi => by rcases own_lt3 hi with rfl | rfl | rfl; exact q17_0; exact q17_1; exact q17_2
      refine own_callI (y := (⟨"java/lang/String", "<init>", "([C)V"⟩ : MethodName)) (b := b13) X17 hx hZ hown rfl (own_w hw 8) (own_w hw 9) (own_w hw 10) (own_w hw 7) (by decide) e17 (hM := own_si l Z a0 hw [] b13 b14 3 3 zc g17 h17 n0 (Nat.le_trans (Nat.le_trans (Nat.le_trans (Nat.le_trans (Nat.le_trans Z0 E13.1) E14.1) (Nat.le_of_eq W15.size.symm)) (Nat.le_of_eq W16.size.symm)) (Nat.le_of_eq W17.size.symm)) rfl (by decide) (by decide) (by decide) hzc A17 (fun i hi => by rw [hgf i hi]; exact hf i (by omega)) ((((A13.ext E14).wr W15).wr W16).wr W17) ((((F13_value.ext E14).other W15 (Or.inl ne_b13_b14)).other W16 (Or.inl ne_b13_b14)).other W17 (Or.inl ne_b13_b14)) ((((F13_coder.ext E14).other W15 (Or.inl ne_b13_b14)).other W16 (Or.inl ne_b13_b14)).other W17 (Or.inl ne_b13_b14))  (((((S_cs.ext E13).ext E14).wr W15).wr W16).wr W17) ge_b13 ne_b13_b14) (W := 1) (pc := 95) (Ls := #[rv a, iv ln]) (argsL := [(.ref b14)]) (rest := [(.ref b13)]) (st0 := [(.ref b14), (.ref b13), (.ref b13)]) (by rw [hml]; rfl) (lenOf own_pd5 rfl) rfl (Nat.le_of_eq rfl) (hb hby own_d1_95) (by decide) (by decide) (by decide) (by decide) ?_
      intro v18 T18 L18 s X18 hZ hown hI18 hvm18 hhp18 hWw18 hQ18
      have SH18 : s.heap = h0 := hhp18.trans SH0
      obtain ⟨rfl, Nq18, K18, t18, La18, -⟩ := hQ18
      have N18 := Fr.app N17 Nq18
      show own_Ends p e below s _ _ _ (own_F T18 m 98 #[rv a, iv ln] [(.ref b13)])
      have LS18 := own_LS.step LS0 hI18 hWw18
      refine own_ret (t := (.object "java/lang/String")) X18 hx hlk hrt rfl (Or.inr (Or.inr (Or.inr (Or.inr ⟨rfl, rfl, rfl⟩)))) (hb hby own_d1_98) (by decide) (by decide) ?_
      have hln : 3 = ln.toInt.toNat := (by rw [c67]; rfl)
      exact ⟨b13, t18, rfl, N18, (((((((Keep.refl _ _).ext E13).ext E14).wr W15 (Or.inr sz_b14)).wr W16 (Or.inr sz_b14)).wr W17 (Or.inr sz_b14)).trans K18 (allS (Or.inr sz_b13) all0)), La18.congr hln hgf, own_LS.warm (LS18.keep (((((((Keep.refl _ _).ext E13).ext E14).wr W15 (Or.inr sz_b14)).wr W16 (Or.inr sz_b14)).wr W17 (Or.inr sz_b14)).trans K18 (allS (Or.inr sz_b13) all0))) X18.warmed⟩
     · -- pc 67: not ln = (3 : Int32)
      refine own_g (own_F T0 m 99 #[rv a, iv ln] []) (fun _ z_ => XS.icmpYes X0.here hx rfl (pc0 := 67) (pc' := 99) rfl (hb hby own_d1_67) rfl (feq c67).2 (by decide) (by decide) z_) ?_
      refine own_g (own_F T0 m 100 #[rv a, iv ln] [(.int ln)]) (fun _ z_ => XS.iloadN X0.here hx rfl (hb hby own_d1_99) rfl z_) ?_
      refine own_g (own_F T0 m 101 #[rv a, iv ln] [(.int 4), (.int ln)]) (fun _ z_ => XS.iconst X0.here hx rfl (hb hby own_d1_100) z_) ?_
      by_cases c101 : ln = (4 : Int32)
      · -- pc 101: ln = (4 : Int32)
       refine own_g (own_F T0 m 104 #[rv a, iv ln] []) (fun _ z_ => XS.icmpNo X0.here hx rfl (hb hby own_d1_101) rfl (teq c101).2 z_) ?_
       obtain ⟨T19, h19, X19, e19, E19, A19, D19, -, st19⟩ := newO X0 hx hZ hown (own_w hw 5) (own_w hw 6) (own_w hw 7) e0 (g := (mkF m 104 #[rv a, iv ln] [])) rfl (hb hby own_d1_104) (by decide) (by decide)
       obtain ⟨b19, g19⟩ : ∃ z, z = h0.size := ⟨_, rfl⟩
       rw [← g19] at A19 D19 st19
       have sz_b19 : h0.size ≤ b19 := Nat.le_trans (Nat.le_refl h0.size) (Nat.le_of_eq g19.symm)
       have ge_b19 : n0 ≤ b19 := Nat.le_trans Z0 (Nat.le_of_eq g19.symm)
       have ne_a_b19 : a ≠ b19 := Nat.ne_of_lt (Nat.lt_of_lt_of_le Aa.lt (Nat.le_of_eq g19.symm))
       have F19_value : Fld Z h19 b19 "java/lang/String" "value" "[B" .null := D19 (Or.inr (own_w hw 20)) (ty := (.array .byte)) (by decide)
       have F19_coder : Fld Z h19 b19 "java/lang/String" "coder" "B" (.int 0) := D19 (Or.inr (own_w hw 21)) (ty := .byte) (by decide)
       refine own_pre (S' := (own_F T19 m 107 #[rv a, iv ln] [(.ref b19)])) st19 ?_
       refine own_g (own_F T19 m 108 #[rv a, iv ln] [(.ref b19), (.ref b19)]) (fun _ z_ => XS.dup X19.here hx rfl (hb hby own_d1_107) rfl rfl z_) ?_
       refine own_g (own_F T19 m 109 #[rv a, iv ln] [(.int 4), (.ref b19), (.ref b19)]) (fun _ z_ => XS.iconst X19.here hx rfl (hb hby own_d1_108) z_) ?_
       refine own_newA X19 hx hZ .char rfl (own_w hw 0) e19 (hb hby own_d1_109) 4 rfl 4 (by decide) (by decide) (by decide) (by decide) ?_
       intro T20 h20 b20 X20 e20 E20 g20 A20
       have sz_b20 : h0.size ≤ b20 := Nat.le_trans (Nat.le_trans (Nat.le_refl h0.size) E19.1) (Nat.le_of_eq g20.symm)
       have ge_b20 : n0 ≤ b20 := Nat.le_trans (Nat.le_trans Z0 E19.1) (Nat.le_of_eq g20.symm)
       have ne_a_b20 : a ≠ b20 := Nat.ne_of_lt (Nat.lt_of_lt_of_le (Aa.ext E19).lt (Nat.le_of_eq g20.symm))
       have ne_b19_b20 : b19 ≠ b20 := Nat.ne_of_lt (Nat.lt_of_lt_of_le F19_value.lt (Nat.le_of_eq g20.symm))
       have A20 : own_A Z h20 b20 .char 4 (fun q_ => .int ((fun _ => (0 : Int32)) q_)) := A20
       show own_Ends p e below s _ _ _ (own_F T20 m 111 #[rv a, iv ln] [(.ref b20), (.ref b19), (.ref b19)])
       refine own_g (own_F T20 m 112 #[rv a, iv ln] [(.ref b20), (.ref b20), (.ref b19), (.ref b19)]) (fun _ z_ => XS.dup X20.here hx rfl (hb hby own_d1_111) rfl rfl z_) ?_
       refine own_g (own_F T20 m 113 #[rv a, iv ln] [(.int 0), (.ref b20), (.ref b20), (.ref b19), (.ref b19)]) (fun _ z_ => XS.iconst X20.here hx rfl (hb hby own_d1_112) z_) ?_
       refine own_g (own_F T20 m 114 #[rv a, iv ln] [(.ref a), (.int 0), (.ref b20), (.ref b20), (.ref b19), (.ref b19)]) (fun _ z_ => XS.aloadN X20.here hx rfl (hb hby own_d1_113) rfl rfl z_) ?_
       refine own_g (own_F T20 m 115 #[rv a, iv ln] [(.int 0), (.ref a), (.int 0), (.ref b20), (.ref b20), (.ref b19), (.ref b19)]) (fun _ z_ => XS.iconst X20.here hx rfl (hb hby own_d1_114) z_) ?_
       refine own_cald X20 hx hZ e20 ((Aa.ext E19).ext E20) 0 rfl (by decide) (hb hby own_d1_115) ?_
       show own_Ends p e below s _ _ _ (own_F T20 m 116 #[rv a, iv ln] [(.int (f 0)), (.int 0), (.ref b20), (.ref b20), (.ref b19), (.ref b19)])
       refine own_cast X20 hx hZ e20 A20 0 rfl (by decide) (f 0) (own_narC (by have := hf 0 (by decide); omega)) (hb hby own_d1_116) ?_
       intro T21 h21 X21 e21 W21 A21
       have N21 := Fr.snoc X21 N0 ge_b20
       obtain ⟨g21, A21, q21_0, q21_1, q21_2, q21_3⟩ : ∃ gq_ : Nat → Int32, own_A Z h21 b20 .char 4 (fun q_ => .int (gq_ q_)) ∧ gq_ 0 = (f 0) ∧ gq_ 1 = (0 : Int32) ∧ gq_ 2 = (0 : Int32) ∧ gq_ 3 = (0 : Int32) := ⟨_, A21, rfl, (show ite _ _ _ = _ from (if_neg (by decide)).trans rfl), (show ite _ _ _ = _ from (if_neg (by decide)).trans rfl), (show ite _ _ _ = _ from (if_neg (by decide)).trans rfl)⟩
       show own_Ends p e below s _ _ _ (own_F T21 m 117 #[rv a, iv ln] [(.ref b20), (.ref b19), (.ref b19)])
       refine own_g (own_F T21 m 118 #[rv a, iv ln] [(.ref b20), (.ref b20), (.ref b19), (.ref b19)]) (fun _ z_ => XS.dup X21.here hx rfl (hb hby own_d1_117) rfl rfl z_) ?_
       refine own_g (own_F T21 m 119 #[rv a, iv ln] [(.int 1), (.ref b20), (.ref b20), (.ref b19), (.ref b19)]) (fun _ z_ => XS.iconst X21.here hx rfl (hb hby own_d1_118) z_) ?_
       refine own_g (own_F T21 m 120 #[rv a, iv ln] [(.ref a), (.int 1), (.ref b20), (.ref b20), (.ref b19), (.ref b19)]) (fun _ z_ => XS.aloadN X21.here hx rfl (hb hby own_d1_119) rfl rfl z_) ?_
       refine own_g (own_F T21 m 121 #[rv a, iv ln] [(.int 1), (.ref a), (.int 1), (.ref b20), (.ref b20), (.ref b19), (.ref b19)]) (fun _ z_ => XS.iconst X21.here hx rfl (hb hby own_d1_120) z_) ?_
       refine own_cald X21 hx hZ e21 (((Aa.ext E19).ext E20).other W21 ne_a_b20) 1 rfl (by decide) (hb hby own_d1_121) ?_
       show own_Ends p e below s _ _ _ (own_F T21 m 122 #[rv a, iv ln] [(.int (f 1)), (.int 1), (.ref b20), (.ref b20), (.ref b19), (.ref b19)])
       refine own_cast X21 hx hZ e21 A21 1 rfl (by decide) (f 1) (own_narC (by have := hf 1 (by decide); omega)) (hb hby own_d1_122) ?_
       intro T22 h22 X22 e22 W22 A22
       have N22 := Fr.snoc X22 N21 ge_b20
       obtain ⟨g22, A22, q22_0, q22_1, q22_2, q22_3⟩ : ∃ gq_ : Nat → Int32, own_A Z h22 b20 .char 4 (fun q_ => .int (gq_ q_)) ∧ gq_ 0 = (f 0) ∧ gq_ 1 = (f 1) ∧ gq_ 2 = (0 : Int32) ∧ gq_ 3 = (0 : Int32) := ⟨_, A22, (show ite _ _ _ = _ from (if_neg (by decide)).trans q21_0), rfl, (show ite _ _ _ = _ from (if_neg (by decide)).trans q21_2), (show ite _ _ _ = _ from (if_neg (by decide)).trans q21_3)⟩
       show own_Ends p e below s _ _ _ (own_F T22 m 123 #[rv a, iv ln] [(.ref b20), (.ref b19), (.ref b19)])
       refine own_g (own_F T22 m 124 #[rv a, iv ln] [(.ref b20), (.ref b20), (.ref b19), (.ref b19)]) (fun _ z_ => XS.dup X22.here hx rfl (hb hby own_d1_123) rfl rfl z_) ?_
       refine own_g (own_F T22 m 125 #[rv a, iv ln] [(.int 2), (.ref b20), (.ref b20), (.ref b19), (.ref b19)]) (fun _ z_ => XS.iconst X22.here hx rfl (hb hby own_d1_124) z_) ?_
       refine own_g (own_F T22 m 126 #[rv a, iv ln] [(.ref a), (.int 2), (.ref b20), (.ref b20), (.ref b19), (.ref b19)]) (fun _ z_ => XS.aloadN X22.here hx rfl (hb hby own_d1_125) rfl rfl z_) ?_
       refine own_g (own_F T22 m 127 #[rv a, iv ln] [(.int 2), (.ref a), (.int 2), (.ref b20), (.ref b20), (.ref b19), (.ref b19)]) (fun _ z_ => XS.iconst X22.here hx rfl (hb hby own_d1_126) z_) ?_
       refine own_cald X22 hx hZ e22 ((((Aa.ext E19).ext E20).other W21 ne_a_b20).other W22 ne_a_b20) 2 rfl (by decide) (hb hby own_d1_127) ?_
       show own_Ends p e below s _ _ _ (own_F T22 m 128 #[rv a, iv ln] [(.int (f 2)), (.int 2), (.ref b20), (.ref b20), (.ref b19), (.ref b19)])
       refine own_cast X22 hx hZ e22 A22 2 rfl (by decide) (f 2) (own_narC (by have := hf 2 (by decide); omega)) (hb hby own_d1_128) ?_
       intro T23 h23 X23 e23 W23 A23
       have N23 := Fr.snoc X23 N22 ge_b20
       obtain ⟨g23, A23, q23_0, q23_1, q23_2, q23_3⟩ : ∃ gq_ : Nat → Int32, own_A Z h23 b20 .char 4 (fun q_ => .int (gq_ q_)) ∧ gq_ 0 = (f 0) ∧ gq_ 1 = (f 1) ∧ gq_ 2 = (f 2) ∧ gq_ 3 = (0 : Int32) := ⟨_, A23, (show ite _ _ _ = _ from (if_neg (by decide)).trans q22_0), (show ite _ _ _ = _ from (if_neg (by decide)).trans q22_1), rfl, (show ite _ _ _ = _ from (if_neg (by decide)).trans q22_3)⟩
       show own_Ends p e below s _ _ _ (own_F T23 m 129 #[rv a, iv ln] [(.ref b20), (.ref b19), (.ref b19)])
       refine own_g (own_F T23 m 130 #[rv a, iv ln] [(.ref b20), (.ref b20), (.ref b19), (.ref b19)]) (fun _ z_ => XS.dup X23.here hx rfl (hb hby own_d1_129) rfl rfl z_) ?_
       refine own_g (own_F T23 m 131 #[rv a, iv ln] [(.int 3), (.ref b20), (.ref b20), (.ref b19), (.ref b19)]) (fun _ z_ => XS.iconst X23.here hx rfl (hb hby own_d1_130) z_) ?_
       refine own_g (own_F T23 m 132 #[rv a, iv ln] [(.ref a), (.int 3), (.ref b20), (.ref b20), (.ref b19), (.ref b19)]) (fun _ z_ => XS.aloadN X23.here hx rfl (hb hby own_d1_131) rfl rfl z_) ?_
       refine own_g (own_F T23 m 133 #[rv a, iv ln] [(.int 3), (.ref a), (.int 3), (.ref b20), (.ref b20), (.ref b19), (.ref b19)]) (fun _ z_ => XS.iconst X23.here hx rfl (hb hby own_d1_132) z_) ?_
       refine own_cald X23 hx hZ e23 (((((Aa.ext E19).ext E20).other W21 ne_a_b20).other W22 ne_a_b20).other W23 ne_a_b20) 3 rfl (by decide) (hb hby own_d1_133) ?_
       show own_Ends p e below s _ _ _ (own_F T23 m 134 #[rv a, iv ln] [(.int (f 3)), (.int 3), (.ref b20), (.ref b20), (.ref b19), (.ref b19)])
       refine own_cast X23 hx hZ e23 A23 3 rfl (by decide) (f 3) (own_narC (by have := hf 3 (by decide); omega)) (hb hby own_d1_134) ?_
       intro T24 h24 X24 e24 W24 A24
       have N24 := Fr.snoc X24 N23 ge_b20
       obtain ⟨g24, A24, q24_0, q24_1, q24_2, q24_3⟩ : ∃ gq_ : Nat → Int32, own_A Z h24 b20 .char 4 (fun q_ => .int (gq_ q_)) ∧ gq_ 0 = (f 0) ∧ gq_ 1 = (f 1) ∧ gq_ 2 = (f 2) ∧ gq_ 3 = (f 3) := ⟨_, A24, (show ite _ _ _ = _ from (if_neg (by decide)).trans q23_0), (show ite _ _ _ = _ from (if_neg (by decide)).trans q23_1), (show ite _ _ _ = _ from (if_neg (by decide)).trans q23_2), rfl⟩
       show own_Ends p e below s _ _ _ (own_F T24 m 135 #[rv a, iv ln] [(.ref b20), (.ref b19), (.ref b19)])
       have hgf : ∀ i, i < 4 → g24 i = f i := fun i hi => by rcases own_lt4 hi with rfl | rfl | rfl | rfl; exact q24_0; exact q24_1; exact q24_2; exact q24_3
       refine own_callI (y := (⟨"java/lang/String", "<init>", "([C)V"⟩ : MethodName)) (b := b19) X24 hx hZ hown rfl (own_w hw 8) (own_w hw 9) (own_w hw 10) (own_w hw 7) (by decide) e24 (hM := own_si l Z a0 hw [] b19 b20 4 4 zc g24 h24 n0 (Nat.le_trans (Nat.le_trans (Nat.le_trans (Nat.le_trans (Nat.le_trans (Nat.le_trans Z0 E19.1) E20.1) (Nat.le_of_eq W21.size.symm)) (Nat.le_of_eq W22.size.symm)) (Nat.le_of_eq W23.size.symm)) (Nat.le_of_eq W24.size.symm)) rfl (by decide) (by decide) (by decide) hzc A24 (fun i hi => by rw [hgf i hi]; exact hf i (by omega)) (((((A19.ext E20).wr W21).wr W22).wr W23).wr W24) (((((F19_value.ext E20).other W21 (Or.inl ne_b19_b20)).other W22 (Or.inl ne_b19_b20)).other W23 (Or.inl ne_b19_b20)).other W24 (Or.inl ne_b19_b20)) (((((F19_coder.ext E20).other W21 (Or.inl ne_b19_b20)).other W22 (Or.inl ne_b19_b20)).other W23 (Or.inl ne_b19_b20)).other W24 (Or.inl ne_b19_b20))  ((((((S_cs.ext E19).ext E20).wr W21).wr W22).wr W23).wr W24) ge_b19 ne_b19_b20) (W := 1) (pc := 135) (Ls := #[rv a, iv ln]) (argsL := [(.ref b20)]) (rest := [(.ref b19)]) (st0 := [(.ref b20), (.ref b19), (.ref b19)]) (by rw [hml]; rfl) (lenOf own_pd5 rfl) rfl (Nat.le_of_eq rfl) (hb hby own_d1_135) (by decide) (by decide) (by decide) (by decide) ?_
       intro v25 T25 L25 s X25 hZ hown hI25 hvm25 hhp25 hWw25 hQ25
       have SH25 : s.heap = h0 := hhp25.trans SH0
       obtain ⟨rfl, Nq25, K25, t25, La25, -⟩ := hQ25
       have N25 := Fr.app N24 Nq25
       show own_Ends p e below s _ _ _ (own_F T25 m 138 #[rv a, iv ln] [(.ref b19)])
       have LS25 := own_LS.step LS0 hI25 hWw25
       refine own_ret (t := (.object "java/lang/String")) X25 hx hlk hrt rfl (Or.inr (Or.inr (Or.inr (Or.inr ⟨rfl, rfl, rfl⟩)))) (hb hby own_d1_138) (by decide) (by decide) ?_
       have hln : 4 = ln.toInt.toNat := (by rw [c101]; rfl)
       exact ⟨b19, t25, rfl, N25, ((((((((Keep.refl _ _).ext E19).ext E20).wr W21 (Or.inr sz_b20)).wr W22 (Or.inr sz_b20)).wr W23 (Or.inr sz_b20)).wr W24 (Or.inr sz_b20)).trans K25 (allS (Or.inr sz_b19) all0)), La25.congr hln hgf, own_LS.warm (LS25.keep ((((((((Keep.refl _ _).ext E19).ext E20).wr W21 (Or.inr sz_b20)).wr W22 (Or.inr sz_b20)).wr W23 (Or.inr sz_b20)).wr W24 (Or.inr sz_b20)).trans K25 (allS (Or.inr sz_b19) all0))) X25.warmed⟩
      · -- pc 101: not ln = (4 : Int32)
       refine own_g (own_F T0 m 139 #[rv a, iv ln] []) (fun _ z_ => XS.icmpYes X0.here hx rfl (pc0 := 101) (pc' := 139) rfl (hb hby own_d1_101) rfl (feq c101).2 (by decide) (by decide) z_) ?_
       refine own_g (own_F T0 m 140 #[rv a, iv ln] [(.int ln)]) (fun _ z_ => XS.iloadN X0.here hx rfl (hb hby own_d1_139) rfl z_) ?_
       refine own_g (own_F T0 m 141 #[rv a, iv ln] [(.int 5), (.int ln)]) (fun _ z_ => XS.iconst X0.here hx rfl (hb hby own_d1_140) z_) ?_
       by_cases c141 : ln = (5 : Int32)
       · -- pc 141: ln = (5 : Int32)
        refine own_g (own_F T0 m 144 #[rv a, iv ln] []) (fun _ z_ => XS.icmpNo X0.here hx rfl (hb hby own_d1_141) rfl (teq c141).2 z_) ?_
        obtain ⟨T26, h26, X26, e26, E26, A26, D26, -, st26⟩ := newO X0 hx hZ hown (own_w hw 5) (own_w hw 6) (own_w hw 7) e0 (g := (mkF m 144 #[rv a, iv ln] [])) rfl (hb hby own_d1_144) (by decide) (by decide)
        obtain ⟨b26, g26⟩ : ∃ z, z = h0.size := ⟨_, rfl⟩
        rw [← g26] at A26 D26 st26
        have sz_b26 : h0.size ≤ b26 := Nat.le_trans (Nat.le_refl h0.size) (Nat.le_of_eq g26.symm)
        have ge_b26 : n0 ≤ b26 := Nat.le_trans Z0 (Nat.le_of_eq g26.symm)
        have ne_a_b26 : a ≠ b26 := Nat.ne_of_lt (Nat.lt_of_lt_of_le Aa.lt (Nat.le_of_eq g26.symm))
        have F26_value : Fld Z h26 b26 "java/lang/String" "value" "[B" .null := D26 (Or.inr (own_w hw 20)) (ty := (.array .byte)) (by decide)
        have F26_coder : Fld Z h26 b26 "java/lang/String" "coder" "B" (.int 0) := D26 (Or.inr (own_w hw 21)) (ty := .byte) (by decide)
        refine own_pre (S' := (own_F T26 m 147 #[rv a, iv ln] [(.ref b26)])) st26 ?_
        refine own_g (own_F T26 m 148 #[rv a, iv ln] [(.ref b26), (.ref b26)]) (fun _ z_ => XS.dup X26.here hx rfl (hb hby own_d1_147) rfl rfl z_) ?_
        refine own_g (own_F T26 m 149 #[rv a, iv ln] [(.int 5), (.ref b26), (.ref b26)]) (fun _ z_ => XS.iconst X26.here hx rfl (hb hby own_d1_148) z_) ?_
        refine own_newA X26 hx hZ .char rfl (own_w hw 0) e26 (hb hby own_d1_149) 5 rfl 5 (by decide) (by decide) (by decide) (by decide) ?_
        intro T27 h27 b27 X27 e27 E27 g27 A27
        have sz_b27 : h0.size ≤ b27 := Nat.le_trans (Nat.le_trans (Nat.le_refl h0.size) E26.1) (Nat.le_of_eq g27.symm)
        have ge_b27 : n0 ≤ b27 := Nat.le_trans (Nat.le_trans Z0 E26.1) (Nat.le_of_eq g27.symm)
        have ne_a_b27 : a ≠ b27 := Nat.ne_of_lt (Nat.lt_of_lt_of_le (Aa.ext E26).lt (Nat.le_of_eq g27.symm))
        have ne_b26_b27 : b26 ≠ b27 := Nat.ne_of_lt (Nat.lt_of_lt_of_le F26_value.lt (Nat.le_of_eq g27.symm))
        have A27 : own_A Z h27 b27 .char 5 (fun q_ => .int ((fun _ => (0 : Int32)) q_)) := A27
        show own_Ends p e below s _ _ _ (own_F T27 m 151 #[rv a, iv ln] [(.ref b27), (.ref b26), (.ref b26)])
        refine own_g (own_F T27 m 152 #[rv a, iv ln] [(.ref b27), (.ref b27), (.ref b26), (.ref b26)]) (fun _ z_ => XS.dup X27.here hx rfl (hb hby own_d1_151) rfl rfl z_) ?_
        refine own_g (own_F T27 m 153 #[rv a, iv ln] [(.int 0), (.ref b27), (.ref b27), (.ref b26), (.ref b26)]) (fun _ z_ => XS.iconst X27.here hx rfl (hb hby own_d1_152) z_) ?_
        refine own_g (own_F T27 m 154 #[rv a, iv ln] [(.ref a), (.int 0), (.ref b27), (.ref b27), (.ref b26), (.ref b26)]) (fun _ z_ => XS.aloadN X27.here hx rfl (hb hby own_d1_153) rfl rfl z_) ?_
        refine own_g (own_F T27 m 155 #[rv a, iv ln] [(.int 0), (.ref a), (.int 0), (.ref b27), (.ref b27), (.ref b26), (.ref b26)]) (fun _ z_ => XS.iconst X27.here hx rfl (hb hby own_d1_154) z_) ?_
        refine own_cald X27 hx hZ e27 ((Aa.ext E26).ext E27) 0 rfl (by decide) (hb hby own_d1_155) ?_
        show own_Ends p e below s _ _ _ (own_F T27 m 156 #[rv a, iv ln] [(.int (f 0)), (.int 0), (.ref b27), (.ref b27), (.ref b26), (.ref b26)])
        refine own_cast X27 hx hZ e27 A27 0 rfl (by decide) (f 0) (own_narC (by have := hf 0 (by decide); omega)) (hb hby own_d1_156) ?_
        intro T28 h28 X28 e28 W28 A28
        have N28 := Fr.snoc X28 N0 ge_b27
        obtain ⟨g28, A28, q28_0, q28_1, q28_2, q28_3, q28_4⟩ : ∃ gq_ : Nat → Int32, own_A Z h28 b27 .char 5 (fun q_ => .int (gq_ q_)) ∧ gq_ 0 = (f 0) ∧ gq_ 1 = (0 : Int32) ∧ gq_ 2 = (0 : Int32) ∧ gq_ 3 = (0 : Int32) ∧ gq_ 4 = (0 : Int32) := ⟨_, A28, rfl, (show ite _ _ _ = _ from (if_neg (by decide)).trans rfl), (show ite _ _ _ = _ from (if_neg (by decide)).trans rfl), (show ite _ _ _ = _ from (if_neg (by decide)).trans rfl), (show ite _ _ _ = _ from (if_neg (by decide)).trans rfl)⟩
        show own_Ends p e below s _ _ _ (own_F T28 m 157 #[rv a, iv ln] [(.ref b27), (.ref b26), (.ref b26)])
        refine own_g (own_F T28 m 158 #[rv a, iv ln] [(.ref b27), (.ref b27), (.ref b26), (.ref b26)]) (fun _ z_ => XS.dup X28.here hx rfl (hb hby own_d1_157) rfl rfl z_) ?_
        refine own_g (own_F T28 m 159 #[rv a, iv ln] [(.int 1), (.ref b27), (.ref b27), (.ref b26), (.ref b26)]) (fun _ z_ => XS.iconst X28.here hx rfl (hb hby own_d1_158) z_) ?_
        refine own_g (own_F T28 m 160 #[rv a, iv ln] [(.ref a), (.int 1), (.ref b27), (.ref b27), (.ref b26), (.ref b26)]) (fun _ z_ => XS.aloadN X28.here hx rfl (hb hby own_d1_159) rfl rfl z_) ?_
        refine own_g (own_F T28 m 161 #[rv a, iv ln] [(.int 1), (.ref a), (.int 1), (.ref b27), (.ref b27), (.ref b26), (.ref b26)]) (fun _ z_ => XS.iconst X28.here hx rfl (hb hby own_d1_160) z_) ?_
        refine own_cald X28 hx hZ e28 (((Aa.ext E26).ext E27).other W28 ne_a_b27) 1 rfl (by decide) (hb hby own_d1_161) ?_
        show own_Ends p e below s _ _ _ (own_F T28 m 162 #[rv a, iv ln] [(.int (f 1)), (.int 1), (.ref b27), (.ref b27), (.ref b26), (.ref b26)])
        refine own_cast X28 hx hZ e28 A28 1 rfl (by decide) (f 1) (own_narC (by have := hf 1 (by decide); omega)) (hb hby own_d1_162) ?_
        intro T29 h29 X29 e29 W29 A29
        have N29 := Fr.snoc X29 N28 ge_b27
        obtain ⟨g29, A29, q29_0, q29_1, q29_2, q29_3, q29_4⟩ : ∃ gq_ : Nat → Int32, own_A Z h29 b27 .char 5 (fun q_ => .int (gq_ q_)) ∧ gq_ 0 = (f 0) ∧ gq_ 1 = (f 1) ∧ gq_ 2 = (0 : Int32) ∧ gq_ 3 = (0 : Int32) ∧ gq_ 4 = (0 : Int32) := ⟨_, A29, (show ite _ _ _ = _ from (if_neg (by decide)).trans q28_0), rfl, (show ite _ _ _ = _ from (if_neg (by decide)).trans q28_2), (show ite _ _ _ = _ from (if_neg (by decide)).trans q28_3), (show ite _ _ _ = _ from (if_neg (by decide)).trans q28_4)⟩
        show own_Ends p e below s _ _ _ (own_F T29 m 163 #[rv a, iv ln] [(.ref b27), (.ref b26), (.ref b26)])
        refine own_g (own_F T29 m 164 #[rv a, iv ln] [(.ref b27), (.ref b27), (.ref b26), (.ref b26)]) (fun _ z_ => XS.dup X29.here hx rfl (hb hby own_d1_163) rfl rfl z_) ?_
        refine own_g (own_F T29 m 165 #[rv a, iv ln] [(.int 2), (.ref b27), (.ref b27), (.ref b26), (.ref b26)]) (fun _ z_ => XS.iconst X29.here hx rfl (hb hby own_d1_164) z_) ?_
        refine own_g (own_F T29 m 166 #[rv a, iv ln] [(.ref a), (.int 2), (.ref b27), (.ref b27), (.ref b26), (.ref b26)]) (fun _ z_ => XS.aloadN X29.here hx rfl (hb hby own_d1_165) rfl rfl z_) ?_
        refine own_g (own_F T29 m 167 #[rv a, iv ln] [(.int 2), (.ref a), (.int 2), (.ref b27), (.ref b27), (.ref b26), (.ref b26)]) (fun _ z_ => XS.iconst X29.here hx rfl (hb hby own_d1_166) z_) ?_
        refine own_cald X29 hx hZ e29 ((((Aa.ext E26).ext E27).other W28 ne_a_b27).other W29 ne_a_b27) 2 rfl (by decide) (hb hby own_d1_167) ?_
        show own_Ends p e below s _ _ _ (own_F T29 m 168 #[rv a, iv ln] [(.int (f 2)), (.int 2), (.ref b27), (.ref b27), (.ref b26), (.ref b26)])
        refine own_cast X29 hx hZ e29 A29 2 rfl (by decide) (f 2) (own_narC (by have := hf 2 (by decide); omega)) (hb hby own_d1_168) ?_
        intro T30 h30 X30 e30 W30 A30
        have N30 := Fr.snoc X30 N29 ge_b27
        obtain ⟨g30, A30, q30_0, q30_1, q30_2, q30_3, q30_4⟩ : ∃ gq_ : Nat → Int32, own_A Z h30 b27 .char 5 (fun q_ => .int (gq_ q_)) ∧ gq_ 0 = (f 0) ∧ gq_ 1 = (f 1) ∧ gq_ 2 = (f 2) ∧ gq_ 3 = (0 : Int32) ∧ gq_ 4 = (0 : Int32) := ⟨_, A30, (show ite _ _ _ = _ from (if_neg (by decide)).trans q29_0), (show ite _ _ _ = _ from (if_neg (by decide)).trans q29_1), rfl, (show ite _ _ _ = _ from (if_neg (by decide)).trans q29_3), (show ite _ _ _ = _ from (if_neg (by decide)).trans q29_4)⟩
        show own_Ends p e below s _ _ _ (own_F T30 m 169 #[rv a, iv ln] [(.ref b27), (.ref b26), (.ref b26)])
        refine own_g (own_F T30 m 170 #[rv a, iv ln] [(.ref b27), (.ref b27), (.ref b26), (.ref b26)]) (fun _ z_ => XS.dup X30.here hx rfl (hb hby own_d1_169) rfl rfl z_) ?_
        refine own_g (own_F T30 m 171 #[rv a, iv ln] [(.int 3), (.ref b27), (.ref b27), (.ref b26), (.ref b26)]) (fun _ z_ => XS.iconst X30.here hx rfl (hb hby own_d1_170) z_) ?_
        refine own_g (own_F T30 m 172 #[rv a, iv ln] [(.ref a), (.int 3), (.ref b27), (.ref b27), (.ref b26), (.ref b26)]) (fun _ z_ => XS.aloadN X30.here hx rfl (hb hby own_d1_171) rfl rfl z_) ?_
        refine own_g (own_F T30 m 173 #[rv a, iv ln] [(.int 3), (.ref a), (.int 3), (.ref b27), (.ref b27), (.ref b26), (.ref b26)]) (fun _ z_ => XS.iconst X30.here hx rfl (hb hby own_d1_172) z_) ?_
        refine own_cald X30 hx hZ e30 (((((Aa.ext E26).ext E27).other W28 ne_a_b27).other W29 ne_a_b27).other W30 ne_a_b27) 3 rfl (by decide) (hb hby own_d1_173) ?_
        show own_Ends p e below s _ _ _ (own_F T30 m 174 #[rv a, iv ln] [(.int (f 3)), (.int 3), (.ref b27), (.ref b27), (.ref b26), (.ref b26)])
        refine own_cast X30 hx hZ e30 A30 3 rfl (by decide) (f 3) (own_narC (by have := hf 3 (by decide); omega)) (hb hby own_d1_174) ?_
        intro T31 h31 X31 e31 W31 A31
        have N31 := Fr.snoc X31 N30 ge_b27
        obtain ⟨g31, A31, q31_0, q31_1, q31_2, q31_3, q31_4⟩ : ∃ gq_ : Nat → Int32, own_A Z h31 b27 .char 5 (fun q_ => .int (gq_ q_)) ∧ gq_ 0 = (f 0) ∧ gq_ 1 = (f 1) ∧ gq_ 2 = (f 2) ∧ gq_ 3 = (f 3) ∧ gq_ 4 = (0 : Int32) := ⟨_, A31, (show ite _ _ _ = _ from (if_neg (by decide)).trans q30_0), (show ite _ _ _ = _ from (if_neg (by decide)).trans q30_1), (show ite _ _ _ = _ from (if_neg (by decide)).trans q30_2), rfl, (show ite _ _ _ = _ from (if_neg (by decide)).trans q30_4)⟩
        show own_Ends p e below s _ _ _ (own_F T31 m 175 #[rv a, iv ln] [(.ref b27), (.ref b26), (.ref b26)])
        refine own_g (own_F T31 m 176 #[rv a, iv ln] [(.ref b27), (.ref b27), (.ref b26), (.ref b26)]) (fun _ z_ => XS.dup X31.here hx rfl (hb hby own_d1_175) rfl rfl z_) ?_
        refine own_g (own_F T31 m 177 #[rv a, iv ln] [(.int 4), (.ref b27), (.ref b27), (.ref b26), (.ref b26)]) (fun _ z_ => XS.iconst X31.here hx rfl (hb hby own_d1_176) z_) ?_
        refine own_g (own_F T31 m 178 #[rv a, iv ln] [(.ref a), (.int 4), (.ref b27), (.ref b27), (.ref b26), (.ref b26)]) (fun _ z_ => XS.aloadN X31.here hx rfl (hb hby own_d1_177) rfl rfl z_) ?_
        refine own_g (own_F T31 m 179 #[rv a, iv ln] [(.int 4), (.ref a), (.int 4), (.ref b27), (.ref b27), (.ref b26), (.ref b26)]) (fun _ z_ => XS.iconst X31.here hx rfl (hb hby own_d1_178) z_) ?_
        refine own_cald X31 hx hZ e31 ((((((Aa.ext E26).ext E27).other W28 ne_a_b27).other W29 ne_a_b27).other W30 ne_a_b27).other W31 ne_a_b27) 4 rfl (by decide) (hb hby own_d1_179) ?_
        show own_Ends p e below s _ _ _ (own_F T31 m 180 #[rv a, iv ln] [(.int (f 4)), (.int 4), (.ref b27), (.ref b27), (.ref b26), (.ref b26)])
        refine own_cast X31 hx hZ e31 A31 4 rfl (by decide) (f 4) (own_narC (by have := hf 4 (by decide); omega)) (hb hby own_d1_180) ?_
        intro T32 h32 X32 e32 W32 A32
        have N32 := Fr.snoc X32 N31 ge_b27
        obtain ⟨g32, A32, q32_0, q32_1, q32_2, q32_3, q32_4⟩ : ∃ gq_ : Nat → Int32, own_A Z h32 b27 .char 5 (fun q_ => .int (gq_ q_)) ∧ gq_ 0 = (f 0) ∧ gq_ 1 = (f 1) ∧ gq_ 2 = (f 2) ∧ gq_ 3 = (f 3) ∧ gq_ 4 = (f 4) := ⟨_, A32, (show ite _ _ _ = _ from (if_neg (by decide)).trans q31_0), (show ite _ _ _ = _ from (if_neg (by decide)).trans q31_1), (show ite _ _ _ = _ from (if_neg (by decide)).trans q31_2), (show ite _ _ _ = _ from (if_neg (by decide)).trans q31_3), rfl⟩
        show own_Ends p e below s _ _ _ (own_F T32 m 181 #[rv a, iv ln] [(.ref b27), (.ref b26), (.ref b26)])
        have hgf : ∀ i, i < 5 → g32 i = f i := fun i hi => by rcases own_lt5 hi with rfl | rfl | rfl | rfl | rfl; exact q32_0; exact q32_1; exact q32_2; exact q32_3; exact q32_4
        refine own_callI (y := (⟨"java/lang/String", "<init>", "([C)V"⟩ : MethodName)) (b := b26) X32 hx hZ hown rfl (own_w hw 8) (own_w hw 9) (own_w hw 10) (own_w hw 7) (by decide) e32 (hM := own_si l Z a0 hw [] b26 b27 5 5 zc g32 h32 n0 (Nat.le_trans (Nat.le_trans (Nat.le_trans (Nat.le_trans (Nat.le_trans (Nat.le_trans (Nat.le_trans Z0 E26.1) E27.1) (Nat.le_of_eq W28.size.symm)) (Nat.le_of_eq W29.size.symm)) (Nat.le_of_eq W30.size.symm)) (Nat.le_of_eq W31.size.symm)) (Nat.le_of_eq W32.size.symm)) rfl (by decide) (by decide) (by decide) hzc A32 (fun i hi => by rw [hgf i hi]; exact hf i (by omega)) ((((((A26.ext E27).wr W28).wr W29).wr W30).wr W31).wr W32) ((((((F26_value.ext E27).other W28 (Or.inl ne_b26_b27)).other W29 (Or.inl ne_b26_b27)).other W30 (Or.inl ne_b26_b27)).other W31 (Or.inl ne_b26_b27)).other W32 (Or.inl ne_b26_b27)) ((((((F26_coder.ext E27).other W28 (Or.inl ne_b26_b27)).other W29 (Or.inl ne_b26_b27)).other W30 (Or.inl ne_b26_b27)).other W31 (Or.inl ne_b26_b27)).other W32 (Or.inl ne_b26_b27))  (((((((S_cs.ext E26).ext E27).wr W28).wr W29).wr W30).wr W31).wr W32) ge_b26 ne_b26_b27) (W := 1) (pc := 181) (Ls := #[rv a, iv ln]) (argsL := [(.ref b27)]) (rest := [(.ref b26)]) (st0 := [(.ref b27), (.ref b26), (.ref b26)]) (by rw [hml]; rfl) (lenOf own_pd5 rfl) rfl (Nat.le_of_eq rfl) (hb hby own_d1_181) (by decide) (by decide) (by decide) (by decide) ?_
        intro v33 T33 L33 s X33 hZ hown hI33 hvm33 hhp33 hWw33 hQ33
        have SH33 : s.heap = h0 := hhp33.trans SH0
        obtain ⟨rfl, Nq33, K33, t33, La33, -⟩ := hQ33
        have N33 := Fr.app N32 Nq33
        show own_Ends p e below s _ _ _ (own_F T33 m 184 #[rv a, iv ln] [(.ref b26)])
        have LS33 := own_LS.step LS0 hI33 hWw33
        refine own_ret (t := (.object "java/lang/String")) X33 hx hlk hrt rfl (Or.inr (Or.inr (Or.inr (Or.inr ⟨rfl, rfl, rfl⟩)))) (hb hby own_d1_184) (by decide) (by decide) ?_
        have hln : 5 = ln.toInt.toNat := (by rw [c141]; rfl)
        exact ⟨b26, t33, rfl, N33, (((((((((Keep.refl _ _).ext E26).ext E27).wr W28 (Or.inr sz_b27)).wr W29 (Or.inr sz_b27)).wr W30 (Or.inr sz_b27)).wr W31 (Or.inr sz_b27)).wr W32 (Or.inr sz_b27)).trans K33 (allS (Or.inr sz_b26) all0)), La33.congr hln hgf, own_LS.warm (LS33.keep (((((((((Keep.refl _ _).ext E26).ext E27).wr W28 (Or.inr sz_b27)).wr W29 (Or.inr sz_b27)).wr W30 (Or.inr sz_b27)).wr W31 (Or.inr sz_b27)).wr W32 (Or.inr sz_b27)).trans K33 (allS (Or.inr sz_b26) all0))) X33.warmed⟩
       · -- pc 141: not ln = (5 : Int32)
        refine own_g (own_F T0 m 185 #[rv a, iv ln] []) (fun _ z_ => XS.icmpYes X0.here hx rfl (pc0 := 141) (pc' := 185) rfl (hb hby own_d1_141) rfl (feq c141).2 (by decide) (by decide) z_) ?_
        refine own_g (own_F T0 m 186 #[rv a, iv ln] [(.int ln)]) (fun _ z_ => XS.iloadN X0.here hx rfl (hb hby own_d1_185) rfl z_) ?_
        refine own_g (own_F T0 m 188 #[rv a, iv ln] [(.int 6), (.int ln)]) (fun _ z_ => XS.bipush X0.here hx rfl (hb hby own_d1_186) z_) ?_
        by_cases c188 : ln = (6 : Int32)
        · -- pc 188: ln = (6 : Int32)
         refine own_g (own_F T0 m 191 #[rv a, iv ln] []) (fun _ z_ => XS.icmpNo X0.here hx rfl (hb hby own_d1_188) rfl (teq c188).2 z_) ?_
         obtain ⟨T34, h34, X34, e34, E34, A34, D34, -, st34⟩ := newO X0 hx hZ hown (own_w hw 5) (own_w hw 6) (own_w hw 7) e0 (g := (mkF m 191 #[rv a, iv ln] [])) rfl (hb hby own_d1_191) (by decide) (by decide)
         obtain ⟨b34, g34⟩ : ∃ z, z = h0.size := ⟨_, rfl⟩
         rw [← g34] at A34 D34 st34
         have sz_b34 : h0.size ≤ b34 := Nat.le_trans (Nat.le_refl h0.size) (Nat.le_of_eq g34.symm)
         have ge_b34 : n0 ≤ b34 := Nat.le_trans Z0 (Nat.le_of_eq g34.symm)
         have ne_a_b34 : a ≠ b34 := Nat.ne_of_lt (Nat.lt_of_lt_of_le Aa.lt (Nat.le_of_eq g34.symm))
         have F34_value : Fld Z h34 b34 "java/lang/String" "value" "[B" .null := D34 (Or.inr (own_w hw 20)) (ty := (.array .byte)) (by decide)
         have F34_coder : Fld Z h34 b34 "java/lang/String" "coder" "B" (.int 0) := D34 (Or.inr (own_w hw 21)) (ty := .byte) (by decide)
         refine own_pre (S' := (own_F T34 m 194 #[rv a, iv ln] [(.ref b34)])) st34 ?_
         refine own_g (own_F T34 m 195 #[rv a, iv ln] [(.ref b34), (.ref b34)]) (fun _ z_ => XS.dup X34.here hx rfl (hb hby own_d1_194) rfl rfl z_) ?_
         refine own_g (own_F T34 m 197 #[rv a, iv ln] [(.int 6), (.ref b34), (.ref b34)]) (fun _ z_ => XS.bipush X34.here hx rfl (hb hby own_d1_195) z_) ?_
         refine own_newA X34 hx hZ .char rfl (own_w hw 0) e34 (hb hby own_d1_197) 6 rfl 6 (by decide) (by decide) (by decide) (by decide) ?_
         intro T35 h35 b35 X35 e35 E35 g35 A35
         have sz_b35 : h0.size ≤ b35 := Nat.le_trans (Nat.le_trans (Nat.le_refl h0.size) E34.1) (Nat.le_of_eq g35.symm)
         have ge_b35 : n0 ≤ b35 := Nat.le_trans (Nat.le_trans Z0 E34.1) (Nat.le_of_eq g35.symm)
         have ne_a_b35 : a ≠ b35 := Nat.ne_of_lt (Nat.lt_of_lt_of_le (Aa.ext E34).lt (Nat.le_of_eq g35.symm))
         have ne_b34_b35 : b34 ≠ b35 := Nat.ne_of_lt (Nat.lt_of_lt_of_le F34_value.lt (Nat.le_of_eq g35.symm))
         have A35 : own_A Z h35 b35 .char 6 (fun q_ => .int ((fun _ => (0 : Int32)) q_)) := A35
         show own_Ends p e below s _ _ _ (own_F T35 m 199 #[rv a, iv ln] [(.ref b35), (.ref b34), (.ref b34)])
         refine own_g (own_F T35 m 200 #[rv a, iv ln] [(.ref b35), (.ref b35), (.ref b34), (.ref b34)]) (fun _ z_ => XS.dup X35.here hx rfl (hb hby own_d1_199) rfl rfl z_) ?_
         refine own_g (own_F T35 m 201 #[rv a, iv ln] [(.int 0), (.ref b35), (.ref b35), (.ref b34), (.ref b34)]) (fun _ z_ => XS.iconst X35.here hx rfl (hb hby own_d1_200) z_) ?_
         refine own_g (own_F T35 m 202 #[rv a, iv ln] [(.ref a), (.int 0), (.ref b35), (.ref b35), (.ref b34), (.ref b34)]) (fun _ z_ => XS.aloadN X35.here hx rfl (hb hby own_d1_201) rfl rfl z_) ?_
         refine own_g (own_F T35 m 203 #[rv a, iv ln] [(.int 0), (.ref a), (.int 0), (.ref b35), (.ref b35), (.ref b34), (.ref b34)]) (fun _ z_ => XS.iconst X35.here hx rfl (hb hby own_d1_202) z_) ?_
         refine own_cald X35 hx hZ e35 ((Aa.ext E34).ext E35) 0 rfl (by decide) (hb hby own_d1_203) ?_
         show own_Ends p e below s _ _ _ (own_F T35 m 204 #[rv a, iv ln] [(.int (f 0)), (.int 0), (.ref b35), (.ref b35), (.ref b34), (.ref b34)])
         refine own_cast X35 hx hZ e35 A35 0 rfl (by decide) (f 0) (own_narC (by have := hf 0 (by decide); omega)) (hb hby own_d1_204) ?_
         intro T36 h36 X36 e36 W36 A36
         have N36 := Fr.snoc X36 N0 ge_b35
         obtain ⟨g36, A36, q36_0, q36_1, q36_2, q36_3, q36_4, q36_5⟩ : ∃ gq_ : Nat → Int32, own_A Z h36 b35 .char 6 (fun q_ => .int (gq_ q_)) ∧ gq_ 0 = (f 0) ∧ gq_ 1 = (0 : Int32) ∧ gq_ 2 = (0 : Int32) ∧ gq_ 3 = (0 : Int32) ∧ gq_ 4 = (0 : Int32) ∧ gq_ 5 = (0 : Int32) := ⟨_, A36, rfl, (show ite _ _ _ = _ from (if_neg (by decide)).trans rfl), (show ite _ _ _ = _ from (if_neg (by decide)).trans rfl), (show ite _ _ _ = _ from (if_neg (by decide)).trans rfl), (show ite _ _ _ = _ from (if_neg (by decide)).trans rfl), (show ite _ _ _ = _ from (if_neg (by decide)).trans rfl)⟩
         show own_Ends p e below s _ _ _ (own_F T36 m 205 #[rv a, iv ln] [(.ref b35), (.ref b34), (.ref b34)])
         refine own_g (own_F T36 m 206 #[rv a, iv ln] [(.ref b35), (.ref b35), (.ref b34), (.ref b34)]) (fun _ z_ => XS.dup X36.here hx rfl (hb hby own_d1_205) rfl rfl z_) ?_
         refine own_g (own_F T36 m 207 #[rv a, iv ln] [(.int 1), (.ref b35), (.ref b35), (.ref b34), (.ref b34)]) (fun _ z_ => XS.iconst X36.here hx rfl (hb hby own_d1_206) z_) ?_
         refine own_g (own_F T36 m 208 #[rv a, iv ln] [(.ref a), (.int 1), (.ref b35), (.ref b35), (.ref b34), (.ref b34)]) (fun _ z_ => XS.aloadN X36.here hx rfl (hb hby own_d1_207) rfl rfl z_) ?_
         refine own_g (own_F T36 m 209 #[rv a, iv ln] [(.int 1), (.ref a), (.int 1), (.ref b35), (.ref b35), (.ref b34), (.ref b34)]) (fun _ z_ => XS.iconst X36.here hx rfl (hb hby own_d1_208) z_) ?_
         refine own_cald X36 hx hZ e36 (((Aa.ext E34).ext E35).other W36 ne_a_b35) 1 rfl (by decide) (hb hby own_d1_209) ?_
         show own_Ends p e below s _ _ _ (own_F T36 m 210 #[rv a, iv ln] [(.int (f 1)), (.int 1), (.ref b35), (.ref b35), (.ref b34), (.ref b34)])
         refine own_cast X36 hx hZ e36 A36 1 rfl (by decide) (f 1) (own_narC (by have := hf 1 (by decide); omega)) (hb hby own_d1_210) ?_
         intro T37 h37 X37 e37 W37 A37
         have N37 := Fr.snoc X37 N36 ge_b35
         obtain ⟨g37, A37, q37_0, q37_1, q37_2, q37_3, q37_4, q37_5⟩ : ∃ gq_ : Nat → Int32, own_A Z h37 b35 .char 6 (fun q_ => .int (gq_ q_)) ∧ gq_ 0 = (f 0) ∧ gq_ 1 = (f 1) ∧ gq_ 2 = (0 : Int32) ∧ gq_ 3 = (0 : Int32) ∧ gq_ 4 = (0 : Int32) ∧ gq_ 5 = (0 : Int32) := ⟨_, A37, (show ite _ _ _ = _ from (if_neg (by decide)).trans q36_0), rfl, (show ite _ _ _ = _ from (if_neg (by decide)).trans q36_2), (show ite _ _ _ = _ from (if_neg (by decide)).trans q36_3), (show ite _ _ _ = _ from (if_neg (by decide)).trans q36_4), (show ite _ _ _ = _ from (if_neg (by decide)).trans q36_5)⟩
         show own_Ends p e below s _ _ _ (own_F T37 m 211 #[rv a, iv ln] [(.ref b35), (.ref b34), (.ref b34)])
         refine own_g (own_F T37 m 212 #[rv a, iv ln] [(.ref b35), (.ref b35), (.ref b34), (.ref b34)]) (fun _ z_ => XS.dup X37.here hx rfl (hb hby own_d1_211) rfl rfl z_) ?_
         refine own_g (own_F T37 m 213 #[rv a, iv ln] [(.int 2), (.ref b35), (.ref b35), (.ref b34), (.ref b34)]) (fun _ z_ => XS.iconst X37.here hx rfl (hb hby own_d1_212) z_) ?_
         refine own_g (own_F T37 m 214 #[rv a, iv ln] [(.ref a), (.int 2), (.ref b35), (.ref b35), (.ref b34), (.ref b34)]) (fun _ z_ => XS.aloadN X37.here hx rfl (hb hby own_d1_213) rfl rfl z_) ?_
         refine own_g (own_F T37 m 215 #[rv a, iv ln] [(.int 2), (.ref a), (.int 2), (.ref b35), (.ref b35), (.ref b34), (.ref b34)]) (fun _ z_ => XS.iconst X37.here hx rfl (hb hby own_d1_214) z_) ?_
         refine own_cald X37 hx hZ e37 ((((Aa.ext E34).ext E35).other W36 ne_a_b35).other W37 ne_a_b35) 2 rfl (by decide) (hb hby own_d1_215) ?_
         show own_Ends p e below s _ _ _ (own_F T37 m 216 #[rv a, iv ln] [(.int (f 2)), (.int 2), (.ref b35), (.ref b35), (.ref b34), (.ref b34)])
         refine own_cast X37 hx hZ e37 A37 2 rfl (by decide) (f 2) (own_narC (by have := hf 2 (by decide); omega)) (hb hby own_d1_216) ?_
         intro T38 h38 X38 e38 W38 A38
         have N38 := Fr.snoc X38 N37 ge_b35
         obtain ⟨g38, A38, q38_0, q38_1, q38_2, q38_3, q38_4, q38_5⟩ : ∃ gq_ : Nat → Int32, own_A Z h38 b35 .char 6 (fun q_ => .int (gq_ q_)) ∧ gq_ 0 = (f 0) ∧ gq_ 1 = (f 1) ∧ gq_ 2 = (f 2) ∧ gq_ 3 = (0 : Int32) ∧ gq_ 4 = (0 : Int32) ∧ gq_ 5 = (0 : Int32) := ⟨_, A38, (show ite _ _ _ = _ from (if_neg (by decide)).trans q37_0), (show ite _ _ _ = _ from (if_neg (by decide)).trans q37_1), rfl, (show ite _ _ _ = _ from (if_neg (by decide)).trans q37_3), (show ite _ _ _ = _ from (if_neg (by decide)).trans q37_4), (show ite _ _ _ = _ from (if_neg (by decide)).trans q37_5)⟩
         show own_Ends p e below s _ _ _ (own_F T38 m 217 #[rv a, iv ln] [(.ref b35), (.ref b34), (.ref b34)])
         refine own_g (own_F T38 m 218 #[rv a, iv ln] [(.ref b35), (.ref b35), (.ref b34), (.ref b34)]) (fun _ z_ => XS.dup X38.here hx rfl (hb hby own_d1_217) rfl rfl z_) ?_
         refine own_g (own_F T38 m 219 #[rv a, iv ln] [(.int 3), (.ref b35), (.ref b35), (.ref b34), (.ref b34)]) (fun _ z_ => XS.iconst X38.here hx rfl (hb hby own_d1_218) z_) ?_
         refine own_g (own_F T38 m 220 #[rv a, iv ln] [(.ref a), (.int 3), (.ref b35), (.ref b35), (.ref b34), (.ref b34)]) (fun _ z_ => XS.aloadN X38.here hx rfl (hb hby own_d1_219) rfl rfl z_) ?_
         refine own_g (own_F T38 m 221 #[rv a, iv ln] [(.int 3), (.ref a), (.int 3), (.ref b35), (.ref b35), (.ref b34), (.ref b34)]) (fun _ z_ => XS.iconst X38.here hx rfl (hb hby own_d1_220) z_) ?_
         refine own_cald X38 hx hZ e38 (((((Aa.ext E34).ext E35).other W36 ne_a_b35).other W37 ne_a_b35).other W38 ne_a_b35) 3 rfl (by decide) (hb hby own_d1_221) ?_
         show own_Ends p e below s _ _ _ (own_F T38 m 222 #[rv a, iv ln] [(.int (f 3)), (.int 3), (.ref b35), (.ref b35), (.ref b34), (.ref b34)])
         refine own_cast X38 hx hZ e38 A38 3 rfl (by decide) (f 3) (own_narC (by have := hf 3 (by decide); omega)) (hb hby own_d1_222) ?_
         intro T39 h39 X39 e39 W39 A39
         have N39 := Fr.snoc X39 N38 ge_b35
         obtain ⟨g39, A39, q39_0, q39_1, q39_2, q39_3, q39_4, q39_5⟩ : ∃ gq_ : Nat → Int32, own_A Z h39 b35 .char 6 (fun q_ => .int (gq_ q_)) ∧ gq_ 0 = (f 0) ∧ gq_ 1 = (f 1) ∧ gq_ 2 = (f 2) ∧ gq_ 3 = (f 3) ∧ gq_ 4 = (0 : Int32) ∧ gq_ 5 = (0 : Int32) := ⟨_, A39, (show ite _ _ _ = _ from (if_neg (by decide)).trans q38_0), (show ite _ _ _ = _ from (if_neg (by decide)).trans q38_1), (show ite _ _ _ = _ from (if_neg (by decide)).trans q38_2), rfl, (show ite _ _ _ = _ from (if_neg (by decide)).trans q38_4), (show ite _ _ _ = _ from (if_neg (by decide)).trans q38_5)⟩
         show own_Ends p e below s _ _ _ (own_F T39 m 223 #[rv a, iv ln] [(.ref b35), (.ref b34), (.ref b34)])
         refine own_g (own_F T39 m 224 #[rv a, iv ln] [(.ref b35), (.ref b35), (.ref b34), (.ref b34)]) (fun _ z_ => XS.dup X39.here hx rfl (hb hby own_d1_223) rfl rfl z_) ?_
         refine own_g (own_F T39 m 225 #[rv a, iv ln] [(.int 4), (.ref b35), (.ref b35), (.ref b34), (.ref b34)]) (fun _ z_ => XS.iconst X39.here hx rfl (hb hby own_d1_224) z_) ?_
         refine own_g (own_F T39 m 226 #[rv a, iv ln] [(.ref a), (.int 4), (.ref b35), (.ref b35), (.ref b34), (.ref b34)]) (fun _ z_ => XS.aloadN X39.here hx rfl (hb hby own_d1_225) rfl rfl z_) ?_
         refine own_g (own_F T39 m 227 #[rv a, iv ln] [(.int 4), (.ref a), (.int 4), (.ref b35), (.ref b35), (.ref b34), (.ref b34)]) (fun _ z_ => XS.iconst X39.here hx rfl (hb hby own_d1_226) z_) ?_
         refine own_cald X39 hx hZ e39 ((((((Aa.ext E34).ext E35).other W36 ne_a_b35).other W37 ne_a_b35).other W38 ne_a_b35).other W39 ne_a_b35) 4 rfl (by decide) (hb hby own_d1_227) ?_
         show own_Ends p e below s _ _ _ (own_F T39 m 228 #[rv a, iv ln] [(.int (f 4)), (.int 4), (.ref b35), (.ref b35), (.ref b34), (.ref b34)])
         refine own_cast X39 hx hZ e39 A39 4 rfl (by decide) (f 4) (own_narC (by have := hf 4 (by decide); omega)) (hb hby own_d1_228) ?_
         intro T40 h40 X40 e40 W40 A40
         have N40 := Fr.snoc X40 N39 ge_b35
         obtain ⟨g40, A40, q40_0, q40_1, q40_2, q40_3, q40_4, q40_5⟩ : ∃ gq_ : Nat → Int32, own_A Z h40 b35 .char 6 (fun q_ => .int (gq_ q_)) ∧ gq_ 0 = (f 0) ∧ gq_ 1 = (f 1) ∧ gq_ 2 = (f 2) ∧ gq_ 3 = (f 3) ∧ gq_ 4 = (f 4) ∧ gq_ 5 = (0 : Int32) := ⟨_, A40, (show ite _ _ _ = _ from (if_neg (by decide)).trans q39_0), (show ite _ _ _ = _ from (if_neg (by decide)).trans q39_1), (show ite _ _ _ = _ from (if_neg (by decide)).trans q39_2), (show ite _ _ _ = _ from (if_neg (by decide)).trans q39_3), rfl, (show ite _ _ _ = _ from (if_neg (by decide)).trans q39_5)⟩
         show own_Ends p e below s _ _ _ (own_F T40 m 229 #[rv a, iv ln] [(.ref b35), (.ref b34), (.ref b34)])
         refine own_g (own_F T40 m 230 #[rv a, iv ln] [(.ref b35), (.ref b35), (.ref b34), (.ref b34)]) (fun _ z_ => XS.dup X40.here hx rfl (hb hby own_d1_229) rfl rfl z_) ?_
         refine own_g (own_F T40 m 231 #[rv a, iv ln] [(.int 5), (.ref b35), (.ref b35), (.ref b34), (.ref b34)]) (fun _ z_ => XS.iconst X40.here hx rfl (hb hby own_d1_230) z_) ?_
         refine own_g (own_F T40 m 232 #[rv a, iv ln] [(.ref a), (.int 5), (.ref b35), (.ref b35), (.ref b34), (.ref b34)]) (fun _ z_ => XS.aloadN X40.here hx rfl (hb hby own_d1_231) rfl rfl z_) ?_
         refine own_g (own_F T40 m 233 #[rv a, iv ln] [(.int 5), (.ref a), (.int 5), (.ref b35), (.ref b35), (.ref b34), (.ref b34)]) (fun _ z_ => XS.iconst X40.here hx rfl (hb hby own_d1_232) z_) ?_
         refine own_cald X40 hx hZ e40 (((((((Aa.ext E34).ext E35).other W36 ne_a_b35).other W37 ne_a_b35).other W38 ne_a_b35).other W39 ne_a_b35).other W40 ne_a_b35) 5 rfl (by decide) (hb hby own_d1_233) ?_
         show own_Ends p e below s _ _ _ (own_F T40 m 234 #[rv a, iv ln] [(.int (f 5)), (.int 5), (.ref b35), (.ref b35), (.ref b34), (.ref b34)])
         refine own_cast X40 hx hZ e40 A40 5 rfl (by decide) (f 5) (own_narC (by have := hf 5 (by decide); omega)) (hb hby own_d1_234) ?_
         intro T41 h41 X41 e41 W41 A41
         have N41 := Fr.snoc X41 N40 ge_b35
         obtain ⟨g41, A41, q41_0, q41_1, q41_2, q41_3, q41_4, q41_5⟩ : ∃ gq_ : Nat → Int32, own_A Z h41 b35 .char 6 (fun q_ => .int (gq_ q_)) ∧ gq_ 0 = (f 0) ∧ gq_ 1 = (f 1) ∧ gq_ 2 = (f 2) ∧ gq_ 3 = (f 3) ∧ gq_ 4 = (f 4) ∧ gq_ 5 = (f 5) := ⟨_, A41, (show ite _ _ _ = _ from (if_neg (by decide)).trans q40_0), (show ite _ _ _ = _ from (if_neg (by decide)).trans q40_1), (show ite _ _ _ = _ from (if_neg (by decide)).trans q40_2), (show ite _ _ _ = _ from (if_neg (by decide)).trans q40_3), (show ite _ _ _ = _ from (if_neg (by decide)).trans q40_4), rfl⟩
         show own_Ends p e below s _ _ _ (own_F T41 m 235 #[rv a, iv ln] [(.ref b35), (.ref b34), (.ref b34)])
         have hgf : ∀ i, i < 6 → g41 i = f i := fun i hi => by rcases own_lt6 hi with rfl | rfl | rfl | rfl | rfl | rfl; exact q41_0; exact q41_1; exact q41_2; exact q41_3; exact q41_4; exact q41_5
         refine own_callI (y := (⟨"java/lang/String", "<init>", "([C)V"⟩ : MethodName)) (b := b34) X41 hx hZ hown rfl (own_w hw 8) (own_w hw 9) (own_w hw 10) (own_w hw 7) (by decide) e41 (hM := own_si l Z a0 hw [] b34 b35 6 6 zc g41 h41 n0 (Nat.le_trans (Nat.le_trans (Nat.le_trans (Nat.le_trans (Nat.le_trans (Nat.le_trans (Nat.le_trans (Nat.le_trans Z0 E34.1) E35.1) (Nat.le_of_eq W36.size.symm)) (Nat.le_of_eq W37.size.symm)) (Nat.le_of_eq W38.size.symm)) (Nat.le_of_eq W39.size.symm)) (Nat.le_of_eq W40.size.symm)) (Nat.le_of_eq W41.size.symm)) rfl (by decide) (by decide) (by decide) hzc A41 (fun i hi => by rw [hgf i hi]; exact hf i (by omega)) (((((((A34.ext E35).wr W36).wr W37).wr W38).wr W39).wr W40).wr W41) (((((((F34_value.ext E35).other W36 (Or.inl ne_b34_b35)).other W37 (Or.inl ne_b34_b35)).other W38 (Or.inl ne_b34_b35)).other W39 (Or.inl ne_b34_b35)).other W40 (Or.inl ne_b34_b35)).other W41 (Or.inl ne_b34_b35)) (((((((F34_coder.ext E35).other W36 (Or.inl ne_b34_b35)).other W37 (Or.inl ne_b34_b35)).other W38 (Or.inl ne_b34_b35)).other W39 (Or.inl ne_b34_b35)).other W40 (Or.inl ne_b34_b35)).other W41 (Or.inl ne_b34_b35))  ((((((((S_cs.ext E34).ext E35).wr W36).wr W37).wr W38).wr W39).wr W40).wr W41) ge_b34 ne_b34_b35) (W := 1) (pc := 235) (Ls := #[rv a, iv ln]) (argsL := [(.ref b35)]) (rest := [(.ref b34)]) (st0 := [(.ref b35), (.ref b34), (.ref b34)]) (by rw [hml]; rfl) (lenOf own_pd5 rfl) rfl (Nat.le_of_eq rfl) (hb hby own_d1_235) (by decide) (by decide) (by decide) (by decide) ?_
         intro v42 T42 L42 s X42 hZ hown hI42 hvm42 hhp42 hWw42 hQ42
         have SH42 : s.heap = h0 := hhp42.trans SH0
         obtain ⟨rfl, Nq42, K42, t42, La42, -⟩ := hQ42
         have N42 := Fr.app N41 Nq42
         show own_Ends p e below s _ _ _ (own_F T42 m 238 #[rv a, iv ln] [(.ref b34)])
         have LS42 := own_LS.step LS0 hI42 hWw42
         refine own_ret (t := (.object "java/lang/String")) X42 hx hlk hrt rfl (Or.inr (Or.inr (Or.inr (Or.inr ⟨rfl, rfl, rfl⟩)))) (hb hby own_d1_238) (by decide) (by decide) ?_
         have hln : 6 = ln.toInt.toNat := (by rw [c188]; rfl)
         exact ⟨b34, t42, rfl, N42, ((((((((((Keep.refl _ _).ext E34).ext E35).wr W36 (Or.inr sz_b35)).wr W37 (Or.inr sz_b35)).wr W38 (Or.inr sz_b35)).wr W39 (Or.inr sz_b35)).wr W40 (Or.inr sz_b35)).wr W41 (Or.inr sz_b35)).trans K42 (allS (Or.inr sz_b34) all0)), La42.congr hln hgf, own_LS.warm (LS42.keep ((((((((((Keep.refl _ _).ext E34).ext E35).wr W36 (Or.inr sz_b35)).wr W37 (Or.inr sz_b35)).wr W38 (Or.inr sz_b35)).wr W39 (Or.inr sz_b35)).wr W40 (Or.inr sz_b35)).wr W41 (Or.inr sz_b35)).trans K42 (allS (Or.inr sz_b34) all0))) X42.warmed⟩
        · -- pc 188: not ln = (6 : Int32)
         refine own_g (own_F T0 m 239 #[rv a, iv ln] []) (fun _ z_ => XS.icmpYes X0.here hx rfl (pc0 := 188) (pc' := 239) rfl (hb hby own_d1_188) rfl (feq c188).2 (by decide) (by decide) z_) ?_
         obtain ⟨T43, h43, X43, e43, E43, A43, D43, -, st43⟩ := newO X0 hx hZ hown (own_w hw 5) (own_w hw 6) (own_w hw 7) e0 (g := (mkF m 239 #[rv a, iv ln] [])) rfl (hb hby own_d1_239) (by decide) (by decide)
         obtain ⟨b43, g43⟩ : ∃ z, z = h0.size := ⟨_, rfl⟩
         rw [← g43] at A43 D43 st43
         have sz_b43 : h0.size ≤ b43 := Nat.le_trans (Nat.le_refl h0.size) (Nat.le_of_eq g43.symm)
         have ge_b43 : n0 ≤ b43 := Nat.le_trans Z0 (Nat.le_of_eq g43.symm)
         have ne_a_b43 : a ≠ b43 := Nat.ne_of_lt (Nat.lt_of_lt_of_le Aa.lt (Nat.le_of_eq g43.symm))
         have F43_value : Fld Z h43 b43 "java/lang/String" "value" "[B" .null := D43 (Or.inr (own_w hw 20)) (ty := (.array .byte)) (by decide)
         have F43_coder : Fld Z h43 b43 "java/lang/String" "coder" "B" (.int 0) := D43 (Or.inr (own_w hw 21)) (ty := .byte) (by decide)
         refine own_pre (S' := (own_F T43 m 242 #[rv a, iv ln] [(.ref b43)])) st43 ?_
         refine own_g (own_F T43 m 243 #[rv a, iv ln] [(.ref b43), (.ref b43)]) (fun _ z_ => XS.dup X43.here hx rfl (hb hby own_d1_242) rfl rfl z_) ?_
         refine own_g (own_F T43 m 245 #[rv a, iv ln] [(.int 7), (.ref b43), (.ref b43)]) (fun _ z_ => XS.bipush X43.here hx rfl (hb hby own_d1_243) z_) ?_
         refine own_newA X43 hx hZ .char rfl (own_w hw 0) e43 (hb hby own_d1_245) 7 rfl 7 (by decide) (by decide) (by decide) (by decide) ?_
         intro T44 h44 b44 X44 e44 E44 g44 A44
         have sz_b44 : h0.size ≤ b44 := Nat.le_trans (Nat.le_trans (Nat.le_refl h0.size) E43.1) (Nat.le_of_eq g44.symm)
         have ge_b44 : n0 ≤ b44 := Nat.le_trans (Nat.le_trans Z0 E43.1) (Nat.le_of_eq g44.symm)
         have ne_a_b44 : a ≠ b44 := Nat.ne_of_lt (Nat.lt_of_lt_of_le (Aa.ext E43).lt (Nat.le_of_eq g44.symm))
         have ne_b43_b44 : b43 ≠ b44 := Nat.ne_of_lt (Nat.lt_of_lt_of_le F43_value.lt (Nat.le_of_eq g44.symm))
         have A44 : own_A Z h44 b44 .char 7 (fun q_ => .int ((fun _ => (0 : Int32)) q_)) := A44
         show own_Ends p e below s _ _ _ (own_F T44 m 247 #[rv a, iv ln] [(.ref b44), (.ref b43), (.ref b43)])
         refine own_g (own_F T44 m 248 #[rv a, iv ln] [(.ref b44), (.ref b44), (.ref b43), (.ref b43)]) (fun _ z_ => XS.dup X44.here hx rfl (hb hby own_d1_247) rfl rfl z_) ?_
         refine own_g (own_F T44 m 249 #[rv a, iv ln] [(.int 0), (.ref b44), (.ref b44), (.ref b43), (.ref b43)]) (fun _ z_ => XS.iconst X44.here hx rfl (hb hby own_d1_248) z_) ?_
         refine own_g (own_F T44 m 250 #[rv a, iv ln] [(.ref a), (.int 0), (.ref b44), (.ref b44), (.ref b43), (.ref b43)]) (fun _ z_ => XS.aloadN X44.here hx rfl (hb hby own_d1_249) rfl rfl z_) ?_
         refine own_g (own_F T44 m 251 #[rv a, iv ln] [(.int 0), (.ref a), (.int 0), (.ref b44), (.ref b44), (.ref b43), (.ref b43)]) (fun _ z_ => XS.iconst X44.here hx rfl (hb hby own_d1_250) z_) ?_
         refine own_cald X44 hx hZ e44 ((Aa.ext E43).ext E44) 0 rfl (by decide) (hb hby own_d1_251) ?_
         show own_Ends p e below s _ _ _ (own_F T44 m 252 #[rv a, iv ln] [(.int (f 0)), (.int 0), (.ref b44), (.ref b44), (.ref b43), (.ref b43)])
         refine own_cast X44 hx hZ e44 A44 0 rfl (by decide) (f 0) (own_narC (by have := hf 0 (by decide); omega)) (hb hby own_d1_252) ?_
         intro T45 h45 X45 e45 W45 A45
         have N45 := Fr.snoc X45 N0 ge_b44
         obtain ⟨g45, A45, q45_0, q45_1, q45_2, q45_3, q45_4, q45_5, q45_6⟩ : ∃ gq_ : Nat → Int32, own_A Z h45 b44 .char 7 (fun q_ => .int (gq_ q_)) ∧ gq_ 0 = (f 0) ∧ gq_ 1 = (0 : Int32) ∧ gq_ 2 = (0 : Int32) ∧ gq_ 3 = (0 : Int32) ∧ gq_ 4 = (0 : Int32) ∧ gq_ 5 = (0 : Int32) ∧ gq_ 6 = (0 : Int32) := ⟨_, A45, rfl, (show ite _ _ _ = _ from (if_neg (by decide)).trans rfl), (show ite _ _ _ = _ from (if_neg (by decide)).trans rfl), (show ite _ _ _ = _ from (if_neg (by decide)).trans rfl), (show ite _ _ _ = _ from (if_neg (by decide)).trans rfl), (show ite _ _ _ = _ from (if_neg (by decide)).trans rfl), (show ite _ _ _ = _ from (if_neg (by decide)).trans rfl)⟩
         show own_Ends p e below s _ _ _ (own_F T45 m 253 #[rv a, iv ln] [(.ref b44), (.ref b43), (.ref b43)])
         refine own_g (own_F T45 m 254 #[rv a, iv ln] [(.ref b44), (.ref b44), (.ref b43), (.ref b43)]) (fun _ z_ => XS.dup X45.here hx rfl (hb hby own_d1_253) rfl rfl z_) ?_
         refine own_g (own_F T45 m 255 #[rv a, iv ln] [(.int 1), (.ref b44), (.ref b44), (.ref b43), (.ref b43)]) (fun _ z_ => XS.iconst X45.here hx rfl (hb hby own_d1_254) z_) ?_
         refine own_g (own_F T45 m 256 #[rv a, iv ln] [(.ref a), (.int 1), (.ref b44), (.ref b44), (.ref b43), (.ref b43)]) (fun _ z_ => XS.aloadN X45.here hx rfl (hb hby own_d1_255) rfl rfl z_) ?_
         refine own_g (own_F T45 m 257 #[rv a, iv ln] [(.int 1), (.ref a), (.int 1), (.ref b44), (.ref b44), (.ref b43), (.ref b43)]) (fun _ z_ => XS.iconst X45.here hx rfl (hb hby own_d1_256) z_) ?_
         refine own_cald X45 hx hZ e45 (((Aa.ext E43).ext E44).other W45 ne_a_b44) 1 rfl (by decide) (hb hby own_d1_257) ?_
         show own_Ends p e below s _ _ _ (own_F T45 m 258 #[rv a, iv ln] [(.int (f 1)), (.int 1), (.ref b44), (.ref b44), (.ref b43), (.ref b43)])
         refine own_cast X45 hx hZ e45 A45 1 rfl (by decide) (f 1) (own_narC (by have := hf 1 (by decide); omega)) (hb hby own_d1_258) ?_
         intro T46 h46 X46 e46 W46 A46
         have N46 := Fr.snoc X46 N45 ge_b44
         obtain ⟨g46, A46, q46_0, q46_1, q46_2, q46_3, q46_4, q46_5, q46_6⟩ : ∃ gq_ : Nat → Int32, own_A Z h46 b44 .char 7 (fun q_ => .int (gq_ q_)) ∧ gq_ 0 = (f 0) ∧ gq_ 1 = (f 1) ∧ gq_ 2 = (0 : Int32) ∧ gq_ 3 = (0 : Int32) ∧ gq_ 4 = (0 : Int32) ∧ gq_ 5 = (0 : Int32) ∧ gq_ 6 = (0 : Int32) := ⟨_, A46, (show ite _ _ _ = _ from (if_neg (by decide)).trans q45_0), rfl, (show ite _ _ _ = _ from (if_neg (by decide)).trans q45_2), (show ite _ _ _ = _ from (if_neg (by decide)).trans q45_3), (show ite _ _ _ = _ from (if_neg (by decide)).trans q45_4), (show ite _ _ _ = _ from (if_neg (by decide)).trans q45_5), (show ite _ _ _ = _ from (if_neg (by decide)).trans q45_6)⟩
         show own_Ends p e below s _ _ _ (own_F T46 m 259 #[rv a, iv ln] [(.ref b44), (.ref b43), (.ref b43)])
         refine own_g (own_F T46 m 260 #[rv a, iv ln] [(.ref b44), (.ref b44), (.ref b43), (.ref b43)]) (fun _ z_ => XS.dup X46.here hx rfl (hb hby own_d1_259) rfl rfl z_) ?_
         refine own_g (own_F T46 m 261 #[rv a, iv ln] [(.int 2), (.ref b44), (.ref b44), (.ref b43), (.ref b43)]) (fun _ z_ => XS.iconst X46.here hx rfl (hb hby own_d1_260) z_) ?_
         refine own_g (own_F T46 m 262 #[rv a, iv ln] [(.ref a), (.int 2), (.ref b44), (.ref b44), (.ref b43), (.ref b43)]) (fun _ z_ => XS.aloadN X46.here hx rfl (hb hby own_d1_261) rfl rfl z_) ?_
         refine own_g (own_F T46 m 263 #[rv a, iv ln] [(.int 2), (.ref a), (.int 2), (.ref b44), (.ref b44), (.ref b43), (.ref b43)]) (fun _ z_ => XS.iconst X46.here hx rfl (hb hby own_d1_262) z_) ?_
         refine own_cald X46 hx hZ e46 ((((Aa.ext E43).ext E44).other W45 ne_a_b44).other W46 ne_a_b44) 2 rfl (by decide) (hb hby own_d1_263) ?_
         show own_Ends p e below s _ _ _ (own_F T46 m 264 #[rv a, iv ln] [(.int (f 2)), (.int 2), (.ref b44), (.ref b44), (.ref b43), (.ref b43)])
         refine own_cast X46 hx hZ e46 A46 2 rfl (by decide) (f 2) (own_narC (by have := hf 2 (by decide); omega)) (hb hby own_d1_264) ?_
         intro T47 h47 X47 e47 W47 A47
         have N47 := Fr.snoc X47 N46 ge_b44
         obtain ⟨g47, A47, q47_0, q47_1, q47_2, q47_3, q47_4, q47_5, q47_6⟩ : ∃ gq_ : Nat → Int32, own_A Z h47 b44 .char 7 (fun q_ => .int (gq_ q_)) ∧ gq_ 0 = (f 0) ∧ gq_ 1 = (f 1) ∧ gq_ 2 = (f 2) ∧ gq_ 3 = (0 : Int32) ∧ gq_ 4 = (0 : Int32) ∧ gq_ 5 = (0 : Int32) ∧ gq_ 6 = (0 : Int32) := ⟨_, A47, (show ite _ _ _ = _ from (if_neg (by decide)).trans q46_0), (show ite _ _ _ = _ from (if_neg (by decide)).trans q46_1), rfl, (show ite _ _ _ = _ from (if_neg (by decide)).trans q46_3), (show ite _ _ _ = _ from (if_neg (by decide)).trans q46_4), (show ite _ _ _ = _ from (if_neg (by decide)).trans q46_5), (show ite _ _ _ = _ from (if_neg (by decide)).trans q46_6)⟩
         show own_Ends p e below s _ _ _ (own_F T47 m 265 #[rv a, iv ln] [(.ref b44), (.ref b43), (.ref b43)])
         refine own_g (own_F T47 m 266 #[rv a, iv ln] [(.ref b44), (.ref b44), (.ref b43), (.ref b43)]) (fun _ z_ => XS.dup X47.here hx rfl (hb hby own_d1_265) rfl rfl z_) ?_
         refine own_g (own_F T47 m 267 #[rv a, iv ln] [(.int 3), (.ref b44), (.ref b44), (.ref b43), (.ref b43)]) (fun _ z_ => XS.iconst X47.here hx rfl (hb hby own_d1_266) z_) ?_
         refine own_g (own_F T47 m 268 #[rv a, iv ln] [(.ref a), (.int 3), (.ref b44), (.ref b44), (.ref b43), (.ref b43)]) (fun _ z_ => XS.aloadN X47.here hx rfl (hb hby own_d1_267) rfl rfl z_) ?_
         refine own_g (own_F T47 m 269 #[rv a, iv ln] [(.int 3), (.ref a), (.int 3), (.ref b44), (.ref b44), (.ref b43), (.ref b43)]) (fun _ z_ => XS.iconst X47.here hx rfl (hb hby own_d1_268) z_) ?_
         refine own_cald X47 hx hZ e47 (((((Aa.ext E43).ext E44).other W45 ne_a_b44).other W46 ne_a_b44).other W47 ne_a_b44) 3 rfl (by decide) (hb hby own_d1_269) ?_
         show own_Ends p e below s _ _ _ (own_F T47 m 270 #[rv a, iv ln] [(.int (f 3)), (.int 3), (.ref b44), (.ref b44), (.ref b43), (.ref b43)])
         refine own_cast X47 hx hZ e47 A47 3 rfl (by decide) (f 3) (own_narC (by have := hf 3 (by decide); omega)) (hb hby own_d1_270) ?_
         intro T48 h48 X48 e48 W48 A48
         have N48 := Fr.snoc X48 N47 ge_b44
         obtain ⟨g48, A48, q48_0, q48_1, q48_2, q48_3, q48_4, q48_5, q48_6⟩ : ∃ gq_ : Nat → Int32, own_A Z h48 b44 .char 7 (fun q_ => .int (gq_ q_)) ∧ gq_ 0 = (f 0) ∧ gq_ 1 = (f 1) ∧ gq_ 2 = (f 2) ∧ gq_ 3 = (f 3) ∧ gq_ 4 = (0 : Int32) ∧ gq_ 5 = (0 : Int32) ∧ gq_ 6 = (0 : Int32) := ⟨_, A48, (show ite _ _ _ = _ from (if_neg (by decide)).trans q47_0), (show ite _ _ _ = _ from (if_neg (by decide)).trans q47_1), (show ite _ _ _ = _ from (if_neg (by decide)).trans q47_2), rfl, (show ite _ _ _ = _ from (if_neg (by decide)).trans q47_4), (show ite _ _ _ = _ from (if_neg (by decide)).trans q47_5), (show ite _ _ _ = _ from (if_neg (by decide)).trans q47_6)⟩
         show own_Ends p e below s _ _ _ (own_F T48 m 271 #[rv a, iv ln] [(.ref b44), (.ref b43), (.ref b43)])
         refine own_g (own_F T48 m 272 #[rv a, iv ln] [(.ref b44), (.ref b44), (.ref b43), (.ref b43)]) (fun _ z_ => XS.dup X48.here hx rfl (hb hby own_d1_271) rfl rfl z_) ?_
         refine own_g (own_F T48 m 273 #[rv a, iv ln] [(.int 4), (.ref b44), (.ref b44), (.ref b43), (.ref b43)]) (fun _ z_ => XS.iconst X48.here hx rfl (hb hby own_d1_272) z_) ?_
         refine own_g (own_F T48 m 274 #[rv a, iv ln] [(.ref a), (.int 4), (.ref b44), (.ref b44), (.ref b43), (.ref b43)]) (fun _ z_ => XS.aloadN X48.here hx rfl (hb hby own_d1_273) rfl rfl z_) ?_
         refine own_g (own_F T48 m 275 #[rv a, iv ln] [(.int 4), (.ref a), (.int 4), (.ref b44), (.ref b44), (.ref b43), (.ref b43)]) (fun _ z_ => XS.iconst X48.here hx rfl (hb hby own_d1_274) z_) ?_
         refine own_cald X48 hx hZ e48 ((((((Aa.ext E43).ext E44).other W45 ne_a_b44).other W46 ne_a_b44).other W47 ne_a_b44).other W48 ne_a_b44) 4 rfl (by decide) (hb hby own_d1_275) ?_
         show own_Ends p e below s _ _ _ (own_F T48 m 276 #[rv a, iv ln] [(.int (f 4)), (.int 4), (.ref b44), (.ref b44), (.ref b43), (.ref b43)])
         refine own_cast X48 hx hZ e48 A48 4 rfl (by decide) (f 4) (own_narC (by have := hf 4 (by decide); omega)) (hb hby own_d1_276) ?_
         intro T49 h49 X49 e49 W49 A49
         have N49 := Fr.snoc X49 N48 ge_b44
         obtain ⟨g49, A49, q49_0, q49_1, q49_2, q49_3, q49_4, q49_5, q49_6⟩ : ∃ gq_ : Nat → Int32, own_A Z h49 b44 .char 7 (fun q_ => .int (gq_ q_)) ∧ gq_ 0 = (f 0) ∧ gq_ 1 = (f 1) ∧ gq_ 2 = (f 2) ∧ gq_ 3 = (f 3) ∧ gq_ 4 = (f 4) ∧ gq_ 5 = (0 : Int32) ∧ gq_ 6 = (0 : Int32) := ⟨_, A49, (show ite _ _ _ = _ from (if_neg (by decide)).trans q48_0), (show ite _ _ _ = _ from (if_neg (by decide)).trans q48_1), (show ite _ _ _ = _ from (if_neg (by decide)).trans q48_2), (show ite _ _ _ = _ from (if_neg (by decide)).trans q48_3), rfl, (show ite _ _ _ = _ from (if_neg (by decide)).trans q48_5), (show ite _ _ _ = _ from (if_neg (by decide)).trans q48_6)⟩
         show own_Ends p e below s _ _ _ (own_F T49 m 277 #[rv a, iv ln] [(.ref b44), (.ref b43), (.ref b43)])
         refine own_g (own_F T49 m 278 #[rv a, iv ln] [(.ref b44), (.ref b44), (.ref b43), (.ref b43)]) (fun _ z_ => XS.dup X49.here hx rfl (hb hby own_d1_277) rfl rfl z_) ?_
         refine own_g (own_F T49 m 279 #[rv a, iv ln] [(.int 5), (.ref b44), (.ref b44), (.ref b43), (.ref b43)]) (fun _ z_ => XS.iconst X49.here hx rfl (hb hby own_d1_278) z_) ?_
         refine own_g (own_F T49 m 280 #[rv a, iv ln] [(.ref a), (.int 5), (.ref b44), (.ref b44), (.ref b43), (.ref b43)]) (fun _ z_ => XS.aloadN X49.here hx rfl (hb hby own_d1_279) rfl rfl z_) ?_
         refine own_g (own_F T49 m 281 #[rv a, iv ln] [(.int 5), (.ref a), (.int 5), (.ref b44), (.ref b44), (.ref b43), (.ref b43)]) (fun _ z_ => XS.iconst X49.here hx rfl (hb hby own_d1_280) z_) ?_
         refine own_cald X49 hx hZ e49 (((((((Aa.ext E43).ext E44).other W45 ne_a_b44).other W46 ne_a_b44).other W47 ne_a_b44).other W48 ne_a_b44).other W49 ne_a_b44) 5 rfl (by decide) (hb hby own_d1_281) ?_
         show own_Ends p e below s _ _ _ (own_F T49 m 282 #[rv a, iv ln] [(.int (f 5)), (.int 5), (.ref b44), (.ref b44), (.ref b43), (.ref b43)])
         refine own_cast X49 hx hZ e49 A49 5 rfl (by decide) (f 5) (own_narC (by have := hf 5 (by decide); omega)) (hb hby own_d1_282) ?_
         intro T50 h50 X50 e50 W50 A50
         have N50 := Fr.snoc X50 N49 ge_b44
         obtain ⟨g50, A50, q50_0, q50_1, q50_2, q50_3, q50_4, q50_5, q50_6⟩ : ∃ gq_ : Nat → Int32, own_A Z h50 b44 .char 7 (fun q_ => .int (gq_ q_)) ∧ gq_ 0 = (f 0) ∧ gq_ 1 = (f 1) ∧ gq_ 2 = (f 2) ∧ gq_ 3 = (f 3) ∧ gq_ 4 = (f 4) ∧ gq_ 5 = (f 5) ∧ gq_ 6 = (0 : Int32) := ⟨_, A50, (show ite _ _ _ = _ from (if_neg (by decide)).trans q49_0), (show ite _ _ _ = _ from (if_neg (by decide)).trans q49_1), (show ite _ _ _ = _ from (if_neg (by decide)).trans q49_2), (show ite _ _ _ = _ from (if_neg (by decide)).trans q49_3), (show ite _ _ _ = _ from (if_neg (by decide)).trans q49_4), rfl, (show ite _ _ _ = _ from (if_neg (by decide)).trans q49_6)⟩
         show own_Ends p e below s _ _ _ (own_F T50 m 283 #[rv a, iv ln] [(.ref b44), (.ref b43), (.ref b43)])
         refine own_g (own_F T50 m 284 #[rv a, iv ln] [(.ref b44), (.ref b44), (.ref b43), (.ref b43)]) (fun _ z_ => XS.dup X50.here hx rfl (hb hby own_d1_283) rfl rfl z_) ?_
         refine own_g (own_F T50 m 286 #[rv a, iv ln] [(.int 6), (.ref b44), (.ref b44), (.ref b43), (.ref b43)]) (fun _ z_ => XS.bipush X50.here hx rfl (hb hby own_d1_284) z_) ?_
         refine own_g (own_F T50 m 287 #[rv a, iv ln] [(.ref a), (.int 6), (.ref b44), (.ref b44), (.ref b43), (.ref b43)]) (fun _ z_ => XS.aloadN X50.here hx rfl (hb hby own_d1_286) rfl rfl z_) ?_
         refine own_g (own_F T50 m 289 #[rv a, iv ln] [(.int 6), (.ref a), (.int 6), (.ref b44), (.ref b44), (.ref b43), (.ref b43)]) (fun _ z_ => XS.bipush X50.here hx rfl (hb hby own_d1_287) z_) ?_
         refine own_cald X50 hx hZ e50 ((((((((Aa.ext E43).ext E44).other W45 ne_a_b44).other W46 ne_a_b44).other W47 ne_a_b44).other W48 ne_a_b44).other W49 ne_a_b44).other W50 ne_a_b44) 6 rfl (by decide) (hb hby own_d1_289) ?_
         show own_Ends p e below s _ _ _ (own_F T50 m 290 #[rv a, iv ln] [(.int (f 6)), (.int 6), (.ref b44), (.ref b44), (.ref b43), (.ref b43)])
         refine own_cast X50 hx hZ e50 A50 6 rfl (by decide) (f 6) (own_narC (by have := hf 6 (by decide); omega)) (hb hby own_d1_290) ?_
         intro T51 h51 X51 e51 W51 A51
         have N51 := Fr.snoc X51 N50 ge_b44
         obtain ⟨g51, A51, q51_0, q51_1, q51_2, q51_3, q51_4, q51_5, q51_6⟩ : ∃ gq_ : Nat → Int32, own_A Z h51 b44 .char 7 (fun q_ => .int (gq_ q_)) ∧ gq_ 0 = (f 0) ∧ gq_ 1 = (f 1) ∧ gq_ 2 = (f 2) ∧ gq_ 3 = (f 3) ∧ gq_ 4 = (f 4) ∧ gq_ 5 = (f 5) ∧ gq_ 6 = (f 6) := ⟨_, A51, (show ite _ _ _ = _ from (if_neg (by decide)).trans q50_0), (show ite _ _ _ = _ from (if_neg (by decide)).trans q50_1), (show ite _ _ _ = _ from (if_neg (by decide)).trans q50_2), (show ite _ _ _ = _ from (if_neg (by decide)).trans q50_3), (show ite _ _ _ = _ from (if_neg (by decide)).trans q50_4), (show ite _ _ _ = _ from (if_neg (by decide)).trans q50_5), rfl⟩
         show own_Ends p e below s _ _ _ (own_F T51 m 291 #[rv a, iv ln] [(.ref b44), (.ref b43), (.ref b43)])
         have hgf : ∀ i, i < 7 → g51 i = f i := fun i hi => by rcases own_lt7 hi with rfl | rfl | rfl | rfl | rfl | rfl | rfl; exact q51_0; exact q51_1; exact q51_2; exact q51_3; exact q51_4; exact q51_5; exact q51_6
         refine own_callI (y := (⟨"java/lang/String", "<init>", "([C)V"⟩ : MethodName)) (b := b43) X51 hx hZ hown rfl (own_w hw 8) (own_w hw 9) (own_w hw 10) (own_w hw 7) (by decide) e51 (hM := own_si l Z a0 hw [] b43 b44 7 7 zc g51 h51 n0 (Nat.le_trans (Nat.le_trans (Nat.le_trans (Nat.le_trans (Nat.le_trans (Nat.le_trans (Nat.le_trans (Nat.le_trans (Nat.le_trans Z0 E43.1) E44.1) (Nat.le_of_eq W45.size.symm)) (Nat.le_of_eq W46.size.symm)) (Nat.le_of_eq W47.size.symm)) (Nat.le_of_eq W48.size.symm)) (Nat.le_of_eq W49.size.symm)) (Nat.le_of_eq W50.size.symm)) (Nat.le_of_eq W51.size.symm)) rfl (by decide) (by decide) (by decide) hzc A51 (fun i hi => by rw [hgf i hi]; exact hf i (by omega)) ((((((((A43.ext E44).wr W45).wr W46).wr W47).wr W48).wr W49).wr W50).wr W51) ((((((((F43_value.ext E44).other W45 (Or.inl ne_b43_b44)).other W46 (Or.inl ne_b43_b44)).other W47 (Or.inl ne_b43_b44)).other W48 (Or.inl ne_b43_b44)).other W49 (Or.inl ne_b43_b44)).other W50 (Or.inl ne_b43_b44)).other W51 (Or.inl ne_b43_b44)) ((((((((F43_coder.ext E44).other W45 (Or.inl ne_b43_b44)).other W46 (Or.inl ne_b43_b44)).other W47 (Or.inl ne_b43_b44)).other W48 (Or.inl ne_b43_b44)).other W49 (Or.inl ne_b43_b44)).other W50 (Or.inl ne_b43_b44)).other W51 (Or.inl ne_b43_b44))  (((((((((S_cs.ext E43).ext E44).wr W45).wr W46).wr W47).wr W48).wr W49).wr W50).wr W51) ge_b43 ne_b43_b44) (W := 1) (pc := 291) (Ls := #[rv a, iv ln]) (argsL := [(.ref b44)]) (rest := [(.ref b43)]) (st0 := [(.ref b44), (.ref b43), (.ref b43)]) (by rw [hml]; rfl) (lenOf own_pd5 rfl) rfl (Nat.le_of_eq rfl) (hb hby own_d1_291) (by decide) (by decide) (by decide) (by decide) ?_
         intro v52 T52 L52 s X52 hZ hown hI52 hvm52 hhp52 hWw52 hQ52
         have SH52 : s.heap = h0 := hhp52.trans SH0
         obtain ⟨rfl, Nq52, K52, t52, La52, -⟩ := hQ52
         have N52 := Fr.app N51 Nq52
         show own_Ends p e below s _ _ _ (own_F T52 m 294 #[rv a, iv ln] [(.ref b43)])
         have LS52 := own_LS.step LS0 hI52 hWw52
         refine own_ret (t := (.object "java/lang/String")) X52 hx hlk hrt rfl (Or.inr (Or.inr (Or.inr (Or.inr ⟨rfl, rfl, rfl⟩)))) (hb hby own_d1_294) (by decide) (by decide) ?_
         have hln : 7 = ln.toInt.toNat := (by simp only [← Int32.toInt_inj, Int32.reduceToInt] at c1 c17 c39 c67 c101 c141 c188; omega)
         exact ⟨b43, t52, rfl, N52, (((((((((((Keep.refl _ _).ext E43).ext E44).wr W45 (Or.inr sz_b44)).wr W46 (Or.inr sz_b44)).wr W47 (Or.inr sz_b44)).wr W48 (Or.inr sz_b44)).wr W49 (Or.inr sz_b44)).wr W50 (Or.inr sz_b44)).wr W51 (Or.inr sz_b44)).trans K52 (allS (Or.inr sz_b43) all0)), La52.congr hln hgf, own_LS.warm (LS52.keep (((((((((((Keep.refl _ _).ext E43).ext E44).wr W45 (Or.inr sz_b44)).wr W46 (Or.inr sz_b44)).wr W47 (Or.inr sz_b44)).wr W48 (Or.inr sz_b44)).wr W49 (Or.inr sz_b44)).wr W50 (Or.inr sz_b44)).wr W51 (Or.inr sz_b44)).trans K52 (allS (Or.inr sz_b43) all0))) X52.warmed⟩
set_option maxRecDepth 65536 in
set_option maxHeartbeats 40000000 in
theorem own_val (l : Launch) (Z : State) (a0 : Array Value) (hw : ∀ d ∈ tables_1, d.before a0 Z = true) (ws : List Jvm.Cond) (av aA aR : Addr) (h0 : Heap) (n0 : Nat) (Z0 : n0 ≤ h0.size) (S_v : Sta Z h0 "com/example/tideline/tideline/TokenType" "$VALUES" "[Lcom/example/tideline/tideline/TokenType;" (.ref av)) (A_v : own_A Z h0 av (.object "com/example/tideline/tideline/TokenType") 2 (own_vv aA aR)) (E_v : Exa Z h0 av "[Lcom/example/tideline/tideline/TokenType;") :
    own_Met l Z (⟨"com/example/tideline/tideline/TokenType", "values", "()[Lcom/example/tideline/tideline/TokenType;"⟩ : MethodName) prog_12_method_1_code 0 (some (.array (.object "com/example/tideline/tideline/TokenType"))) ws ({ frames := 1, cells := 1, slots := 2, locals := 14 } : Room) #[] h0 (fun v h L => ∃ b : Addr, v = some (.ref b) ∧ Fr n0 L ∧ Keep h0 h [] ∧ own_A Z h b (.object "com/example/tideline/tideline/TokenType") 2 (own_vv aA aR)) := by
  refine own_body own_pn8 (fun m => mkF m 0 #[] []) (fun m => own_ef_own_val m ) ?_
  intro p e s m below meth c T0 hx hby hml hlk hrt hZ hown hnm X0 e0
  have hown : s.vm.findClass "com/example/tideline/tideline/TokenType" = some m.cls := hown
  have N0 := Fr.nil n0
  obtain ⟨T1, X1, e1, st1⟩ := getS2 X0 hx hZ hown (host := "") (Or.inl (own_w hw 33)) Via.refl e0 S_v (g := (mkF m 0 #[] [])) rfl (hb hby own_d6_0)
  refine own_pre (S' := (own_F T1 m 3 #[] [(.ref av)])) st1 ?_
  refine own_cloneV X1 hx hZ hown (ad := "[Lcom/example/tideline/tideline/TokenType;") (own_w hw 35) (own_w hw 36) (own_w hw 40) (own_w hw 38) (own_w hw 39) (own_w hw 41) e1 A_v (own_vvf aA aR) E_v (Ls := #[]) (by rw [hml]; rfl) (rest := []) (hb hby own_d6_3) (by decide) (W := 0) (Nat.le_of_eq rfl) (by decide) (by decide) (by decide) ?_
  intro T2 h2 b2 X2 e2 E2 g2 A2 Ex2
  have sz_b2 : h0.size ≤ b2 := Nat.le_trans (Nat.le_refl h0.size) (Nat.le_of_eq g2.symm)
  have ge_b2 : n0 ≤ b2 := Nat.le_trans Z0 (Nat.le_of_eq g2.symm)
  have ne_av_b2 : av ≠ b2 := Nat.ne_of_lt (Nat.lt_of_lt_of_le A_v.lt (Nat.le_of_eq g2.symm))
  show own_Ends p e below s _ _ _ (own_F T2 m 6 #[] [(.ref b2)])
  obtain ⟨T3, X3, e3, st3⟩ := castY X2 hx hZ hown (own_w hw 45) e2 (Ins.self Ex2) (g := (mkF m 6 #[] [(.ref b2)])) rfl rfl (hb hby own_d6_6)
  refine own_pre (S' := (own_F T3 m 9 #[] [(.ref b2)])) st3 ?_
  refine own_ret (t := (.array (.object "com/example/tideline/tideline/TokenType"))) X3 hx hlk hrt rfl (Or.inr (Or.inr (Or.inr (Or.inr ⟨rfl, rfl, rfl⟩)))) (hb hby own_d6_9) (by decide) (by decide) ?_
  rw [e3]
  exact ⟨b2, rfl, N0, ((Keep.refl _ _).ext E2), A2⟩
set_option maxRecDepth 65536 in
set_option maxHeartbeats 40000000 in
theorem own_of (l : Launch) (Z : State) (a0 : Array Value) (hw : ∀ d ∈ tables_1, d.before a0 Z = true) (ws : List Jvm.Cond) (av aA aR wA wR tA tR : Addr) (x t : Addr) (n : Nat) (nn zc eA eR : Int32) (f : Nat → Int32) (h0 : Heap) (n0 : Nat) (Z0 : n0 ≤ h0.size) (S_v : Sta Z h0 "com/example/tideline/tideline/TokenType" "$VALUES" "[Lcom/example/tideline/tideline/TokenType;" (.ref av)) (A_v : own_A Z h0 av (.object "com/example/tideline/tideline/TokenType") 2 (own_vv aA aR)) (E_v : Exa Z h0 av "[Lcom/example/tideline/tideline/TokenType;") (E_A : Exa Z h0 aA "com/example/tideline/tideline/TokenType") (F_A : Fld Z h0 aA "com/example/tideline/tideline/TokenType" "wireName" "Ljava/lang/String;" (.ref wA)) (L_A : own_Lat Z h0 wA tA 6 (own_tx "access")) (E_R : Exa Z h0 aR "com/example/tideline/tideline/TokenType") (F_R : Fld Z h0 aR "com/example/tideline/tideline/TokenType" "wireName" "Ljava/lang/String;" (.ref wR)) (L_R : own_Lat Z h0 wR tR 7 (own_tx "refresh")) (hn : nn.toInt = (n : Int)) (Lx : own_Lat Z h0 x t n f) (hrA : (eA = 1 ∧ own_eqs 6 n (own_tx "access") f) ∨ (eA = 0 ∧ ¬ own_eqs 6 n (own_tx "access") f)) (hrR : (eR = 1 ∧ own_eqs 7 n (own_tx "refresh") f) ∨ (eR = 0 ∧ ¬ own_eqs 7 n (own_tx "refresh") f)) (hzc : ¬ zc = (0 : Int32)) (S_cs : Sta Z h0 "java/lang/String" "COMPACT_STRINGS" "Z" (.int zc)) :
    own_Met l Z (⟨"com/example/tideline/tideline/TokenType", "of", "(Ljava/lang/String;)Lcom/example/tideline/tideline/TokenType;"⟩ : MethodName) prog_12_method_6_code 5 (some (.object "com/example/tideline/tideline/TokenType")) ws ({ frames := 2, cells := 1, slots := 2, locals := 28 } : Room) #[(.ref x)] h0 (fun v h L => v = some (own_tv eA eR aA aR) ∧ Fr n0 L ∧ Keep h0 h []) := by
  refine own_body own_pn9 (fun m => mkF m 0 #[rv x, .unset, .unset, .unset, .unset] []) (fun m => own_ef_own_of m x) ?_
  intro p e s m below meth c T0 hx hby hml hlk hrt hZ hown hnm X0 e0
  have hown : s.vm.findClass "com/example/tideline/tideline/TokenType" = some m.cls := hown
  have N0 := Fr.nil n0
  refine own_callS (y := (⟨"com/example/tideline/tideline/TokenType", "values", "()[Lcom/example/tideline/tideline/TokenType;"⟩ : MethodName)) X0 hx hZ hown (own_w hw 30) (own_w hw 31) (own_w hw 28) (own_w hw 32) (by decide) e0 (hM := own_val l Z a0 hw [] av aA aR h0 n0 Z0 S_v A_v E_v) (W := 0) (pc := 0) (Ls := #[rv x, .unset, .unset, .unset, .unset]) (argsL := []) (rest := []) (st0 := []) (by rw [hml]; rfl) (lenOf own_pd6 rfl) rfl (Nat.le_of_eq rfl) (hb hby own_d5_0) (by decide) (by decide) (by decide) (by decide) ?_
  intro v1 T1 L1 s X1 hZ hown hI1 hvm1 hhp1 hWw1 hQ1
  obtain ⟨b1, rfl, Nq1, K1, Ab1⟩ := hQ1
  have N1 := Fr.app N0 Nq1
  show own_Ends p e below s _ _ _ (own_F T1 m 3 #[rv x, .unset, .unset, .unset, .unset] [(.ref b1)])
  refine own_g (own_F T1 m 4 #[rv x, rv b1, .unset, .unset, .unset] []) (fun _ z_ => XS.astoreN X1.here hx rfl (hb hby own_d5_3) rfl rfl (l' := #[rv x, rv b1, .unset, .unset, .unset]) rfl z_) ?_
  refine own_g (own_F T1 m 5 #[rv x, rv b1, .unset, .unset, .unset] [(.ref b1)]) (fun _ z_ => XS.aloadN X1.here hx rfl (hb hby own_d5_4) rfl rfl z_) ?_
  refine own_alen X1 hx hZ (rfl : T1.heap = T1.heap) Ab1 (hb hby own_d5_5) ?_
  show own_Ends p e below s _ _ _ (own_F T1 m 6 #[rv x, rv b1, .unset, .unset, .unset] [(.int 2)])
  refine own_g (own_F T1 m 7 #[rv x, rv b1, iv 2, .unset, .unset] []) (fun _ z_ => XS.istoreN X1.here hx rfl (hb hby own_d5_6) rfl (l' := #[rv x, rv b1, iv 2, .unset, .unset]) rfl z_) ?_
  refine own_g (own_F T1 m 8 #[rv x, rv b1, iv 2, .unset, .unset] [(.int 0)]) (fun _ z_ => XS.iconst X1.here hx rfl (hb hby own_d5_7) z_) ?_
  refine own_g (own_F T1 m 9 #[rv x, rv b1, iv 2, iv 0, .unset] []) (fun _ z_ => XS.istoreN X1.here hx rfl (hb hby own_d5_8) rfl (l' := #[rv x, rv b1, iv 2, iv 0, .unset]) rfl z_) ?_
  refine own_g (own_F T1 m 10 #[rv x, rv b1, iv 2, iv 0, .unset] [(.int 0)]) (fun _ z_ => XS.iloadN X1.here hx rfl (hb hby own_d5_9) rfl z_) ?_
  refine own_g (own_F T1 m 11 #[rv x, rv b1, iv 2, iv 0, .unset] [(.int 2), (.int 0)]) (fun _ z_ => XS.iloadN X1.here hx rfl (hb hby own_d5_10) rfl z_) ?_
  refine own_g (own_F T1 m 14 #[rv x, rv b1, iv 2, iv 0, .unset] []) (fun _ z_ => XS.icmpNo X1.here hx rfl (hb hby own_d5_11) rfl (tlt (by decide : ((0 : Int32) < (2 : Int32)))).2.1 z_) ?_
  refine own_g (own_F T1 m 15 #[rv x, rv b1, iv 2, iv 0, .unset] [(.ref b1)]) (fun _ z_ => XS.aloadN X1.here hx rfl (hb hby own_d5_14) rfl rfl z_) ?_
  refine own_g (own_F T1 m 16 #[rv x, rv b1, iv 2, iv 0, .unset] [(.int 0), (.ref b1)]) (fun _ z_ => XS.iloadN X1.here hx rfl (hb hby own_d5_15) rfl z_) ?_
  refine own_aald X1 hx hZ (rfl : T1.heap = T1.heap) rfl Ab1 0 rfl (by decide) (hb hby own_d5_16) ?_
  show own_Ends p e below s _ _ _ (own_F T1 m 17 #[rv x, rv b1, iv 2, iv 0, .unset] [(.ref aA)])
  refine own_g (own_F T1 m 19 #[rv x, rv b1, iv 2, iv 0, rv aA] []) (fun _ z_ => XS.astore X1.here hx rfl (hb hby own_d5_17) rfl rfl (l' := #[rv x, rv b1, iv 2, iv 0, rv aA]) rfl z_) ?_
  refine own_g (own_F T1 m 21 #[rv x, rv b1, iv 2, iv 0, rv aA] [(.ref aA)]) (fun _ z_ => XS.aload X1.here hx rfl (hb hby own_d5_19) rfl rfl z_) ?_
  obtain ⟨T2, X2, e2, st2⟩ := getF X1 hx hZ hown (host := "") (Or.inl (own_w hw 47)) Via.refl (rfl : T1.heap = T1.heap) (F_A.keep K1 nin0) (g := (mkF m 21 #[rv x, rv b1, iv 2, iv 0, rv aA] [(.ref aA)])) rfl rfl (hb hby own_d5_21)
  refine own_pre (S' := (own_F T2 m 24 #[rv x, rv b1, iv 2, iv 0, rv aA] [(.ref wA)])) st2 ?_
  refine own_g (own_F T2 m 25 #[rv x, rv b1, iv 2, iv 0, rv aA] [(.ref x), (.ref wA)]) (fun _ z_ => XS.aloadN X2.here hx rfl (hb hby own_d5_24) rfl rfl z_) ?_
  refine own_callV (C := "java/lang/String") (y := (⟨"java/lang/String", "equals", "(Ljava/lang/Object;)Z"⟩ : MethodName)) (b := wA) X2 hx hZ hown (own_w hw 49) (own_w hw 50) (own_w hw 52) (own_w hw 51) (own_w hw 53) (own_w hw 7) (by decide) e2 (L_A.1.keep K1) (hM := own_seq l Z a0 hw [] wA x tA t 6 n 6 nn eA zc _ f T1.heap n0 (Nat.le_trans Z0 K1.1) rfl hn ⟨(L_A.1.keep K1), (L_A.2.1.keep K1 nin0), (L_A.2.2.1.keep K1 nin0), (L_A.2.2.2.1.keep K1 nin0), L_A.2.2.2.2⟩ ⟨(Lx.1.keep K1), (Lx.2.1.keep K1 nin0), (Lx.2.2.1.keep K1 nin0), (Lx.2.2.2.1.keep K1 nin0), Lx.2.2.2.2⟩ hrA hzc (own_sta_keep S_cs K1 all0)) (W := 0) (pc := 25) (Ls := #[rv x, rv b1, iv 2, iv 0, rv aA]) (argsL := [(.ref x)]) (rest := []) (st0 := [(.ref x), (.ref wA)]) (by rw [hml]; rfl) (lenOf own_pd7 rfl) rfl (Nat.le_of_eq rfl) (hb hby own_d5_25) (by decide) (by decide) (by decide) (by decide) ?_
  intro v3 T3 L3 s X3 hZ hown hI3 hvm3 hhp3 hWw3 hQ3
  obtain ⟨rfl, Nq3, hh3⟩ := hQ3
  have N3 := Fr.app N1 Nq3
  show own_Ends p e below s _ _ _ (own_F T3 m 28 #[rv x, rv b1, iv 2, iv 0, rv aA] [(.int eA)])
  by_cases c28 : eA = (0 : Int32)
  · -- pc 28: eA = (0 : Int32)
   refine own_g (own_F T3 m 34 #[rv x, rv b1, iv 2, iv 0, rv aA] []) (fun _ z_ => XS.ifYes X3.here hx rfl (pc0 := 28) (pc' := 34) rfl (hb hby own_d5_28) rfl ((if0 _ _).trans (teq c28).1) (by decide) (by decide) z_) ?_
   refine own_g (own_F T3 m 37 #[rv x, rv b1, iv 2, iv 1, rv aA] []) (fun _ z_ => XS.iinc X3.here hx rfl (hb hby own_d5_34) rfl (l' := #[rv x, rv b1, iv 2, iv 1, rv aA]) rfl z_) ?_
   refine own_g (own_F T3 m 9 #[rv x, rv b1, iv 2, iv 1, rv aA] []) (fun _ z_ => XS.goto X3.here hx rfl (pc0 := 37) (pc' := 9) rfl (hb hby own_d5_37) (by decide) (by decide) z_) ?_
   refine own_g (own_F T3 m 10 #[rv x, rv b1, iv 2, iv 1, rv aA] [(.int 1)]) (fun _ z_ => XS.iloadN X3.here hx rfl (hb hby own_d5_9) rfl z_) ?_
   refine own_g (own_F T3 m 11 #[rv x, rv b1, iv 2, iv 1, rv aA] [(.int 2), (.int 1)]) (fun _ z_ => XS.iloadN X3.here hx rfl (hb hby own_d5_10) rfl z_) ?_
   refine own_g (own_F T3 m 14 #[rv x, rv b1, iv 2, iv 1, rv aA] []) (fun _ z_ => XS.icmpNo X3.here hx rfl (hb hby own_d5_11) rfl (tlt (by decide : ((1 : Int32) < (2 : Int32)))).2.1 z_) ?_
   refine own_g (own_F T3 m 15 #[rv x, rv b1, iv 2, iv 1, rv aA] [(.ref b1)]) (fun _ z_ => XS.aloadN X3.here hx rfl (hb hby own_d5_14) rfl rfl z_) ?_
   refine own_g (own_F T3 m 16 #[rv x, rv b1, iv 2, iv 1, rv aA] [(.int 1), (.ref b1)]) (fun _ z_ => XS.iloadN X3.here hx rfl (hb hby own_d5_15) rfl z_) ?_
   refine own_aald X3 hx hZ hh3 rfl Ab1 1 rfl (by decide) (hb hby own_d5_16) ?_
   show own_Ends p e below s _ _ _ (own_F T3 m 17 #[rv x, rv b1, iv 2, iv 1, rv aA] [(.ref aR)])
   refine own_g (own_F T3 m 19 #[rv x, rv b1, iv 2, iv 1, rv aR] []) (fun _ z_ => XS.astore X3.here hx rfl (hb hby own_d5_17) rfl rfl (l' := #[rv x, rv b1, iv 2, iv 1, rv aR]) rfl z_) ?_
   refine own_g (own_F T3 m 21 #[rv x, rv b1, iv 2, iv 1, rv aR] [(.ref aR)]) (fun _ z_ => XS.aload X3.here hx rfl (hb hby own_d5_19) rfl rfl z_) ?_
   obtain ⟨T4, X4, e4, st4⟩ := getF X3 hx hZ hown (host := "") (Or.inl (own_w hw 47)) Via.refl hh3 (F_R.keep K1 nin0) (g := (mkF m 21 #[rv x, rv b1, iv 2, iv 1, rv aR] [(.ref aR)])) rfl rfl (hb hby own_d5_21)
   refine own_pre (S' := (own_F T4 m 24 #[rv x, rv b1, iv 2, iv 1, rv aR] [(.ref wR)])) st4 ?_
   refine own_g (own_F T4 m 25 #[rv x, rv b1, iv 2, iv 1, rv aR] [(.ref x), (.ref wR)]) (fun _ z_ => XS.aloadN X4.here hx rfl (hb hby own_d5_24) rfl rfl z_) ?_
   refine own_callV (C := "java/lang/String") (y := (⟨"java/lang/String", "equals", "(Ljava/lang/Object;)Z"⟩ : MethodName)) (b := wR) X4 hx hZ hown (own_w hw 49) (own_w hw 50) (own_w hw 52) (own_w hw 51) (own_w hw 53) (own_w hw 7) (by decide) e4 (L_R.1.keep K1) (hM := own_seq l Z a0 hw [] wR x tR t 7 n 7 nn eR zc _ f T1.heap n0 (Nat.le_trans Z0 K1.1) rfl hn ⟨(L_R.1.keep K1), (L_R.2.1.keep K1 nin0), (L_R.2.2.1.keep K1 nin0), (L_R.2.2.2.1.keep K1 nin0), L_R.2.2.2.2⟩ ⟨(Lx.1.keep K1), (Lx.2.1.keep K1 nin0), (Lx.2.2.1.keep K1 nin0), (Lx.2.2.2.1.keep K1 nin0), Lx.2.2.2.2⟩ hrR hzc (own_sta_keep S_cs K1 all0)) (W := 0) (pc := 25) (Ls := #[rv x, rv b1, iv 2, iv 1, rv aR]) (argsL := [(.ref x)]) (rest := []) (st0 := [(.ref x), (.ref wR)]) (by rw [hml]; rfl) (lenOf own_pd7 rfl) rfl (Nat.le_of_eq rfl) (hb hby own_d5_25) (by decide) (by decide) (by decide) (by decide) ?_
   intro v5 T5 L5 s X5 hZ hown hI5 hvm5 hhp5 hWw5 hQ5
   obtain ⟨rfl, Nq5, hh5⟩ := hQ5
   have N5 := Fr.app N3 Nq5
   show own_Ends p e below s _ _ _ (own_F T5 m 28 #[rv x, rv b1, iv 2, iv 1, rv aR] [(.int eR)])
   by_cases c28_6 : eR = (0 : Int32)
   · -- pc 28: eR = (0 : Int32)
    refine own_g (own_F T5 m 34 #[rv x, rv b1, iv 2, iv 1, rv aR] []) (fun _ z_ => XS.ifYes X5.here hx rfl (pc0 := 28) (pc' := 34) rfl (hb hby own_d5_28) rfl ((if0 _ _).trans (teq c28_6).1) (by decide) (by decide) z_) ?_
    refine own_g (own_F T5 m 37 #[rv x, rv b1, iv 2, iv 2, rv aR] []) (fun _ z_ => XS.iinc X5.here hx rfl (hb hby own_d5_34) rfl (l' := #[rv x, rv b1, iv 2, iv 2, rv aR]) rfl z_) ?_
    refine own_g (own_F T5 m 9 #[rv x, rv b1, iv 2, iv 2, rv aR] []) (fun _ z_ => XS.goto X5.here hx rfl (pc0 := 37) (pc' := 9) rfl (hb hby own_d5_37) (by decide) (by decide) z_) ?_
    refine own_g (own_F T5 m 10 #[rv x, rv b1, iv 2, iv 2, rv aR] [(.int 2)]) (fun _ z_ => XS.iloadN X5.here hx rfl (hb hby own_d5_9) rfl z_) ?_
    refine own_g (own_F T5 m 11 #[rv x, rv b1, iv 2, iv 2, rv aR] [(.int 2), (.int 2)]) (fun _ z_ => XS.iloadN X5.here hx rfl (hb hby own_d5_10) rfl z_) ?_
    refine own_g (own_F T5 m 40 #[rv x, rv b1, iv 2, iv 2, rv aR] []) (fun _ z_ => XS.icmpYes X5.here hx rfl (pc0 := 11) (pc' := 40) rfl (hb hby own_d5_11) rfl (flt (by decide : ¬ ((2 : Int32) < (2 : Int32)))).2.1 (by decide) (by decide) z_) ?_
    refine own_g (own_F T5 m 41 #[rv x, rv b1, iv 2, iv 2, rv aR] [.null]) (fun _ z_ => XS.aconstNull X5.here hx rfl (hb hby own_d5_40) z_) ?_
    refine own_ret (t := (.object "com/example/tideline/tideline/TokenType")) X5 hx hlk hrt rfl (Or.inr (Or.inr (Or.inr (Or.inr ⟨rfl, rfl, rfl⟩)))) (hb hby own_d5_41) (by decide) (by decide) ?_
    rw [hh5]
    refine ⟨congrArg some ?_, N5, ((Keep.refl _ _).trans K1 all0)⟩
    simp only [own_tv, c28, c28_6, if_true, if_false]
   · -- pc 28: not eR = (0 : Int32)
    refine own_g (own_F T5 m 31 #[rv x, rv b1, iv 2, iv 1, rv aR] []) (fun _ z_ => XS.ifNo X5.here hx rfl (hb hby own_d5_28) rfl ((if0 _ _).trans (feq c28_6).1) z_) ?_
    refine own_g (own_F T5 m 33 #[rv x, rv b1, iv 2, iv 1, rv aR] [(.ref aR)]) (fun _ z_ => XS.aload X5.here hx rfl (hb hby own_d5_31) rfl rfl z_) ?_
    refine own_ret (t := (.object "com/example/tideline/tideline/TokenType")) X5 hx hlk hrt rfl (Or.inr (Or.inr (Or.inr (Or.inr ⟨rfl, rfl, rfl⟩)))) (hb hby own_d5_33) (by decide) (by decide) ?_
    rw [hh5]
    refine ⟨congrArg some ?_, N5, ((Keep.refl _ _).trans K1 all0)⟩
    simp only [own_tv, c28, c28_6, if_true, if_false]
  · -- pc 28: not eA = (0 : Int32)
   refine own_g (own_F T3 m 31 #[rv x, rv b1, iv 2, iv 0, rv aA] []) (fun _ z_ => XS.ifNo X3.here hx rfl (hb hby own_d5_28) rfl ((if0 _ _).trans (feq c28).1) z_) ?_
   refine own_g (own_F T3 m 33 #[rv x, rv b1, iv 2, iv 0, rv aA] [(.ref aA)]) (fun _ z_ => XS.aload X3.here hx rfl (hb hby own_d5_31) rfl rfl z_) ?_
   refine own_ret (t := (.object "com/example/tideline/tideline/TokenType")) X3 hx hlk hrt rfl (Or.inr (Or.inr (Or.inr (Or.inr ⟨rfl, rfl, rfl⟩)))) (hb hby own_d5_33) (by decide) (by decide) ?_
   rw [hh3]
   refine ⟨congrArg some ?_, N3, ((Keep.refl _ _).trans K1 all0)⟩
   simp only [own_tv, c28, if_true, if_false]
set_option maxRecDepth 65536 in
set_option maxHeartbeats 40000000 in
theorem own_ofN (l : Launch) (Z : State) (a0 : Array Value) (hw : ∀ d ∈ tables_1, d.before a0 Z = true) (ws : List Jvm.Cond) (av aA aR wA wR tA tR : Addr) (h0 : Heap) (n0 : Nat) (Z0 : n0 ≤ h0.size) (S_v : Sta Z h0 "com/example/tideline/tideline/TokenType" "$VALUES" "[Lcom/example/tideline/tideline/TokenType;" (.ref av)) (A_v : own_A Z h0 av (.object "com/example/tideline/tideline/TokenType") 2 (own_vv aA aR)) (E_v : Exa Z h0 av "[Lcom/example/tideline/tideline/TokenType;") (E_A : Exa Z h0 aA "com/example/tideline/tideline/TokenType") (F_A : Fld Z h0 aA "com/example/tideline/tideline/TokenType" "wireName" "Ljava/lang/String;" (.ref wA)) (L_A : own_Lat Z h0 wA tA 6 (own_tx "access")) (E_R : Exa Z h0 aR "com/example/tideline/tideline/TokenType") (F_R : Fld Z h0 aR "com/example/tideline/tideline/TokenType" "wireName" "Ljava/lang/String;" (.ref wR)) (L_R : own_Lat Z h0 wR tR 7 (own_tx "refresh")) :
    own_Met l Z (⟨"com/example/tideline/tideline/TokenType", "of", "(Ljava/lang/String;)Lcom/example/tideline/tideline/TokenType;"⟩ : MethodName) prog_12_method_6_code 5 (some (.object "com/example/tideline/tideline/TokenType")) ws ({ frames := 2, cells := 1, slots := 2, locals := 25 } : Room) #[.null] h0 (fun v h L => v = some .null ∧ Fr n0 L ∧ Keep h0 h []) := by
  refine own_body own_pn9 (fun m => mkF m 0 #[.val .null, .unset, .unset, .unset, .unset] []) (fun m => own_ef_own_ofN m ) ?_
  intro p e s m below meth c T0 hx hby hml hlk hrt hZ hown hnm X0 e0
  have hown : s.vm.findClass "com/example/tideline/tideline/TokenType" = some m.cls := hown
  have N0 := Fr.nil n0
  refine own_callS (y := (⟨"com/example/tideline/tideline/TokenType", "values", "()[Lcom/example/tideline/tideline/TokenType;"⟩ : MethodName)) X0 hx hZ hown (own_w hw 30) (own_w hw 31) (own_w hw 28) (own_w hw 32) (by decide) e0 (hM := own_val l Z a0 hw [] av aA aR h0 n0 Z0 S_v A_v E_v) (W := 0) (pc := 0) (Ls := #[.val .null, .unset, .unset, .unset, .unset]) (argsL := []) (rest := []) (st0 := []) (by rw [hml]; rfl) (lenOf own_pd6 rfl) rfl (Nat.le_of_eq rfl) (hb hby own_d5_0) (by decide) (by decide) (by decide) (by decide) ?_
  intro v1 T1 L1 s X1 hZ hown hI1 hvm1 hhp1 hWw1 hQ1
  obtain ⟨b1, rfl, Nq1, K1, Ab1⟩ := hQ1
  have N1 := Fr.app N0 Nq1
  show own_Ends p e below s _ _ _ (own_F T1 m 3 #[.val .null, .unset, .unset, .unset, .unset] [(.ref b1)])
  refine own_g (own_F T1 m 4 #[.val .null, rv b1, .unset, .unset, .unset] []) (fun _ z_ => XS.astoreN X1.here hx rfl (hb hby own_d5_3) rfl rfl (l' := #[.val .null, rv b1, .unset, .unset, .unset]) rfl z_) ?_
  refine own_g (own_F T1 m 5 #[.val .null, rv b1, .unset, .unset, .unset] [(.ref b1)]) (fun _ z_ => XS.aloadN X1.here hx rfl (hb hby own_d5_4) rfl rfl z_) ?_
  refine own_alen X1 hx hZ (rfl : T1.heap = T1.heap) Ab1 (hb hby own_d5_5) ?_
  show own_Ends p e below s _ _ _ (own_F T1 m 6 #[.val .null, rv b1, .unset, .unset, .unset] [(.int 2)])
  refine own_g (own_F T1 m 7 #[.val .null, rv b1, iv 2, .unset, .unset] []) (fun _ z_ => XS.istoreN X1.here hx rfl (hb hby own_d5_6) rfl (l' := #[.val .null, rv b1, iv 2, .unset, .unset]) rfl z_) ?_
  refine own_g (own_F T1 m 8 #[.val .null, rv b1, iv 2, .unset, .unset] [(.int 0)]) (fun _ z_ => XS.iconst X1.here hx rfl (hb hby own_d5_7) z_) ?_
  refine own_g (own_F T1 m 9 #[.val .null, rv b1, iv 2, iv 0, .unset] []) (fun _ z_ => XS.istoreN X1.here hx rfl (hb hby own_d5_8) rfl (l' := #[.val .null, rv b1, iv 2, iv 0, .unset]) rfl z_) ?_
  refine own_g (own_F T1 m 10 #[.val .null, rv b1, iv 2, iv 0, .unset] [(.int 0)]) (fun _ z_ => XS.iloadN X1.here hx rfl (hb hby own_d5_9) rfl z_) ?_
  refine own_g (own_F T1 m 11 #[.val .null, rv b1, iv 2, iv 0, .unset] [(.int 2), (.int 0)]) (fun _ z_ => XS.iloadN X1.here hx rfl (hb hby own_d5_10) rfl z_) ?_
  refine own_g (own_F T1 m 14 #[.val .null, rv b1, iv 2, iv 0, .unset] []) (fun _ z_ => XS.icmpNo X1.here hx rfl (hb hby own_d5_11) rfl (tlt (by decide : ((0 : Int32) < (2 : Int32)))).2.1 z_) ?_
  refine own_g (own_F T1 m 15 #[.val .null, rv b1, iv 2, iv 0, .unset] [(.ref b1)]) (fun _ z_ => XS.aloadN X1.here hx rfl (hb hby own_d5_14) rfl rfl z_) ?_
  refine own_g (own_F T1 m 16 #[.val .null, rv b1, iv 2, iv 0, .unset] [(.int 0), (.ref b1)]) (fun _ z_ => XS.iloadN X1.here hx rfl (hb hby own_d5_15) rfl z_) ?_
  refine own_aald X1 hx hZ (rfl : T1.heap = T1.heap) rfl Ab1 0 rfl (by decide) (hb hby own_d5_16) ?_
  show own_Ends p e below s _ _ _ (own_F T1 m 17 #[.val .null, rv b1, iv 2, iv 0, .unset] [(.ref aA)])
  refine own_g (own_F T1 m 19 #[.val .null, rv b1, iv 2, iv 0, rv aA] []) (fun _ z_ => XS.astore X1.here hx rfl (hb hby own_d5_17) rfl rfl (l' := #[.val .null, rv b1, iv 2, iv 0, rv aA]) rfl z_) ?_
  refine own_g (own_F T1 m 21 #[.val .null, rv b1, iv 2, iv 0, rv aA] [(.ref aA)]) (fun _ z_ => XS.aload X1.here hx rfl (hb hby own_d5_19) rfl rfl z_) ?_
  obtain ⟨T2, X2, e2, st2⟩ := getF X1 hx hZ hown (host := "") (Or.inl (own_w hw 47)) Via.refl (rfl : T1.heap = T1.heap) (F_A.keep K1 nin0) (g := (mkF m 21 #[.val .null, rv b1, iv 2, iv 0, rv aA] [(.ref aA)])) rfl rfl (hb hby own_d5_21)
  refine own_pre (S' := (own_F T2 m 24 #[.val .null, rv b1, iv 2, iv 0, rv aA] [(.ref wA)])) st2 ?_
  refine own_g (own_F T2 m 25 #[.val .null, rv b1, iv 2, iv 0, rv aA] [.null, (.ref wA)]) (fun _ z_ => XS.aloadN X2.here hx rfl (hb hby own_d5_24) rfl rfl z_) ?_
  refine own_callV (C := "java/lang/String") (y := (⟨"java/lang/String", "equals", "(Ljava/lang/Object;)Z"⟩ : MethodName)) (b := wA) X2 hx hZ hown (own_w hw 49) (own_w hw 50) (own_w hw 52) (own_w hw 51) (own_w hw 53) (own_w hw 7) (by decide) e2 (L_A.1.keep K1) (hM := own_seqN l Z a0 hw [] wA T1.heap n0 (Nat.le_trans Z0 K1.1)) (W := 0) (pc := 25) (Ls := #[.val .null, rv b1, iv 2, iv 0, rv aA]) (argsL := [.null]) (rest := []) (st0 := [.null, (.ref wA)]) (by rw [hml]; rfl) (lenOf own_pd7 rfl) rfl (Nat.le_of_eq rfl) (hb hby own_d5_25) (by decide) (by decide) (by decide) (by decide) ?_
  intro v3 T3 L3 s X3 hZ hown hI3 hvm3 hhp3 hWw3 hQ3
  obtain ⟨rfl, Nq3, hh3⟩ := hQ3
  have N3 := Fr.app N1 Nq3
  show own_Ends p e below s _ _ _ (own_F T3 m 28 #[.val .null, rv b1, iv 2, iv 0, rv aA] [(.int 0)])
  refine own_g (own_F T3 m 34 #[.val .null, rv b1, iv 2, iv 0, rv aA] []) (fun _ z_ => XS.ifYes X3.here hx rfl (pc0 := 28) (pc' := 34) rfl (hb hby own_d5_28) rfl ((if0 _ _).trans (teq (by decide : ((0 : Int32) = (0 : Int32)))).1) (by decide) (by decide) z_) ?_
  refine own_g (own_F T3 m 37 #[.val .null, rv b1, iv 2, iv 1, rv aA] []) (fun _ z_ => XS.iinc X3.here hx rfl (hb hby own_d5_34) rfl (l' := #[.val .null, rv b1, iv 2, iv 1, rv aA]) rfl z_) ?_
  refine own_g (own_F T3 m 9 #[.val .null, rv b1, iv 2, iv 1, rv aA] []) (fun _ z_ => XS.goto X3.here hx rfl (pc0 := 37) (pc' := 9) rfl (hb hby own_d5_37) (by decide) (by decide) z_) ?_
  refine own_g (own_F T3 m 10 #[.val .null, rv b1, iv 2, iv 1, rv aA] [(.int 1)]) (fun _ z_ => XS.iloadN X3.here hx rfl (hb hby own_d5_9) rfl z_) ?_
  refine own_g (own_F T3 m 11 #[.val .null, rv b1, iv 2, iv 1, rv aA] [(.int 2), (.int 1)]) (fun _ z_ => XS.iloadN X3.here hx rfl (hb hby own_d5_10) rfl z_) ?_
  refine own_g (own_F T3 m 14 #[.val .null, rv b1, iv 2, iv 1, rv aA] []) (fun _ z_ => XS.icmpNo X3.here hx rfl (hb hby own_d5_11) rfl (tlt (by decide : ((1 : Int32) < (2 : Int32)))).2.1 z_) ?_
  refine own_g (own_F T3 m 15 #[.val .null, rv b1, iv 2, iv 1, rv aA] [(.ref b1)]) (fun _ z_ => XS.aloadN X3.here hx rfl (hb hby own_d5_14) rfl rfl z_) ?_
  refine own_g (own_F T3 m 16 #[.val .null, rv b1, iv 2, iv 1, rv aA] [(.int 1), (.ref b1)]) (fun _ z_ => XS.iloadN X3.here hx rfl (hb hby own_d5_15) rfl z_) ?_
  refine own_aald X3 hx hZ hh3 rfl Ab1 1 rfl (by decide) (hb hby own_d5_16) ?_
  show own_Ends p e below s _ _ _ (own_F T3 m 17 #[.val .null, rv b1, iv 2, iv 1, rv aA] [(.ref aR)])
  refine own_g (own_F T3 m 19 #[.val .null, rv b1, iv 2, iv 1, rv aR] []) (fun _ z_ => XS.astore X3.here hx rfl (hb hby own_d5_17) rfl rfl (l' := #[.val .null, rv b1, iv 2, iv 1, rv aR]) rfl z_) ?_
  refine own_g (own_F T3 m 21 #[.val .null, rv b1, iv 2, iv 1, rv aR] [(.ref aR)]) (fun _ z_ => XS.aload X3.here hx rfl (hb hby own_d5_19) rfl rfl z_) ?_
  obtain ⟨T4, X4, e4, st4⟩ := getF X3 hx hZ hown (host := "") (Or.inl (own_w hw 47)) Via.refl hh3 (F_R.keep K1 nin0) (g := (mkF m 21 #[.val .null, rv b1, iv 2, iv 1, rv aR] [(.ref aR)])) rfl rfl (hb hby own_d5_21)
  refine own_pre (S' := (own_F T4 m 24 #[.val .null, rv b1, iv 2, iv 1, rv aR] [(.ref wR)])) st4 ?_
  refine own_g (own_F T4 m 25 #[.val .null, rv b1, iv 2, iv 1, rv aR] [.null, (.ref wR)]) (fun _ z_ => XS.aloadN X4.here hx rfl (hb hby own_d5_24) rfl rfl z_) ?_
  refine own_callV (C := "java/lang/String") (y := (⟨"java/lang/String", "equals", "(Ljava/lang/Object;)Z"⟩ : MethodName)) (b := wR) X4 hx hZ hown (own_w hw 49) (own_w hw 50) (own_w hw 52) (own_w hw 51) (own_w hw 53) (own_w hw 7) (by decide) e4 (L_R.1.keep K1) (hM := own_seqN l Z a0 hw [] wR T1.heap n0 (Nat.le_trans Z0 K1.1)) (W := 0) (pc := 25) (Ls := #[.val .null, rv b1, iv 2, iv 1, rv aR]) (argsL := [.null]) (rest := []) (st0 := [.null, (.ref wR)]) (by rw [hml]; rfl) (lenOf own_pd7 rfl) rfl (Nat.le_of_eq rfl) (hb hby own_d5_25) (by decide) (by decide) (by decide) (by decide) ?_
  intro v5 T5 L5 s X5 hZ hown hI5 hvm5 hhp5 hWw5 hQ5
  obtain ⟨rfl, Nq5, hh5⟩ := hQ5
  have N5 := Fr.app N3 Nq5
  show own_Ends p e below s _ _ _ (own_F T5 m 28 #[.val .null, rv b1, iv 2, iv 1, rv aR] [(.int 0)])
  refine own_g (own_F T5 m 34 #[.val .null, rv b1, iv 2, iv 1, rv aR] []) (fun _ z_ => XS.ifYes X5.here hx rfl (pc0 := 28) (pc' := 34) rfl (hb hby own_d5_28) rfl ((if0 _ _).trans (teq (by decide : ((0 : Int32) = (0 : Int32)))).1) (by decide) (by decide) z_) ?_
  refine own_g (own_F T5 m 37 #[.val .null, rv b1, iv 2, iv 2, rv aR] []) (fun _ z_ => XS.iinc X5.here hx rfl (hb hby own_d5_34) rfl (l' := #[.val .null, rv b1, iv 2, iv 2, rv aR]) rfl z_) ?_
  refine own_g (own_F T5 m 9 #[.val .null, rv b1, iv 2, iv 2, rv aR] []) (fun _ z_ => XS.goto X5.here hx rfl (pc0 := 37) (pc' := 9) rfl (hb hby own_d5_37) (by decide) (by decide) z_) ?_
  refine own_g (own_F T5 m 10 #[.val .null, rv b1, iv 2, iv 2, rv aR] [(.int 2)]) (fun _ z_ => XS.iloadN X5.here hx rfl (hb hby own_d5_9) rfl z_) ?_
  refine own_g (own_F T5 m 11 #[.val .null, rv b1, iv 2, iv 2, rv aR] [(.int 2), (.int 2)]) (fun _ z_ => XS.iloadN X5.here hx rfl (hb hby own_d5_10) rfl z_) ?_
  refine own_g (own_F T5 m 40 #[.val .null, rv b1, iv 2, iv 2, rv aR] []) (fun _ z_ => XS.icmpYes X5.here hx rfl (pc0 := 11) (pc' := 40) rfl (hb hby own_d5_11) rfl (flt (by decide : ¬ ((2 : Int32) < (2 : Int32)))).2.1 (by decide) (by decide) z_) ?_
  refine own_g (own_F T5 m 41 #[.val .null, rv b1, iv 2, iv 2, rv aR] [.null]) (fun _ z_ => XS.aconstNull X5.here hx rfl (hb hby own_d5_40) z_) ?_
  refine own_ret (t := (.object "com/example/tideline/tideline/TokenType")) X5 hx hlk hrt rfl (Or.inr (Or.inr (Or.inr (Or.inr ⟨rfl, rfl, rfl⟩)))) (hb hby own_d5_41) (by decide) (by decide) ?_
  rw [hh5]
  exact ⟨rfl, N5, ((Keep.refl _ _).trans K1 all0)⟩
set_option maxRecDepth 65536 in
set_option maxHeartbeats 40000000 in
theorem own_exN (l : Launch) (Z : State) (a0 : Array Value) (hw : ∀ d ∈ tables_1, d.before a0 Z = true) (ws : List Jvm.Cond)  (h0 : Heap) (n0 : Nat) (Z0 : n0 ≤ h0.size)  :
    own_Met l Z (⟨"com/example/tideline/tideline/TokenTypeOfPinLaw", "expected", "(Ljava/lang/String;)Lcom/example/tideline/tideline/TokenType;"⟩ : MethodName) method_3_code 1 (some (.object "com/example/tideline/tideline/TokenType")) ws ({ frames := 0, cells := 0, slots := 0, locals := 0 } : Room) #[.null] h0 (fun v h L => v = some .null ∧ Fr n0 L ∧ Keep h0 h []) := by
  refine own_body own_pn10 (fun m => mkF m 0 #[.val .null] []) (fun m => own_ef_own_exN m ) ?_
  intro p e s m below meth c T0 hx hby hml hlk hrt hZ hown hnm X0 e0
  have hown : s.vm.findClass "com/example/tideline/tideline/TokenTypeOfPinLaw" = some m.cls := hown
  have N0 := Fr.nil n0
  refine own_g (own_F T0 m 1 #[.val .null] [.null]) (fun _ z_ => XS.aloadN X0.here hx rfl (hb hby own_d9_0) rfl rfl z_) ?_
  refine own_g (own_F T0 m 4 #[.val .null] []) (fun _ z_ => XS.ifnonnullNo X0.here hx rfl (hb hby own_d9_1) rfl z_) ?_
  refine own_g (own_F T0 m 5 #[.val .null] [.null]) (fun _ z_ => XS.aconstNull X0.here hx rfl (hb hby own_d9_4) z_) ?_
  refine own_ret (t := (.object "com/example/tideline/tideline/TokenType")) X0 hx hlk hrt rfl (Or.inr (Or.inr (Or.inr (Or.inr ⟨rfl, rfl, rfl⟩)))) (hb hby own_d9_5) (by decide) (by decide) ?_
  rw [e0]
  exact ⟨rfl, N0, (Keep.refl _ _)⟩
set_option maxRecDepth 65536 in
set_option maxHeartbeats 40000000 in
theorem own_ex (l : Launch) (Z : State) (a0 : Array Value) (hw : ∀ d ∈ tables_1, d.before a0 Z = true) (ws : List Jvm.Cond) (aA aR x t : Addr) (n : Nat) (nn zc eA eR : Int32) (f : Nat → Int32) (h0 : Heap) (n0 : Nat) (Z0 : n0 ≤ h0.size) (hn0 : n0 = h0.size) (S_A : Sta Z h0 "com/example/tideline/tideline/TokenType" "ACCESS" "Lcom/example/tideline/tideline/TokenType;" (.ref aA)) (S_R : Sta Z h0 "com/example/tideline/tideline/TokenType" "REFRESH" "Lcom/example/tideline/tideline/TokenType;" (.ref aR)) (hn : nn.toInt = (n : Int)) (Lx : own_Lat Z h0 x t n f) (hrA : (eA = 1 ∧ own_eqs 6 n (own_tx "access") f) ∨ (eA = 0 ∧ ¬ own_eqs 6 n (own_tx "access") f)) (hrR : (eR = 1 ∧ own_eqs 7 n (own_tx "refresh") f) ∨ (eR = 0 ∧ ¬ own_eqs 7 n (own_tx "refresh") f)) (hzc : ¬ zc = (0 : Int32)) (S_cs : Sta Z h0 "java/lang/String" "COMPACT_STRINGS" "Z" (.int zc)) (hkp : ∀ (b : Addr) (cl : Cell), Z.heap[b]? = some cl → h0[b]? = some cl) (hh12 : Jvm.Lit.constHeld Z "com/example/tideline/tideline/TokenTypeOfPinLaw" 12) (hh24 : Jvm.Lit.constHeld Z "com/example/tideline/tideline/TokenTypeOfPinLaw" 24) (hcw : Jvm.Lit.compactW.before a0 Z = true) :
    own_MetW l Z (⟨"com/example/tideline/tideline/TokenTypeOfPinLaw", "expected", "(Ljava/lang/String;)Lcom/example/tideline/tideline/TokenType;"⟩ : MethodName) method_3_code 1 (some (.object "com/example/tideline/tideline/TokenType")) ws ({ frames := 2, cells := 4, slots := 60, locals := 28 } : Room) #[(.ref x)] h0 (fun vm => own_LS Z h0 vm own_K0) ((fun v h L vm => v = some (own_tv eA eR aA aR) ∧ Fr n0 L ∧ Keep h0 h []), (["", "access", "refresh"] : List String)) := by
  refine own_bodyW own_pn10 (fun m => mkF m 0 #[rv x] []) (fun m => own_ef_own_ex m x) ?_
  intro p e s m below meth c T0 hx hby hml hlk hrt hZ hown hnm X0 e0 LS0 SH0
  have hown : s.vm.findClass "com/example/tideline/tideline/TokenTypeOfPinLaw" = some m.cls := hown
  have N0 := Fr.nil n0
  refine own_g (own_F T0 m 1 #[rv x] [(.ref x)]) (fun _ z_ => XS.aloadN X0.here hx rfl (hb hby own_d9_0) rfl rfl z_) ?_
  refine own_g (own_F T0 m 6 #[rv x] []) (fun _ z_ => XS.ifnonnullYes X0.here hx rfl (pc0 := 1) (pc' := 6) rfl (hb hby own_d9_1) rfl (by decide) (by decide) z_) ?_
  refine own_g (own_F T0 m 7 #[rv x] [(.ref x)]) (fun _ z_ => XS.aloadN X0.here hx rfl (hb hby own_d9_6) rfl rfl z_) ?_
  refine own_ldL X0 hx hZ hown (own_w hw 63) (own_wS hw) e0 (by rw [SH0, ← hn0]; exact N0) (fun b_ c_ q_ => by rw [SH0]; exact hkp b_ c_ q_) LS0 (List.mem_of_getElem? (i := 1) rfl) own_uq1 hh12 hcw (by decide) (n := 6) (by rfl) (by decide) (hb hby own_d9_7) (by decide) (by decide) (fun _ z_ => z_) ?_
  intro a1 t1 T1 h1 s X1 hZ hown e1 E1 hp1 LS1 Li1 La1
  have SH1 : s.heap = h0 := hp1.trans SH0
  show own_Ends p e below s _ _ _ (own_F T1 m 9 #[rv x] [(.ref a1), (.ref x)])
  refine own_callV (C := "java/lang/String") (y := (⟨"java/lang/String", "equals", "(Ljava/lang/Object;)Z"⟩ : MethodName)) (b := x) X1 hx hZ hown (own_w hw 64) (own_w hw 50) (own_w hw 52) (own_w hw 51) (own_w hw 53) (own_w hw 7) (by decide) e1 (Lx.1.ext E1) (hM := own_seq l Z a0 hw [] x a1 t t1 n 6 nn 6 eA zc f _ h1 n0 (Nat.le_trans Z0 E1.1) hn rfl ⟨(Lx.1.ext E1), (Lx.2.1.ext E1), (Lx.2.2.1.ext E1), (Lx.2.2.2.1.ext E1), Lx.2.2.2.2⟩ ⟨La1.1, La1.2.1, La1.2.2.1, La1.2.2.2.1, La1.2.2.2.2⟩ (own_hrP own_eqsS hrA) hzc (S_cs.ext E1)) (W := 0) (pc := 9) (Ls := #[rv x]) (argsL := [(.ref a1)]) (rest := []) (st0 := [(.ref a1), (.ref x)]) (by rw [hml]; rfl) (lenOf own_pd7 rfl) rfl (Nat.le_of_eq rfl) (hb hby own_d9_9) (by decide) (by decide) (by decide) (by decide) ?_
  intro v2 T2 L2 s X2 hZ hown hI2 hvm2 hhp2 hWw2 hQ2
  have LS2 := own_LS.step LS1 hI2 hWw2
  have SH2 : s.heap = h0 := hhp2.trans SH1
  obtain ⟨rfl, Nq2, hh2⟩ := hQ2
  have N2 := Fr.app N0 Nq2
  show own_Ends p e below s _ _ _ (own_F T2 m 12 #[rv x] [(.int eA)])
  by_cases c12 : eA = (0 : Int32)
  · -- pc 12: eA = (0 : Int32)
   refine own_g (own_F T2 m 19 #[rv x] []) (fun _ z_ => XS.ifYes X2.here hx rfl (pc0 := 12) (pc' := 19) rfl (hb hby own_d9_12) rfl ((if0 _ _).trans (teq c12).1) (by decide) (by decide) z_) ?_
   refine own_g (own_F T2 m 20 #[rv x] [(.ref x)]) (fun _ z_ => XS.aloadN X2.here hx rfl (hb hby own_d9_19) rfl rfl z_) ?_
   refine own_ldL X2 hx hZ hown (own_w hw 65) (own_wS hw) hh2 (by rw [SH2, ← hn0]; exact N2) (fun b_ c_ q_ => by rw [SH2]; exact hkp b_ c_ q_) LS2 (List.mem_of_getElem? (i := 2) rfl) own_uq2 hh24 hcw (by decide) (n := 7) (by rfl) (by decide) (hb hby own_d9_20) (by decide) (by decide) (fun _ z_ => z_) ?_
   intro a3 t3 T3 h3 s X3 hZ hown e3 E3 hp3 LS3 Li3 La3
   have SH3 : s.heap = h0 := hp3.trans SH2
   show own_Ends p e below s _ _ _ (own_F T3 m 22 #[rv x] [(.ref a3), (.ref x)])
   refine own_callV (C := "java/lang/String") (y := (⟨"java/lang/String", "equals", "(Ljava/lang/Object;)Z"⟩ : MethodName)) (b := x) X3 hx hZ hown (own_w hw 64) (own_w hw 50) (own_w hw 52) (own_w hw 51) (own_w hw 53) (own_w hw 7) (by decide) e3 ((Lx.1.ext E1).ext E3) (hM := own_seq l Z a0 hw [] x a3 t t3 n 7 nn 7 eR zc f _ h3 n0 (Nat.le_trans (Nat.le_trans Z0 E1.1) E3.1) hn rfl ⟨((Lx.1.ext E1).ext E3), ((Lx.2.1.ext E1).ext E3), ((Lx.2.2.1.ext E1).ext E3), ((Lx.2.2.2.1.ext E1).ext E3), Lx.2.2.2.2⟩ ⟨La3.1, La3.2.1, La3.2.2.1, La3.2.2.2.1, La3.2.2.2.2⟩ (own_hrP own_eqsS hrR) hzc ((S_cs.ext E1).ext E3)) (W := 0) (pc := 22) (Ls := #[rv x]) (argsL := [(.ref a3)]) (rest := []) (st0 := [(.ref a3), (.ref x)]) (by rw [hml]; rfl) (lenOf own_pd7 rfl) rfl (Nat.le_of_eq rfl) (hb hby own_d9_22) (by decide) (by decide) (by decide) (by decide) ?_
   intro v4 T4 L4 s X4 hZ hown hI4 hvm4 hhp4 hWw4 hQ4
   have LS4 := own_LS.step LS3 hI4 hWw4
   have SH4 : s.heap = h0 := hhp4.trans SH3
   obtain ⟨rfl, Nq4, hh4⟩ := hQ4
   have N4 := Fr.app N2 Nq4
   show own_Ends p e below s _ _ _ (own_F T4 m 25 #[rv x] [(.int eR)])
   by_cases c25 : eR = (0 : Int32)
   · -- pc 25: eR = (0 : Int32)
    refine own_g (own_F T4 m 32 #[rv x] []) (fun _ z_ => XS.ifYes X4.here hx rfl (pc0 := 25) (pc' := 32) rfl (hb hby own_d9_25) rfl ((if0 _ _).trans (teq c25).1) (by decide) (by decide) z_) ?_
    refine own_g (own_F T4 m 33 #[rv x] [.null]) (fun _ z_ => XS.aconstNull X4.here hx rfl (hb hby own_d9_32) z_) ?_
    refine own_ret (t := (.object "com/example/tideline/tideline/TokenType")) X4 hx hlk hrt rfl (Or.inr (Or.inr (Or.inr (Or.inr ⟨rfl, rfl, rfl⟩)))) (hb hby own_d9_33) (by decide) (by decide) ?_
    rw [hh4]
    refine ⟨congrArg some ?_, N4, (((Keep.refl _ _).ext E1).ext E3)⟩
    simp only [own_tv, c12, c25, if_true, if_false]
   · -- pc 25: not eR = (0 : Int32)
    refine own_g (own_F T4 m 28 #[rv x] []) (fun _ z_ => XS.ifNo X4.here hx rfl (hb hby own_d9_25) rfl ((if0 _ _).trans (feq c25).1) z_) ?_
    obtain ⟨T5, X5, e5, st5⟩ := getS2 X4 hx hZ hown (host := "") (Or.inl (own_w hw 76)) Via.refl hh4 ((S_R.ext E1).ext E3) (g := (mkF m 28 #[rv x] [])) rfl (hb hby own_d9_28)
    refine own_pre (S' := (own_F T5 m 31 #[rv x] [(.ref aR)])) st5 ?_
    refine own_ret (t := (.object "com/example/tideline/tideline/TokenType")) X5 hx hlk hrt rfl (Or.inr (Or.inr (Or.inr (Or.inr ⟨rfl, rfl, rfl⟩)))) (hb hby own_d9_31) (by decide) (by decide) ?_
    rw [e5]
    refine ⟨congrArg some ?_, N4, (((Keep.refl _ _).ext E1).ext E3)⟩
    simp only [own_tv, c12, c25, if_true, if_false]
  · -- pc 12: not eA = (0 : Int32)
   refine own_g (own_F T2 m 15 #[rv x] []) (fun _ z_ => XS.ifNo X2.here hx rfl (hb hby own_d9_12) rfl ((if0 _ _).trans (feq c12).1) z_) ?_
   obtain ⟨T6, X6, e6, st6⟩ := getS2 X2 hx hZ hown (host := "") (Or.inl (own_w hw 77)) Via.refl hh2 (S_A.ext E1) (g := (mkF m 15 #[rv x] [])) rfl (hb hby own_d9_15)
   refine own_pre (S' := (own_F T6 m 18 #[rv x] [(.ref aA)])) st6 ?_
   refine own_ret (t := (.object "com/example/tideline/tideline/TokenType")) X6 hx hlk hrt rfl (Or.inr (Or.inr (Or.inr (Or.inr ⟨rfl, rfl, rfl⟩)))) (hb hby own_d9_18) (by decide) (by decide) ?_
   rw [e6]
   refine ⟨congrArg some ?_, N2, ((Keep.refl _ _).ext E1)⟩
   simp only [own_tv, c12, if_true, if_false]
set_option maxRecDepth 65536 in
set_option maxHeartbeats 40000000 in
theorem own_law (l : Launch) (Z : State) (a0 : Array Value) (hw : ∀ d ∈ tables_1, d.before a0 Z = true) (ws : List Jvm.Cond) (i0 i1 i2 i3 zc : Int32) (av aA aR wA wR tA tR : Addr) (h0 : Heap) (n0 : Nat) (Z0 : n0 ≤ h0.size) (hzc : ¬ zc = (0 : Int32)) (S_cs : Sta Z h0 "java/lang/String" "COMPACT_STRINGS" "Z" (.int zc)) (S_v : Sta Z h0 "com/example/tideline/tideline/TokenType" "$VALUES" "[Lcom/example/tideline/tideline/TokenType;" (.ref av)) (A_v : own_A Z h0 av (.object "com/example/tideline/tideline/TokenType") 2 (own_vv aA aR)) (E_v : Exa Z h0 av "[Lcom/example/tideline/tideline/TokenType;") (E_A : Exa Z h0 aA "com/example/tideline/tideline/TokenType") (F_A : Fld Z h0 aA "com/example/tideline/tideline/TokenType" "wireName" "Ljava/lang/String;" (.ref wA)) (L_A : own_Lat Z h0 wA tA 6 (own_tx "access")) (E_R : Exa Z h0 aR "com/example/tideline/tideline/TokenType") (F_R : Fld Z h0 aR "com/example/tideline/tideline/TokenType" "wireName" "Ljava/lang/String;" (.ref wR)) (L_R : own_Lat Z h0 wR tR 7 (own_tx "refresh")) (S_A : Sta Z h0 "com/example/tideline/tideline/TokenType" "ACCESS" "Lcom/example/tideline/tideline/TokenType;" (.ref aA)) (S_R : Sta Z h0 "com/example/tideline/tideline/TokenType" "REFRESH" "Lcom/example/tideline/tideline/TokenType;" (.ref aR)) (hkp : ∀ (b : Addr) (cl : Cell), Z.heap[b]? = some cl → h0[b]? = some cl) (hh7 : Jvm.Lit.constHeld Z "java/lang/String" 7) (hh12 : Jvm.Lit.constHeld Z "com/example/tideline/tideline/TokenTypeOfPinLaw" 12) (hh24 : Jvm.Lit.constHeld Z "com/example/tideline/tideline/TokenTypeOfPinLaw" 24) (hcw : Jvm.Lit.compactW.before a0 Z = true) :
    own_MetW l Z x code maxLocals ret ws room_1 #[(.int i0), (.int i1), (.int i2), (.int i3)] h0 (fun vm => own_LS Z h0 vm own_K0) ((fun v h L vm => v = some (.int 1) ∧ Fr n0 L), (["", "access", "refresh"] : List String)) := by
  refine own_bodyW own_pn11 (fun m => mkF m 0 #[iv i0, iv i1, iv i2, iv i3, .unset, .unset, .unset, .unset, .unset] []) (fun m => own_ef_own_law m i0 i1 i2 i3) ?_
  intro p e s m below meth c T0 hx hby hml hlk hrt hZ hown hnm X0 e0 LS0 SH0
  have hown : s.vm.findClass "com/example/tideline/tideline/TokenTypeOfPinLaw" = some m.cls := hown
  have N0 := Fr.nil n0
  have J2 : ∀ (buf : Addr) (f : Nat → Int32) (s7 : Slot) (T1 : State) (lc1 : List Loc) (hp1 : Heap) (s : State) (hZ : Z.Warmed39 s.vm) (hown : s.vm.findClass "com/example/tideline/tideline/TokenTypeOfPinLaw" = some m.cls) (X1 : Stand p l e room_1 s m #[(.int i0), (.int i1), (.int i2), (.int i3)] below meth c T1 lc1 1 7) (e1 : T1.heap = hp1) (N1 : Fr n0 lc1) (zs1 : n0 ≤ hp1.size) (zz1 : h0.size ≤ hp1.size) (K1 : Keep h0 hp1 []) (f1_0 : own_A Z hp1 buf .char 7 (fun i => .int (f i))) (hf : ∀ i, i < 7 → 0 ≤ (f i).toInt ∧ (f i).toInt ≤ 255) (gb : n0 ≤ buf) (sb : h0.size ≤ buf) (LSj : own_LS Z h0 s.vm own_K0) (hs7 : One s7), own_Ends p e below s ((fun v h L vm => v = some (.int 1) ∧ Fr n0 L), (["", "access", "refresh"] : List String)) room_1.cells room_1.slots (own_F T1 m 249 #[iv i0, iv i1, iv i2, iv i3, iv (i0 &&& (3 : Int32)), iv (((i0.toUInt32 >>> ((2 : Int32) &&& 31).toUInt32).toInt32) &&& (7 : Int32)), rv buf, s7, .unset] []) := by
   intro buf f s7 T1 lc1 hp1 s hZ hown X1 e1 N1 zs1 zz1 K1 f1_0 hf gb sb LSj hs7
   have L_A := L_A.keep K1 nin0 nin0
   have L_R := L_R.keep K1 nin0 nin0
   refine own_g (own_F T1 m 250 #[iv i0, iv i1, iv i2, iv i3, iv (i0 &&& (3 : Int32)), iv (((i0.toUInt32 >>> ((2 : Int32) &&& 31).toUInt32).toInt32) &&& (7 : Int32)), rv buf, s7, .unset] [.null]) (fun _ z_ => XS.aconstNull X1.here hx rfl (hb hby at_249) z_) ?_
   refine own_g (own_F T1 m 252 #[iv i0, iv i1, iv i2, iv i3, iv (i0 &&& (3 : Int32)), iv (((i0.toUInt32 >>> ((2 : Int32) &&& 31).toUInt32).toInt32) &&& (7 : Int32)), rv buf, .val .null, .unset] []) (fun _ z_ => XS.astore X1.here hx rfl (hb hby at_250) rfl rfl (l' := #[iv i0, iv i1, iv i2, iv i3, iv (i0 &&& (3 : Int32)), iv (((i0.toUInt32 >>> ((2 : Int32) &&& 31).toUInt32).toInt32) &&& (7 : Int32)), rv buf, .val .null, .unset]) (own_st1 rfl hs7 rfl rfl) z_) ?_
   refine own_g (own_F T1 m 254 #[iv i0, iv i1, iv i2, iv i3, iv (i0 &&& (3 : Int32)), iv (((i0.toUInt32 >>> ((2 : Int32) &&& 31).toUInt32).toInt32) &&& (7 : Int32)), rv buf, .val .null, .unset] [(.int (i0 &&& (3 : Int32)))]) (fun _ z_ => XS.iload X1.here hx rfl (hb hby at_252) rfl z_) ?_
   refine own_g (own_F T1 m 255 #[iv i0, iv i1, iv i2, iv i3, iv (i0 &&& (3 : Int32)), iv (((i0.toUInt32 >>> ((2 : Int32) &&& 31).toUInt32).toInt32) &&& (7 : Int32)), rv buf, .val .null, .unset] [(.int 3), (.int (i0 &&& (3 : Int32)))]) (fun _ z_ => XS.iconst X1.here hx rfl (hb hby at_254) z_) ?_
   by_cases c255 : (i0 &&& (3 : Int32)) = (3 : Int32)
   · -- pc 255: (i0 &&& (3 : Int32)) = (3 : Int32)
    refine own_g (own_F T1 m 267 #[iv i0, iv i1, iv i2, iv i3, iv (i0 &&& (3 : Int32)), iv (((i0.toUInt32 >>> ((2 : Int32) &&& 31).toUInt32).toInt32) &&& (7 : Int32)), rv buf, .val .null, .unset] []) (fun _ z_ => XS.icmpYes X1.here hx rfl (pc0 := 255) (pc' := 267) rfl (hb hby at_255) rfl (teq c255).1 (by decide) (by decide) z_) ?_
    refine own_g (own_F T1 m 269 #[iv i0, iv i1, iv i2, iv i3, iv (i0 &&& (3 : Int32)), iv (((i0.toUInt32 >>> ((2 : Int32) &&& 31).toUInt32).toInt32) &&& (7 : Int32)), rv buf, .val .null, .unset] [.null]) (fun _ z_ => XS.aload X1.here hx rfl (hb hby at_267) rfl rfl z_) ?_
    refine own_callS (y := (⟨"com/example/tideline/tideline/TokenType", "of", "(Ljava/lang/String;)Lcom/example/tideline/tideline/TokenType;"⟩ : MethodName)) X1 hx hZ hown (own_w hw 26) (own_w hw 27) (own_w hw 28) (own_w hw 29) (by decide) e1 (hM := own_ofN l Z a0 hw [] av aA aR wA wR tA tR hp1 n0 zs1 (own_sta_keep S_v K1 all0) (A_v.keep K1 nin0) (E_v.keep K1) (E_A.keep K1) (F_A.keep K1 nin0) ⟨L_A.1, L_A.2.1, L_A.2.2.1, L_A.2.2.2.1, L_A.2.2.2.2⟩ (E_R.keep K1) (F_R.keep K1 nin0) ⟨L_R.1, L_R.2.1, L_R.2.2.1, L_R.2.2.2.1, L_R.2.2.2.2⟩) (W := 0) (pc := 269) (Ls := #[iv i0, iv i1, iv i2, iv i3, iv (i0 &&& (3 : Int32)), iv (((i0.toUInt32 >>> ((2 : Int32) &&& 31).toUInt32).toInt32) &&& (7 : Int32)), rv buf, .val .null, .unset]) (argsL := [.null]) (rest := []) (st0 := [.null]) (by rw [hml]; rfl) (lenOf own_pd8 rfl) rfl (Nat.le_of_eq rfl) (hb hby at_269) (by decide) (by decide) (by decide) (by decide) ?_
    intro v2 T2 L2 s X2 hZ hown hI2 hvm2 hhp2 hWw2 hQ2
    have LS2 := own_LS.step (LSj.keep K1) hI2 hWw2
    obtain ⟨rfl, Nq2, K2⟩ := hQ2
    have N2 := Fr.app N1 Nq2
    show own_Ends p e below s _ _ _ (own_F T2 m 272 #[iv i0, iv i1, iv i2, iv i3, iv (i0 &&& (3 : Int32)), iv (((i0.toUInt32 >>> ((2 : Int32) &&& 31).toUInt32).toInt32) &&& (7 : Int32)), rv buf, .val .null, .unset] [.null])
    refine own_g (own_F T2 m 274 #[iv i0, iv i1, iv i2, iv i3, iv (i0 &&& (3 : Int32)), iv (((i0.toUInt32 >>> ((2 : Int32) &&& 31).toUInt32).toInt32) &&& (7 : Int32)), rv buf, .val .null, .val .null] []) (fun _ z_ => XS.astore X2.here hx rfl (hb hby at_272) rfl rfl (l' := #[iv i0, iv i1, iv i2, iv i3, iv (i0 &&& (3 : Int32)), iv (((i0.toUInt32 >>> ((2 : Int32) &&& 31).toUInt32).toInt32) &&& (7 : Int32)), rv buf, .val .null, .val .null]) rfl z_) ?_
    refine own_g (own_F T2 m 276 #[iv i0, iv i1, iv i2, iv i3, iv (i0 &&& (3 : Int32)), iv (((i0.toUInt32 >>> ((2 : Int32) &&& 31).toUInt32).toInt32) &&& (7 : Int32)), rv buf, .val .null, .val .null] [.null]) (fun _ z_ => XS.aload X2.here hx rfl (hb hby at_274) rfl rfl z_) ?_
    refine own_g (own_F T2 m 278 #[iv i0, iv i1, iv i2, iv i3, iv (i0 &&& (3 : Int32)), iv (((i0.toUInt32 >>> ((2 : Int32) &&& 31).toUInt32).toInt32) &&& (7 : Int32)), rv buf, .val .null, .val .null] [.null, .null]) (fun _ z_ => XS.aload X2.here hx rfl (hb hby at_276) rfl rfl z_) ?_
    refine own_callS (y := (⟨"com/example/tideline/tideline/TokenTypeOfPinLaw", "expected", "(Ljava/lang/String;)Lcom/example/tideline/tideline/TokenType;"⟩ : MethodName)) X2 hx hZ hown (own_w hw 60) (own_w hw 61) (own_w hw 3) (own_w hw 62) (by decide) (rfl : T2.heap = T2.heap) (hM := own_exN l Z a0 hw [] T2.heap n0 (Nat.le_trans zs1 K2.1)) (W := 1) (pc := 278) (Ls := #[iv i0, iv i1, iv i2, iv i3, iv (i0 &&& (3 : Int32)), iv (((i0.toUInt32 >>> ((2 : Int32) &&& 31).toUInt32).toInt32) &&& (7 : Int32)), rv buf, .val .null, .val .null]) (argsL := [.null]) (rest := [.null]) (st0 := [.null, .null]) (by rw [hml]; rfl) (lenOf own_pd8 rfl) rfl (Nat.le_of_eq rfl) (hb hby at_278) (by decide) (by decide) (by decide) (by decide) ?_
    intro v3 T3 L3 s X3 hZ hown hI3 hvm3 hhp3 hWw3 hQ3
    have LS3 := own_LS.step (LS2.keep K2) hI3 hWw3
    obtain ⟨rfl, Nq3, K3⟩ := hQ3
    have N3 := Fr.app N2 Nq3
    show own_Ends p e below s _ _ _ (own_F T3 m 281 #[iv i0, iv i1, iv i2, iv i3, iv (i0 &&& (3 : Int32)), iv (((i0.toUInt32 >>> ((2 : Int32) &&& 31).toUInt32).toInt32) &&& (7 : Int32)), rv buf, .val .null, .val .null] [.null, .null])
    refine own_g (own_F T3 m 284 #[iv i0, iv i1, iv i2, iv i3, iv (i0 &&& (3 : Int32)), iv (((i0.toUInt32 >>> ((2 : Int32) &&& 31).toUInt32).toInt32) &&& (7 : Int32)), rv buf, .val .null, .val .null] []) (fun _ z_ => Jvm.RoadKit.acmp (g := (mkF m 281 #[iv i0, iv i1, iv i2, iv i3, iv (i0 &&& (3 : Int32)), iv (((i0.toUInt32 >>> ((2 : Int32) &&& 31).toUInt32).toInt32) &&& (7 : Int32)), rv buf, .val .null, .val .null] [.null, .null])) X3 hx rfl rfl rfl (pc0 := 281) (pc' := 284) (same := true) rfl (hb hby at_281) rfl (decide_eq_true rfl) (by decide) (by decide) z_) ?_
    refine own_g (own_F T3 m 285 #[iv i0, iv i1, iv i2, iv i3, iv (i0 &&& (3 : Int32)), iv (((i0.toUInt32 >>> ((2 : Int32) &&& 31).toUInt32).toInt32) &&& (7 : Int32)), rv buf, .val .null, .val .null] [(.int 1)]) (fun _ z_ => XS.iconst X3.here hx rfl (hb hby at_284) z_) ?_
    refine own_g (own_F T3 m 289 #[iv i0, iv i1, iv i2, iv i3, iv (i0 &&& (3 : Int32)), iv (((i0.toUInt32 >>> ((2 : Int32) &&& 31).toUInt32).toInt32) &&& (7 : Int32)), rv buf, .val .null, .val .null] [(.int 1)]) (fun _ z_ => XS.goto X3.here hx rfl (pc0 := 285) (pc' := 289) rfl (hb hby at_285) (by decide) (by decide) z_) ?_
    refine own_ret (t := .boolean) X3 hx hlk hrt rfl (Or.inl ⟨rfl, by simp, _, rfl⟩) (hb hby at_289) (by decide) (by decide) ?_
    exact ⟨rfl, N3⟩
   · -- pc 255: not (i0 &&& (3 : Int32)) = (3 : Int32)
    refine own_g (own_F T1 m 258 #[iv i0, iv i1, iv i2, iv i3, iv (i0 &&& (3 : Int32)), iv (((i0.toUInt32 >>> ((2 : Int32) &&& 31).toUInt32).toInt32) &&& (7 : Int32)), rv buf, .val .null, .unset] []) (fun _ z_ => XS.icmpNo X1.here hx rfl (hb hby at_255) rfl (feq c255).1 z_) ?_
    refine own_g (own_F T1 m 260 #[iv i0, iv i1, iv i2, iv i3, iv (i0 &&& (3 : Int32)), iv (((i0.toUInt32 >>> ((2 : Int32) &&& 31).toUInt32).toInt32) &&& (7 : Int32)), rv buf, .val .null, .unset] [(.ref buf)]) (fun _ z_ => XS.aload X1.here hx rfl (hb hby at_258) rfl rfl z_) ?_
    refine own_g (own_F T1 m 262 #[iv i0, iv i1, iv i2, iv i3, iv (i0 &&& (3 : Int32)), iv (((i0.toUInt32 >>> ((2 : Int32) &&& 31).toUInt32).toInt32) &&& (7 : Int32)), rv buf, .val .null, .unset] [(.int (((i0.toUInt32 >>> ((2 : Int32) &&& 31).toUInt32).toInt32) &&& (7 : Int32))), (.ref buf)]) (fun _ z_ => XS.iload X1.here hx rfl (hb hby at_260) rfl z_) ?_
    refine own_callS (y := (⟨"com/example/tideline/tideline/TokenTypeOfPinLaw", "make", "([CI)Ljava/lang/String;"⟩ : MethodName)) X1 hx hZ hown (own_w hw 1) (own_w hw 2) (own_w hw 3) (own_w hw 4) (by decide) e1 (hM := own_make l Z a0 hw [] buf (((i0.toUInt32 >>> ((2 : Int32) &&& 31).toUInt32).toInt32) &&& (7 : Int32)) zc f hp1 hp1.size (Nat.le_refl _) f1_0 hf (own_len7 _) hzc (own_sta_keep S_cs K1 all0) (fun b_ c_ q_ => (K1).2.1 b_ c_ (hkp b_ c_ q_) nin0) hh7 hcw) (hv := fun _ hq_ => own_LS.warm (LSj.keep K1) hq_) (hsub := fun _ z_ => z_) (W := 0) (pc := 262) (Ls := #[iv i0, iv i1, iv i2, iv i3, iv (i0 &&& (3 : Int32)), iv (((i0.toUInt32 >>> ((2 : Int32) &&& 31).toUInt32).toInt32) &&& (7 : Int32)), rv buf, .val .null, .unset]) (argsL := [(.ref buf), (.int (((i0.toUInt32 >>> ((2 : Int32) &&& 31).toUInt32).toInt32) &&& (7 : Int32)))]) (rest := []) (st0 := [(.int (((i0.toUInt32 >>> ((2 : Int32) &&& 31).toUInt32).toInt32) &&& (7 : Int32))), (.ref buf)]) (by rw [hml]; rfl) (lenOf own_pd9 rfl) rfl (Nat.le_of_eq rfl) (hb hby at_262) (by decide) (by decide) (by decide) (by decide) ?_
    intro v4 T4 L4 s X4 hZ hown hI4 hvm4 hhp4 hWw4 hQ4
    obtain ⟨x4, t4, rfl, Nr4, K4, La4, LS4⟩ := hQ4
    have Nq4 := own_frm zs1 Nr4
    have N4 := Fr.app N1 Nq4
    show own_Ends p e below s _ _ _ (own_F T4 m 265 #[iv i0, iv i1, iv i2, iv i3, iv (i0 &&& (3 : Int32)), iv (((i0.toUInt32 >>> ((2 : Int32) &&& 31).toUInt32).toInt32) &&& (7 : Int32)), rv buf, .val .null, .unset] [(.ref x4)])
    obtain ⟨eA, hrA⟩ := own_dec (own_eqs 6 (Int32.toInt (((i0.toUInt32 >>> ((2 : Int32) &&& 31).toUInt32).toInt32) &&& (7 : Int32))).toNat (own_tx "access") f)
    obtain ⟨eR, hrR⟩ := own_dec (own_eqs 7 (Int32.toInt (((i0.toUInt32 >>> ((2 : Int32) &&& 31).toUInt32).toInt32) &&& (7 : Int32))).toNat (own_tx "refresh") f)
    refine own_g (own_F T4 m 267 #[iv i0, iv i1, iv i2, iv i3, iv (i0 &&& (3 : Int32)), iv (((i0.toUInt32 >>> ((2 : Int32) &&& 31).toUInt32).toInt32) &&& (7 : Int32)), rv buf, rv x4, .unset] []) (fun _ z_ => XS.astore X4.here hx rfl (hb hby at_265) rfl rfl (l' := #[iv i0, iv i1, iv i2, iv i3, iv (i0 &&& (3 : Int32)), iv (((i0.toUInt32 >>> ((2 : Int32) &&& 31).toUInt32).toInt32) &&& (7 : Int32)), rv buf, rv x4, .unset]) rfl z_) ?_
    refine own_g (own_F T4 m 269 #[iv i0, iv i1, iv i2, iv i3, iv (i0 &&& (3 : Int32)), iv (((i0.toUInt32 >>> ((2 : Int32) &&& 31).toUInt32).toInt32) &&& (7 : Int32)), rv buf, rv x4, .unset] [(.ref x4)]) (fun _ z_ => XS.aload X4.here hx rfl (hb hby at_267) rfl rfl z_) ?_
    refine own_callS (y := (⟨"com/example/tideline/tideline/TokenType", "of", "(Ljava/lang/String;)Lcom/example/tideline/tideline/TokenType;"⟩ : MethodName)) X4 hx hZ hown (own_w hw 26) (own_w hw 27) (own_w hw 28) (own_w hw 29) (by decide) (rfl : T4.heap = T4.heap) (hM := own_of l Z a0 hw [] av aA aR wA wR tA tR x4 t4 _ (((i0.toUInt32 >>> ((2 : Int32) &&& 31).toUInt32).toInt32) &&& (7 : Int32)) zc eA eR f T4.heap n0 (Nat.le_trans zs1 K4.1) (own_sta_keep (own_sta_keep S_v K1 all0) K4 all0) ((A_v.keep K1 nin0).keep K4 nin0) ((E_v.keep K1).keep K4) ((E_A.keep K1).keep K4) ((F_A.keep K1 nin0).keep K4 nin0) ⟨(L_A.1.keep K4), (L_A.2.1.keep K4 nin0), (L_A.2.2.1.keep K4 nin0), (L_A.2.2.2.1.keep K4 nin0), L_A.2.2.2.2⟩ ((E_R.keep K1).keep K4) ((F_R.keep K1 nin0).keep K4 nin0) ⟨(L_R.1.keep K4), (L_R.2.1.keep K4 nin0), (L_R.2.2.1.keep K4 nin0), (L_R.2.2.2.1.keep K4 nin0), L_R.2.2.2.2⟩ (show ((((i0.toUInt32 >>> ((2 : Int32) &&& 31).toUInt32).toInt32) &&& (7 : Int32))).toInt = _ by have := own_len7 ((i0.toUInt32 >>> ((2 : Int32) &&& 31).toUInt32).toInt32); omega) ⟨La4.1, La4.2.1, La4.2.2.1, La4.2.2.2.1, La4.2.2.2.2⟩ hrA hrR hzc (own_sta_keep (own_sta_keep S_cs K1 all0) K4 all0)) (W := 0) (pc := 269) (Ls := #[iv i0, iv i1, iv i2, iv i3, iv (i0 &&& (3 : Int32)), iv (((i0.toUInt32 >>> ((2 : Int32) &&& 31).toUInt32).toInt32) &&& (7 : Int32)), rv buf, rv x4, .unset]) (argsL := [(.ref x4)]) (rest := []) (st0 := [(.ref x4)]) (by rw [hml]; rfl) (lenOf own_pd8 rfl) rfl (Nat.le_of_eq rfl) (hb hby at_269) (by decide) (by decide) (by decide) (by decide) ?_
    intro v5 T5 L5 s X5 hZ hown hI5 hvm5 hhp5 hWw5 hQ5
    have LS5 := own_LS.step (own_LS.ofvm LS4 hvm4) hI5 hWw5
    obtain ⟨rfl, Nq5, K5⟩ := hQ5
    have N5 := Fr.app N4 Nq5
    show own_Ends p e below s _ _ _ (own_F T5 m 272 #[iv i0, iv i1, iv i2, iv i3, iv (i0 &&& (3 : Int32)), iv (((i0.toUInt32 >>> ((2 : Int32) &&& 31).toUInt32).toInt32) &&& (7 : Int32)), rv buf, rv x4, .unset] [(own_tv eA eR aA aR)])
    refine own_g (own_F T5 m 274 #[iv i0, iv i1, iv i2, iv i3, iv (i0 &&& (3 : Int32)), iv (((i0.toUInt32 >>> ((2 : Int32) &&& 31).toUInt32).toInt32) &&& (7 : Int32)), rv buf, rv x4, .val (own_tv eA eR aA aR)] []) (fun _ z_ => XS.astore X5.here hx rfl (hb hby at_272) rfl (own_tvR eA eR aA aR) (l' := #[iv i0, iv i1, iv i2, iv i3, iv (i0 &&& (3 : Int32)), iv (((i0.toUInt32 >>> ((2 : Int32) &&& 31).toUInt32).toInt32) &&& (7 : Int32)), rv buf, rv x4, .val (own_tv eA eR aA aR)]) (own_st1 rfl One.u (own_catV (own_tvR eA eR aA aR)) rfl) z_) ?_
    refine own_g (own_F T5 m 276 #[iv i0, iv i1, iv i2, iv i3, iv (i0 &&& (3 : Int32)), iv (((i0.toUInt32 >>> ((2 : Int32) &&& 31).toUInt32).toInt32) &&& (7 : Int32)), rv buf, rv x4, .val (own_tv eA eR aA aR)] [(own_tv eA eR aA aR)]) (fun _ z_ => XS.aload X5.here hx rfl (hb hby at_274) rfl (own_tvR eA eR aA aR) z_) ?_
    refine own_g (own_F T5 m 278 #[iv i0, iv i1, iv i2, iv i3, iv (i0 &&& (3 : Int32)), iv (((i0.toUInt32 >>> ((2 : Int32) &&& 31).toUInt32).toInt32) &&& (7 : Int32)), rv buf, rv x4, .val (own_tv eA eR aA aR)] [(.ref x4), (own_tv eA eR aA aR)]) (fun _ z_ => XS.aload X5.here hx rfl (hb hby at_276) rfl rfl z_) ?_
    refine own_callS (y := (⟨"com/example/tideline/tideline/TokenTypeOfPinLaw", "expected", "(Ljava/lang/String;)Lcom/example/tideline/tideline/TokenType;"⟩ : MethodName)) X5 hx hZ hown (own_w hw 60) (own_w hw 61) (own_w hw 3) (own_w hw 62) (by decide) (rfl : T5.heap = T5.heap) (hM := own_ex l Z a0 hw [] aA aR x4 t4 _ (((i0.toUInt32 >>> ((2 : Int32) &&& 31).toUInt32).toInt32) &&& (7 : Int32)) zc eA eR f T5.heap T5.heap.size (Nat.le_refl _) rfl (own_sta_keep (own_sta_keep (own_sta_keep S_A K1 all0) K4 all0) K5 all0) (own_sta_keep (own_sta_keep (own_sta_keep S_R K1 all0) K4 all0) K5 all0) (show ((((i0.toUInt32 >>> ((2 : Int32) &&& 31).toUInt32).toInt32) &&& (7 : Int32))).toInt = _ by have := own_len7 ((i0.toUInt32 >>> ((2 : Int32) &&& 31).toUInt32).toInt32); omega) ⟨(La4.1.keep K5), (La4.2.1.keep K5 nin0), (La4.2.2.1.keep K5 nin0), (La4.2.2.2.1.keep K5 nin0), La4.2.2.2.2⟩ hrA hrR hzc (own_sta_keep (own_sta_keep (own_sta_keep S_cs K1 all0) K4 all0) K5 all0) (fun b_ c_ q_ => (((K1.trans K4 all0).trans K5 all0)).2.1 b_ c_ (hkp b_ c_ q_) nin0) hh12 hh24 hcw) (hv := fun _ hq_ => own_LS.warm (LS5.keep K5) hq_) (hsub := fun _ z_ => z_) (W := 1) (pc := 278) (Ls := #[iv i0, iv i1, iv i2, iv i3, iv (i0 &&& (3 : Int32)), iv (((i0.toUInt32 >>> ((2 : Int32) &&& 31).toUInt32).toInt32) &&& (7 : Int32)), rv buf, rv x4, .val (own_tv eA eR aA aR)]) (argsL := [(.ref x4)]) (rest := [(own_tv eA eR aA aR)]) (st0 := [(.ref x4), (own_tv eA eR aA aR)]) (by rw [hml]; rfl) (lenOf own_pd8 rfl) rfl (Nat.le_of_eq (by simp [own_catV (own_tvR eA eR aA aR)])) (hb hby at_278) (by decide) (by decide) (by decide) (by decide) ?_
    intro v6 T6 L6 s X6 hZ hown hI6 hvm6 hhp6 hWw6 hQ6
    obtain ⟨rfl, Nr6, K6⟩ := hQ6
    have Nq6 := own_frm (Nat.le_trans (Nat.le_trans zs1 K4.1) K5.1) Nr6
    have N6 := Fr.app N5 Nq6
    show own_Ends p e below s _ _ _ (own_F T6 m 281 #[iv i0, iv i1, iv i2, iv i3, iv (i0 &&& (3 : Int32)), iv (((i0.toUInt32 >>> ((2 : Int32) &&& 31).toUInt32).toInt32) &&& (7 : Int32)), rv buf, rv x4, .val (own_tv eA eR aA aR)] [(own_tv eA eR aA aR), (own_tv eA eR aA aR)])
    refine own_g (own_F T6 m 284 #[iv i0, iv i1, iv i2, iv i3, iv (i0 &&& (3 : Int32)), iv (((i0.toUInt32 >>> ((2 : Int32) &&& 31).toUInt32).toInt32) &&& (7 : Int32)), rv buf, rv x4, .val (own_tv eA eR aA aR)] []) (fun _ z_ => Jvm.RoadKit.acmp (g := (mkF m 281 #[iv i0, iv i1, iv i2, iv i3, iv (i0 &&& (3 : Int32)), iv (((i0.toUInt32 >>> ((2 : Int32) &&& 31).toUInt32).toInt32) &&& (7 : Int32)), rv buf, rv x4, .val (own_tv eA eR aA aR)] [(own_tv eA eR aA aR), (own_tv eA eR aA aR)])) X6 hx rfl (own_tvR eA eR aA aR) (own_tvR eA eR aA aR) (pc0 := 281) (pc' := 284) (same := true) rfl (hb hby at_281) rfl (decide_eq_true rfl) (by decide) (by decide) z_) ?_
    refine own_g (own_F T6 m 285 #[iv i0, iv i1, iv i2, iv i3, iv (i0 &&& (3 : Int32)), iv (((i0.toUInt32 >>> ((2 : Int32) &&& 31).toUInt32).toInt32) &&& (7 : Int32)), rv buf, rv x4, .val (own_tv eA eR aA aR)] [(.int 1)]) (fun _ z_ => XS.iconst X6.here hx rfl (hb hby at_284) z_) ?_
    refine own_g (own_F T6 m 289 #[iv i0, iv i1, iv i2, iv i3, iv (i0 &&& (3 : Int32)), iv (((i0.toUInt32 >>> ((2 : Int32) &&& 31).toUInt32).toInt32) &&& (7 : Int32)), rv buf, rv x4, .val (own_tv eA eR aA aR)] [(.int 1)]) (fun _ z_ => XS.goto X6.here hx rfl (pc0 := 285) (pc' := 289) rfl (hb hby at_285) (by decide) (by decide) z_) ?_
    refine own_ret (t := .boolean) X6 hx hlk hrt rfl (Or.inl ⟨rfl, by simp, _, rfl⟩) (hb hby at_289) (by decide) (by decide) ?_
    exact ⟨rfl, N6⟩
  have J1 : ∀ (buf : Addr) (f : Nat → Int32) (T7 : State) (lc7 : List Loc) (hp7 : Heap) (s : State) (hZ : Z.Warmed39 s.vm) (hown : s.vm.findClass "com/example/tideline/tideline/TokenTypeOfPinLaw" = some m.cls) (X7 : Stand p l e room_1 s m #[(.int i0), (.int i1), (.int i2), (.int i3)] below meth c T7 lc7 1 7) (e7 : T7.heap = hp7) (N7 : Fr n0 lc7) (zs7 : n0 ≤ hp7.size) (zz7 : h0.size ≤ hp7.size) (K7 : Keep h0 hp7 []) (f7_0 : own_A Z hp7 buf .char 7 (fun i => .int (f i))) (hf : ∀ i, i < 7 → 0 ≤ (f i).toInt ∧ (f i).toInt ≤ 255) (gb : n0 ≤ buf) (sb : h0.size ≤ buf) (LSj : own_LS Z h0 s.vm own_K0), own_Ends p e below s ((fun v h L vm => v = some (.int 1) ∧ Fr n0 L), (["", "access", "refresh"] : List String)) room_1.cells room_1.slots (own_F T7 m 215 #[iv i0, iv i1, iv i2, iv i3, iv (i0 &&& (3 : Int32)), iv (((i0.toUInt32 >>> ((2 : Int32) &&& 31).toUInt32).toInt32) &&& (7 : Int32)), rv buf, .unset, .unset] []) := by
   intro buf f T7 lc7 hp7 s hZ hown X7 e7 N7 zs7 zz7 K7 f7_0 hf gb sb LSj
   refine own_g (own_F T7 m 217 #[iv i0, iv i1, iv i2, iv i3, iv (i0 &&& (3 : Int32)), iv (((i0.toUInt32 >>> ((2 : Int32) &&& 31).toUInt32).toInt32) &&& (7 : Int32)), rv buf, .unset, .unset] [(.int (i0 &&& (3 : Int32)))]) (fun _ z_ => XS.iload X7.here hx rfl (hb hby at_215) rfl z_) ?_
   refine own_g (own_F T7 m 218 #[iv i0, iv i1, iv i2, iv i3, iv (i0 &&& (3 : Int32)), iv (((i0.toUInt32 >>> ((2 : Int32) &&& 31).toUInt32).toInt32) &&& (7 : Int32)), rv buf, .unset, .unset] [(.int 1), (.int (i0 &&& (3 : Int32)))]) (fun _ z_ => XS.iconst X7.here hx rfl (hb hby at_217) z_) ?_
   by_cases c218 : (1 : Int32) < (i0 &&& (3 : Int32))
   · -- pc 218: (1 : Int32) < (i0 &&& (3 : Int32))
    refine own_g (own_F T7 m 249 #[iv i0, iv i1, iv i2, iv i3, iv (i0 &&& (3 : Int32)), iv (((i0.toUInt32 >>> ((2 : Int32) &&& 31).toUInt32).toInt32) &&& (7 : Int32)), rv buf, .unset, .unset] []) (fun _ z_ => XS.icmpYes X7.here hx rfl (pc0 := 218) (pc' := 249) rfl (hb hby at_218) rfl (tlt c218).2.2.1 (by decide) (by decide) z_) ?_
    exact J2 buf f _ T7 _ _ s hZ hown X7 e7 N7 zs7 zz7 K7 f7_0 hf gb sb LSj (One.u)
   · -- pc 218: not (1 : Int32) < (i0 &&& (3 : Int32))
    refine own_g (own_F T7 m 221 #[iv i0, iv i1, iv i2, iv i3, iv (i0 &&& (3 : Int32)), iv (((i0.toUInt32 >>> ((2 : Int32) &&& 31).toUInt32).toInt32) &&& (7 : Int32)), rv buf, .unset, .unset] []) (fun _ z_ => XS.icmpNo X7.here hx rfl (hb hby at_218) rfl (flt c218).2.2.1 z_) ?_
    refine own_g (own_F T7 m 222 #[iv i0, iv i1, iv i2, iv i3, iv (i0 &&& (3 : Int32)), iv (((i0.toUInt32 >>> ((2 : Int32) &&& 31).toUInt32).toInt32) &&& (7 : Int32)), rv buf, .unset, .unset] [(.int i0)]) (fun _ z_ => XS.iloadN X7.here hx rfl (hb hby at_221) rfl z_) ?_
    refine own_g (own_F T7 m 223 #[iv i0, iv i1, iv i2, iv i3, iv (i0 &&& (3 : Int32)), iv (((i0.toUInt32 >>> ((2 : Int32) &&& 31).toUInt32).toInt32) &&& (7 : Int32)), rv buf, .unset, .unset] [(.int 5), (.int i0)]) (fun _ z_ => XS.iconst X7.here hx rfl (hb hby at_222) z_) ?_
    refine own_g (own_F T7 m 224 #[iv i0, iv i1, iv i2, iv i3, iv (i0 &&& (3 : Int32)), iv (((i0.toUInt32 >>> ((2 : Int32) &&& 31).toUInt32).toInt32) &&& (7 : Int32)), rv buf, .unset, .unset] [(.int ((i0.toUInt32 >>> ((5 : Int32) &&& 31).toUInt32).toInt32))]) (fun _ z_ => XS.iushr X7.here hx rfl (hb hby at_223) rfl z_) ?_
    refine own_g (own_F T7 m 225 #[iv i0, iv i1, iv i2, iv i3, iv (i0 &&& (3 : Int32)), iv (((i0.toUInt32 >>> ((2 : Int32) &&& 31).toUInt32).toInt32) &&& (7 : Int32)), rv buf, .unset, .unset] [(.int 1), (.int ((i0.toUInt32 >>> ((5 : Int32) &&& 31).toUInt32).toInt32))]) (fun _ z_ => XS.iconst X7.here hx rfl (hb hby at_224) z_) ?_
    refine own_g (own_F T7 m 226 #[iv i0, iv i1, iv i2, iv i3, iv (i0 &&& (3 : Int32)), iv (((i0.toUInt32 >>> ((2 : Int32) &&& 31).toUInt32).toInt32) &&& (7 : Int32)), rv buf, .unset, .unset] [(.int (((i0.toUInt32 >>> ((5 : Int32) &&& 31).toUInt32).toInt32) &&& (1 : Int32)))]) (fun _ z_ => XS.iand X7.here hx rfl (hb hby at_225) rfl z_) ?_
    by_cases c226 : (((i0.toUInt32 >>> ((5 : Int32) &&& 31).toUInt32).toInt32) &&& (1 : Int32)) = (0 : Int32)
    · -- pc 226: (((i0.toUInt32 >>> ((5 : Int32) &&& 31).toUInt32).toInt32) &&& (1 : Int32)) = (0 : Int32)
     refine own_g (own_F T7 m 249 #[iv i0, iv i1, iv i2, iv i3, iv (i0 &&& (3 : Int32)), iv (((i0.toUInt32 >>> ((2 : Int32) &&& 31).toUInt32).toInt32) &&& (7 : Int32)), rv buf, .unset, .unset] []) (fun _ z_ => XS.ifYes X7.here hx rfl (pc0 := 226) (pc' := 249) rfl (hb hby at_226) rfl ((if0 _ _).trans (teq c226).1) (by decide) (by decide) z_) ?_
     exact J2 buf f _ T7 _ _ s hZ hown X7 e7 N7 zs7 zz7 K7 f7_0 hf gb sb LSj (One.u)
    · -- pc 226: not (((i0.toUInt32 >>> ((5 : Int32) &&& 31).toUInt32).toInt32) &&& (1 : Int32)) = (0 : Int32)
     refine own_g (own_F T7 m 229 #[iv i0, iv i1, iv i2, iv i3, iv (i0 &&& (3 : Int32)), iv (((i0.toUInt32 >>> ((2 : Int32) &&& 31).toUInt32).toInt32) &&& (7 : Int32)), rv buf, .unset, .unset] []) (fun _ z_ => XS.ifNo X7.here hx rfl (hb hby at_226) rfl ((if0 _ _).trans (feq c226).1) z_) ?_
     refine own_g (own_F T7 m 230 #[iv i0, iv i1, iv i2, iv i3, iv (i0 &&& (3 : Int32)), iv (((i0.toUInt32 >>> ((2 : Int32) &&& 31).toUInt32).toInt32) &&& (7 : Int32)), rv buf, .unset, .unset] [(.int i0)]) (fun _ z_ => XS.iloadN X7.here hx rfl (hb hby at_229) rfl z_) ?_
     refine own_g (own_F T7 m 232 #[iv i0, iv i1, iv i2, iv i3, iv (i0 &&& (3 : Int32)), iv (((i0.toUInt32 >>> ((2 : Int32) &&& 31).toUInt32).toInt32) &&& (7 : Int32)), rv buf, .unset, .unset] [(.int 6), (.int i0)]) (fun _ z_ => XS.bipush X7.here hx rfl (hb hby at_230) z_) ?_
     refine own_g (own_F T7 m 233 #[iv i0, iv i1, iv i2, iv i3, iv (i0 &&& (3 : Int32)), iv (((i0.toUInt32 >>> ((2 : Int32) &&& 31).toUInt32).toInt32) &&& (7 : Int32)), rv buf, .unset, .unset] [(.int ((i0.toUInt32 >>> ((6 : Int32) &&& 31).toUInt32).toInt32))]) (fun _ z_ => XS.iushr X7.here hx rfl (hb hby at_232) rfl z_) ?_
     refine own_g (own_F T7 m 235 #[iv i0, iv i1, iv i2, iv i3, iv (i0 &&& (3 : Int32)), iv (((i0.toUInt32 >>> ((2 : Int32) &&& 31).toUInt32).toInt32) &&& (7 : Int32)), rv buf, .unset, .unset] [(.int 7), (.int ((i0.toUInt32 >>> ((6 : Int32) &&& 31).toUInt32).toInt32))]) (fun _ z_ => XS.bipush X7.here hx rfl (hb hby at_233) z_) ?_
     refine own_g (own_F T7 m 236 #[iv i0, iv i1, iv i2, iv i3, iv (i0 &&& (3 : Int32)), iv (((i0.toUInt32 >>> ((2 : Int32) &&& 31).toUInt32).toInt32) &&& (7 : Int32)), rv buf, .unset, .unset] [(.int (((i0.toUInt32 >>> ((6 : Int32) &&& 31).toUInt32).toInt32) % (7 : Int32)))]) (fun _ z_ => iremM X7 hx rfl (hb hby at_235) rfl (by decide) z_) ?_
     refine own_g (own_F T7 m 238 #[iv i0, iv i1, iv i2, iv i3, iv (i0 &&& (3 : Int32)), iv (((i0.toUInt32 >>> ((2 : Int32) &&& 31).toUInt32).toInt32) &&& (7 : Int32)), rv buf, iv (((i0.toUInt32 >>> ((6 : Int32) &&& 31).toUInt32).toInt32) % (7 : Int32)), .unset] []) (fun _ z_ => XS.istore X7.here hx rfl (hb hby at_236) rfl (l' := #[iv i0, iv i1, iv i2, iv i3, iv (i0 &&& (3 : Int32)), iv (((i0.toUInt32 >>> ((2 : Int32) &&& 31).toUInt32).toInt32) &&& (7 : Int32)), rv buf, iv (((i0.toUInt32 >>> ((6 : Int32) &&& 31).toUInt32).toInt32) % (7 : Int32)), .unset]) rfl z_) ?_
     refine own_g (own_F T7 m 240 #[iv i0, iv i1, iv i2, iv i3, iv (i0 &&& (3 : Int32)), iv (((i0.toUInt32 >>> ((2 : Int32) &&& 31).toUInt32).toInt32) &&& (7 : Int32)), rv buf, iv (((i0.toUInt32 >>> ((6 : Int32) &&& 31).toUInt32).toInt32) % (7 : Int32)), .unset] [(.ref buf)]) (fun _ z_ => XS.aload X7.here hx rfl (hb hby at_238) rfl rfl z_) ?_
     refine own_g (own_F T7 m 242 #[iv i0, iv i1, iv i2, iv i3, iv (i0 &&& (3 : Int32)), iv (((i0.toUInt32 >>> ((2 : Int32) &&& 31).toUInt32).toInt32) &&& (7 : Int32)), rv buf, iv (((i0.toUInt32 >>> ((6 : Int32) &&& 31).toUInt32).toInt32) % (7 : Int32)), .unset] [(.int (((i0.toUInt32 >>> ((6 : Int32) &&& 31).toUInt32).toInt32) % (7 : Int32))), (.ref buf)]) (fun _ z_ => XS.iload X7.here hx rfl (hb hby at_240) rfl z_) ?_
     refine own_g (own_F T7 m 243 #[iv i0, iv i1, iv i2, iv i3, iv (i0 &&& (3 : Int32)), iv (((i0.toUInt32 >>> ((2 : Int32) &&& 31).toUInt32).toInt32) &&& (7 : Int32)), rv buf, iv (((i0.toUInt32 >>> ((6 : Int32) &&& 31).toUInt32).toInt32) % (7 : Int32)), .unset] [(.int i3), (.int (((i0.toUInt32 >>> ((6 : Int32) &&& 31).toUInt32).toInt32) % (7 : Int32))), (.ref buf)]) (fun _ z_ => XS.iloadN X7.here hx rfl (hb hby at_242) rfl z_) ?_
     refine own_g (own_F T7 m 246 #[iv i0, iv i1, iv i2, iv i3, iv (i0 &&& (3 : Int32)), iv (((i0.toUInt32 >>> ((2 : Int32) &&& 31).toUInt32).toInt32) &&& (7 : Int32)), rv buf, iv (((i0.toUInt32 >>> ((6 : Int32) &&& 31).toUInt32).toInt32) % (7 : Int32)), .unset] [(.int 255), (.int i3), (.int (((i0.toUInt32 >>> ((6 : Int32) &&& 31).toUInt32).toInt32) % (7 : Int32))), (.ref buf)]) (fun _ z_ => XS.sipush X7.here hx rfl (hb hby at_243) z_) ?_
     refine own_g (own_F T7 m 247 #[iv i0, iv i1, iv i2, iv i3, iv (i0 &&& (3 : Int32)), iv (((i0.toUInt32 >>> ((2 : Int32) &&& 31).toUInt32).toInt32) &&& (7 : Int32)), rv buf, iv (((i0.toUInt32 >>> ((6 : Int32) &&& 31).toUInt32).toInt32) % (7 : Int32)), .unset] [(.int (i3 &&& (255 : Int32))), (.int (((i0.toUInt32 >>> ((6 : Int32) &&& 31).toUInt32).toInt32) % (7 : Int32))), (.ref buf)]) (fun _ z_ => XS.iand X7.here hx rfl (hb hby at_246) rfl z_) ?_
     refine own_g (own_F T7 m 248 #[iv i0, iv i1, iv i2, iv i3, iv (i0 &&& (3 : Int32)), iv (((i0.toUInt32 >>> ((2 : Int32) &&& 31).toUInt32).toInt32) &&& (7 : Int32)), rv buf, iv (((i0.toUInt32 >>> ((6 : Int32) &&& 31).toUInt32).toInt32) % (7 : Int32)), .unset] [(.int ((i3 &&& (255 : Int32)).toUInt32.toUInt16.toUInt32.toInt32)), (.int (((i0.toUInt32 >>> ((6 : Int32) &&& 31).toUInt32).toInt32) % (7 : Int32))), (.ref buf)]) (fun _ z_ => XS.i2c X7.here hx rfl (hb hby at_247) rfl z_) ?_
     refine own_cast X7 hx hZ e7 f7_0 (Int32.toInt (((i0.toUInt32 >>> ((6 : Int32) &&& 31).toUInt32).toInt32) % (7 : Int32))).toNat (by have := own_pos7 i0; omega) (by have := own_pos7 i0; omega) ((i3 &&& (255 : Int32)).toUInt32.toUInt16.toUInt32.toInt32) (own_c255n i3) (hb hby at_248) ?_
     intro T8 h8 X8 e8 W8 A8
     have N8 := Fr.snoc X8 N7 gb
     obtain ⟨g8, hg8⟩ : ∃ gq_ : Nat → Int32, gq_ = fun q_ => if q_ = (Int32.toInt (((i0.toUInt32 >>> ((6 : Int32) &&& 31).toUInt32).toInt32) % (7 : Int32))).toNat then ((i3 &&& (255 : Int32)).toUInt32.toUInt16.toUInt32.toInt32) else f q_ := ⟨_, rfl⟩
     have A8 : own_A Z h8 buf .char 7 (fun q_ => .int (g8 q_)) := by rw [hg8]; exact A8
     show own_Ends p e below s _ _ _ (own_F T8 m 249 #[iv i0, iv i1, iv i2, iv i3, iv (i0 &&& (3 : Int32)), iv (((i0.toUInt32 >>> ((2 : Int32) &&& 31).toUInt32).toInt32) &&& (7 : Int32)), rv buf, iv (((i0.toUInt32 >>> ((6 : Int32) &&& 31).toUInt32).toInt32) % (7 : Int32)), .unset] [])
     exact J2 buf g8 _ T8 _ _ s hZ hown X8 e8 N8 (Nat.le_trans zs7 (Nat.le_of_eq W8.size.symm)) (Nat.le_trans zz7 (Nat.le_of_eq W8.size.symm)) (K7.wr W8 (Or.inr sb)) A8 (own_rng8 hg8 hf (own_c255r i3)) gb sb LSj (One.val rfl)
  refine own_g (own_F T0 m 1 #[iv i0, iv i1, iv i2, iv i3, .unset, .unset, .unset, .unset, .unset] [(.int i0)]) (fun _ z_ => XS.iloadN X0.here hx rfl (hb hby at_0) rfl z_) ?_
  refine own_g (own_F T0 m 2 #[iv i0, iv i1, iv i2, iv i3, .unset, .unset, .unset, .unset, .unset] [(.int 3), (.int i0)]) (fun _ z_ => XS.iconst X0.here hx rfl (hb hby at_1) z_) ?_
  refine own_g (own_F T0 m 3 #[iv i0, iv i1, iv i2, iv i3, .unset, .unset, .unset, .unset, .unset] [(.int (i0 &&& (3 : Int32)))]) (fun _ z_ => XS.iand X0.here hx rfl (hb hby at_2) rfl z_) ?_
  refine own_g (own_F T0 m 5 #[iv i0, iv i1, iv i2, iv i3, iv (i0 &&& (3 : Int32)), .unset, .unset, .unset, .unset] []) (fun _ z_ => XS.istore X0.here hx rfl (hb hby at_3) rfl (l' := #[iv i0, iv i1, iv i2, iv i3, iv (i0 &&& (3 : Int32)), .unset, .unset, .unset, .unset]) rfl z_) ?_
  refine own_g (own_F T0 m 6 #[iv i0, iv i1, iv i2, iv i3, iv (i0 &&& (3 : Int32)), .unset, .unset, .unset, .unset] [(.int i0)]) (fun _ z_ => XS.iloadN X0.here hx rfl (hb hby at_5) rfl z_) ?_
  refine own_g (own_F T0 m 7 #[iv i0, iv i1, iv i2, iv i3, iv (i0 &&& (3 : Int32)), .unset, .unset, .unset, .unset] [(.int 2), (.int i0)]) (fun _ z_ => XS.iconst X0.here hx rfl (hb hby at_6) z_) ?_
  refine own_g (own_F T0 m 8 #[iv i0, iv i1, iv i2, iv i3, iv (i0 &&& (3 : Int32)), .unset, .unset, .unset, .unset] [(.int ((i0.toUInt32 >>> ((2 : Int32) &&& 31).toUInt32).toInt32))]) (fun _ z_ => XS.iushr X0.here hx rfl (hb hby at_7) rfl z_) ?_
  refine own_g (own_F T0 m 10 #[iv i0, iv i1, iv i2, iv i3, iv (i0 &&& (3 : Int32)), .unset, .unset, .unset, .unset] [(.int 7), (.int ((i0.toUInt32 >>> ((2 : Int32) &&& 31).toUInt32).toInt32))]) (fun _ z_ => XS.bipush X0.here hx rfl (hb hby at_8) z_) ?_
  refine own_g (own_F T0 m 11 #[iv i0, iv i1, iv i2, iv i3, iv (i0 &&& (3 : Int32)), .unset, .unset, .unset, .unset] [(.int (((i0.toUInt32 >>> ((2 : Int32) &&& 31).toUInt32).toInt32) &&& (7 : Int32)))]) (fun _ z_ => XS.iand X0.here hx rfl (hb hby at_10) rfl z_) ?_
  refine own_g (own_F T0 m 13 #[iv i0, iv i1, iv i2, iv i3, iv (i0 &&& (3 : Int32)), iv (((i0.toUInt32 >>> ((2 : Int32) &&& 31).toUInt32).toInt32) &&& (7 : Int32)), .unset, .unset, .unset] []) (fun _ z_ => XS.istore X0.here hx rfl (hb hby at_11) rfl (l' := #[iv i0, iv i1, iv i2, iv i3, iv (i0 &&& (3 : Int32)), iv (((i0.toUInt32 >>> ((2 : Int32) &&& 31).toUInt32).toInt32) &&& (7 : Int32)), .unset, .unset, .unset]) rfl z_) ?_
  refine own_g (own_F T0 m 15 #[iv i0, iv i1, iv i2, iv i3, iv (i0 &&& (3 : Int32)), iv (((i0.toUInt32 >>> ((2 : Int32) &&& 31).toUInt32).toInt32) &&& (7 : Int32)), .unset, .unset, .unset] [(.int 7)]) (fun _ z_ => XS.bipush X0.here hx rfl (hb hby at_13) z_) ?_
  refine own_newA X0 hx hZ .char rfl (own_w hw 0) e0 (hb hby at_15) 7 rfl 7 (by decide) (by decide) (by decide) (by decide) ?_
  intro T9 h9 b9 X9 e9 E9 g9 A9
  have sz_b9 : h0.size ≤ b9 := Nat.le_trans (Nat.le_refl h0.size) (Nat.le_of_eq g9.symm)
  have ge_b9 : n0 ≤ b9 := Nat.le_trans Z0 (Nat.le_of_eq g9.symm)
  have ne_av_b9 : av ≠ b9 := Nat.ne_of_lt (Nat.lt_of_lt_of_le A_v.lt (Nat.le_of_eq g9.symm))
  have ne_aA_b9 : aA ≠ b9 := Nat.ne_of_lt (Nat.lt_of_lt_of_le E_A.lt (Nat.le_of_eq g9.symm))
  have ne_wA_b9 : wA ≠ b9 := Nat.ne_of_lt (Nat.lt_of_lt_of_le L_A.1.lt (Nat.le_of_eq g9.symm))
  have ne_tA_b9 : tA ≠ b9 := Nat.ne_of_lt (Nat.lt_of_lt_of_le L_A.2.2.2.1.lt (Nat.le_of_eq g9.symm))
  have ne_aR_b9 : aR ≠ b9 := Nat.ne_of_lt (Nat.lt_of_lt_of_le E_R.lt (Nat.le_of_eq g9.symm))
  have ne_wR_b9 : wR ≠ b9 := Nat.ne_of_lt (Nat.lt_of_lt_of_le L_R.1.lt (Nat.le_of_eq g9.symm))
  have ne_tR_b9 : tR ≠ b9 := Nat.ne_of_lt (Nat.lt_of_lt_of_le L_R.2.2.2.1.lt (Nat.le_of_eq g9.symm))
  have A9 : own_A Z h9 b9 .char 7 (fun q_ => .int ((fun _ => (0 : Int32)) q_)) := A9
  show own_Ends p e below s _ _ _ (own_F T9 m 17 #[iv i0, iv i1, iv i2, iv i3, iv (i0 &&& (3 : Int32)), iv (((i0.toUInt32 >>> ((2 : Int32) &&& 31).toUInt32).toInt32) &&& (7 : Int32)), .unset, .unset, .unset] [(.ref b9)])
  refine own_g (own_F T9 m 19 #[iv i0, iv i1, iv i2, iv i3, iv (i0 &&& (3 : Int32)), iv (((i0.toUInt32 >>> ((2 : Int32) &&& 31).toUInt32).toInt32) &&& (7 : Int32)), rv b9, .unset, .unset] []) (fun _ z_ => XS.astore X9.here hx rfl (hb hby at_17) rfl rfl (l' := #[iv i0, iv i1, iv i2, iv i3, iv (i0 &&& (3 : Int32)), iv (((i0.toUInt32 >>> ((2 : Int32) &&& 31).toUInt32).toInt32) &&& (7 : Int32)), rv b9, .unset, .unset]) rfl z_) ?_
  refine own_g (own_F T9 m 21 #[iv i0, iv i1, iv i2, iv i3, iv (i0 &&& (3 : Int32)), iv (((i0.toUInt32 >>> ((2 : Int32) &&& 31).toUInt32).toInt32) &&& (7 : Int32)), rv b9, .unset, .unset] [(.int (i0 &&& (3 : Int32)))]) (fun _ z_ => XS.iload X9.here hx rfl (hb hby at_19) rfl z_) ?_
  by_cases c21 : (i0 &&& (3 : Int32)) = (0 : Int32)
  · -- pc 21: (i0 &&& (3 : Int32)) = (0 : Int32)
   refine own_g (own_F T9 m 24 #[iv i0, iv i1, iv i2, iv i3, iv (i0 &&& (3 : Int32)), iv (((i0.toUInt32 >>> ((2 : Int32) &&& 31).toUInt32).toInt32) &&& (7 : Int32)), rv b9, .unset, .unset] []) (fun _ z_ => XS.ifNo X9.here hx rfl (hb hby at_21) rfl ((if0 _ _).trans (teq c21).2) z_) ?_
   refine own_g (own_F T9 m 26 #[iv i0, iv i1, iv i2, iv i3, iv (i0 &&& (3 : Int32)), iv (((i0.toUInt32 >>> ((2 : Int32) &&& 31).toUInt32).toInt32) &&& (7 : Int32)), rv b9, .unset, .unset] [(.ref b9)]) (fun _ z_ => XS.aload X9.here hx rfl (hb hby at_24) rfl rfl z_) ?_
   refine own_g (own_F T9 m 27 #[iv i0, iv i1, iv i2, iv i3, iv (i0 &&& (3 : Int32)), iv (((i0.toUInt32 >>> ((2 : Int32) &&& 31).toUInt32).toInt32) &&& (7 : Int32)), rv b9, .unset, .unset] [(.int 0), (.ref b9)]) (fun _ z_ => XS.iconst X9.here hx rfl (hb hby at_26) z_) ?_
   refine own_g (own_F T9 m 29 #[iv i0, iv i1, iv i2, iv i3, iv (i0 &&& (3 : Int32)), iv (((i0.toUInt32 >>> ((2 : Int32) &&& 31).toUInt32).toInt32) &&& (7 : Int32)), rv b9, .unset, .unset] [(.int 97), (.int 0), (.ref b9)]) (fun _ z_ => XS.bipush X9.here hx rfl (hb hby at_27) z_) ?_
   refine own_cast X9 hx hZ e9 A9 0 rfl (by decide) (97 : Int32) rfl (hb hby at_29) ?_
   intro T10 h10 X10 e10 W10 A10
   have N10 := Fr.snoc X10 N0 ge_b9
   obtain ⟨g10, A10, q10_0, q10_1, q10_2, q10_3, q10_4, q10_5, q10_6⟩ : ∃ gq_ : Nat → Int32, own_A Z h10 b9 .char 7 (fun q_ => .int (gq_ q_)) ∧ gq_ 0 = (97 : Int32) ∧ gq_ 1 = (0 : Int32) ∧ gq_ 2 = (0 : Int32) ∧ gq_ 3 = (0 : Int32) ∧ gq_ 4 = (0 : Int32) ∧ gq_ 5 = (0 : Int32) ∧ gq_ 6 = (0 : Int32) := ⟨_, A10, rfl, (show ite _ _ _ = _ from (if_neg (by decide)).trans rfl), (show ite _ _ _ = _ from (if_neg (by decide)).trans rfl), (show ite _ _ _ = _ from (if_neg (by decide)).trans rfl), (show ite _ _ _ = _ from (if_neg (by decide)).trans rfl), (show ite _ _ _ = _ from (if_neg (by decide)).trans rfl), (show ite _ _ _ = _ from (if_neg (by decide)).trans rfl)⟩
   show own_Ends p e below s _ _ _ (own_F T10 m 30 #[iv i0, iv i1, iv i2, iv i3, iv (i0 &&& (3 : Int32)), iv (((i0.toUInt32 >>> ((2 : Int32) &&& 31).toUInt32).toInt32) &&& (7 : Int32)), rv b9, .unset, .unset] [])
   refine own_g (own_F T10 m 32 #[iv i0, iv i1, iv i2, iv i3, iv (i0 &&& (3 : Int32)), iv (((i0.toUInt32 >>> ((2 : Int32) &&& 31).toUInt32).toInt32) &&& (7 : Int32)), rv b9, .unset, .unset] [(.ref b9)]) (fun _ z_ => XS.aload X10.here hx rfl (hb hby at_30) rfl rfl z_) ?_
   refine own_g (own_F T10 m 33 #[iv i0, iv i1, iv i2, iv i3, iv (i0 &&& (3 : Int32)), iv (((i0.toUInt32 >>> ((2 : Int32) &&& 31).toUInt32).toInt32) &&& (7 : Int32)), rv b9, .unset, .unset] [(.int 1), (.ref b9)]) (fun _ z_ => XS.iconst X10.here hx rfl (hb hby at_32) z_) ?_
   refine own_g (own_F T10 m 35 #[iv i0, iv i1, iv i2, iv i3, iv (i0 &&& (3 : Int32)), iv (((i0.toUInt32 >>> ((2 : Int32) &&& 31).toUInt32).toInt32) &&& (7 : Int32)), rv b9, .unset, .unset] [(.int 99), (.int 1), (.ref b9)]) (fun _ z_ => XS.bipush X10.here hx rfl (hb hby at_33) z_) ?_
   refine own_cast X10 hx hZ e10 A10 1 rfl (by decide) (99 : Int32) rfl (hb hby at_35) ?_
   intro T11 h11 X11 e11 W11 A11
   have N11 := Fr.snoc X11 N10 ge_b9
   obtain ⟨g11, A11, q11_0, q11_1, q11_2, q11_3, q11_4, q11_5, q11_6⟩ : ∃ gq_ : Nat → Int32, own_A Z h11 b9 .char 7 (fun q_ => .int (gq_ q_)) ∧ gq_ 0 = (97 : Int32) ∧ gq_ 1 = (99 : Int32) ∧ gq_ 2 = (0 : Int32) ∧ gq_ 3 = (0 : Int32) ∧ gq_ 4 = (0 : Int32) ∧ gq_ 5 = (0 : Int32) ∧ gq_ 6 = (0 : Int32) := ⟨_, A11, (show ite _ _ _ = _ from (if_neg (by decide)).trans q10_0), rfl, (show ite _ _ _ = _ from (if_neg (by decide)).trans q10_2), (show ite _ _ _ = _ from (if_neg (by decide)).trans q10_3), (show ite _ _ _ = _ from (if_neg (by decide)).trans q10_4), (show ite _ _ _ = _ from (if_neg (by decide)).trans q10_5), (show ite _ _ _ = _ from (if_neg (by decide)).trans q10_6)⟩
   show own_Ends p e below s _ _ _ (own_F T11 m 36 #[iv i0, iv i1, iv i2, iv i3, iv (i0 &&& (3 : Int32)), iv (((i0.toUInt32 >>> ((2 : Int32) &&& 31).toUInt32).toInt32) &&& (7 : Int32)), rv b9, .unset, .unset] [])
   refine own_g (own_F T11 m 38 #[iv i0, iv i1, iv i2, iv i3, iv (i0 &&& (3 : Int32)), iv (((i0.toUInt32 >>> ((2 : Int32) &&& 31).toUInt32).toInt32) &&& (7 : Int32)), rv b9, .unset, .unset] [(.ref b9)]) (fun _ z_ => XS.aload X11.here hx rfl (hb hby at_36) rfl rfl z_) ?_
   refine own_g (own_F T11 m 39 #[iv i0, iv i1, iv i2, iv i3, iv (i0 &&& (3 : Int32)), iv (((i0.toUInt32 >>> ((2 : Int32) &&& 31).toUInt32).toInt32) &&& (7 : Int32)), rv b9, .unset, .unset] [(.int 2), (.ref b9)]) (fun _ z_ => XS.iconst X11.here hx rfl (hb hby at_38) z_) ?_
   refine own_g (own_F T11 m 41 #[iv i0, iv i1, iv i2, iv i3, iv (i0 &&& (3 : Int32)), iv (((i0.toUInt32 >>> ((2 : Int32) &&& 31).toUInt32).toInt32) &&& (7 : Int32)), rv b9, .unset, .unset] [(.int 99), (.int 2), (.ref b9)]) (fun _ z_ => XS.bipush X11.here hx rfl (hb hby at_39) z_) ?_
   refine own_cast X11 hx hZ e11 A11 2 rfl (by decide) (99 : Int32) rfl (hb hby at_41) ?_
   intro T12 h12 X12 e12 W12 A12
   have N12 := Fr.snoc X12 N11 ge_b9
   obtain ⟨g12, A12, q12_0, q12_1, q12_2, q12_3, q12_4, q12_5, q12_6⟩ : ∃ gq_ : Nat → Int32, own_A Z h12 b9 .char 7 (fun q_ => .int (gq_ q_)) ∧ gq_ 0 = (97 : Int32) ∧ gq_ 1 = (99 : Int32) ∧ gq_ 2 = (99 : Int32) ∧ gq_ 3 = (0 : Int32) ∧ gq_ 4 = (0 : Int32) ∧ gq_ 5 = (0 : Int32) ∧ gq_ 6 = (0 : Int32) := ⟨_, A12, (show ite _ _ _ = _ from (if_neg (by decide)).trans q11_0), (show ite _ _ _ = _ from (if_neg (by decide)).trans q11_1), rfl, (show ite _ _ _ = _ from (if_neg (by decide)).trans q11_3), (show ite _ _ _ = _ from (if_neg (by decide)).trans q11_4), (show ite _ _ _ = _ from (if_neg (by decide)).trans q11_5), (show ite _ _ _ = _ from (if_neg (by decide)).trans q11_6)⟩
   show own_Ends p e below s _ _ _ (own_F T12 m 42 #[iv i0, iv i1, iv i2, iv i3, iv (i0 &&& (3 : Int32)), iv (((i0.toUInt32 >>> ((2 : Int32) &&& 31).toUInt32).toInt32) &&& (7 : Int32)), rv b9, .unset, .unset] [])
   refine own_g (own_F T12 m 44 #[iv i0, iv i1, iv i2, iv i3, iv (i0 &&& (3 : Int32)), iv (((i0.toUInt32 >>> ((2 : Int32) &&& 31).toUInt32).toInt32) &&& (7 : Int32)), rv b9, .unset, .unset] [(.ref b9)]) (fun _ z_ => XS.aload X12.here hx rfl (hb hby at_42) rfl rfl z_) ?_
   refine own_g (own_F T12 m 45 #[iv i0, iv i1, iv i2, iv i3, iv (i0 &&& (3 : Int32)), iv (((i0.toUInt32 >>> ((2 : Int32) &&& 31).toUInt32).toInt32) &&& (7 : Int32)), rv b9, .unset, .unset] [(.int 3), (.ref b9)]) (fun _ z_ => XS.iconst X12.here hx rfl (hb hby at_44) z_) ?_
   refine own_g (own_F T12 m 47 #[iv i0, iv i1, iv i2, iv i3, iv (i0 &&& (3 : Int32)), iv (((i0.toUInt32 >>> ((2 : Int32) &&& 31).toUInt32).toInt32) &&& (7 : Int32)), rv b9, .unset, .unset] [(.int 101), (.int 3), (.ref b9)]) (fun _ z_ => XS.bipush X12.here hx rfl (hb hby at_45) z_) ?_
   refine own_cast X12 hx hZ e12 A12 3 rfl (by decide) (101 : Int32) rfl (hb hby at_47) ?_
   intro T13 h13 X13 e13 W13 A13
   have N13 := Fr.snoc X13 N12 ge_b9
   obtain ⟨g13, A13, q13_0, q13_1, q13_2, q13_3, q13_4, q13_5, q13_6⟩ : ∃ gq_ : Nat → Int32, own_A Z h13 b9 .char 7 (fun q_ => .int (gq_ q_)) ∧ gq_ 0 = (97 : Int32) ∧ gq_ 1 = (99 : Int32) ∧ gq_ 2 = (99 : Int32) ∧ gq_ 3 = (101 : Int32) ∧ gq_ 4 = (0 : Int32) ∧ gq_ 5 = (0 : Int32) ∧ gq_ 6 = (0 : Int32) := ⟨_, A13, (show ite _ _ _ = _ from (if_neg (by decide)).trans q12_0), (show ite _ _ _ = _ from (if_neg (by decide)).trans q12_1), (show ite _ _ _ = _ from (if_neg (by decide)).trans q12_2), rfl, (show ite _ _ _ = _ from (if_neg (by decide)).trans q12_4), (show ite _ _ _ = _ from (if_neg (by decide)).trans q12_5), (show ite _ _ _ = _ from (if_neg (by decide)).trans q12_6)⟩
   show own_Ends p e below s _ _ _ (own_F T13 m 48 #[iv i0, iv i1, iv i2, iv i3, iv (i0 &&& (3 : Int32)), iv (((i0.toUInt32 >>> ((2 : Int32) &&& 31).toUInt32).toInt32) &&& (7 : Int32)), rv b9, .unset, .unset] [])
   refine own_g (own_F T13 m 50 #[iv i0, iv i1, iv i2, iv i3, iv (i0 &&& (3 : Int32)), iv (((i0.toUInt32 >>> ((2 : Int32) &&& 31).toUInt32).toInt32) &&& (7 : Int32)), rv b9, .unset, .unset] [(.ref b9)]) (fun _ z_ => XS.aload X13.here hx rfl (hb hby at_48) rfl rfl z_) ?_
   refine own_g (own_F T13 m 51 #[iv i0, iv i1, iv i2, iv i3, iv (i0 &&& (3 : Int32)), iv (((i0.toUInt32 >>> ((2 : Int32) &&& 31).toUInt32).toInt32) &&& (7 : Int32)), rv b9, .unset, .unset] [(.int 4), (.ref b9)]) (fun _ z_ => XS.iconst X13.here hx rfl (hb hby at_50) z_) ?_
   refine own_g (own_F T13 m 53 #[iv i0, iv i1, iv i2, iv i3, iv (i0 &&& (3 : Int32)), iv (((i0.toUInt32 >>> ((2 : Int32) &&& 31).toUInt32).toInt32) &&& (7 : Int32)), rv b9, .unset, .unset] [(.int 115), (.int 4), (.ref b9)]) (fun _ z_ => XS.bipush X13.here hx rfl (hb hby at_51) z_) ?_
   refine own_cast X13 hx hZ e13 A13 4 rfl (by decide) (115 : Int32) rfl (hb hby at_53) ?_
   intro T14 h14 X14 e14 W14 A14
   have N14 := Fr.snoc X14 N13 ge_b9
   obtain ⟨g14, A14, q14_0, q14_1, q14_2, q14_3, q14_4, q14_5, q14_6⟩ : ∃ gq_ : Nat → Int32, own_A Z h14 b9 .char 7 (fun q_ => .int (gq_ q_)) ∧ gq_ 0 = (97 : Int32) ∧ gq_ 1 = (99 : Int32) ∧ gq_ 2 = (99 : Int32) ∧ gq_ 3 = (101 : Int32) ∧ gq_ 4 = (115 : Int32) ∧ gq_ 5 = (0 : Int32) ∧ gq_ 6 = (0 : Int32) := ⟨_, A14, (show ite _ _ _ = _ from (if_neg (by decide)).trans q13_0), (show ite _ _ _ = _ from (if_neg (by decide)).trans q13_1), (show ite _ _ _ = _ from (if_neg (by decide)).trans q13_2), (show ite _ _ _ = _ from (if_neg (by decide)).trans q13_3), rfl, (show ite _ _ _ = _ from (if_neg (by decide)).trans q13_5), (show ite _ _ _ = _ from (if_neg (by decide)).trans q13_6)⟩
   show own_Ends p e below s _ _ _ (own_F T14 m 54 #[iv i0, iv i1, iv i2, iv i3, iv (i0 &&& (3 : Int32)), iv (((i0.toUInt32 >>> ((2 : Int32) &&& 31).toUInt32).toInt32) &&& (7 : Int32)), rv b9, .unset, .unset] [])
   refine own_g (own_F T14 m 56 #[iv i0, iv i1, iv i2, iv i3, iv (i0 &&& (3 : Int32)), iv (((i0.toUInt32 >>> ((2 : Int32) &&& 31).toUInt32).toInt32) &&& (7 : Int32)), rv b9, .unset, .unset] [(.ref b9)]) (fun _ z_ => XS.aload X14.here hx rfl (hb hby at_54) rfl rfl z_) ?_
   refine own_g (own_F T14 m 57 #[iv i0, iv i1, iv i2, iv i3, iv (i0 &&& (3 : Int32)), iv (((i0.toUInt32 >>> ((2 : Int32) &&& 31).toUInt32).toInt32) &&& (7 : Int32)), rv b9, .unset, .unset] [(.int 5), (.ref b9)]) (fun _ z_ => XS.iconst X14.here hx rfl (hb hby at_56) z_) ?_
   refine own_g (own_F T14 m 59 #[iv i0, iv i1, iv i2, iv i3, iv (i0 &&& (3 : Int32)), iv (((i0.toUInt32 >>> ((2 : Int32) &&& 31).toUInt32).toInt32) &&& (7 : Int32)), rv b9, .unset, .unset] [(.int 115), (.int 5), (.ref b9)]) (fun _ z_ => XS.bipush X14.here hx rfl (hb hby at_57) z_) ?_
   refine own_cast X14 hx hZ e14 A14 5 rfl (by decide) (115 : Int32) rfl (hb hby at_59) ?_
   intro T15 h15 X15 e15 W15 A15
   have N15 := Fr.snoc X15 N14 ge_b9
   obtain ⟨g15, A15, q15_0, q15_1, q15_2, q15_3, q15_4, q15_5, q15_6⟩ : ∃ gq_ : Nat → Int32, own_A Z h15 b9 .char 7 (fun q_ => .int (gq_ q_)) ∧ gq_ 0 = (97 : Int32) ∧ gq_ 1 = (99 : Int32) ∧ gq_ 2 = (99 : Int32) ∧ gq_ 3 = (101 : Int32) ∧ gq_ 4 = (115 : Int32) ∧ gq_ 5 = (115 : Int32) ∧ gq_ 6 = (0 : Int32) := ⟨_, A15, (show ite _ _ _ = _ from (if_neg (by decide)).trans q14_0), (show ite _ _ _ = _ from (if_neg (by decide)).trans q14_1), (show ite _ _ _ = _ from (if_neg (by decide)).trans q14_2), (show ite _ _ _ = _ from (if_neg (by decide)).trans q14_3), (show ite _ _ _ = _ from (if_neg (by decide)).trans q14_4), rfl, (show ite _ _ _ = _ from (if_neg (by decide)).trans q14_6)⟩
   show own_Ends p e below s _ _ _ (own_F T15 m 60 #[iv i0, iv i1, iv i2, iv i3, iv (i0 &&& (3 : Int32)), iv (((i0.toUInt32 >>> ((2 : Int32) &&& 31).toUInt32).toInt32) &&& (7 : Int32)), rv b9, .unset, .unset] [])
   refine own_g (own_F T15 m 62 #[iv i0, iv i1, iv i2, iv i3, iv (i0 &&& (3 : Int32)), iv (((i0.toUInt32 >>> ((2 : Int32) &&& 31).toUInt32).toInt32) &&& (7 : Int32)), rv b9, .unset, .unset] [(.ref b9)]) (fun _ z_ => XS.aload X15.here hx rfl (hb hby at_60) rfl rfl z_) ?_
   refine own_g (own_F T15 m 64 #[iv i0, iv i1, iv i2, iv i3, iv (i0 &&& (3 : Int32)), iv (((i0.toUInt32 >>> ((2 : Int32) &&& 31).toUInt32).toInt32) &&& (7 : Int32)), rv b9, .unset, .unset] [(.int 6), (.ref b9)]) (fun _ z_ => XS.bipush X15.here hx rfl (hb hby at_62) z_) ?_
   refine own_g (own_F T15 m 65 #[iv i0, iv i1, iv i2, iv i3, iv (i0 &&& (3 : Int32)), iv (((i0.toUInt32 >>> ((2 : Int32) &&& 31).toUInt32).toInt32) &&& (7 : Int32)), rv b9, .unset, .unset] [(.int i3), (.int 6), (.ref b9)]) (fun _ z_ => XS.iloadN X15.here hx rfl (hb hby at_64) rfl z_) ?_
   refine own_g (own_F T15 m 67 #[iv i0, iv i1, iv i2, iv i3, iv (i0 &&& (3 : Int32)), iv (((i0.toUInt32 >>> ((2 : Int32) &&& 31).toUInt32).toInt32) &&& (7 : Int32)), rv b9, .unset, .unset] [(.int 8), (.int i3), (.int 6), (.ref b9)]) (fun _ z_ => XS.bipush X15.here hx rfl (hb hby at_65) z_) ?_
   refine own_g (own_F T15 m 68 #[iv i0, iv i1, iv i2, iv i3, iv (i0 &&& (3 : Int32)), iv (((i0.toUInt32 >>> ((2 : Int32) &&& 31).toUInt32).toInt32) &&& (7 : Int32)), rv b9, .unset, .unset] [(.int ((i3.toUInt32 >>> ((8 : Int32) &&& 31).toUInt32).toInt32)), (.int 6), (.ref b9)]) (fun _ z_ => XS.iushr X15.here hx rfl (hb hby at_67) rfl z_) ?_
   refine own_g (own_F T15 m 71 #[iv i0, iv i1, iv i2, iv i3, iv (i0 &&& (3 : Int32)), iv (((i0.toUInt32 >>> ((2 : Int32) &&& 31).toUInt32).toInt32) &&& (7 : Int32)), rv b9, .unset, .unset] [(.int 255), (.int ((i3.toUInt32 >>> ((8 : Int32) &&& 31).toUInt32).toInt32)), (.int 6), (.ref b9)]) (fun _ z_ => XS.sipush X15.here hx rfl (hb hby at_68) z_) ?_
   refine own_g (own_F T15 m 72 #[iv i0, iv i1, iv i2, iv i3, iv (i0 &&& (3 : Int32)), iv (((i0.toUInt32 >>> ((2 : Int32) &&& 31).toUInt32).toInt32) &&& (7 : Int32)), rv b9, .unset, .unset] [(.int (((i3.toUInt32 >>> ((8 : Int32) &&& 31).toUInt32).toInt32) &&& (255 : Int32))), (.int 6), (.ref b9)]) (fun _ z_ => XS.iand X15.here hx rfl (hb hby at_71) rfl z_) ?_
   refine own_g (own_F T15 m 73 #[iv i0, iv i1, iv i2, iv i3, iv (i0 &&& (3 : Int32)), iv (((i0.toUInt32 >>> ((2 : Int32) &&& 31).toUInt32).toInt32) &&& (7 : Int32)), rv b9, .unset, .unset] [(.int ((((i3.toUInt32 >>> ((8 : Int32) &&& 31).toUInt32).toInt32) &&& (255 : Int32)).toUInt32.toUInt16.toUInt32.toInt32)), (.int 6), (.ref b9)]) (fun _ z_ => XS.i2c X15.here hx rfl (hb hby at_72) rfl z_) ?_
   refine own_cast X15 hx hZ e15 A15 6 rfl (by decide) ((((i3.toUInt32 >>> ((8 : Int32) &&& 31).toUInt32).toInt32) &&& (255 : Int32)).toUInt32.toUInt16.toUInt32.toInt32) (own_c255n _) (hb hby at_73) ?_
   intro T16 h16 X16 e16 W16 A16
   have N16 := Fr.snoc X16 N15 ge_b9
   obtain ⟨g16, A16, q16_0, q16_1, q16_2, q16_3, q16_4, q16_5, q16_6⟩ : ∃ gq_ : Nat → Int32, own_A Z h16 b9 .char 7 (fun q_ => .int (gq_ q_)) ∧ gq_ 0 = (97 : Int32) ∧ gq_ 1 = (99 : Int32) ∧ gq_ 2 = (99 : Int32) ∧ gq_ 3 = (101 : Int32) ∧ gq_ 4 = (115 : Int32) ∧ gq_ 5 = (115 : Int32) ∧ gq_ 6 = ((((i3.toUInt32 >>> ((8 : Int32) &&& 31).toUInt32).toInt32) &&& (255 : Int32)).toUInt32.toUInt16.toUInt32.toInt32) := ⟨_, A16, (show ite _ _ _ = _ from (if_neg (by decide)).trans q15_0), (show ite _ _ _ = _ from (if_neg (by decide)).trans q15_1), (show ite _ _ _ = _ from (if_neg (by decide)).trans q15_2), (show ite _ _ _ = _ from (if_neg (by decide)).trans q15_3), (show ite _ _ _ = _ from (if_neg (by decide)).trans q15_4), (show ite _ _ _ = _ from (if_neg (by decide)).trans q15_5), rfl⟩
   show own_Ends p e below s _ _ _ (own_F T16 m 74 #[iv i0, iv i1, iv i2, iv i3, iv (i0 &&& (3 : Int32)), iv (((i0.toUInt32 >>> ((2 : Int32) &&& 31).toUInt32).toInt32) &&& (7 : Int32)), rv b9, .unset, .unset] [])
   refine own_g (own_F T16 m 215 #[iv i0, iv i1, iv i2, iv i3, iv (i0 &&& (3 : Int32)), iv (((i0.toUInt32 >>> ((2 : Int32) &&& 31).toUInt32).toInt32) &&& (7 : Int32)), rv b9, .unset, .unset] []) (fun _ z_ => XS.goto X16.here hx rfl (pc0 := 74) (pc' := 215) rfl (hb hby at_74) (by decide) (by decide) z_) ?_
   have hf : ∀ i, i < 7 → 0 ≤ (g16 i).toInt ∧ (g16 i).toInt ≤ 255 := fun i hi => by rcases own_lt7 hi with rfl | rfl | rfl | rfl | rfl | rfl | rfl; rw [q16_0]; decide; rw [q16_1]; decide; rw [q16_2]; decide; rw [q16_3]; decide; rw [q16_4]; decide; rw [q16_5]; decide; rw [q16_6]; exact own_c255r _
   exact J1 b9 g16 T16 _ _ s hZ hown X16 e16 N16 (Nat.le_trans (Nat.le_trans (Nat.le_trans (Nat.le_trans (Nat.le_trans (Nat.le_trans (Nat.le_trans (Nat.le_trans Z0 E9.1) (Nat.le_of_eq W10.size.symm)) (Nat.le_of_eq W11.size.symm)) (Nat.le_of_eq W12.size.symm)) (Nat.le_of_eq W13.size.symm)) (Nat.le_of_eq W14.size.symm)) (Nat.le_of_eq W15.size.symm)) (Nat.le_of_eq W16.size.symm)) (Nat.le_trans (Nat.le_trans (Nat.le_trans (Nat.le_trans (Nat.le_trans (Nat.le_trans (Nat.le_trans (Nat.le_trans (Nat.le_refl h0.size) E9.1) (Nat.le_of_eq W10.size.symm)) (Nat.le_of_eq W11.size.symm)) (Nat.le_of_eq W12.size.symm)) (Nat.le_of_eq W13.size.symm)) (Nat.le_of_eq W14.size.symm)) (Nat.le_of_eq W15.size.symm)) (Nat.le_of_eq W16.size.symm)) (((((((((Keep.refl _ _).ext E9).wr W10 (Or.inr sz_b9)).wr W11 (Or.inr sz_b9)).wr W12 (Or.inr sz_b9)).wr W13 (Or.inr sz_b9)).wr W14 (Or.inr sz_b9)).wr W15 (Or.inr sz_b9)).wr W16 (Or.inr sz_b9)) A16 hf ge_b9 sz_b9 LS0
  · -- pc 21: not (i0 &&& (3 : Int32)) = (0 : Int32)
   refine own_g (own_F T9 m 77 #[iv i0, iv i1, iv i2, iv i3, iv (i0 &&& (3 : Int32)), iv (((i0.toUInt32 >>> ((2 : Int32) &&& 31).toUInt32).toInt32) &&& (7 : Int32)), rv b9, .unset, .unset] []) (fun _ z_ => XS.ifYes X9.here hx rfl (pc0 := 21) (pc' := 77) rfl (hb hby at_21) rfl ((if0 _ _).trans (feq c21).2) (by decide) (by decide) z_) ?_
   refine own_g (own_F T9 m 79 #[iv i0, iv i1, iv i2, iv i3, iv (i0 &&& (3 : Int32)), iv (((i0.toUInt32 >>> ((2 : Int32) &&& 31).toUInt32).toInt32) &&& (7 : Int32)), rv b9, .unset, .unset] [(.int (i0 &&& (3 : Int32)))]) (fun _ z_ => XS.iload X9.here hx rfl (hb hby at_77) rfl z_) ?_
   refine own_g (own_F T9 m 80 #[iv i0, iv i1, iv i2, iv i3, iv (i0 &&& (3 : Int32)), iv (((i0.toUInt32 >>> ((2 : Int32) &&& 31).toUInt32).toInt32) &&& (7 : Int32)), rv b9, .unset, .unset] [(.int 1), (.int (i0 &&& (3 : Int32)))]) (fun _ z_ => XS.iconst X9.here hx rfl (hb hby at_79) z_) ?_
   by_cases c80 : (i0 &&& (3 : Int32)) = (1 : Int32)
   · -- pc 80: (i0 &&& (3 : Int32)) = (1 : Int32)
    refine own_g (own_F T9 m 83 #[iv i0, iv i1, iv i2, iv i3, iv (i0 &&& (3 : Int32)), iv (((i0.toUInt32 >>> ((2 : Int32) &&& 31).toUInt32).toInt32) &&& (7 : Int32)), rv b9, .unset, .unset] []) (fun _ z_ => XS.icmpNo X9.here hx rfl (hb hby at_80) rfl (teq c80).2 z_) ?_
    refine own_g (own_F T9 m 85 #[iv i0, iv i1, iv i2, iv i3, iv (i0 &&& (3 : Int32)), iv (((i0.toUInt32 >>> ((2 : Int32) &&& 31).toUInt32).toInt32) &&& (7 : Int32)), rv b9, .unset, .unset] [(.ref b9)]) (fun _ z_ => XS.aload X9.here hx rfl (hb hby at_83) rfl rfl z_) ?_
    refine own_g (own_F T9 m 86 #[iv i0, iv i1, iv i2, iv i3, iv (i0 &&& (3 : Int32)), iv (((i0.toUInt32 >>> ((2 : Int32) &&& 31).toUInt32).toInt32) &&& (7 : Int32)), rv b9, .unset, .unset] [(.int 0), (.ref b9)]) (fun _ z_ => XS.iconst X9.here hx rfl (hb hby at_85) z_) ?_
    refine own_g (own_F T9 m 88 #[iv i0, iv i1, iv i2, iv i3, iv (i0 &&& (3 : Int32)), iv (((i0.toUInt32 >>> ((2 : Int32) &&& 31).toUInt32).toInt32) &&& (7 : Int32)), rv b9, .unset, .unset] [(.int 114), (.int 0), (.ref b9)]) (fun _ z_ => XS.bipush X9.here hx rfl (hb hby at_86) z_) ?_
    refine own_cast X9 hx hZ e9 A9 0 rfl (by decide) (114 : Int32) rfl (hb hby at_88) ?_
    intro T17 h17 X17 e17 W17 A17
    have N17 := Fr.snoc X17 N0 ge_b9
    obtain ⟨g17, A17, q17_0, q17_1, q17_2, q17_3, q17_4, q17_5, q17_6⟩ : ∃ gq_ : Nat → Int32, own_A Z h17 b9 .char 7 (fun q_ => .int (gq_ q_)) ∧ gq_ 0 = (114 : Int32) ∧ gq_ 1 = (0 : Int32) ∧ gq_ 2 = (0 : Int32) ∧ gq_ 3 = (0 : Int32) ∧ gq_ 4 = (0 : Int32) ∧ gq_ 5 = (0 : Int32) ∧ gq_ 6 = (0 : Int32) := ⟨_, A17, rfl, (show ite _ _ _ = _ from (if_neg (by decide)).trans rfl), (show ite _ _ _ = _ from (if_neg (by decide)).trans rfl), (show ite _ _ _ = _ from (if_neg (by decide)).trans rfl), (show ite _ _ _ = _ from (if_neg (by decide)).trans rfl), (show ite _ _ _ = _ from (if_neg (by decide)).trans rfl), (show ite _ _ _ = _ from (if_neg (by decide)).trans rfl)⟩
    show own_Ends p e below s _ _ _ (own_F T17 m 89 #[iv i0, iv i1, iv i2, iv i3, iv (i0 &&& (3 : Int32)), iv (((i0.toUInt32 >>> ((2 : Int32) &&& 31).toUInt32).toInt32) &&& (7 : Int32)), rv b9, .unset, .unset] [])
    refine own_g (own_F T17 m 91 #[iv i0, iv i1, iv i2, iv i3, iv (i0 &&& (3 : Int32)), iv (((i0.toUInt32 >>> ((2 : Int32) &&& 31).toUInt32).toInt32) &&& (7 : Int32)), rv b9, .unset, .unset] [(.ref b9)]) (fun _ z_ => XS.aload X17.here hx rfl (hb hby at_89) rfl rfl z_) ?_
    refine own_g (own_F T17 m 92 #[iv i0, iv i1, iv i2, iv i3, iv (i0 &&& (3 : Int32)), iv (((i0.toUInt32 >>> ((2 : Int32) &&& 31).toUInt32).toInt32) &&& (7 : Int32)), rv b9, .unset, .unset] [(.int 1), (.ref b9)]) (fun _ z_ => XS.iconst X17.here hx rfl (hb hby at_91) z_) ?_
    refine own_g (own_F T17 m 94 #[iv i0, iv i1, iv i2, iv i3, iv (i0 &&& (3 : Int32)), iv (((i0.toUInt32 >>> ((2 : Int32) &&& 31).toUInt32).toInt32) &&& (7 : Int32)), rv b9, .unset, .unset] [(.int 101), (.int 1), (.ref b9)]) (fun _ z_ => XS.bipush X17.here hx rfl (hb hby at_92) z_) ?_
    refine own_cast X17 hx hZ e17 A17 1 rfl (by decide) (101 : Int32) rfl (hb hby at_94) ?_
    intro T18 h18 X18 e18 W18 A18
    have N18 := Fr.snoc X18 N17 ge_b9
    obtain ⟨g18, A18, q18_0, q18_1, q18_2, q18_3, q18_4, q18_5, q18_6⟩ : ∃ gq_ : Nat → Int32, own_A Z h18 b9 .char 7 (fun q_ => .int (gq_ q_)) ∧ gq_ 0 = (114 : Int32) ∧ gq_ 1 = (101 : Int32) ∧ gq_ 2 = (0 : Int32) ∧ gq_ 3 = (0 : Int32) ∧ gq_ 4 = (0 : Int32) ∧ gq_ 5 = (0 : Int32) ∧ gq_ 6 = (0 : Int32) := ⟨_, A18, (show ite _ _ _ = _ from (if_neg (by decide)).trans q17_0), rfl, (show ite _ _ _ = _ from (if_neg (by decide)).trans q17_2), (show ite _ _ _ = _ from (if_neg (by decide)).trans q17_3), (show ite _ _ _ = _ from (if_neg (by decide)).trans q17_4), (show ite _ _ _ = _ from (if_neg (by decide)).trans q17_5), (show ite _ _ _ = _ from (if_neg (by decide)).trans q17_6)⟩
    show own_Ends p e below s _ _ _ (own_F T18 m 95 #[iv i0, iv i1, iv i2, iv i3, iv (i0 &&& (3 : Int32)), iv (((i0.toUInt32 >>> ((2 : Int32) &&& 31).toUInt32).toInt32) &&& (7 : Int32)), rv b9, .unset, .unset] [])
    refine own_g (own_F T18 m 97 #[iv i0, iv i1, iv i2, iv i3, iv (i0 &&& (3 : Int32)), iv (((i0.toUInt32 >>> ((2 : Int32) &&& 31).toUInt32).toInt32) &&& (7 : Int32)), rv b9, .unset, .unset] [(.ref b9)]) (fun _ z_ => XS.aload X18.here hx rfl (hb hby at_95) rfl rfl z_) ?_
    refine own_g (own_F T18 m 98 #[iv i0, iv i1, iv i2, iv i3, iv (i0 &&& (3 : Int32)), iv (((i0.toUInt32 >>> ((2 : Int32) &&& 31).toUInt32).toInt32) &&& (7 : Int32)), rv b9, .unset, .unset] [(.int 2), (.ref b9)]) (fun _ z_ => XS.iconst X18.here hx rfl (hb hby at_97) z_) ?_
    refine own_g (own_F T18 m 100 #[iv i0, iv i1, iv i2, iv i3, iv (i0 &&& (3 : Int32)), iv (((i0.toUInt32 >>> ((2 : Int32) &&& 31).toUInt32).toInt32) &&& (7 : Int32)), rv b9, .unset, .unset] [(.int 102), (.int 2), (.ref b9)]) (fun _ z_ => XS.bipush X18.here hx rfl (hb hby at_98) z_) ?_
    refine own_cast X18 hx hZ e18 A18 2 rfl (by decide) (102 : Int32) rfl (hb hby at_100) ?_
    intro T19 h19 X19 e19 W19 A19
    have N19 := Fr.snoc X19 N18 ge_b9
    obtain ⟨g19, A19, q19_0, q19_1, q19_2, q19_3, q19_4, q19_5, q19_6⟩ : ∃ gq_ : Nat → Int32, own_A Z h19 b9 .char 7 (fun q_ => .int (gq_ q_)) ∧ gq_ 0 = (114 : Int32) ∧ gq_ 1 = (101 : Int32) ∧ gq_ 2 = (102 : Int32) ∧ gq_ 3 = (0 : Int32) ∧ gq_ 4 = (0 : Int32) ∧ gq_ 5 = (0 : Int32) ∧ gq_ 6 = (0 : Int32) := ⟨_, A19, (show ite _ _ _ = _ from (if_neg (by decide)).trans q18_0), (show ite _ _ _ = _ from (if_neg (by decide)).trans q18_1), rfl, (show ite _ _ _ = _ from (if_neg (by decide)).trans q18_3), (show ite _ _ _ = _ from (if_neg (by decide)).trans q18_4), (show ite _ _ _ = _ from (if_neg (by decide)).trans q18_5), (show ite _ _ _ = _ from (if_neg (by decide)).trans q18_6)⟩
    show own_Ends p e below s _ _ _ (own_F T19 m 101 #[iv i0, iv i1, iv i2, iv i3, iv (i0 &&& (3 : Int32)), iv (((i0.toUInt32 >>> ((2 : Int32) &&& 31).toUInt32).toInt32) &&& (7 : Int32)), rv b9, .unset, .unset] [])
    refine own_g (own_F T19 m 103 #[iv i0, iv i1, iv i2, iv i3, iv (i0 &&& (3 : Int32)), iv (((i0.toUInt32 >>> ((2 : Int32) &&& 31).toUInt32).toInt32) &&& (7 : Int32)), rv b9, .unset, .unset] [(.ref b9)]) (fun _ z_ => XS.aload X19.here hx rfl (hb hby at_101) rfl rfl z_) ?_
    refine own_g (own_F T19 m 104 #[iv i0, iv i1, iv i2, iv i3, iv (i0 &&& (3 : Int32)), iv (((i0.toUInt32 >>> ((2 : Int32) &&& 31).toUInt32).toInt32) &&& (7 : Int32)), rv b9, .unset, .unset] [(.int 3), (.ref b9)]) (fun _ z_ => XS.iconst X19.here hx rfl (hb hby at_103) z_) ?_
    refine own_g (own_F T19 m 106 #[iv i0, iv i1, iv i2, iv i3, iv (i0 &&& (3 : Int32)), iv (((i0.toUInt32 >>> ((2 : Int32) &&& 31).toUInt32).toInt32) &&& (7 : Int32)), rv b9, .unset, .unset] [(.int 114), (.int 3), (.ref b9)]) (fun _ z_ => XS.bipush X19.here hx rfl (hb hby at_104) z_) ?_
    refine own_cast X19 hx hZ e19 A19 3 rfl (by decide) (114 : Int32) rfl (hb hby at_106) ?_
    intro T20 h20 X20 e20 W20 A20
    have N20 := Fr.snoc X20 N19 ge_b9
    obtain ⟨g20, A20, q20_0, q20_1, q20_2, q20_3, q20_4, q20_5, q20_6⟩ : ∃ gq_ : Nat → Int32, own_A Z h20 b9 .char 7 (fun q_ => .int (gq_ q_)) ∧ gq_ 0 = (114 : Int32) ∧ gq_ 1 = (101 : Int32) ∧ gq_ 2 = (102 : Int32) ∧ gq_ 3 = (114 : Int32) ∧ gq_ 4 = (0 : Int32) ∧ gq_ 5 = (0 : Int32) ∧ gq_ 6 = (0 : Int32) := ⟨_, A20, (show ite _ _ _ = _ from (if_neg (by decide)).trans q19_0), (show ite _ _ _ = _ from (if_neg (by decide)).trans q19_1), (show ite _ _ _ = _ from (if_neg (by decide)).trans q19_2), rfl, (show ite _ _ _ = _ from (if_neg (by decide)).trans q19_4), (show ite _ _ _ = _ from (if_neg (by decide)).trans q19_5), (show ite _ _ _ = _ from (if_neg (by decide)).trans q19_6)⟩
    show own_Ends p e below s _ _ _ (own_F T20 m 107 #[iv i0, iv i1, iv i2, iv i3, iv (i0 &&& (3 : Int32)), iv (((i0.toUInt32 >>> ((2 : Int32) &&& 31).toUInt32).toInt32) &&& (7 : Int32)), rv b9, .unset, .unset] [])
    refine own_g (own_F T20 m 109 #[iv i0, iv i1, iv i2, iv i3, iv (i0 &&& (3 : Int32)), iv (((i0.toUInt32 >>> ((2 : Int32) &&& 31).toUInt32).toInt32) &&& (7 : Int32)), rv b9, .unset, .unset] [(.ref b9)]) (fun _ z_ => XS.aload X20.here hx rfl (hb hby at_107) rfl rfl z_) ?_
    refine own_g (own_F T20 m 110 #[iv i0, iv i1, iv i2, iv i3, iv (i0 &&& (3 : Int32)), iv (((i0.toUInt32 >>> ((2 : Int32) &&& 31).toUInt32).toInt32) &&& (7 : Int32)), rv b9, .unset, .unset] [(.int 4), (.ref b9)]) (fun _ z_ => XS.iconst X20.here hx rfl (hb hby at_109) z_) ?_
    refine own_g (own_F T20 m 112 #[iv i0, iv i1, iv i2, iv i3, iv (i0 &&& (3 : Int32)), iv (((i0.toUInt32 >>> ((2 : Int32) &&& 31).toUInt32).toInt32) &&& (7 : Int32)), rv b9, .unset, .unset] [(.int 101), (.int 4), (.ref b9)]) (fun _ z_ => XS.bipush X20.here hx rfl (hb hby at_110) z_) ?_
    refine own_cast X20 hx hZ e20 A20 4 rfl (by decide) (101 : Int32) rfl (hb hby at_112) ?_
    intro T21 h21 X21 e21 W21 A21
    have N21 := Fr.snoc X21 N20 ge_b9
    obtain ⟨g21, A21, q21_0, q21_1, q21_2, q21_3, q21_4, q21_5, q21_6⟩ : ∃ gq_ : Nat → Int32, own_A Z h21 b9 .char 7 (fun q_ => .int (gq_ q_)) ∧ gq_ 0 = (114 : Int32) ∧ gq_ 1 = (101 : Int32) ∧ gq_ 2 = (102 : Int32) ∧ gq_ 3 = (114 : Int32) ∧ gq_ 4 = (101 : Int32) ∧ gq_ 5 = (0 : Int32) ∧ gq_ 6 = (0 : Int32) := ⟨_, A21, (show ite _ _ _ = _ from (if_neg (by decide)).trans q20_0), (show ite _ _ _ = _ from (if_neg (by decide)).trans q20_1), (show ite _ _ _ = _ from (if_neg (by decide)).trans q20_2), (show ite _ _ _ = _ from (if_neg (by decide)).trans q20_3), rfl, (show ite _ _ _ = _ from (if_neg (by decide)).trans q20_5), (show ite _ _ _ = _ from (if_neg (by decide)).trans q20_6)⟩
    show own_Ends p e below s _ _ _ (own_F T21 m 113 #[iv i0, iv i1, iv i2, iv i3, iv (i0 &&& (3 : Int32)), iv (((i0.toUInt32 >>> ((2 : Int32) &&& 31).toUInt32).toInt32) &&& (7 : Int32)), rv b9, .unset, .unset] [])
    refine own_g (own_F T21 m 115 #[iv i0, iv i1, iv i2, iv i3, iv (i0 &&& (3 : Int32)), iv (((i0.toUInt32 >>> ((2 : Int32) &&& 31).toUInt32).toInt32) &&& (7 : Int32)), rv b9, .unset, .unset] [(.ref b9)]) (fun _ z_ => XS.aload X21.here hx rfl (hb hby at_113) rfl rfl z_) ?_
    refine own_g (own_F T21 m 116 #[iv i0, iv i1, iv i2, iv i3, iv (i0 &&& (3 : Int32)), iv (((i0.toUInt32 >>> ((2 : Int32) &&& 31).toUInt32).toInt32) &&& (7 : Int32)), rv b9, .unset, .unset] [(.int 5), (.ref b9)]) (fun _ z_ => XS.iconst X21.here hx rfl (hb hby at_115) z_) ?_
    refine own_g (own_F T21 m 118 #[iv i0, iv i1, iv i2, iv i3, iv (i0 &&& (3 : Int32)), iv (((i0.toUInt32 >>> ((2 : Int32) &&& 31).toUInt32).toInt32) &&& (7 : Int32)), rv b9, .unset, .unset] [(.int 115), (.int 5), (.ref b9)]) (fun _ z_ => XS.bipush X21.here hx rfl (hb hby at_116) z_) ?_
    refine own_cast X21 hx hZ e21 A21 5 rfl (by decide) (115 : Int32) rfl (hb hby at_118) ?_
    intro T22 h22 X22 e22 W22 A22
    have N22 := Fr.snoc X22 N21 ge_b9
    obtain ⟨g22, A22, q22_0, q22_1, q22_2, q22_3, q22_4, q22_5, q22_6⟩ : ∃ gq_ : Nat → Int32, own_A Z h22 b9 .char 7 (fun q_ => .int (gq_ q_)) ∧ gq_ 0 = (114 : Int32) ∧ gq_ 1 = (101 : Int32) ∧ gq_ 2 = (102 : Int32) ∧ gq_ 3 = (114 : Int32) ∧ gq_ 4 = (101 : Int32) ∧ gq_ 5 = (115 : Int32) ∧ gq_ 6 = (0 : Int32) := ⟨_, A22, (show ite _ _ _ = _ from (if_neg (by decide)).trans q21_0), (show ite _ _ _ = _ from (if_neg (by decide)).trans q21_1), (show ite _ _ _ = _ from (if_neg (by decide)).trans q21_2), (show ite _ _ _ = _ from (if_neg (by decide)).trans q21_3), (show ite _ _ _ = _ from (if_neg (by decide)).trans q21_4), rfl, (show ite _ _ _ = _ from (if_neg (by decide)).trans q21_6)⟩
    show own_Ends p e below s _ _ _ (own_F T22 m 119 #[iv i0, iv i1, iv i2, iv i3, iv (i0 &&& (3 : Int32)), iv (((i0.toUInt32 >>> ((2 : Int32) &&& 31).toUInt32).toInt32) &&& (7 : Int32)), rv b9, .unset, .unset] [])
    refine own_g (own_F T22 m 121 #[iv i0, iv i1, iv i2, iv i3, iv (i0 &&& (3 : Int32)), iv (((i0.toUInt32 >>> ((2 : Int32) &&& 31).toUInt32).toInt32) &&& (7 : Int32)), rv b9, .unset, .unset] [(.ref b9)]) (fun _ z_ => XS.aload X22.here hx rfl (hb hby at_119) rfl rfl z_) ?_
    refine own_g (own_F T22 m 123 #[iv i0, iv i1, iv i2, iv i3, iv (i0 &&& (3 : Int32)), iv (((i0.toUInt32 >>> ((2 : Int32) &&& 31).toUInt32).toInt32) &&& (7 : Int32)), rv b9, .unset, .unset] [(.int 6), (.ref b9)]) (fun _ z_ => XS.bipush X22.here hx rfl (hb hby at_121) z_) ?_
    refine own_g (own_F T22 m 125 #[iv i0, iv i1, iv i2, iv i3, iv (i0 &&& (3 : Int32)), iv (((i0.toUInt32 >>> ((2 : Int32) &&& 31).toUInt32).toInt32) &&& (7 : Int32)), rv b9, .unset, .unset] [(.int 104), (.int 6), (.ref b9)]) (fun _ z_ => XS.bipush X22.here hx rfl (hb hby at_123) z_) ?_
    refine own_cast X22 hx hZ e22 A22 6 rfl (by decide) (104 : Int32) rfl (hb hby at_125) ?_
    intro T23 h23 X23 e23 W23 A23
    have N23 := Fr.snoc X23 N22 ge_b9
    obtain ⟨g23, A23, q23_0, q23_1, q23_2, q23_3, q23_4, q23_5, q23_6⟩ : ∃ gq_ : Nat → Int32, own_A Z h23 b9 .char 7 (fun q_ => .int (gq_ q_)) ∧ gq_ 0 = (114 : Int32) ∧ gq_ 1 = (101 : Int32) ∧ gq_ 2 = (102 : Int32) ∧ gq_ 3 = (114 : Int32) ∧ gq_ 4 = (101 : Int32) ∧ gq_ 5 = (115 : Int32) ∧ gq_ 6 = (104 : Int32) := ⟨_, A23, (show ite _ _ _ = _ from (if_neg (by decide)).trans q22_0), (show ite _ _ _ = _ from (if_neg (by decide)).trans q22_1), (show ite _ _ _ = _ from (if_neg (by decide)).trans q22_2), (show ite _ _ _ = _ from (if_neg (by decide)).trans q22_3), (show ite _ _ _ = _ from (if_neg (by decide)).trans q22_4), (show ite _ _ _ = _ from (if_neg (by decide)).trans q22_5), rfl⟩
    show own_Ends p e below s _ _ _ (own_F T23 m 126 #[iv i0, iv i1, iv i2, iv i3, iv (i0 &&& (3 : Int32)), iv (((i0.toUInt32 >>> ((2 : Int32) &&& 31).toUInt32).toInt32) &&& (7 : Int32)), rv b9, .unset, .unset] [])
    refine own_g (own_F T23 m 215 #[iv i0, iv i1, iv i2, iv i3, iv (i0 &&& (3 : Int32)), iv (((i0.toUInt32 >>> ((2 : Int32) &&& 31).toUInt32).toInt32) &&& (7 : Int32)), rv b9, .unset, .unset] []) (fun _ z_ => XS.goto X23.here hx rfl (pc0 := 126) (pc' := 215) rfl (hb hby at_126) (by decide) (by decide) z_) ?_
    have hf : ∀ i, i < 7 → 0 ≤ (g23 i).toInt ∧ (g23 i).toInt ≤ 255 := fun i hi => by rcases own_lt7 hi with rfl | rfl | rfl | rfl | rfl | rfl | rfl; rw [q23_0]; decide; rw [q23_1]; decide; rw [q23_2]; decide; rw [q23_3]; decide; rw [q23_4]; decide; rw [q23_5]; decide; rw [q23_6]; decide
    exact J1 b9 g23 T23 _ _ s hZ hown X23 e23 N23 (Nat.le_trans (Nat.le_trans (Nat.le_trans (Nat.le_trans (Nat.le_trans (Nat.le_trans (Nat.le_trans (Nat.le_trans Z0 E9.1) (Nat.le_of_eq W17.size.symm)) (Nat.le_of_eq W18.size.symm)) (Nat.le_of_eq W19.size.symm)) (Nat.le_of_eq W20.size.symm)) (Nat.le_of_eq W21.size.symm)) (Nat.le_of_eq W22.size.symm)) (Nat.le_of_eq W23.size.symm)) (Nat.le_trans (Nat.le_trans (Nat.le_trans (Nat.le_trans (Nat.le_trans (Nat.le_trans (Nat.le_trans (Nat.le_trans (Nat.le_refl h0.size) E9.1) (Nat.le_of_eq W17.size.symm)) (Nat.le_of_eq W18.size.symm)) (Nat.le_of_eq W19.size.symm)) (Nat.le_of_eq W20.size.symm)) (Nat.le_of_eq W21.size.symm)) (Nat.le_of_eq W22.size.symm)) (Nat.le_of_eq W23.size.symm)) (((((((((Keep.refl _ _).ext E9).wr W17 (Or.inr sz_b9)).wr W18 (Or.inr sz_b9)).wr W19 (Or.inr sz_b9)).wr W20 (Or.inr sz_b9)).wr W21 (Or.inr sz_b9)).wr W22 (Or.inr sz_b9)).wr W23 (Or.inr sz_b9)) A23 hf ge_b9 sz_b9 LS0
   · -- pc 80: not (i0 &&& (3 : Int32)) = (1 : Int32)
    refine own_g (own_F T9 m 129 #[iv i0, iv i1, iv i2, iv i3, iv (i0 &&& (3 : Int32)), iv (((i0.toUInt32 >>> ((2 : Int32) &&& 31).toUInt32).toInt32) &&& (7 : Int32)), rv b9, .unset, .unset] []) (fun _ z_ => XS.icmpYes X9.here hx rfl (pc0 := 80) (pc' := 129) rfl (hb hby at_80) rfl (feq c80).2 (by decide) (by decide) z_) ?_
    refine own_g (own_F T9 m 131 #[iv i0, iv i1, iv i2, iv i3, iv (i0 &&& (3 : Int32)), iv (((i0.toUInt32 >>> ((2 : Int32) &&& 31).toUInt32).toInt32) &&& (7 : Int32)), rv b9, .unset, .unset] [(.ref b9)]) (fun _ z_ => XS.aload X9.here hx rfl (hb hby at_129) rfl rfl z_) ?_
    refine own_g (own_F T9 m 132 #[iv i0, iv i1, iv i2, iv i3, iv (i0 &&& (3 : Int32)), iv (((i0.toUInt32 >>> ((2 : Int32) &&& 31).toUInt32).toInt32) &&& (7 : Int32)), rv b9, .unset, .unset] [(.int 0), (.ref b9)]) (fun _ z_ => XS.iconst X9.here hx rfl (hb hby at_131) z_) ?_
    refine own_g (own_F T9 m 133 #[iv i0, iv i1, iv i2, iv i3, iv (i0 &&& (3 : Int32)), iv (((i0.toUInt32 >>> ((2 : Int32) &&& 31).toUInt32).toInt32) &&& (7 : Int32)), rv b9, .unset, .unset] [(.int i1), (.int 0), (.ref b9)]) (fun _ z_ => XS.iloadN X9.here hx rfl (hb hby at_132) rfl z_) ?_
    refine own_g (own_F T9 m 136 #[iv i0, iv i1, iv i2, iv i3, iv (i0 &&& (3 : Int32)), iv (((i0.toUInt32 >>> ((2 : Int32) &&& 31).toUInt32).toInt32) &&& (7 : Int32)), rv b9, .unset, .unset] [(.int 255), (.int i1), (.int 0), (.ref b9)]) (fun _ z_ => XS.sipush X9.here hx rfl (hb hby at_133) z_) ?_
    refine own_g (own_F T9 m 137 #[iv i0, iv i1, iv i2, iv i3, iv (i0 &&& (3 : Int32)), iv (((i0.toUInt32 >>> ((2 : Int32) &&& 31).toUInt32).toInt32) &&& (7 : Int32)), rv b9, .unset, .unset] [(.int (i1 &&& (255 : Int32))), (.int 0), (.ref b9)]) (fun _ z_ => XS.iand X9.here hx rfl (hb hby at_136) rfl z_) ?_
    refine own_g (own_F T9 m 138 #[iv i0, iv i1, iv i2, iv i3, iv (i0 &&& (3 : Int32)), iv (((i0.toUInt32 >>> ((2 : Int32) &&& 31).toUInt32).toInt32) &&& (7 : Int32)), rv b9, .unset, .unset] [(.int ((i1 &&& (255 : Int32)).toUInt32.toUInt16.toUInt32.toInt32)), (.int 0), (.ref b9)]) (fun _ z_ => XS.i2c X9.here hx rfl (hb hby at_137) rfl z_) ?_
    refine own_cast X9 hx hZ e9 A9 0 rfl (by decide) ((i1 &&& (255 : Int32)).toUInt32.toUInt16.toUInt32.toInt32) (own_c255n _) (hb hby at_138) ?_
    intro T24 h24 X24 e24 W24 A24
    have N24 := Fr.snoc X24 N0 ge_b9
    obtain ⟨g24, A24, q24_0, q24_1, q24_2, q24_3, q24_4, q24_5, q24_6⟩ : ∃ gq_ : Nat → Int32, own_A Z h24 b9 .char 7 (fun q_ => .int (gq_ q_)) ∧ gq_ 0 = ((i1 &&& (255 : Int32)).toUInt32.toUInt16.toUInt32.toInt32) ∧ gq_ 1 = (0 : Int32) ∧ gq_ 2 = (0 : Int32) ∧ gq_ 3 = (0 : Int32) ∧ gq_ 4 = (0 : Int32) ∧ gq_ 5 = (0 : Int32) ∧ gq_ 6 = (0 : Int32) := ⟨_, A24, rfl, (show ite _ _ _ = _ from (if_neg (by decide)).trans rfl), (show ite _ _ _ = _ from (if_neg (by decide)).trans rfl), (show ite _ _ _ = _ from (if_neg (by decide)).trans rfl), (show ite _ _ _ = _ from (if_neg (by decide)).trans rfl), (show ite _ _ _ = _ from (if_neg (by decide)).trans rfl), (show ite _ _ _ = _ from (if_neg (by decide)).trans rfl)⟩
    show own_Ends p e below s _ _ _ (own_F T24 m 139 #[iv i0, iv i1, iv i2, iv i3, iv (i0 &&& (3 : Int32)), iv (((i0.toUInt32 >>> ((2 : Int32) &&& 31).toUInt32).toInt32) &&& (7 : Int32)), rv b9, .unset, .unset] [])
    refine own_g (own_F T24 m 141 #[iv i0, iv i1, iv i2, iv i3, iv (i0 &&& (3 : Int32)), iv (((i0.toUInt32 >>> ((2 : Int32) &&& 31).toUInt32).toInt32) &&& (7 : Int32)), rv b9, .unset, .unset] [(.ref b9)]) (fun _ z_ => XS.aload X24.here hx rfl (hb hby at_139) rfl rfl z_) ?_
    refine own_g (own_F T24 m 142 #[iv i0, iv i1, iv i2, iv i3, iv (i0 &&& (3 : Int32)), iv (((i0.toUInt32 >>> ((2 : Int32) &&& 31).toUInt32).toInt32) &&& (7 : Int32)), rv b9, .unset, .unset] [(.int 1), (.ref b9)]) (fun _ z_ => XS.iconst X24.here hx rfl (hb hby at_141) z_) ?_
    refine own_g (own_F T24 m 143 #[iv i0, iv i1, iv i2, iv i3, iv (i0 &&& (3 : Int32)), iv (((i0.toUInt32 >>> ((2 : Int32) &&& 31).toUInt32).toInt32) &&& (7 : Int32)), rv b9, .unset, .unset] [(.int i1), (.int 1), (.ref b9)]) (fun _ z_ => XS.iloadN X24.here hx rfl (hb hby at_142) rfl z_) ?_
    refine own_g (own_F T24 m 145 #[iv i0, iv i1, iv i2, iv i3, iv (i0 &&& (3 : Int32)), iv (((i0.toUInt32 >>> ((2 : Int32) &&& 31).toUInt32).toInt32) &&& (7 : Int32)), rv b9, .unset, .unset] [(.int 8), (.int i1), (.int 1), (.ref b9)]) (fun _ z_ => XS.bipush X24.here hx rfl (hb hby at_143) z_) ?_
    refine own_g (own_F T24 m 146 #[iv i0, iv i1, iv i2, iv i3, iv (i0 &&& (3 : Int32)), iv (((i0.toUInt32 >>> ((2 : Int32) &&& 31).toUInt32).toInt32) &&& (7 : Int32)), rv b9, .unset, .unset] [(.int ((i1.toUInt32 >>> ((8 : Int32) &&& 31).toUInt32).toInt32)), (.int 1), (.ref b9)]) (fun _ z_ => XS.iushr X24.here hx rfl (hb hby at_145) rfl z_) ?_
    refine own_g (own_F T24 m 149 #[iv i0, iv i1, iv i2, iv i3, iv (i0 &&& (3 : Int32)), iv (((i0.toUInt32 >>> ((2 : Int32) &&& 31).toUInt32).toInt32) &&& (7 : Int32)), rv b9, .unset, .unset] [(.int 255), (.int ((i1.toUInt32 >>> ((8 : Int32) &&& 31).toUInt32).toInt32)), (.int 1), (.ref b9)]) (fun _ z_ => XS.sipush X24.here hx rfl (hb hby at_146) z_) ?_
    refine own_g (own_F T24 m 150 #[iv i0, iv i1, iv i2, iv i3, iv (i0 &&& (3 : Int32)), iv (((i0.toUInt32 >>> ((2 : Int32) &&& 31).toUInt32).toInt32) &&& (7 : Int32)), rv b9, .unset, .unset] [(.int (((i1.toUInt32 >>> ((8 : Int32) &&& 31).toUInt32).toInt32) &&& (255 : Int32))), (.int 1), (.ref b9)]) (fun _ z_ => XS.iand X24.here hx rfl (hb hby at_149) rfl z_) ?_
    refine own_g (own_F T24 m 151 #[iv i0, iv i1, iv i2, iv i3, iv (i0 &&& (3 : Int32)), iv (((i0.toUInt32 >>> ((2 : Int32) &&& 31).toUInt32).toInt32) &&& (7 : Int32)), rv b9, .unset, .unset] [(.int ((((i1.toUInt32 >>> ((8 : Int32) &&& 31).toUInt32).toInt32) &&& (255 : Int32)).toUInt32.toUInt16.toUInt32.toInt32)), (.int 1), (.ref b9)]) (fun _ z_ => XS.i2c X24.here hx rfl (hb hby at_150) rfl z_) ?_
    refine own_cast X24 hx hZ e24 A24 1 rfl (by decide) ((((i1.toUInt32 >>> ((8 : Int32) &&& 31).toUInt32).toInt32) &&& (255 : Int32)).toUInt32.toUInt16.toUInt32.toInt32) (own_c255n _) (hb hby at_151) ?_
    intro T25 h25 X25 e25 W25 A25
    have N25 := Fr.snoc X25 N24 ge_b9
    obtain ⟨g25, A25, q25_0, q25_1, q25_2, q25_3, q25_4, q25_5, q25_6⟩ : ∃ gq_ : Nat → Int32, own_A Z h25 b9 .char 7 (fun q_ => .int (gq_ q_)) ∧ gq_ 0 = ((i1 &&& (255 : Int32)).toUInt32.toUInt16.toUInt32.toInt32) ∧ gq_ 1 = ((((i1.toUInt32 >>> ((8 : Int32) &&& 31).toUInt32).toInt32) &&& (255 : Int32)).toUInt32.toUInt16.toUInt32.toInt32) ∧ gq_ 2 = (0 : Int32) ∧ gq_ 3 = (0 : Int32) ∧ gq_ 4 = (0 : Int32) ∧ gq_ 5 = (0 : Int32) ∧ gq_ 6 = (0 : Int32) := ⟨_, A25, (show ite _ _ _ = _ from (if_neg (by decide)).trans q24_0), rfl, (show ite _ _ _ = _ from (if_neg (by decide)).trans q24_2), (show ite _ _ _ = _ from (if_neg (by decide)).trans q24_3), (show ite _ _ _ = _ from (if_neg (by decide)).trans q24_4), (show ite _ _ _ = _ from (if_neg (by decide)).trans q24_5), (show ite _ _ _ = _ from (if_neg (by decide)).trans q24_6)⟩
    show own_Ends p e below s _ _ _ (own_F T25 m 152 #[iv i0, iv i1, iv i2, iv i3, iv (i0 &&& (3 : Int32)), iv (((i0.toUInt32 >>> ((2 : Int32) &&& 31).toUInt32).toInt32) &&& (7 : Int32)), rv b9, .unset, .unset] [])
    refine own_g (own_F T25 m 154 #[iv i0, iv i1, iv i2, iv i3, iv (i0 &&& (3 : Int32)), iv (((i0.toUInt32 >>> ((2 : Int32) &&& 31).toUInt32).toInt32) &&& (7 : Int32)), rv b9, .unset, .unset] [(.ref b9)]) (fun _ z_ => XS.aload X25.here hx rfl (hb hby at_152) rfl rfl z_) ?_
    refine own_g (own_F T25 m 155 #[iv i0, iv i1, iv i2, iv i3, iv (i0 &&& (3 : Int32)), iv (((i0.toUInt32 >>> ((2 : Int32) &&& 31).toUInt32).toInt32) &&& (7 : Int32)), rv b9, .unset, .unset] [(.int 2), (.ref b9)]) (fun _ z_ => XS.iconst X25.here hx rfl (hb hby at_154) z_) ?_
    refine own_g (own_F T25 m 156 #[iv i0, iv i1, iv i2, iv i3, iv (i0 &&& (3 : Int32)), iv (((i0.toUInt32 >>> ((2 : Int32) &&& 31).toUInt32).toInt32) &&& (7 : Int32)), rv b9, .unset, .unset] [(.int i1), (.int 2), (.ref b9)]) (fun _ z_ => XS.iloadN X25.here hx rfl (hb hby at_155) rfl z_) ?_
    refine own_g (own_F T25 m 158 #[iv i0, iv i1, iv i2, iv i3, iv (i0 &&& (3 : Int32)), iv (((i0.toUInt32 >>> ((2 : Int32) &&& 31).toUInt32).toInt32) &&& (7 : Int32)), rv b9, .unset, .unset] [(.int 16), (.int i1), (.int 2), (.ref b9)]) (fun _ z_ => XS.bipush X25.here hx rfl (hb hby at_156) z_) ?_
    refine own_g (own_F T25 m 159 #[iv i0, iv i1, iv i2, iv i3, iv (i0 &&& (3 : Int32)), iv (((i0.toUInt32 >>> ((2 : Int32) &&& 31).toUInt32).toInt32) &&& (7 : Int32)), rv b9, .unset, .unset] [(.int ((i1.toUInt32 >>> ((16 : Int32) &&& 31).toUInt32).toInt32)), (.int 2), (.ref b9)]) (fun _ z_ => XS.iushr X25.here hx rfl (hb hby at_158) rfl z_) ?_
    refine own_g (own_F T25 m 162 #[iv i0, iv i1, iv i2, iv i3, iv (i0 &&& (3 : Int32)), iv (((i0.toUInt32 >>> ((2 : Int32) &&& 31).toUInt32).toInt32) &&& (7 : Int32)), rv b9, .unset, .unset] [(.int 255), (.int ((i1.toUInt32 >>> ((16 : Int32) &&& 31).toUInt32).toInt32)), (.int 2), (.ref b9)]) (fun _ z_ => XS.sipush X25.here hx rfl (hb hby at_159) z_) ?_
    refine own_g (own_F T25 m 163 #[iv i0, iv i1, iv i2, iv i3, iv (i0 &&& (3 : Int32)), iv (((i0.toUInt32 >>> ((2 : Int32) &&& 31).toUInt32).toInt32) &&& (7 : Int32)), rv b9, .unset, .unset] [(.int (((i1.toUInt32 >>> ((16 : Int32) &&& 31).toUInt32).toInt32) &&& (255 : Int32))), (.int 2), (.ref b9)]) (fun _ z_ => XS.iand X25.here hx rfl (hb hby at_162) rfl z_) ?_
    refine own_g (own_F T25 m 164 #[iv i0, iv i1, iv i2, iv i3, iv (i0 &&& (3 : Int32)), iv (((i0.toUInt32 >>> ((2 : Int32) &&& 31).toUInt32).toInt32) &&& (7 : Int32)), rv b9, .unset, .unset] [(.int ((((i1.toUInt32 >>> ((16 : Int32) &&& 31).toUInt32).toInt32) &&& (255 : Int32)).toUInt32.toUInt16.toUInt32.toInt32)), (.int 2), (.ref b9)]) (fun _ z_ => XS.i2c X25.here hx rfl (hb hby at_163) rfl z_) ?_
    refine own_cast X25 hx hZ e25 A25 2 rfl (by decide) ((((i1.toUInt32 >>> ((16 : Int32) &&& 31).toUInt32).toInt32) &&& (255 : Int32)).toUInt32.toUInt16.toUInt32.toInt32) (own_c255n _) (hb hby at_164) ?_
    intro T26 h26 X26 e26 W26 A26
    have N26 := Fr.snoc X26 N25 ge_b9
    obtain ⟨g26, A26, q26_0, q26_1, q26_2, q26_3, q26_4, q26_5, q26_6⟩ : ∃ gq_ : Nat → Int32, own_A Z h26 b9 .char 7 (fun q_ => .int (gq_ q_)) ∧ gq_ 0 = ((i1 &&& (255 : Int32)).toUInt32.toUInt16.toUInt32.toInt32) ∧ gq_ 1 = ((((i1.toUInt32 >>> ((8 : Int32) &&& 31).toUInt32).toInt32) &&& (255 : Int32)).toUInt32.toUInt16.toUInt32.toInt32) ∧ gq_ 2 = ((((i1.toUInt32 >>> ((16 : Int32) &&& 31).toUInt32).toInt32) &&& (255 : Int32)).toUInt32.toUInt16.toUInt32.toInt32) ∧ gq_ 3 = (0 : Int32) ∧ gq_ 4 = (0 : Int32) ∧ gq_ 5 = (0 : Int32) ∧ gq_ 6 = (0 : Int32) := ⟨_, A26, (show ite _ _ _ = _ from (if_neg (by decide)).trans q25_0), (show ite _ _ _ = _ from (if_neg (by decide)).trans q25_1), rfl, (show ite _ _ _ = _ from (if_neg (by decide)).trans q25_3), (show ite _ _ _ = _ from (if_neg (by decide)).trans q25_4), (show ite _ _ _ = _ from (if_neg (by decide)).trans q25_5), (show ite _ _ _ = _ from (if_neg (by decide)).trans q25_6)⟩
    show own_Ends p e below s _ _ _ (own_F T26 m 165 #[iv i0, iv i1, iv i2, iv i3, iv (i0 &&& (3 : Int32)), iv (((i0.toUInt32 >>> ((2 : Int32) &&& 31).toUInt32).toInt32) &&& (7 : Int32)), rv b9, .unset, .unset] [])
    refine own_g (own_F T26 m 167 #[iv i0, iv i1, iv i2, iv i3, iv (i0 &&& (3 : Int32)), iv (((i0.toUInt32 >>> ((2 : Int32) &&& 31).toUInt32).toInt32) &&& (7 : Int32)), rv b9, .unset, .unset] [(.ref b9)]) (fun _ z_ => XS.aload X26.here hx rfl (hb hby at_165) rfl rfl z_) ?_
    refine own_g (own_F T26 m 168 #[iv i0, iv i1, iv i2, iv i3, iv (i0 &&& (3 : Int32)), iv (((i0.toUInt32 >>> ((2 : Int32) &&& 31).toUInt32).toInt32) &&& (7 : Int32)), rv b9, .unset, .unset] [(.int 3), (.ref b9)]) (fun _ z_ => XS.iconst X26.here hx rfl (hb hby at_167) z_) ?_
    refine own_g (own_F T26 m 169 #[iv i0, iv i1, iv i2, iv i3, iv (i0 &&& (3 : Int32)), iv (((i0.toUInt32 >>> ((2 : Int32) &&& 31).toUInt32).toInt32) &&& (7 : Int32)), rv b9, .unset, .unset] [(.int i1), (.int 3), (.ref b9)]) (fun _ z_ => XS.iloadN X26.here hx rfl (hb hby at_168) rfl z_) ?_
    refine own_g (own_F T26 m 171 #[iv i0, iv i1, iv i2, iv i3, iv (i0 &&& (3 : Int32)), iv (((i0.toUInt32 >>> ((2 : Int32) &&& 31).toUInt32).toInt32) &&& (7 : Int32)), rv b9, .unset, .unset] [(.int 24), (.int i1), (.int 3), (.ref b9)]) (fun _ z_ => XS.bipush X26.here hx rfl (hb hby at_169) z_) ?_
    refine own_g (own_F T26 m 172 #[iv i0, iv i1, iv i2, iv i3, iv (i0 &&& (3 : Int32)), iv (((i0.toUInt32 >>> ((2 : Int32) &&& 31).toUInt32).toInt32) &&& (7 : Int32)), rv b9, .unset, .unset] [(.int ((i1.toUInt32 >>> ((24 : Int32) &&& 31).toUInt32).toInt32)), (.int 3), (.ref b9)]) (fun _ z_ => XS.iushr X26.here hx rfl (hb hby at_171) rfl z_) ?_
    refine own_g (own_F T26 m 175 #[iv i0, iv i1, iv i2, iv i3, iv (i0 &&& (3 : Int32)), iv (((i0.toUInt32 >>> ((2 : Int32) &&& 31).toUInt32).toInt32) &&& (7 : Int32)), rv b9, .unset, .unset] [(.int 255), (.int ((i1.toUInt32 >>> ((24 : Int32) &&& 31).toUInt32).toInt32)), (.int 3), (.ref b9)]) (fun _ z_ => XS.sipush X26.here hx rfl (hb hby at_172) z_) ?_
    refine own_g (own_F T26 m 176 #[iv i0, iv i1, iv i2, iv i3, iv (i0 &&& (3 : Int32)), iv (((i0.toUInt32 >>> ((2 : Int32) &&& 31).toUInt32).toInt32) &&& (7 : Int32)), rv b9, .unset, .unset] [(.int (((i1.toUInt32 >>> ((24 : Int32) &&& 31).toUInt32).toInt32) &&& (255 : Int32))), (.int 3), (.ref b9)]) (fun _ z_ => XS.iand X26.here hx rfl (hb hby at_175) rfl z_) ?_
    refine own_g (own_F T26 m 177 #[iv i0, iv i1, iv i2, iv i3, iv (i0 &&& (3 : Int32)), iv (((i0.toUInt32 >>> ((2 : Int32) &&& 31).toUInt32).toInt32) &&& (7 : Int32)), rv b9, .unset, .unset] [(.int ((((i1.toUInt32 >>> ((24 : Int32) &&& 31).toUInt32).toInt32) &&& (255 : Int32)).toUInt32.toUInt16.toUInt32.toInt32)), (.int 3), (.ref b9)]) (fun _ z_ => XS.i2c X26.here hx rfl (hb hby at_176) rfl z_) ?_
    refine own_cast X26 hx hZ e26 A26 3 rfl (by decide) ((((i1.toUInt32 >>> ((24 : Int32) &&& 31).toUInt32).toInt32) &&& (255 : Int32)).toUInt32.toUInt16.toUInt32.toInt32) (own_c255n _) (hb hby at_177) ?_
    intro T27 h27 X27 e27 W27 A27
    have N27 := Fr.snoc X27 N26 ge_b9
    obtain ⟨g27, A27, q27_0, q27_1, q27_2, q27_3, q27_4, q27_5, q27_6⟩ : ∃ gq_ : Nat → Int32, own_A Z h27 b9 .char 7 (fun q_ => .int (gq_ q_)) ∧ gq_ 0 = ((i1 &&& (255 : Int32)).toUInt32.toUInt16.toUInt32.toInt32) ∧ gq_ 1 = ((((i1.toUInt32 >>> ((8 : Int32) &&& 31).toUInt32).toInt32) &&& (255 : Int32)).toUInt32.toUInt16.toUInt32.toInt32) ∧ gq_ 2 = ((((i1.toUInt32 >>> ((16 : Int32) &&& 31).toUInt32).toInt32) &&& (255 : Int32)).toUInt32.toUInt16.toUInt32.toInt32) ∧ gq_ 3 = ((((i1.toUInt32 >>> ((24 : Int32) &&& 31).toUInt32).toInt32) &&& (255 : Int32)).toUInt32.toUInt16.toUInt32.toInt32) ∧ gq_ 4 = (0 : Int32) ∧ gq_ 5 = (0 : Int32) ∧ gq_ 6 = (0 : Int32) := ⟨_, A27, (show ite _ _ _ = _ from (if_neg (by decide)).trans q26_0), (show ite _ _ _ = _ from (if_neg (by decide)).trans q26_1), (show ite _ _ _ = _ from (if_neg (by decide)).trans q26_2), rfl, (show ite _ _ _ = _ from (if_neg (by decide)).trans q26_4), (show ite _ _ _ = _ from (if_neg (by decide)).trans q26_5), (show ite _ _ _ = _ from (if_neg (by decide)).trans q26_6)⟩
    show own_Ends p e below s _ _ _ (own_F T27 m 178 #[iv i0, iv i1, iv i2, iv i3, iv (i0 &&& (3 : Int32)), iv (((i0.toUInt32 >>> ((2 : Int32) &&& 31).toUInt32).toInt32) &&& (7 : Int32)), rv b9, .unset, .unset] [])
    refine own_g (own_F T27 m 180 #[iv i0, iv i1, iv i2, iv i3, iv (i0 &&& (3 : Int32)), iv (((i0.toUInt32 >>> ((2 : Int32) &&& 31).toUInt32).toInt32) &&& (7 : Int32)), rv b9, .unset, .unset] [(.ref b9)]) (fun _ z_ => XS.aload X27.here hx rfl (hb hby at_178) rfl rfl z_) ?_
    refine own_g (own_F T27 m 181 #[iv i0, iv i1, iv i2, iv i3, iv (i0 &&& (3 : Int32)), iv (((i0.toUInt32 >>> ((2 : Int32) &&& 31).toUInt32).toInt32) &&& (7 : Int32)), rv b9, .unset, .unset] [(.int 4), (.ref b9)]) (fun _ z_ => XS.iconst X27.here hx rfl (hb hby at_180) z_) ?_
    refine own_g (own_F T27 m 182 #[iv i0, iv i1, iv i2, iv i3, iv (i0 &&& (3 : Int32)), iv (((i0.toUInt32 >>> ((2 : Int32) &&& 31).toUInt32).toInt32) &&& (7 : Int32)), rv b9, .unset, .unset] [(.int i2), (.int 4), (.ref b9)]) (fun _ z_ => XS.iloadN X27.here hx rfl (hb hby at_181) rfl z_) ?_
    refine own_g (own_F T27 m 185 #[iv i0, iv i1, iv i2, iv i3, iv (i0 &&& (3 : Int32)), iv (((i0.toUInt32 >>> ((2 : Int32) &&& 31).toUInt32).toInt32) &&& (7 : Int32)), rv b9, .unset, .unset] [(.int 255), (.int i2), (.int 4), (.ref b9)]) (fun _ z_ => XS.sipush X27.here hx rfl (hb hby at_182) z_) ?_
    refine own_g (own_F T27 m 186 #[iv i0, iv i1, iv i2, iv i3, iv (i0 &&& (3 : Int32)), iv (((i0.toUInt32 >>> ((2 : Int32) &&& 31).toUInt32).toInt32) &&& (7 : Int32)), rv b9, .unset, .unset] [(.int (i2 &&& (255 : Int32))), (.int 4), (.ref b9)]) (fun _ z_ => XS.iand X27.here hx rfl (hb hby at_185) rfl z_) ?_
    refine own_g (own_F T27 m 187 #[iv i0, iv i1, iv i2, iv i3, iv (i0 &&& (3 : Int32)), iv (((i0.toUInt32 >>> ((2 : Int32) &&& 31).toUInt32).toInt32) &&& (7 : Int32)), rv b9, .unset, .unset] [(.int ((i2 &&& (255 : Int32)).toUInt32.toUInt16.toUInt32.toInt32)), (.int 4), (.ref b9)]) (fun _ z_ => XS.i2c X27.here hx rfl (hb hby at_186) rfl z_) ?_
    refine own_cast X27 hx hZ e27 A27 4 rfl (by decide) ((i2 &&& (255 : Int32)).toUInt32.toUInt16.toUInt32.toInt32) (own_c255n _) (hb hby at_187) ?_
    intro T28 h28 X28 e28 W28 A28
    have N28 := Fr.snoc X28 N27 ge_b9
    obtain ⟨g28, A28, q28_0, q28_1, q28_2, q28_3, q28_4, q28_5, q28_6⟩ : ∃ gq_ : Nat → Int32, own_A Z h28 b9 .char 7 (fun q_ => .int (gq_ q_)) ∧ gq_ 0 = ((i1 &&& (255 : Int32)).toUInt32.toUInt16.toUInt32.toInt32) ∧ gq_ 1 = ((((i1.toUInt32 >>> ((8 : Int32) &&& 31).toUInt32).toInt32) &&& (255 : Int32)).toUInt32.toUInt16.toUInt32.toInt32) ∧ gq_ 2 = ((((i1.toUInt32 >>> ((16 : Int32) &&& 31).toUInt32).toInt32) &&& (255 : Int32)).toUInt32.toUInt16.toUInt32.toInt32) ∧ gq_ 3 = ((((i1.toUInt32 >>> ((24 : Int32) &&& 31).toUInt32).toInt32) &&& (255 : Int32)).toUInt32.toUInt16.toUInt32.toInt32) ∧ gq_ 4 = ((i2 &&& (255 : Int32)).toUInt32.toUInt16.toUInt32.toInt32) ∧ gq_ 5 = (0 : Int32) ∧ gq_ 6 = (0 : Int32) := ⟨_, A28, (show ite _ _ _ = _ from (if_neg (by decide)).trans q27_0), (show ite _ _ _ = _ from (if_neg (by decide)).trans q27_1), (show ite _ _ _ = _ from (if_neg (by decide)).trans q27_2), (show ite _ _ _ = _ from (if_neg (by decide)).trans q27_3), rfl, (show ite _ _ _ = _ from (if_neg (by decide)).trans q27_5), (show ite _ _ _ = _ from (if_neg (by decide)).trans q27_6)⟩
    show own_Ends p e below s _ _ _ (own_F T28 m 188 #[iv i0, iv i1, iv i2, iv i3, iv (i0 &&& (3 : Int32)), iv (((i0.toUInt32 >>> ((2 : Int32) &&& 31).toUInt32).toInt32) &&& (7 : Int32)), rv b9, .unset, .unset] [])
    refine own_g (own_F T28 m 190 #[iv i0, iv i1, iv i2, iv i3, iv (i0 &&& (3 : Int32)), iv (((i0.toUInt32 >>> ((2 : Int32) &&& 31).toUInt32).toInt32) &&& (7 : Int32)), rv b9, .unset, .unset] [(.ref b9)]) (fun _ z_ => XS.aload X28.here hx rfl (hb hby at_188) rfl rfl z_) ?_
    refine own_g (own_F T28 m 191 #[iv i0, iv i1, iv i2, iv i3, iv (i0 &&& (3 : Int32)), iv (((i0.toUInt32 >>> ((2 : Int32) &&& 31).toUInt32).toInt32) &&& (7 : Int32)), rv b9, .unset, .unset] [(.int 5), (.ref b9)]) (fun _ z_ => XS.iconst X28.here hx rfl (hb hby at_190) z_) ?_
    refine own_g (own_F T28 m 192 #[iv i0, iv i1, iv i2, iv i3, iv (i0 &&& (3 : Int32)), iv (((i0.toUInt32 >>> ((2 : Int32) &&& 31).toUInt32).toInt32) &&& (7 : Int32)), rv b9, .unset, .unset] [(.int i2), (.int 5), (.ref b9)]) (fun _ z_ => XS.iloadN X28.here hx rfl (hb hby at_191) rfl z_) ?_
    refine own_g (own_F T28 m 194 #[iv i0, iv i1, iv i2, iv i3, iv (i0 &&& (3 : Int32)), iv (((i0.toUInt32 >>> ((2 : Int32) &&& 31).toUInt32).toInt32) &&& (7 : Int32)), rv b9, .unset, .unset] [(.int 8), (.int i2), (.int 5), (.ref b9)]) (fun _ z_ => XS.bipush X28.here hx rfl (hb hby at_192) z_) ?_
    refine own_g (own_F T28 m 195 #[iv i0, iv i1, iv i2, iv i3, iv (i0 &&& (3 : Int32)), iv (((i0.toUInt32 >>> ((2 : Int32) &&& 31).toUInt32).toInt32) &&& (7 : Int32)), rv b9, .unset, .unset] [(.int ((i2.toUInt32 >>> ((8 : Int32) &&& 31).toUInt32).toInt32)), (.int 5), (.ref b9)]) (fun _ z_ => XS.iushr X28.here hx rfl (hb hby at_194) rfl z_) ?_
    refine own_g (own_F T28 m 198 #[iv i0, iv i1, iv i2, iv i3, iv (i0 &&& (3 : Int32)), iv (((i0.toUInt32 >>> ((2 : Int32) &&& 31).toUInt32).toInt32) &&& (7 : Int32)), rv b9, .unset, .unset] [(.int 255), (.int ((i2.toUInt32 >>> ((8 : Int32) &&& 31).toUInt32).toInt32)), (.int 5), (.ref b9)]) (fun _ z_ => XS.sipush X28.here hx rfl (hb hby at_195) z_) ?_
    refine own_g (own_F T28 m 199 #[iv i0, iv i1, iv i2, iv i3, iv (i0 &&& (3 : Int32)), iv (((i0.toUInt32 >>> ((2 : Int32) &&& 31).toUInt32).toInt32) &&& (7 : Int32)), rv b9, .unset, .unset] [(.int (((i2.toUInt32 >>> ((8 : Int32) &&& 31).toUInt32).toInt32) &&& (255 : Int32))), (.int 5), (.ref b9)]) (fun _ z_ => XS.iand X28.here hx rfl (hb hby at_198) rfl z_) ?_
    refine own_g (own_F T28 m 200 #[iv i0, iv i1, iv i2, iv i3, iv (i0 &&& (3 : Int32)), iv (((i0.toUInt32 >>> ((2 : Int32) &&& 31).toUInt32).toInt32) &&& (7 : Int32)), rv b9, .unset, .unset] [(.int ((((i2.toUInt32 >>> ((8 : Int32) &&& 31).toUInt32).toInt32) &&& (255 : Int32)).toUInt32.toUInt16.toUInt32.toInt32)), (.int 5), (.ref b9)]) (fun _ z_ => XS.i2c X28.here hx rfl (hb hby at_199) rfl z_) ?_
    refine own_cast X28 hx hZ e28 A28 5 rfl (by decide) ((((i2.toUInt32 >>> ((8 : Int32) &&& 31).toUInt32).toInt32) &&& (255 : Int32)).toUInt32.toUInt16.toUInt32.toInt32) (own_c255n _) (hb hby at_200) ?_
    intro T29 h29 X29 e29 W29 A29
    have N29 := Fr.snoc X29 N28 ge_b9
    obtain ⟨g29, A29, q29_0, q29_1, q29_2, q29_3, q29_4, q29_5, q29_6⟩ : ∃ gq_ : Nat → Int32, own_A Z h29 b9 .char 7 (fun q_ => .int (gq_ q_)) ∧ gq_ 0 = ((i1 &&& (255 : Int32)).toUInt32.toUInt16.toUInt32.toInt32) ∧ gq_ 1 = ((((i1.toUInt32 >>> ((8 : Int32) &&& 31).toUInt32).toInt32) &&& (255 : Int32)).toUInt32.toUInt16.toUInt32.toInt32) ∧ gq_ 2 = ((((i1.toUInt32 >>> ((16 : Int32) &&& 31).toUInt32).toInt32) &&& (255 : Int32)).toUInt32.toUInt16.toUInt32.toInt32) ∧ gq_ 3 = ((((i1.toUInt32 >>> ((24 : Int32) &&& 31).toUInt32).toInt32) &&& (255 : Int32)).toUInt32.toUInt16.toUInt32.toInt32) ∧ gq_ 4 = ((i2 &&& (255 : Int32)).toUInt32.toUInt16.toUInt32.toInt32) ∧ gq_ 5 = ((((i2.toUInt32 >>> ((8 : Int32) &&& 31).toUInt32).toInt32) &&& (255 : Int32)).toUInt32.toUInt16.toUInt32.toInt32) ∧ gq_ 6 = (0 : Int32) := ⟨_, A29, (show ite _ _ _ = _ from (if_neg (by decide)).trans q28_0), (show ite _ _ _ = _ from (if_neg (by decide)).trans q28_1), (show ite _ _ _ = _ from (if_neg (by decide)).trans q28_2), (show ite _ _ _ = _ from (if_neg (by decide)).trans q28_3), (show ite _ _ _ = _ from (if_neg (by decide)).trans q28_4), rfl, (show ite _ _ _ = _ from (if_neg (by decide)).trans q28_6)⟩
    show own_Ends p e below s _ _ _ (own_F T29 m 201 #[iv i0, iv i1, iv i2, iv i3, iv (i0 &&& (3 : Int32)), iv (((i0.toUInt32 >>> ((2 : Int32) &&& 31).toUInt32).toInt32) &&& (7 : Int32)), rv b9, .unset, .unset] [])
    refine own_g (own_F T29 m 203 #[iv i0, iv i1, iv i2, iv i3, iv (i0 &&& (3 : Int32)), iv (((i0.toUInt32 >>> ((2 : Int32) &&& 31).toUInt32).toInt32) &&& (7 : Int32)), rv b9, .unset, .unset] [(.ref b9)]) (fun _ z_ => XS.aload X29.here hx rfl (hb hby at_201) rfl rfl z_) ?_
    refine own_g (own_F T29 m 205 #[iv i0, iv i1, iv i2, iv i3, iv (i0 &&& (3 : Int32)), iv (((i0.toUInt32 >>> ((2 : Int32) &&& 31).toUInt32).toInt32) &&& (7 : Int32)), rv b9, .unset, .unset] [(.int 6), (.ref b9)]) (fun _ z_ => XS.bipush X29.here hx rfl (hb hby at_203) z_) ?_
    refine own_g (own_F T29 m 206 #[iv i0, iv i1, iv i2, iv i3, iv (i0 &&& (3 : Int32)), iv (((i0.toUInt32 >>> ((2 : Int32) &&& 31).toUInt32).toInt32) &&& (7 : Int32)), rv b9, .unset, .unset] [(.int i2), (.int 6), (.ref b9)]) (fun _ z_ => XS.iloadN X29.here hx rfl (hb hby at_205) rfl z_) ?_
    refine own_g (own_F T29 m 208 #[iv i0, iv i1, iv i2, iv i3, iv (i0 &&& (3 : Int32)), iv (((i0.toUInt32 >>> ((2 : Int32) &&& 31).toUInt32).toInt32) &&& (7 : Int32)), rv b9, .unset, .unset] [(.int 16), (.int i2), (.int 6), (.ref b9)]) (fun _ z_ => XS.bipush X29.here hx rfl (hb hby at_206) z_) ?_
    refine own_g (own_F T29 m 209 #[iv i0, iv i1, iv i2, iv i3, iv (i0 &&& (3 : Int32)), iv (((i0.toUInt32 >>> ((2 : Int32) &&& 31).toUInt32).toInt32) &&& (7 : Int32)), rv b9, .unset, .unset] [(.int ((i2.toUInt32 >>> ((16 : Int32) &&& 31).toUInt32).toInt32)), (.int 6), (.ref b9)]) (fun _ z_ => XS.iushr X29.here hx rfl (hb hby at_208) rfl z_) ?_
    refine own_g (own_F T29 m 212 #[iv i0, iv i1, iv i2, iv i3, iv (i0 &&& (3 : Int32)), iv (((i0.toUInt32 >>> ((2 : Int32) &&& 31).toUInt32).toInt32) &&& (7 : Int32)), rv b9, .unset, .unset] [(.int 255), (.int ((i2.toUInt32 >>> ((16 : Int32) &&& 31).toUInt32).toInt32)), (.int 6), (.ref b9)]) (fun _ z_ => XS.sipush X29.here hx rfl (hb hby at_209) z_) ?_
    refine own_g (own_F T29 m 213 #[iv i0, iv i1, iv i2, iv i3, iv (i0 &&& (3 : Int32)), iv (((i0.toUInt32 >>> ((2 : Int32) &&& 31).toUInt32).toInt32) &&& (7 : Int32)), rv b9, .unset, .unset] [(.int (((i2.toUInt32 >>> ((16 : Int32) &&& 31).toUInt32).toInt32) &&& (255 : Int32))), (.int 6), (.ref b9)]) (fun _ z_ => XS.iand X29.here hx rfl (hb hby at_212) rfl z_) ?_
    refine own_g (own_F T29 m 214 #[iv i0, iv i1, iv i2, iv i3, iv (i0 &&& (3 : Int32)), iv (((i0.toUInt32 >>> ((2 : Int32) &&& 31).toUInt32).toInt32) &&& (7 : Int32)), rv b9, .unset, .unset] [(.int ((((i2.toUInt32 >>> ((16 : Int32) &&& 31).toUInt32).toInt32) &&& (255 : Int32)).toUInt32.toUInt16.toUInt32.toInt32)), (.int 6), (.ref b9)]) (fun _ z_ => XS.i2c X29.here hx rfl (hb hby at_213) rfl z_) ?_
    refine own_cast X29 hx hZ e29 A29 6 rfl (by decide) ((((i2.toUInt32 >>> ((16 : Int32) &&& 31).toUInt32).toInt32) &&& (255 : Int32)).toUInt32.toUInt16.toUInt32.toInt32) (own_c255n _) (hb hby at_214) ?_
    intro T30 h30 X30 e30 W30 A30
    have N30 := Fr.snoc X30 N29 ge_b9
    obtain ⟨g30, A30, q30_0, q30_1, q30_2, q30_3, q30_4, q30_5, q30_6⟩ : ∃ gq_ : Nat → Int32, own_A Z h30 b9 .char 7 (fun q_ => .int (gq_ q_)) ∧ gq_ 0 = ((i1 &&& (255 : Int32)).toUInt32.toUInt16.toUInt32.toInt32) ∧ gq_ 1 = ((((i1.toUInt32 >>> ((8 : Int32) &&& 31).toUInt32).toInt32) &&& (255 : Int32)).toUInt32.toUInt16.toUInt32.toInt32) ∧ gq_ 2 = ((((i1.toUInt32 >>> ((16 : Int32) &&& 31).toUInt32).toInt32) &&& (255 : Int32)).toUInt32.toUInt16.toUInt32.toInt32) ∧ gq_ 3 = ((((i1.toUInt32 >>> ((24 : Int32) &&& 31).toUInt32).toInt32) &&& (255 : Int32)).toUInt32.toUInt16.toUInt32.toInt32) ∧ gq_ 4 = ((i2 &&& (255 : Int32)).toUInt32.toUInt16.toUInt32.toInt32) ∧ gq_ 5 = ((((i2.toUInt32 >>> ((8 : Int32) &&& 31).toUInt32).toInt32) &&& (255 : Int32)).toUInt32.toUInt16.toUInt32.toInt32) ∧ gq_ 6 = ((((i2.toUInt32 >>> ((16 : Int32) &&& 31).toUInt32).toInt32) &&& (255 : Int32)).toUInt32.toUInt16.toUInt32.toInt32) := ⟨_, A30, (show ite _ _ _ = _ from (if_neg (by decide)).trans q29_0), (show ite _ _ _ = _ from (if_neg (by decide)).trans q29_1), (show ite _ _ _ = _ from (if_neg (by decide)).trans q29_2), (show ite _ _ _ = _ from (if_neg (by decide)).trans q29_3), (show ite _ _ _ = _ from (if_neg (by decide)).trans q29_4), (show ite _ _ _ = _ from (if_neg (by decide)).trans q29_5), rfl⟩
    show own_Ends p e below s _ _ _ (own_F T30 m 215 #[iv i0, iv i1, iv i2, iv i3, iv (i0 &&& (3 : Int32)), iv (((i0.toUInt32 >>> ((2 : Int32) &&& 31).toUInt32).toInt32) &&& (7 : Int32)), rv b9, .unset, .unset] [])
    have hf : ∀ i, i < 7 → 0 ≤ (g30 i).toInt ∧ (g30 i).toInt ≤ 255 := fun i hi => by rcases own_lt7 hi with rfl | rfl | rfl | rfl | rfl | rfl | rfl; rw [q30_0]; exact own_c255r _; rw [q30_1]; exact own_c255r _; rw [q30_2]; exact own_c255r _; rw [q30_3]; exact own_c255r _; rw [q30_4]; exact own_c255r _; rw [q30_5]; exact own_c255r _; rw [q30_6]; exact own_c255r _
    exact J1 b9 g30 T30 _ _ s hZ hown X30 e30 N30 (Nat.le_trans (Nat.le_trans (Nat.le_trans (Nat.le_trans (Nat.le_trans (Nat.le_trans (Nat.le_trans (Nat.le_trans Z0 E9.1) (Nat.le_of_eq W24.size.symm)) (Nat.le_of_eq W25.size.symm)) (Nat.le_of_eq W26.size.symm)) (Nat.le_of_eq W27.size.symm)) (Nat.le_of_eq W28.size.symm)) (Nat.le_of_eq W29.size.symm)) (Nat.le_of_eq W30.size.symm)) (Nat.le_trans (Nat.le_trans (Nat.le_trans (Nat.le_trans (Nat.le_trans (Nat.le_trans (Nat.le_trans (Nat.le_trans (Nat.le_refl h0.size) E9.1) (Nat.le_of_eq W24.size.symm)) (Nat.le_of_eq W25.size.symm)) (Nat.le_of_eq W26.size.symm)) (Nat.le_of_eq W27.size.symm)) (Nat.le_of_eq W28.size.symm)) (Nat.le_of_eq W29.size.symm)) (Nat.le_of_eq W30.size.symm)) (((((((((Keep.refl _ _).ext E9).wr W24 (Or.inr sz_b9)).wr W25 (Or.inr sz_b9)).wr W26 (Or.inr sz_b9)).wr W27 (Or.inr sz_b9)).wr W28 (Or.inr sz_b9)).wr W29 (Or.inr sz_b9)).wr W30 (Or.inr sz_b9)) A30 hf ge_b9 sz_b9 LS0
set_option maxRecDepth 65536 in
set_option maxHeartbeats 40000000 in
theorem comes_1 {Post : Tables → Env → Array Value → State → Outcome → State → Prop} (hpost : ∀ tb e args s v u, (limb_1_1.after args s (.returned v) u = true ∧ limb_1_2.after args s (.returned v) u = true ∧ True) → FramedW s (.returned v) u (Jvm.fieldLocs frame_1_writes args s ++ Jvm.arrayLocs frame_1_arrays args s ++ Jvm.staticLocs frame_1_statics s) 24 3264 → Post tb e args s (.returned v) u) :
    ArmFor flags0 classFile x code maxLocals ret World_1 tables_1 room_1 Calls_1 rest_1 Pre_1 Post := by
  intro l hfl _ _ p e ha hc hk s m args below hf hA hF happ hP
  obtain ⟨hcalls, hrest, hpre⟩ := hP
  obtain ⟨-, -, -, hnamed, -, -, -, hat⟩ := (Spec.applies_iff hf).mp happ
  obtain ⟨hg, hn⟩ := and_e (Cond.before_iff.mp (show (Jvm.Cond.and given_1 narrow_1).before args s = true from hpre))
  obtain ⟨hcount, hgg⟩ := and_e hg
  obtain ⟨hk0, hgg0⟩ := and_e hgg
  obtain ⟨hk1, hgg1⟩ := and_e hgg0
  obtain ⟨hk2, hk3⟩ := and_e hgg1
  obtain ⟨w0, w1, w2, w3, rfl⟩ : ∃ w0 w1 w2 w3 : Value, args = #[w0, w1, w2, w3] := by
    have hs : args.size = 4 := by simpa [Cond.value, given_1] using hcount
    obtain ⟨L⟩ := args
    match L, hs with
    | [w0, w1, w2, w3], _ => exact ⟨w0, w1, w2, w3, rfl⟩
  have hw := fun d (hd : d ∈ tables_1) => atoms_spec (ws := Jvm.Cond.code x code maxLocals ret :: tables_1) hat d (List.mem_cons_of_mem _ hd)
  have hfit : Fit s := fun {y c} hc i hi => by
    obtain ⟨ha, rfl⟩ := Array.getElem?_eq_some_iff.mp hc
    have q := List.all_eq_true.mp ((Array.all_eq_true_iff_forall_mem.mp hF) _ (Array.getElem_mem ha)) i (List.mem_range.mpr hi)
    simpa [Array.getElem?_eq_getElem hi] using q
  obtain ⟨i0, ei0⟩ := is_v hk0
  obtain rfl : w0 = (.int i0) := Option.some.inj ei0
  obtain ⟨i1, ei1⟩ := is_v hk1
  obtain rfl : w1 = (.int i1) := Option.some.inj ei1
  obtain ⟨i2, ei2⟩ := is_v hk2
  obtain rfl : w2 = (.int i2) := Option.some.inj ei2
  obtain ⟨i3, ei3⟩ := is_v hk3
  obtain rfl : w3 = (.int i3) := Option.some.inj ei3
  obtain ⟨hn0, hr0⟩ := and_e hn
  obtain ⟨hn1, hr1⟩ := and_e hr0
  obtain ⟨hn2, hr2⟩ := and_e hr1
  obtain ⟨hn3, hr3⟩ := and_e hr2
  obtain ⟨hn4, hr4⟩ := and_e hr3
  obtain ⟨hn5, hr5⟩ := and_e hr4
  obtain ⟨hn6, hr6⟩ := and_e hr5
  obtain ⟨hn7, hr7⟩ := and_e hr6
  obtain ⟨hn8, hr8⟩ := and_e hr7
  obtain ⟨hn9, hr9⟩ := and_e hr8
  obtain ⟨hn10, hr10⟩ := and_e hr9
  obtain ⟨hn11, hr11⟩ := and_e hr10
  obtain ⟨hn12, hr12⟩ := and_e hr11
  obtain ⟨hn13, hr13⟩ := and_e hr12
  obtain ⟨hn14, hr14⟩ := and_e hr13
  obtain ⟨hn15, hr15⟩ := and_e hr14
  obtain ⟨hn16, hr16⟩ := and_e hr15
  obtain ⟨hn17, hr17⟩ := and_e hr16
  obtain ⟨hn18, hr18⟩ := and_e hr17
  obtain ⟨hn19, hr19⟩ := and_e hr18
  obtain ⟨hn20, hr20⟩ := and_e hr19
  obtain ⟨hn21, hr21⟩ := and_e hr20
  obtain ⟨hn22, hr22⟩ := and_e hr21
  obtain ⟨hn23, hr23⟩ := and_e hr22
  obtain ⟨hn24, hr24⟩ := and_e hr23
  obtain ⟨hn25, hr25⟩ := and_e hr24
  obtain ⟨hn26, hn27⟩ := and_e hr25
  obtain ⟨av, evv⟩ := arr_v hn0
  have S_v : Sta s s.heap "com/example/tideline/tideline/TokenType" "$VALUES" "[Lcom/example/tideline/tideline/TokenType;" (.ref av) := Sta.start evv (Or.inl (own_w hw 44))
  obtain ⟨clv, Acv⟩ := Arr.start evv hn0
  obtain ⟨qlv, qmv⟩ := own_lenS evv Acv hn2
  have E_v : Exa s s.heap av "[Lcom/example/tideline/tideline/TokenType;" := Exa.start evv hn1
  obtain ⟨aA, evA⟩ := exa_v hn3
  have S_A : Sta s s.heap "com/example/tideline/tideline/TokenType" "ACCESS" "Lcom/example/tideline/tideline/TokenType;" (.ref aA) := Sta.start evA (Or.inr ⟨(own_w hw 28), (own_w hw 42)⟩)
  have E_A : Exa s s.heap aA "com/example/tideline/tideline/TokenType" := Exa.start evA hn3
  have elA := own_el 0 (by rfl) evv Acv (own_eqr hn4 evA)
  obtain ⟨aR, evR⟩ := exa_v hn5
  have S_R : Sta s s.heap "com/example/tideline/tideline/TokenType" "REFRESH" "Lcom/example/tideline/tideline/TokenType;" (.ref aR) := Sta.start evR (Or.inr ⟨(own_w hw 28), (own_w hw 43)⟩)
  have E_R : Exa s s.heap aR "com/example/tideline/tideline/TokenType" := Exa.start evR hn5
  have elR := own_el 1 (by rfl) evv Acv (own_eqr hn6 evR)
  have A_v : own_A s s.heap av (.object "com/example/tideline/tideline/TokenType") 2 (own_vv aA aR) := ⟨by decide, clv, Acv, own_szN qlv qmv (by rfl), fun i hi => by rcases own_lt2 hi with rfl | rfl; exact elA; exact elR⟩
  obtain ⟨wA, ewA⟩ := exa_v hn7
  have F_A : Fld s s.heap aA "com/example/tideline/tideline/TokenType" "wireName" "Ljava/lang/String;" (.ref wA) := Fld.start ((fld_at evA).symm.trans ewA)
  have EwA : Exa s s.heap wA "java/lang/String" := Exa.start ewA hn7
  have FcA := own_fieldOf ewA hn8
  obtain ⟨tA, etA⟩ := arr_v hn9
  have FvA : Fld s s.heap wA "java/lang/String" "value" "[B" (.ref tA) := Fld.start ((fld_at ewA).symm.trans etA)
  obtain ⟨clA, AcA⟩ := Arr.start etA hn9
  obtain ⟨qlA, qmA⟩ := own_lenS etA AcA hn10
  have elA0 := own_el 0 (by rfl) etA AcA (own_eqi hn15)
  have elA1 := own_el 1 (by rfl) etA AcA (own_eqi hn16)
  have elA2 := own_el 2 (by rfl) etA AcA (own_eqi hn17)
  have elA3 := own_el 3 (by rfl) etA AcA (own_eqi hn18)
  have elA4 := own_el 4 (by rfl) etA AcA (own_eqi hn19)
  have elA5 := own_el 5 (by rfl) etA AcA (own_eqi hn20)
  have L_A : own_Lat s s.heap wA tA 6 (own_tx "access") := ⟨EwA, FvA, FcA, ⟨by decide, clA, AcA, own_szN qlA qmA (by rfl), fun i hi => by rcases own_lt6 hi with rfl | rfl | rfl | rfl | rfl | rfl; exact elA0; exact elA1; exact elA2; exact elA3; exact elA4; exact elA5⟩, own_txr (text := "access") (by decide)⟩
  obtain ⟨wR, ewR⟩ := exa_v hn11
  have F_R : Fld s s.heap aR "com/example/tideline/tideline/TokenType" "wireName" "Ljava/lang/String;" (.ref wR) := Fld.start ((fld_at evR).symm.trans ewR)
  have EwR : Exa s s.heap wR "java/lang/String" := Exa.start ewR hn11
  have FcR := own_fieldOf ewR hn12
  obtain ⟨tR, etR⟩ := arr_v hn13
  have FvR : Fld s s.heap wR "java/lang/String" "value" "[B" (.ref tR) := Fld.start ((fld_at ewR).symm.trans etR)
  obtain ⟨clR, AcR⟩ := Arr.start etR hn13
  obtain ⟨qlR, qmR⟩ := own_lenS etR AcR hn14
  have elR0 := own_el 0 (by rfl) etR AcR (own_eqi hn21)
  have elR1 := own_el 1 (by rfl) etR AcR (own_eqi hn22)
  have elR2 := own_el 2 (by rfl) etR AcR (own_eqi hn23)
  have elR3 := own_el 3 (by rfl) etR AcR (own_eqi hn24)
  have elR4 := own_el 4 (by rfl) etR AcR (own_eqi hn25)
  have elR5 := own_el 5 (by rfl) etR AcR (own_eqi hn26)
  have elR6 := own_el 6 (by rfl) etR AcR (own_eqi hn27)
  have L_R : own_Lat s s.heap wR tR 7 (own_tx "refresh") := ⟨EwR, FvR, FcR, ⟨by decide, clR, AcR, own_szN qlR qmR (by rfl), fun i hi => by rcases own_lt7 hi with rfl | rfl | rfl | rfl | rfl | rfl | rfl; exact elR0; exact elR1; exact elR2; exact elR3; exact elR4; exact elR5; exact elR6⟩, own_txr (text := "refresh") (by decide)⟩
  obtain ⟨hsets, -⟩ := atoms_of jdkStatics_1 (by rw [← rest_1_c_eq]; exact hrest)
  obtain ⟨zc, evc⟩ := is_v (Cond.before_iff.mp (hsets _ (List.mem_of_getElem? (i := 1) rfl)))
  have S_cs : Sta s s.heap "java/lang/String" "COMPACT_STRINGS" "Z" (.int zc) := Sta.start evc (Or.inl (hsets _ (List.mem_of_getElem? (i := 0) rfl)))
  have hzc : ¬ zc = (0 : Int32) := fun q => by
    have h1 := not_v (Cond.before_iff.mp (hsets _ (List.mem_of_getElem? (i := 2) rfl)))
    rw [eq_i evc (Term.int_eval 0) (by rw [q])] at h1
    cases h1
  have hh12 : Jvm.Lit.constHeld s "com/example/tideline/tideline/TokenTypeOfPinLaw" 12 := hcalls.1 _ (List.mem_of_getElem? (i := 0) rfl)
  have hh24 : Jvm.Lit.constHeld s "com/example/tideline/tideline/TokenTypeOfPinLaw" 24 := hcalls.1 _ (List.mem_of_getElem? (i := 1) rfl)
  have hh7 : Jvm.Lit.constHeld s "java/lang/String" 7 := hcalls.1 _ (List.mem_of_getElem? (i := 2) rfl)
  obtain ⟨n, o, h1, h2, h3, _, L, rfl, ⟨rfl, N⟩, hq⟩ := own_law l s _ hw tables_1 i0 i1 i2 i3 zc av aA aR wA wR tA tR s.heap s.heap.size (Nat.le_refl _) hzc S_cs S_v A_v E_v E_A F_A L_A E_R F_R L_R S_A S_R (fun _ _ q => q) hh7 hh12 hh24 (hsets _ (List.mem_of_getElem? (i := 2) rfl)) p e ha hc hk s m _ below hf ((Spec.applies_iff_loose hf).mp happ).1 ⟨rfl, State.Warmed39.refl s, rfl, own_LS.start⟩ trivial
  refine ⟨n, _, h1, h2, h3, hpost _ _ _ _ _ _ ⟨Cond.after_iff.mpr rfl, Cond.after_iff.mpr (eq_i res_at (Term.int_eval (1)) rfl), trivial⟩ ⟨hq.1.1, hq.1.2.1, hq.1.2.2.1, (hq.1.2.2.2.sift fun y hy => Or.inr (N y hy)).mono (by decide) (by decide)⟩⟩
theorem main_1_1 : Claimed_1_1 := comes_1 fun _ _ _ _ _ _ h hF => ⟨h.1, hF⟩
theorem main_1_2 : Claimed_1_2 := comes_1 fun _ _ _ _ _ _ h hF => ⟨h.2.1, hF⟩
end Jvm.Pilot.@@N@@
namespace Jvm.Pilot.@@N@@
open Jvm Jvm.ClassFile Sem Op Lib Jvm.Free Jvm.Stand Jvm.Pilot.@@N@@.Jvm.D
/-! MADE BY PROGRAM (witnessworld.py) out of the Statement's table words and the real class files: 22 classes; the members and pool entries that the words name. The judged class is class 1, her method 3. -/
namespace start1
open Jvm.ClassFile
def u (s : String) : CpInfo := .utf8 (stringToUtf16 s)
/-- a pool by its gaps: so many unusable entries, then the entry; so many at the end -/
def gap : Nat → List CpInfo → List CpInfo
  | 0, r => r
  | n + 1, r => .unusable :: gap n r
def poolList (es : List (Nat × CpInfo)) (last : Nat) : List CpInfo := es.foldr (fun e r => gap e.1 (e.2 :: r)) (gap last [])
def pool (es : List (Nat × CpInfo)) (last : Nat) : Array CpInfo := ⟨poolList es last⟩
def fileOf (pool : Array CpInfo) (this : Nat) (attrs : Array Attribute := #[]) (ms : Array MethodInfo := #[]) (fl : Nat := 33) (sup : Nat := 0) (ifs : Array Nat := #[]) (fds : Array FieldInfo := #[]) : ClassFile where
  minorVersion := 0
  majorVersion := 65
  constantPool := pool
  accessFlags := fl
  thisClass := this
  superClass := sup
  interfaces := ifs
  fields := fds
  methods := ms
  attributes := attrs
def plain (name : String) (sup : Option ClassId) : Class where
  name := name
  kind := .ordinary
  loader := none
  accessFlags := 33
  super := sup
  interfaces := #[]
  cf := none
  fields := #[]
  methods := #[]
  instanceTypes := #[]
  staticTypes := #[]
  resolved := #[]
  callSites := []
  init := .initialized
  statics := none
  mirror := none

def pool0 : Array CpInfo := pool [(5, u "<init>"), (0, u "()V"), (1, .class_ 10), (1, u "java/lang/Object"), (85, u "clone"), (0, u "()Ljava/lang/Object;")] 26

def k0c0 : Code := { maxStack := 0, maxLocals := 1, code := object_method_1_code, exceptionTable := #[], attributes := #[] }
def k0m0 : Method := { name := "<init>", desc := "()V", sig := { parameters := [], returnType := none }, accessFlags := 1, code := some k0c0 }
def k0m1 : Method := { name := "clone", desc := "()Ljava/lang/Object;", sig := { parameters := [], returnType := some (.object "java/lang/Object") }, accessFlags := 260, code := none }
/-- java/lang/Object -/
def k0 : Class := { plain "java/lang/Object" none with
  accessFlags := 33
  interfaces := #[]
  cf := some (fileOf pool0 8 #[] #[{ accessFlags := 1, nameIndex := 5, descriptorIndex := 6, attributes := #[] }, { accessFlags := 260, nameIndex := 96, descriptorIndex := 97, attributes := #[] }] 33 0 #[] #[])
  fields := #[]
  methods := #[k0m0, k0m1]
  instanceTypes := #[]
  staticTypes := #[]
  resolved := Array.replicate 124 none
  statics := none }

def pool1 : Array CpInfo := pool [(2, .class_ 4), (1, u "java/lang/Object"), (0, u "<init>"), (0, u "()V"), (0, .class_ 8), (0, u "java/lang/String"), (0, .methodref 7 10), (0, .nameAndType 5 11), (0, u "([C)V"), (0, .string 13), (0, u "access"), (0, .methodref 7 15), (0, .nameAndType 16 17), (0, u "equals"), (0, u "(Ljava/lang/Object;)Z"), (0, .fieldref 19 20), (0, .class_ 21), (0, .nameAndType 22 23), (0, u "com/example/tideline/tideline/TokenType"), (0, u "ACCESS"), (0, u "Lcom/example/tideline/tideline/TokenType;"), (0, .string 25), (0, u "refresh"), (0, .fieldref 19 27), (0, .nameAndType 28 23), (0, u "REFRESH"), (0, .methodref 30 31), (0, .class_ 32), (0, .nameAndType 33 34), (0, u "com/example/tideline/tideline/TokenTypeOfPinLaw"), (0, u "make"), (0, u "([CI)Ljava/lang/String;"), (0, .methodref 19 36), (0, .nameAndType 37 38), (0, u "of"), (0, u "(Ljava/lang/String;)Lcom/example/tideline/tideline/TokenType;"), (0, .methodref 30 40), (0, .nameAndType 41 38), (0, u "expected"), (3, u "law"), (0, u "(IIII)Z")] 4

def k1m0 : Method := { name := "<init>", desc := "()V", sig := { parameters := [], returnType := none }, accessFlags := 1, code := none }
def k1c1 : Code := { maxStack := 7, maxLocals := 2, code := method_2_code, exceptionTable := #[], attributes := #[] }
def k1m1 : Method := { name := "make", desc := "([CI)Ljava/lang/String;", sig := { parameters := [(.array .char), .int], returnType := some (.object "java/lang/String") }, accessFlags := 10, code := some k1c1 }
def k1c2 : Code := { maxStack := 2, maxLocals := 1, code := method_3_code, exceptionTable := #[], attributes := #[] }
def k1m2 : Method := { name := "expected", desc := "(Ljava/lang/String;)Lcom/example/tideline/tideline/TokenType;", sig := { parameters := [(.object "java/lang/String")], returnType := some (.object "com/example/tideline/tideline/TokenType") }, accessFlags := 10, code := some k1c2 }
def k1c3 : Code := { maxStack := 4, maxLocals := 9, code := code, exceptionTable := #[], attributes := #[] }
def k1m3 : Method := { name := "law", desc := "(IIII)Z", sig := { parameters := [.int, .int, .int, .int], returnType := some .boolean }, accessFlags := 9, code := some k1c3 }
/-- com/example/tideline/tideline/TokenTypeOfPinLaw -/
def k1 : Class := { plain "com/example/tideline/tideline/TokenTypeOfPinLaw" (some 0) with
  accessFlags := 49
  interfaces := #[]
  cf := some (fileOf pool1 30 #[] #[{ accessFlags := 1, nameIndex := 5, descriptorIndex := 6, attributes := #[] }, { accessFlags := 10, nameIndex := 33, descriptorIndex := 34, attributes := #[] }, { accessFlags := 10, nameIndex := 41, descriptorIndex := 38, attributes := #[] }, { accessFlags := 9, nameIndex := 45, descriptorIndex := 46, attributes := #[] }] 49 2 #[] #[])
  fields := #[]
  methods := #[k1m0, k1m1, k1m2, k1m3]
  instanceTypes := #[]
  staticTypes := #[]
  resolved := Array.replicate 51 none
  statics := none }

def pool2 : Array CpInfo := pool [(1, .class_ 2), (0, u "java/io/Serializable"), (0, .class_ 4), (0, u "java/lang/Object")] 2

/-- java/io/Serializable -/
def k2 : Class := { plain "java/io/Serializable" (some 0) with
  accessFlags := 1537
  interfaces := #[]
  cf := some (fileOf pool2 1 #[] #[] 1537 3 #[] #[])
  fields := #[]
  methods := #[]
  instanceTypes := #[]
  staticTypes := #[]
  resolved := Array.replicate 7 none
  statics := none }

def pool3 : Array CpInfo := pool [(1, .class_ 2), (0, u "java/lang/Comparable"), (0, .class_ 4), (0, u "java/lang/Object")] 7

/-- java/lang/Comparable -/
def k3 : Class := { plain "java/lang/Comparable" (some 0) with
  accessFlags := 1537
  interfaces := #[]
  cf := some (fileOf pool3 1 #[] #[] 1537 3 #[] #[])
  fields := #[]
  methods := #[]
  instanceTypes := #[]
  staticTypes := #[]
  resolved := Array.replicate 12 none
  statics := none }

def pool4 : Array CpInfo := pool [(2, .class_ 4), (1, u "java/lang/CharSequence"), (42, .class_ 48), (0, u "java/lang/CharSequence$1CodePointIterator"), (10, .class_ 60), (0, u "java/lang/CharSequence$1CharIterator"), (5, .class_ 67), (0, u "java/lang/Object")] 63

/-- java/lang/CharSequence -/
def k4 : Class := { plain "java/lang/CharSequence" (some 0) with
  accessFlags := 1537
  interfaces := #[]
  cf := some (fileOf pool4 2 #[.nestMembers #[47, 59]] #[] 1537 66 #[] #[])
  fields := #[]
  methods := #[]
  instanceTypes := #[]
  staticTypes := #[]
  resolved := Array.replicate 131 none
  statics := none }

def pool5 : Array CpInfo := pool [(1, .class_ 2), (0, u "java/lang/constant/Constable"), (0, .class_ 4), (0, u "java/lang/Object")] 6

/-- java/lang/constant/Constable -/
def k5 : Class := { plain "java/lang/constant/Constable" (some 0) with
  accessFlags := 1537
  interfaces := #[]
  cf := some (fileOf pool5 1 #[] #[] 1537 3 #[] #[])
  fields := #[]
  methods := #[]
  instanceTypes := #[]
  staticTypes := #[]
  resolved := Array.replicate 11 none
  statics := none }

def pool6 : Array CpInfo := pool [(1, .class_ 2), (0, u "java/lang/constant/ConstantDesc"), (0, .class_ 4), (0, u "java/lang/Object")] 32

/-- java/lang/constant/ConstantDesc -/
def k6 : Class := { plain "java/lang/constant/ConstantDesc" (some 0) with
  accessFlags := 1537
  interfaces := #[]
  cf := some (fileOf pool6 1 #[] #[] 1537 3 #[] #[])
  fields := #[]
  methods := #[]
  instanceTypes := #[]
  staticTypes := #[]
  resolved := Array.replicate 37 none
  statics := none }

def pool7 : Array CpInfo := pool [(1, .methodref 2 3), (0, .class_ 4), (0, .nameAndType 5 6), (0, u "java/lang/Object"), (0, u "<init>"), (0, u "()V"), (0, .string 8), (0, u ""), (0, .fieldref 10 11), (0, .class_ 12), (0, .nameAndType 13 14), (0, u "java/lang/String"), (0, u "value"), (0, u "[B"), (0, .fieldref 10 16), (0, .nameAndType 17 18), (0, u "coder"), (0, u "B"), (2, u "hash"), (0, u "I"), (2, u "hashIsZero"), (0, u "Z"), (0, .methodref 10 28), (0, .nameAndType 5 29), (0, u "([CIILjava/lang/Void;)V"), (8, .fieldref 10 39), (0, .nameAndType 40 26), (0, u "COMPACT_STRINGS"), (1, .class_ 44), (1, u "java/lang/StringUTF16"), (0, u "compress"), (1, .methodref 42 48), (0, .nameAndType 49 50), (0, u "coderFromArrayLen"), (0, u "([BI)B"), (56, .class_ 109), (1, u "java/lang/StringLatin1"), (67, .methodref 42 178), (0, .nameAndType 45 179), (0, u "([CII)[B"), (361, .methodref 107 542), (0, .nameAndType 543 544), (0, u "equals"), (0, u "([B[B)Z"), (28, u "(Ljava/lang/Object;)Z"), (1, .class_ 576), (0, u "java/lang/CharSequence"), (22, u "CASE_INSENSITIVE_ORDER"), (0, u "Ljava/util/Comparator;"), (409, u "([C)V"), (90, u "serialPersistentFields"), (0, u "[Ljava/io/ObjectStreamField;"), (0, .class_ 1104), (0, u "java/lang/String$CaseInsensitiveComparator"), (1, .class_ 1107), (0, u "java/io/Serializable"), (0, .class_ 1109), (0, u "java/lang/Comparable"), (0, .class_ 1111), (0, u "java/lang/constant/Constable"), (0, .class_ 1113), (0, u "java/lang/constant/ConstantDesc"), (2, u "serialVersionUID"), (0, u "J"), (3, u "REPL"), (0, u "C"), (2, u "LATIN1"), (1, u "UTF16")] 323

def k7m0 : Method := { name := "<init>", desc := "()V", sig := { parameters := [], returnType := none }, accessFlags := 1, code := none }
def k7c1 : Code := { maxStack := 5, maxLocals := 2, code := jdk_42_method_3_code, exceptionTable := #[], attributes := #[] }
def k7m1 : Method := { name := "<init>", desc := "([C)V", sig := { parameters := [(.array .char)], returnType := none }, accessFlags := 1, code := some k7c1 }
def k7c2 : Code := { maxStack := 2, maxLocals := 3, code := jdk_42_method_66_code, exceptionTable := #[], attributes := #[] }
def k7m2 : Method := { name := "equals", desc := "(Ljava/lang/Object;)Z", sig := { parameters := [(.object "java/lang/Object")], returnType := some .boolean }, accessFlags := 1, code := some k7c2 }
def k7c3 : Code := { maxStack := 4, maxLocals := 6, code := jdk_42_method_149_code, exceptionTable := #[], attributes := #[] }
def k7m3 : Method := { name := "<init>", desc := "([CIILjava/lang/Void;)V", sig := { parameters := [(.array .char), .int, .int, (.object "java/lang/Void")], returnType := none }, accessFlags := 2, code := some k7c3 }
/-- java/lang/String -/
def k7 : Class := { plain "java/lang/String" (some 0) with
  accessFlags := 49
  interfaces := #[2, 3, 4, 5, 6]
  cf := some (fileOf pool7 10 #[.nestMembers #[1103]] #[{ accessFlags := 1, nameIndex := 5, descriptorIndex := 6, attributes := #[] }, { accessFlags := 1, nameIndex := 5, descriptorIndex := 1010, attributes := #[] }, { accessFlags := 1, nameIndex := 543, descriptorIndex := 573, attributes := #[] }, { accessFlags := 2, nameIndex := 5, descriptorIndex := 29, attributes := #[] }] 49 2 #[1106, 1108, 575, 1110, 1112] #[{ accessFlags := 18, nameIndex := 13, descriptorIndex := 14, attributes := #[] }, { accessFlags := 18, nameIndex := 17, descriptorIndex := 18, attributes := #[] }, { accessFlags := 2, nameIndex := 21, descriptorIndex := 22, attributes := #[] }, { accessFlags := 2, nameIndex := 25, descriptorIndex := 26, attributes := #[] }, { accessFlags := 26, nameIndex := 1116, descriptorIndex := 1117, attributes := #[] }, { accessFlags := 24, nameIndex := 40, descriptorIndex := 26, attributes := #[] }, { accessFlags := 26, nameIndex := 1101, descriptorIndex := 1102, attributes := #[] }, { accessFlags := 26, nameIndex := 1121, descriptorIndex := 1122, attributes := #[] }, { accessFlags := 25, nameIndex := 599, descriptorIndex := 600, attributes := #[] }, { accessFlags := 24, nameIndex := 1125, descriptorIndex := 18, attributes := #[] }, { accessFlags := 24, nameIndex := 1127, descriptorIndex := 18, attributes := #[] }])
  fields := #[{ name := "value", type := (.array .byte), accessFlags := 18, slot := 0, constantValue := 0 }, { name := "coder", type := .byte, accessFlags := 18, slot := 1, constantValue := 0 }, { name := "hash", type := .int, accessFlags := 2, slot := 2, constantValue := 0 }, { name := "hashIsZero", type := .boolean, accessFlags := 2, slot := 3, constantValue := 0 }, { name := "serialVersionUID", type := .long, accessFlags := 26, slot := 0, constantValue := 0 }, { name := "COMPACT_STRINGS", type := .boolean, accessFlags := 24, slot := 1, constantValue := 0 }, { name := "serialPersistentFields", type := (.array (.object "java/io/ObjectStreamField")), accessFlags := 26, slot := 2, constantValue := 0 }, { name := "REPL", type := .char, accessFlags := 26, slot := 3, constantValue := 0 }, { name := "CASE_INSENSITIVE_ORDER", type := (.object "java/util/Comparator"), accessFlags := 25, slot := 4, constantValue := 0 }, { name := "LATIN1", type := .byte, accessFlags := 24, slot := 5, constantValue := 0 }, { name := "UTF16", type := .byte, accessFlags := 24, slot := 6, constantValue := 0 }]
  methods := #[k7m0, k7m1, k7m2, k7m3]
  instanceTypes := #[(.array .byte), .byte, .int, .boolean]
  staticTypes := #[.long, .boolean, (.array (.object "java/io/ObjectStreamField")), .char, (.object "java/util/Comparator"), .byte, .byte]
  resolved := Array.replicate 1451 none
  statics := some 0 }

def pool8 : Array CpInfo := pool [(2, .class_ 4), (1, u "java/lang/Enum"), (0, u "name"), (0, u "Ljava/lang/String;"), (2, u "ordinal"), (0, u "I"), (1, .class_ 14), (1, u "java/lang/Object"), (4, u "hash"), (86, .class_ 108), (1, u "java/lang/Enum$EnumDesc"), (2, .class_ 112), (0, u "java/lang/constant/Constable"), (0, .class_ 114), (0, u "java/lang/Comparable"), (0, .class_ 116), (0, u "java/io/Serializable")] 87

/-- java/lang/Enum -/
def k8 : Class := { plain "java/lang/Enum" (some 0) with
  accessFlags := 1057
  interfaces := #[5, 3, 2]
  cf := some (fileOf pool8 2 #[.nestMembers #[106]] #[] 1057 12 #[111, 113, 115] #[{ accessFlags := 18, nameIndex := 5, descriptorIndex := 6, attributes := #[] }, { accessFlags := 18, nameIndex := 9, descriptorIndex := 10, attributes := #[] }, { accessFlags := 2, nameIndex := 19, descriptorIndex := 10, attributes := #[] }])
  fields := #[{ name := "name", type := (.object "java/lang/String"), accessFlags := 18, slot := 0, constantValue := 0 }, { name := "ordinal", type := .int, accessFlags := 18, slot := 1, constantValue := 0 }, { name := "hash", type := .int, accessFlags := 2, slot := 2, constantValue := 0 }]
  methods := #[]
  instanceTypes := #[(.object "java/lang/String"), .int, .int]
  staticTypes := #[]
  resolved := Array.replicate 204 none
  statics := none }

def pool9 : Array CpInfo := pool [(1, .class_ 2), (0, u "com/example/tideline/tideline/TokenType"), (2, u "ACCESS"), (0, u "Lcom/example/tideline/tideline/TokenType;"), (2, u "REFRESH"), (0, .fieldref 1 11), (0, .nameAndType 12 13), (0, u "$VALUES"), (0, u "[Lcom/example/tideline/tideline/TokenType;"), (0, .methodref 15 16), (0, .class_ 13), (0, .nameAndType 17 18), (0, u "clone"), (0, u "()Ljava/lang/Object;"), (1, .class_ 22), (1, u "java/lang/Enum"), (6, .fieldref 1 30), (0, .nameAndType 31 32), (0, u "wireName"), (0, u "Ljava/lang/String;"), (2, u "revoked"), (0, u "Lcom/example/tideline/tideline/ApiError;"), (0, .methodref 1 38), (0, .nameAndType 39 40), (0, u "values"), (0, u "()[Lcom/example/tideline/tideline/TokenType;"), (0, .methodref 42 43), (0, .class_ 44), (0, .nameAndType 45 46), (0, u "java/lang/String"), (0, u "equals"), (0, u "(Ljava/lang/Object;)Z"), (22, u "(Ljava/lang/String;)Lcom/example/tideline/tideline/TokenType;"), (5, u "of")] 6

def k9c0 : Code := { maxStack := 1, maxLocals := 0, code := prog_12_method_1_code, exceptionTable := #[], attributes := #[] }
def k9m0 : Method := { name := "values", desc := "()[Lcom/example/tideline/tideline/TokenType;", sig := { parameters := [], returnType := some (.array (.object "com/example/tideline/tideline/TokenType")) }, accessFlags := 9, code := some k9c0 }
def k9c1 : Code := { maxStack := 2, maxLocals := 5, code := prog_12_method_6_code, exceptionTable := #[], attributes := #[] }
def k9m1 : Method := { name := "of", desc := "(Ljava/lang/String;)Lcom/example/tideline/tideline/TokenType;", sig := { parameters := [(.object "java/lang/String")], returnType := some (.object "com/example/tideline/tideline/TokenType") }, accessFlags := 8, code := some k9c1 }
/-- com/example/tideline/tideline/TokenType -/
def k9 : Class := { plain "com/example/tideline/tideline/TokenType" (some 8) with
  accessFlags := 16432
  interfaces := #[]
  cf := some (fileOf pool9 1 #[] #[{ accessFlags := 9, nameIndex := 39, descriptorIndex := 40, attributes := #[] }, { accessFlags := 8, nameIndex := 75, descriptorIndex := 69, attributes := #[] }] 16432 20 #[] #[{ accessFlags := 16409, nameIndex := 5, descriptorIndex := 6, attributes := #[] }, { accessFlags := 16409, nameIndex := 9, descriptorIndex := 6, attributes := #[] }, { accessFlags := 18, nameIndex := 31, descriptorIndex := 32, attributes := #[] }, { accessFlags := 18, nameIndex := 35, descriptorIndex := 36, attributes := #[] }, { accessFlags := 4122, nameIndex := 12, descriptorIndex := 13, attributes := #[] }])
  fields := #[{ name := "ACCESS", type := (.object "com/example/tideline/tideline/TokenType"), accessFlags := 16409, slot := 0, constantValue := 0 }, { name := "REFRESH", type := (.object "com/example/tideline/tideline/TokenType"), accessFlags := 16409, slot := 1, constantValue := 0 }, { name := "wireName", type := (.object "java/lang/String"), accessFlags := 18, slot := 3, constantValue := 0 }, { name := "revoked", type := (.object "com/example/tideline/tideline/ApiError"), accessFlags := 18, slot := 4, constantValue := 0 }, { name := "$VALUES", type := (.array (.object "com/example/tideline/tideline/TokenType")), accessFlags := 4122, slot := 2, constantValue := 0 }]
  methods := #[k9m0, k9m1]
  instanceTypes := #[(.object "java/lang/String"), .int, .int, (.object "java/lang/String"), (.object "com/example/tideline/tideline/ApiError")]
  staticTypes := #[(.object "com/example/tideline/tideline/TokenType"), (.object "com/example/tideline/tideline/TokenType"), (.array (.object "com/example/tideline/tideline/TokenType"))]
  resolved := Array.replicate 82 none
  statics := some 1 }

def pool10 : Array CpInfo := pool [(1, .class_ 2), (0, u "java/lang/Cloneable"), (0, .class_ 4), (0, u "java/lang/Object")] 2

/-- java/lang/Cloneable -/
def k10 : Class := { plain "java/lang/Cloneable" (some 0) with
  accessFlags := 1537
  interfaces := #[]
  cf := some (fileOf pool10 1 #[] #[] 1537 3 #[] #[])
  fields := #[]
  methods := #[]
  instanceTypes := #[]
  staticTypes := #[]
  resolved := Array.replicate 7 none
  statics := none }

def pool11 : Array CpInfo := pool [(4, .class_ 6), (1, u "java/lang/Object"), (0, u "<init>"), (0, u "()V"), (5, .class_ 16), (1, u "java/lang/StringLatin1"), (104, u "$assertionsDisabled"), (0, u "Z"), (98, .class_ 223), (1, u "java/lang/StringLatin1$LinesSpliterator"), (57, u "equals"), (0, u "([B[B)Z"), (107, .class_ 391), (0, u "java/lang/StringLatin1$CharsSpliterator")] 3

def k11m0 : Method := { name := "<init>", desc := "()V", sig := { parameters := [], returnType := none }, accessFlags := 0, code := none }
def k11c1 : Code := { maxStack := 3, maxLocals := 3, code := jdk_43_method_13_code, exceptionTable := #[], attributes := #[] }
def k11m1 : Method := { name := "equals", desc := "([B[B)Z", sig := { parameters := [(.array .byte), (.array .byte)], returnType := some .boolean }, accessFlags := 9, code := some k11c1 }
/-- java/lang/StringLatin1 -/
def k11 : Class := { plain "java/lang/StringLatin1" (some 0) with
  accessFlags := 48
  interfaces := #[]
  cf := some (fileOf pool11 14 #[.nestMembers #[390, 221]] #[{ accessFlags := 0, nameIndex := 7, descriptorIndex := 8, attributes := #[] }, { accessFlags := 9, nameIndex := 281, descriptorIndex := 282, attributes := #[] }] 48 4 #[] #[{ accessFlags := 4120, nameIndex := 121, descriptorIndex := 122, attributes := #[] }])
  fields := #[{ name := "$assertionsDisabled", type := .boolean, accessFlags := 4120, slot := 0, constantValue := 0 }]
  methods := #[k11m0, k11m1]
  instanceTypes := #[]
  staticTypes := #[.boolean]
  resolved := Array.replicate 395 none
  statics := none }

def pool12 : Array CpInfo := pool [(6, .class_ 8), (1, u "java/lang/Object"), (0, u "<init>"), (0, u "()V"), (1, .class_ 14), (1, u "java/lang/StringUTF16"), (31, u "$assertionsDisabled"), (0, u "Z"), (13, u "HI_BYTE_SHIFT"), (0, u "I"), (2, u "LO_BYTE_SHIFT"), (49, .methodref 12 116), (0, .nameAndType 117 118), (0, u "compress"), (0, u "([CI[BII)I"), (3, u "([CII)[B"), (138, u "coderFromArrayLen"), (0, u "([BI)B"), (106, .class_ 371), (1, u "java/lang/StringUTF16$LinesSpliterator"), (58, u "MAX_LENGTH"), (196, .class_ 628), (0, u "java/lang/StringUTF16$CodePointsSpliterator"), (0, .class_ 630), (0, u "java/lang/StringUTF16$CharsSpliterator")] 4

def k12m0 : Method := { name := "<init>", desc := "()V", sig := { parameters := [], returnType := none }, accessFlags := 0, code := none }
def k12c1 : Code := { maxStack := 2, maxLocals := 2, code := jdk_52_method_15_code, exceptionTable := #[], attributes := #[] }
def k12m1 : Method := { name := "coderFromArrayLen", desc := "([BI)B", sig := { parameters := [(.array .byte), .int], returnType := some .byte }, accessFlags := 8, code := some k12c1 }
def k12c2 : Code := { maxStack := 5, maxLocals := 6, code := jdk_52_method_16_code, exceptionTable := #[], attributes := #[] }
def k12m2 : Method := { name := "compress", desc := "([CII)[B", sig := { parameters := [(.array .char), .int, .int], returnType := some (.array .byte) }, accessFlags := 9, code := some k12c2 }
def k12c3 : Code := { maxStack := 3, maxLocals := 7, code := jdk_52_method_21_code, exceptionTable := #[], attributes := #[] }
def k12m3 : Method := { name := "compress", desc := "([CI[BII)I", sig := { parameters := [(.array .char), .int, (.array .byte), .int, .int], returnType := some .int }, accessFlags := 9, code := some k12c3 }
/-- java/lang/StringUTF16 -/
def k12 : Class := { plain "java/lang/StringUTF16" (some 0) with
  accessFlags := 48
  interfaces := #[]
  cf := some (fileOf pool12 12 #[.nestMembers #[627, 629, 369]] #[{ accessFlags := 0, nameIndex := 9, descriptorIndex := 10, attributes := #[] }, { accessFlags := 8, nameIndex := 261, descriptorIndex := 262, attributes := #[] }, { accessFlags := 9, nameIndex := 117, descriptorIndex := 122, attributes := #[] }, { accessFlags := 9, nameIndex := 117, descriptorIndex := 118, attributes := #[] }] 48 6 #[] #[{ accessFlags := 26, nameIndex := 61, descriptorIndex := 62, attributes := #[] }, { accessFlags := 26, nameIndex := 65, descriptorIndex := 62, attributes := #[] }, { accessFlags := 24, nameIndex := 430, descriptorIndex := 62, attributes := #[] }, { accessFlags := 4120, nameIndex := 46, descriptorIndex := 47, attributes := #[] }])
  fields := #[{ name := "HI_BYTE_SHIFT", type := .int, accessFlags := 26, slot := 0, constantValue := 0 }, { name := "LO_BYTE_SHIFT", type := .int, accessFlags := 26, slot := 1, constantValue := 0 }, { name := "MAX_LENGTH", type := .int, accessFlags := 24, slot := 2, constantValue := 0 }, { name := "$assertionsDisabled", type := .boolean, accessFlags := 4120, slot := 3, constantValue := 0 }]
  methods := #[k12m0, k12m1, k12m2, k12m3]
  instanceTypes := #[]
  staticTypes := #[.int, .int, .int, .boolean]
  resolved := Array.replicate 635 none
  statics := none }

def pool13 : Array CpInfo := pool [(2, .class_ 4), (1, u "java/lang/Object"), (0, u "<init>"), (0, u "()V"), (17, .class_ 26), (1, u "jdk/internal/util/Preconditions"), (28, .class_ 56), (0, u "jdk/internal/util/Preconditions$4"), (57, .class_ 115), (0, u "jdk/internal/util/Preconditions$1"), (7, u "SIOOBE_FORMATTER"), (0, u "Ljava/util/function/BiFunction;"), (0, .class_ 126), (0, u "jdk/internal/util/Preconditions$2"), (3, u "AIOOBE_FORMATTER"), (0, .class_ 132), (0, u "jdk/internal/util/Preconditions$3"), (3, u "IOOBE_FORMATTER")] 57

def k13m0 : Method := { name := "<init>", desc := "()V", sig := { parameters := [], returnType := none }, accessFlags := 1, code := none }
/-- jdk/internal/util/Preconditions -/
def k13 : Class := { plain "jdk/internal/util/Preconditions" (some 0) with
  accessFlags := 33
  interfaces := #[]
  cf := some (fileOf pool13 24 #[.nestMembers #[55, 131, 125, 114]] #[{ accessFlags := 1, nameIndex := 5, descriptorIndex := 6, attributes := #[] }] 33 2 #[] #[{ accessFlags := 25, nameIndex := 123, descriptorIndex := 124, attributes := #[] }, { accessFlags := 25, nameIndex := 130, descriptorIndex := 124, attributes := #[] }, { accessFlags := 25, nameIndex := 136, descriptorIndex := 124, attributes := #[] }])
  fields := #[{ name := "SIOOBE_FORMATTER", type := (.object "java/util/function/BiFunction"), accessFlags := 25, slot := 0, constantValue := 0 }, { name := "AIOOBE_FORMATTER", type := (.object "java/util/function/BiFunction"), accessFlags := 25, slot := 1, constantValue := 0 }, { name := "IOOBE_FORMATTER", type := (.object "java/util/function/BiFunction"), accessFlags := 25, slot := 2, constantValue := 0 }]
  methods := #[k13m0]
  instanceTypes := #[]
  staticTypes := #[(.object "java/util/function/BiFunction"), (.object "java/util/function/BiFunction"), (.object "java/util/function/BiFunction")]
  resolved := Array.replicate 194 none
  statics := some 2 }

def pool14 : Array CpInfo := pool [(9, u "<init>"), (6, .class_ 18), (1, u "java/lang/Object"), (0, u "()V"), (1, .class_ 23), (1, u "jdk/internal/util/ArraysSupport"), (0, u "LOG2_ARRAY_LONG_INDEX_SCALE"), (0, u "I"), (2, u "U"), (0, u "Ljdk/internal/misc/Unsafe;"), (8, u "BIG_ENDIAN"), (0, u "Z"), (8, u "LOG2_BYTE_BIT_SIZE"), (4, u "LOG2_ARRAY_INT_INDEX_SCALE"), (54, u "JLA"), (0, u "Ljdk/internal/access/JavaLangAccess;"), (11, u "LOG2_ARRAY_BOOLEAN_INDEX_SCALE"), (9, u "LOG2_ARRAY_BYTE_INDEX_SCALE"), (5, u "LOG2_ARRAY_CHAR_INDEX_SCALE"), (5, u "LOG2_ARRAY_SHORT_INDEX_SCALE"), (18, u "LOG2_ARRAY_FLOAT_INDEX_SCALE"), (24, u "LOG2_ARRAY_DOUBLE_INDEX_SCALE"), (89, u "T_BOOLEAN"), (2, u "T_CHAR"), (1, u "T_FLOAT"), (1, u "T_DOUBLE"), (1, u "T_BYTE"), (1, u "T_SHORT"), (1, u "T_INT"), (1, u "T_LONG"), (1, u "SOFT_MAX_ARRAY_LENGTH")] 83

def k14m0 : Method := { name := "<init>", desc := "()V", sig := { parameters := [], returnType := none }, accessFlags := 2, code := none }
/-- jdk/internal/util/ArraysSupport -/
def k14 : Class := { plain "jdk/internal/util/ArraysSupport" (some 0) with
  accessFlags := 33
  interfaces := #[]
  cf := some (fileOf pool14 21 #[] #[{ accessFlags := 2, nameIndex := 9, descriptorIndex := 19, attributes := #[] }] 33 16 #[] #[{ accessFlags := 24, nameIndex := 28, descriptorIndex := 29, attributes := #[] }, { accessFlags := 26, nameIndex := 38, descriptorIndex := 39, attributes := #[] }, { accessFlags := 25, nameIndex := 121, descriptorIndex := 25, attributes := #[] }, { accessFlags := 25, nameIndex := 131, descriptorIndex := 25, attributes := #[] }, { accessFlags := 25, nameIndex := 137, descriptorIndex := 25, attributes := #[] }, { accessFlags := 25, nameIndex := 143, descriptorIndex := 25, attributes := #[] }, { accessFlags := 25, nameIndex := 53, descriptorIndex := 25, attributes := #[] }, { accessFlags := 25, nameIndex := 24, descriptorIndex := 25, attributes := #[] }, { accessFlags := 25, nameIndex := 162, descriptorIndex := 25, attributes := #[] }, { accessFlags := 25, nameIndex := 187, descriptorIndex := 25, attributes := #[] }, { accessFlags := 26, nameIndex := 48, descriptorIndex := 25, attributes := #[] }, { accessFlags := 25, nameIndex := 277, descriptorIndex := 25, attributes := #[] }, { accessFlags := 25, nameIndex := 280, descriptorIndex := 25, attributes := #[] }, { accessFlags := 25, nameIndex := 282, descriptorIndex := 25, attributes := #[] }, { accessFlags := 25, nameIndex := 284, descriptorIndex := 25, attributes := #[] }, { accessFlags := 25, nameIndex := 286, descriptorIndex := 25, attributes := #[] }, { accessFlags := 25, nameIndex := 288, descriptorIndex := 25, attributes := #[] }, { accessFlags := 25, nameIndex := 290, descriptorIndex := 25, attributes := #[] }, { accessFlags := 25, nameIndex := 292, descriptorIndex := 25, attributes := #[] }, { accessFlags := 26, nameIndex := 108, descriptorIndex := 109, attributes := #[] }, { accessFlags := 25, nameIndex := 294, descriptorIndex := 25, attributes := #[] }])
  fields := #[{ name := "U", type := (.object "jdk/internal/misc/Unsafe"), accessFlags := 24, slot := 0, constantValue := 0 }, { name := "BIG_ENDIAN", type := .boolean, accessFlags := 26, slot := 1, constantValue := 0 }, { name := "LOG2_ARRAY_BOOLEAN_INDEX_SCALE", type := .int, accessFlags := 25, slot := 2, constantValue := 0 }, { name := "LOG2_ARRAY_BYTE_INDEX_SCALE", type := .int, accessFlags := 25, slot := 3, constantValue := 0 }, { name := "LOG2_ARRAY_CHAR_INDEX_SCALE", type := .int, accessFlags := 25, slot := 4, constantValue := 0 }, { name := "LOG2_ARRAY_SHORT_INDEX_SCALE", type := .int, accessFlags := 25, slot := 5, constantValue := 0 }, { name := "LOG2_ARRAY_INT_INDEX_SCALE", type := .int, accessFlags := 25, slot := 6, constantValue := 0 }, { name := "LOG2_ARRAY_LONG_INDEX_SCALE", type := .int, accessFlags := 25, slot := 7, constantValue := 0 }, { name := "LOG2_ARRAY_FLOAT_INDEX_SCALE", type := .int, accessFlags := 25, slot := 8, constantValue := 0 }, { name := "LOG2_ARRAY_DOUBLE_INDEX_SCALE", type := .int, accessFlags := 25, slot := 9, constantValue := 0 }, { name := "LOG2_BYTE_BIT_SIZE", type := .int, accessFlags := 26, slot := 10, constantValue := 0 }, { name := "T_BOOLEAN", type := .int, accessFlags := 25, slot := 11, constantValue := 0 }, { name := "T_CHAR", type := .int, accessFlags := 25, slot := 12, constantValue := 0 }, { name := "T_FLOAT", type := .int, accessFlags := 25, slot := 13, constantValue := 0 }, { name := "T_DOUBLE", type := .int, accessFlags := 25, slot := 14, constantValue := 0 }, { name := "T_BYTE", type := .int, accessFlags := 25, slot := 15, constantValue := 0 }, { name := "T_SHORT", type := .int, accessFlags := 25, slot := 16, constantValue := 0 }, { name := "T_INT", type := .int, accessFlags := 25, slot := 17, constantValue := 0 }, { name := "T_LONG", type := .int, accessFlags := 25, slot := 18, constantValue := 0 }, { name := "JLA", type := (.object "jdk/internal/access/JavaLangAccess"), accessFlags := 26, slot := 19, constantValue := 0 }, { name := "SOFT_MAX_ARRAY_LENGTH", type := .int, accessFlags := 25, slot := 20, constantValue := 0 }]
  methods := #[k14m0]
  instanceTypes := #[]
  staticTypes := #[(.object "jdk/internal/misc/Unsafe"), .boolean, .int, .int, .int, .int, .int, .int, .int, .int, .int, .int, .int, .int, .int, .int, .int, .int, .int, (.object "jdk/internal/access/JavaLangAccess"), .int]
  resolved := Array.replicate 378 none
  statics := none }

/-- the primitive byte -/
def k15 : Class := { plain "byte" none with kind := .primitive 'B', accessFlags := 0x411 }
/-- [B -/
def k16 : Class := { plain "[B" (some 0) with kind := .array 15 .byte, interfaces := #[10, 2], accessFlags := 1041 }

/-- the primitive char -/
def k17 : Class := { plain "char" none with kind := .primitive 'C', accessFlags := 0x411 }
/-- [C -/
def k18 : Class := { plain "[C" (some 0) with kind := .array 17 .char, interfaces := #[10, 2], accessFlags := 1041 }

/-- the primitive int -/
def k19 : Class := { plain "int" none with kind := .primitive 'I', accessFlags := 0x411 }
/-- [I -/
def k20 : Class := { plain "[I" (some 0) with kind := .array 19 .int, interfaces := #[10, 2], accessFlags := 1041 }

/-- [Lcom/example/tideline/tideline/TokenType; -/
def k21 : Class := { plain "[Lcom/example/tideline/tideline/TokenType;" (some 0) with kind := .array 9 (.object "com/example/tideline/tideline/TokenType"), interfaces := #[10, 2], accessFlags := 1041 }

def heap : Heap := #[{ cls := 7, slots := #[.long 0, .int 1, .null, .int 0, .null, .int 0, .int 0], vm := .statics 7 },
  { cls := 9, slots := #[.ref 3, .ref 4, .ref 5], vm := .statics 9 },
  { cls := 13, slots := #[.null, .null, .null], vm := .statics 13 },
  { cls := 9, slots := #[.null, .int 0, .int 0, .ref 6, .null], vm := .none },
  { cls := 9, slots := #[.null, .int 1, .int 0, .ref 7, .null], vm := .none },
  { cls := 21, slots := #[.ref 3, .ref 4], vm := .none },
  { cls := 7, slots := #[.ref 8, .int 0, .int 0, .int 0], vm := .none },
  { cls := 7, slots := #[.ref 9, .int 0, .int 0, .int 0], vm := .none },
  { cls := 16, slots := #[.int 97, .int 99, .int 99, .int 101, .int 115, .int 115], vm := .none },
  { cls := 16, slots := #[.int 114, .int 101, .int 102, .int 114, .int 101, .int 115, .int 104], vm := .none }]
def classes : Array Class := #[k0, k1, k2, k3, k4, k5, k6, k7, k8, k9, k10, k11, k12, k13, k14, k15, k16, k17, k18, k19, k20, k21]
def interned : List (Array UInt16 × Addr) := []
def slotsUsed : Nat := 46
def theMethod : MethodId := ⟨1, 3⟩
def args0 : Array Value := #[.int 24, .int 6, .int 7, .int 8]
def aboutOver (below : List Frame) : State where
  vm := { classes := classes, interned := interned.toArray }
  heap := heap
  slotsUsed := slotsUsed
  threads := #[{ frames := .invoking theMethod args0 :: below }]
def below0 : List Frame := [.native { method := ⟨0, 0⟩, args := #[] }]
def about1 : State := aboutOver below0
def p0 : Program := .bare "" "" ""
def e0 : Env := launch0.env 0 0 0
theorem w_frames : about1.frames = Frame.invoking theMethod args0 :: below0 := rfl
set_option maxRecDepth 65536 in
theorem w_args : argsFit about1.vm theMethod args0 = true := by decide +kernel
set_option maxRecDepth 65536 in
theorem w_heap : heapFits about1 = true := by decide +kernel
set_option maxRecDepth 65536 in
theorem w_runnable : about1.curStatus? = some .runnable := by decide +kernel
set_option maxRecDepth 65536 in
theorem w_alone : about1.alone = true := by decide +kernel
set_option maxRecDepth 65536 in
theorem w_named : about1.methodNamed? x = some theMethod := by decide +kernel
set_option maxRecDepth 65536 in
theorem w_hears : about1.hears theMethod below0 = true := by decide +kernel
set_option maxRecDepth 65536 in
theorem w_ripe : about1.ripe theMethod args0 below0 = true := by decide +kernel
theorem w_running : about1.status = .running := rfl
set_option maxRecDepth 65536 in
theorem w_room : about1.hasRoom e0.platform room_1 = true :=
  launch0.hasRoom_least _ room_1 (by decide +kernel) (by decide +kernel) (by decide +kernel) (by decide +kernel) (by decide +kernel) (by decide +kernel)
theorem allAtoms_all (ts : List Jvm.Cond) (a : Array Jvm.Value) (st : Jvm.State) : (allAtoms ts).before a st = ts.all (fun c => c.before a st) := by
  induction ts with
  | nil => rfl
  | cons c t ih =>
    show (Jvm.Cond.and c (allAtoms t)).before a st = _
    rw [Jvm.Cond.before_and, ih, List.all_cons]
def words1 : List Jvm.Cond := Jvm.Cond.code x code maxLocals ret :: tables_1
/-- a 'code' word, met by the world's own term for the bytes: nothing is compared byte by byte -/
theorem code_word {y : MethodName} {bytes : ByteArray} {mx : Nat} {rt : Option FieldType} {a : Array Value} {s : State} {m : MethodId} {meth : Method} {c : Code} (h1 : s.methodNamed? y = some m) (h2 : s.vm.method? m = some meth) (h3 : meth.code = some c) (h4 : c.code = bytes)
    (h5 : (c.maxLocals == mx && c.exceptionTable.isEmpty && decide (c.maxStack ≤ mostOperands) && decide (meth.sig.returnType = rt) && !meth.locks && decide (parseMethodDescriptor y.desc = some meth.sig)) = true) : (Jvm.Cond.code y bytes mx rt).before a s = true := by
  simp only [Bool.and_eq_true, beq_iff_eq, Bool.not_eq_true', decide_eq_true_eq] at h5
  obtain ⟨⟨⟨⟨⟨g1, g2⟩, g3⟩, g4⟩, g5⟩, g6⟩ := h5
  simp [Cond.before, Cond.holds, Cond.value, h1, h2, h3, h4, g1, g2, g3, g4, g5, g6]
def isCode : Jvm.Cond → Bool
  | .code _ _ _ _ => true
  | _ => false
theorem all_split {L : List Jvm.Cond} {P : Jvm.Cond → Bool} (h1 : L.all (fun c => isCode c || P c) = true) (h2 : ∀ c ∈ L.filter isCode, P c = true) : L.all P = true := by
  refine List.all_eq_true.mpr fun c hc => ?_
  have h := List.all_eq_true.mp h1 c hc
  rcases Bool.eq_false_or_eq_true (isCode c) with hi | hi
  · exact h2 c (List.mem_filter.mpr ⟨hc, hi⟩)
  · simpa [hi] using h
set_option maxRecDepth 65536 in
theorem w_c0 : (Jvm.Cond.code x code maxLocals ret).before args0 about1 = true := code_word (m := ⟨1, 3⟩) (meth := k1m3) (c := k1c3) (by decide +kernel) rfl rfl rfl (by decide +kernel)
set_option maxRecDepth 65536 in
theorem w_c1 : (Jvm.Cond.code ({ cls := "com/example/tideline/tideline/TokenTypeOfPinLaw", name := "make", desc := "([CI)Ljava/lang/String;" } : Jvm.MethodName) method_2_code (2 : Nat) (Option.some (Jvm.ClassFile.FieldType.object "java/lang/String"))).before args0 about1 = true := code_word (m := ⟨1, 1⟩) (meth := k1m1) (c := k1c1) (by decide +kernel) rfl rfl rfl (by decide +kernel)
set_option maxRecDepth 65536 in
theorem w_c2 : (Jvm.Cond.code ({ cls := "java/lang/String", name := "<init>", desc := "([C)V" } : Jvm.MethodName) jdk_42_method_3_code (2 : Nat) (Option.none : Option Jvm.ClassFile.FieldType)).before args0 about1 = true := code_word (m := ⟨7, 1⟩) (meth := k7m1) (c := k7c1) (by decide +kernel) rfl rfl rfl (by decide +kernel)
set_option maxRecDepth 65536 in
theorem w_c3 : (Jvm.Cond.code ({ cls := "java/lang/String", name := "<init>", desc := "([CIILjava/lang/Void;)V" } : Jvm.MethodName) jdk_42_method_149_code (6 : Nat) (Option.none : Option Jvm.ClassFile.FieldType)).before args0 about1 = true := code_word (m := ⟨7, 3⟩) (meth := k7m3) (c := k7c3) (by decide +kernel) rfl rfl rfl (by decide +kernel)
set_option maxRecDepth 65536 in
theorem w_c4 : (Jvm.Cond.code ({ cls := "java/lang/Object", name := "<init>", desc := "()V" } : Jvm.MethodName) object_method_1_code (1 : Nat) (Option.none : Option Jvm.ClassFile.FieldType)).before args0 about1 = true := code_word (m := ⟨0, 0⟩) (meth := k0m0) (c := k0c0) (by decide +kernel) rfl rfl rfl (by decide +kernel)
set_option maxRecDepth 65536 in
theorem w_c5 : (Jvm.Cond.code ({ cls := "com/example/tideline/tideline/TokenType", name := "of", desc := "(Ljava/lang/String;)Lcom/example/tideline/tideline/TokenType;" } : Jvm.MethodName) prog_12_method_6_code (5 : Nat) (Option.some (Jvm.ClassFile.FieldType.object "com/example/tideline/tideline/TokenType"))).before args0 about1 = true := code_word (m := ⟨9, 1⟩) (meth := k9m1) (c := k9c1) (by decide +kernel) rfl rfl rfl (by decide +kernel)
set_option maxRecDepth 65536 in
theorem w_c6 : (Jvm.Cond.code ({ cls := "com/example/tideline/tideline/TokenType", name := "values", desc := "()[Lcom/example/tideline/tideline/TokenType;" } : Jvm.MethodName) prog_12_method_1_code (0 : Nat) (Option.some (Jvm.ClassFile.FieldType.array (Jvm.ClassFile.FieldType.object "com/example/tideline/tideline/TokenType")))).before args0 about1 = true := code_word (m := ⟨9, 0⟩) (meth := k9m0) (c := k9c0) (by decide +kernel) rfl rfl rfl (by decide +kernel)
set_option maxRecDepth 65536 in
theorem w_c7 : (Jvm.Cond.code ({ cls := "java/lang/String", name := "equals", desc := "(Ljava/lang/Object;)Z" } : Jvm.MethodName) jdk_42_method_66_code (3 : Nat) (Option.some Jvm.ClassFile.FieldType.boolean)).before args0 about1 = true := code_word (m := ⟨7, 2⟩) (meth := k7m2) (c := k7c2) (by decide +kernel) rfl rfl rfl (by decide +kernel)
set_option maxRecDepth 65536 in
theorem w_c8 : (Jvm.Cond.code ({ cls := "java/lang/StringLatin1", name := "equals", desc := "([B[B)Z" } : Jvm.MethodName) jdk_43_method_13_code (3 : Nat) (Option.some Jvm.ClassFile.FieldType.boolean)).before args0 about1 = true := code_word (m := ⟨11, 1⟩) (meth := k11m1) (c := k11c1) (by decide +kernel) rfl rfl rfl (by decide +kernel)
set_option maxRecDepth 65536 in
theorem w_c9 : (Jvm.Cond.code ({ cls := "com/example/tideline/tideline/TokenTypeOfPinLaw", name := "expected", desc := "(Ljava/lang/String;)Lcom/example/tideline/tideline/TokenType;" } : Jvm.MethodName) method_3_code (1 : Nat) (Option.some (Jvm.ClassFile.FieldType.object "com/example/tideline/tideline/TokenType"))).before args0 about1 = true := code_word (m := ⟨1, 2⟩) (meth := k1m2) (c := k1c2) (by decide +kernel) rfl rfl rfl (by decide +kernel)
set_option maxRecDepth 65536 in
theorem w_c10 : (Jvm.Cond.code ({ cls := "java/lang/StringUTF16", name := "compress", desc := "([CII)[B" } : Jvm.MethodName) jdk_52_method_16_code (6 : Nat) (Option.some (Jvm.ClassFile.FieldType.array Jvm.ClassFile.FieldType.byte))).before args0 about1 = true := code_word (m := ⟨12, 2⟩) (meth := k12m2) (c := k12c2) (by decide +kernel) rfl rfl rfl (by decide +kernel)
set_option maxRecDepth 65536 in
theorem w_c11 : (Jvm.Cond.code ({ cls := "java/lang/StringUTF16", name := "compress", desc := "([CI[BII)I" } : Jvm.MethodName) jdk_52_method_21_code (7 : Nat) (Option.some Jvm.ClassFile.FieldType.int)).before args0 about1 = true := code_word (m := ⟨12, 3⟩) (meth := k12m3) (c := k12c3) (by decide +kernel) rfl rfl rfl (by decide +kernel)
set_option maxRecDepth 65536 in
theorem w_c12 : (Jvm.Cond.code ({ cls := "java/lang/StringUTF16", name := "coderFromArrayLen", desc := "([BI)B" } : Jvm.MethodName) jdk_52_method_15_code (2 : Nat) (Option.some Jvm.ClassFile.FieldType.byte)).before args0 about1 = true := code_word (m := ⟨12, 1⟩) (meth := k12m1) (c := k12c1) (by decide +kernel) rfl rfl rfl (by decide +kernel)
def codes1 : List Jvm.Cond := [Jvm.Cond.code x code maxLocals ret, Jvm.Cond.code ({ cls := "com/example/tideline/tideline/TokenTypeOfPinLaw", name := "make", desc := "([CI)Ljava/lang/String;" } : Jvm.MethodName) method_2_code (2 : Nat) (Option.some (Jvm.ClassFile.FieldType.object "java/lang/String")), Jvm.Cond.code ({ cls := "java/lang/String", name := "<init>", desc := "([C)V" } : Jvm.MethodName) jdk_42_method_3_code (2 : Nat) (Option.none : Option Jvm.ClassFile.FieldType), Jvm.Cond.code ({ cls := "java/lang/String", name := "<init>", desc := "([CIILjava/lang/Void;)V" } : Jvm.MethodName) jdk_42_method_149_code (6 : Nat) (Option.none : Option Jvm.ClassFile.FieldType), Jvm.Cond.code ({ cls := "java/lang/Object", name := "<init>", desc := "()V" } : Jvm.MethodName) object_method_1_code (1 : Nat) (Option.none : Option Jvm.ClassFile.FieldType), Jvm.Cond.code ({ cls := "com/example/tideline/tideline/TokenType", name := "of", desc := "(Ljava/lang/String;)Lcom/example/tideline/tideline/TokenType;" } : Jvm.MethodName) prog_12_method_6_code (5 : Nat) (Option.some (Jvm.ClassFile.FieldType.object "com/example/tideline/tideline/TokenType")), Jvm.Cond.code ({ cls := "com/example/tideline/tideline/TokenType", name := "values", desc := "()[Lcom/example/tideline/tideline/TokenType;" } : Jvm.MethodName) prog_12_method_1_code (0 : Nat) (Option.some (Jvm.ClassFile.FieldType.array (Jvm.ClassFile.FieldType.object "com/example/tideline/tideline/TokenType"))), Jvm.Cond.code ({ cls := "java/lang/String", name := "equals", desc := "(Ljava/lang/Object;)Z" } : Jvm.MethodName) jdk_42_method_66_code (3 : Nat) (Option.some Jvm.ClassFile.FieldType.boolean), Jvm.Cond.code ({ cls := "java/lang/StringLatin1", name := "equals", desc := "([B[B)Z" } : Jvm.MethodName) jdk_43_method_13_code (3 : Nat) (Option.some Jvm.ClassFile.FieldType.boolean), Jvm.Cond.code ({ cls := "com/example/tideline/tideline/TokenTypeOfPinLaw", name := "expected", desc := "(Ljava/lang/String;)Lcom/example/tideline/tideline/TokenType;" } : Jvm.MethodName) method_3_code (1 : Nat) (Option.some (Jvm.ClassFile.FieldType.object "com/example/tideline/tideline/TokenType")), Jvm.Cond.code ({ cls := "java/lang/StringUTF16", name := "compress", desc := "([CII)[B" } : Jvm.MethodName) jdk_52_method_16_code (6 : Nat) (Option.some (Jvm.ClassFile.FieldType.array Jvm.ClassFile.FieldType.byte)), Jvm.Cond.code ({ cls := "java/lang/StringUTF16", name := "compress", desc := "([CI[BII)I" } : Jvm.MethodName) jdk_52_method_21_code (7 : Nat) (Option.some Jvm.ClassFile.FieldType.int), Jvm.Cond.code ({ cls := "java/lang/StringUTF16", name := "coderFromArrayLen", desc := "([BI)B" } : Jvm.MethodName) jdk_52_method_15_code (2 : Nat) (Option.some Jvm.ClassFile.FieldType.byte)]
set_option maxRecDepth 65536 in
theorem codes_eq : words1.filter isCode = codes1 := rfl
theorem w_codes : ∀ c ∈ words1.filter isCode, c.before args0 about1 = true := by
  rw [codes_eq]
  intro c hc
  simp only [codes1, List.mem_cons, List.not_mem_nil, or_false] at hc
  rcases hc with rfl | rfl | rfl | rfl | rfl | rfl | rfl | rfl | rfl | rfl | rfl | rfl | rfl
  · exact w_c0
  · exact w_c1
  · exact w_c2
  · exact w_c3
  · exact w_c4
  · exact w_c5
  · exact w_c6
  · exact w_c7
  · exact w_c8
  · exact w_c9
  · exact w_c10
  · exact w_c11
  · exact w_c12
set_option maxRecDepth 65536 in
theorem w_t1 : (words1.take 24).all (fun c => isCode c || c.before args0 about1) = true := by decide +kernel
set_option maxRecDepth 65536 in
theorem w_t2 : ((words1.drop 24).take 24).all (fun c => isCode c || c.before args0 about1) = true := by decide +kernel
set_option maxRecDepth 65536 in
theorem w_t3 : (((words1.drop 24).drop 24).take 24).all (fun c => isCode c || c.before args0 about1) = true := by decide +kernel
set_option maxRecDepth 65536 in
theorem w_t4 : (((words1.drop 24).drop 24).drop 24).all (fun c => isCode c || c.before args0 about1) = true := by decide +kernel
theorem w_tables : (allAtoms (Jvm.Cond.code x code maxLocals ret :: tables_1)).before args0 about1 = true := by
  rw [allAtoms_all]
  show words1.all (fun c => c.before args0 about1) = true
  refine all_split ?_ w_codes
  rw [← List.take_append_drop 24 words1, List.all_append, w_t1, ← List.take_append_drop 24 (words1.drop 24), List.all_append, w_t2, ← List.take_append_drop 24 ((words1.drop 24).drop 24), List.all_append, w_t3, w_t4]
  rfl
set_option maxRecDepth 65536 in
theorem w_rest : rest_1_c.before args0 about1 = true := by decide +kernel
set_option maxRecDepth 65536 in
theorem w_case : (Jvm.Cond.and given_1 narrow_1).before args0 about1 = true := by decide +kernel
set_option maxRecDepth 65536 in
theorem w_consts : constsHeld consts_1 about1 := Jvm.Lit.constsHeldB_iff.mp (by decide +kernel)
theorem w_applies : (headSpec (Jvm.Cond.code x code maxLocals ret :: tables_1) room_1).applies x e0.platform about1 = true :=
  (Spec.applies_iff w_frames).mpr ⟨w_running, w_runnable, w_alone, w_named, w_hears, w_ripe, w_room, w_tables⟩
theorem atStart : AtStart classFile x code maxLocals ret World_1 tables_1 room_1 Calls_1 rest_1 Pre_1 launch0 p0 e0 about1 theMethod args0 below0 :=
  ⟨lists_1, trivial, launch0.admits_env _ _ _, launch0.least_env, fairChoices_fair.cas, fairChoices_fair.clock, w_frames, w_args, w_heap, w_applies, ⟨w_consts, trivial⟩, w_rest, w_case⟩
end start1
theorem witness_1 : WitnessClaimed_1 := ⟨start1.p0, start1.e0, start1.about1, start1.theMethod, start1.args0, start1.below0, start1.atStart⟩
end Jvm.Pilot.@@N@@
